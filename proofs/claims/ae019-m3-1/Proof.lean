import JvmDerived
import JvmDerived.Pilot.@@N@@Statement
import JvmDerived.Pilot.@@N@@Code
set_option linter.unusedVariables false
set_option linter.unusedSimpArgs false
namespace Jvm.RoadKit
open Sem ClassFile Op Lib Jvm.Stand Jvm.Free Jvm.LawKit
section New
variable {p : Program} {l : Launch} {e : Env} {R : Room} {s : State} {m : MethodId} {args : Array Value} {below : List Frame} {meth : Method} {c : Code} {T : State} {locs : List Loc} {cells slots : Nat}
theorem retI (X : Stand p l e R s m args below meth c T locs cells slots) (hx : p.tables.exec = Jvm.exec) {pc : Nat} {Ls : Array Slot} {z : Int32} {rest : List Value} (hret : meth.sig.returnType = some .int) (hd : decode c.code pc = .ok (.ireturn, 1)) {fs : List Frame}
    (hl : ∀ (f : JFrame) (acts : List Action), f.method = m → f.locked = none → f.entered = [] → (doReturn e (T.setTop f) acts (some (.int z))).1 = T.setFrames fs) : Steps p.tables e below (T.setTop (mkF m pc Ls (.int z :: rest))) (T.setFrames fs) := by
  have hm' : T.vm.method? m = some meth := X.method'
  have hn : narrow .int (.int z) = .int z := rfl
  show Steps p.tables e below (T.setTop { method := m, pc := pc, locals := Ls, stack := _ :: rest, locked := none }) _
  jvm_step X.here [X.here.top, hx, hd, hm', hret, hn]
  first | (intro acts; rw [hl _ acts rfl rfl rfl]) | rw [hl _ _ rfl rfl rfl]
  exact Steps.refl _
end New
end Jvm.RoadKit
namespace Jvm.Pilot.@@N@@
open Jvm Jvm.ClassFile Sem Op Lib Jvm.Free Jvm.Stand Jvm.LawKit Jvm.RoadKit Bundle Jvm.Pilot.@@N@@.Jvm.D
theorem own_more {p : Program} {l : Launch} {e : Env} {R : Room} {s : State} {m : MethodId} {args : Array Value} {below : List Frame} {meth : Method} {c : Code} {T : State} {locs : List Loc} {k n k' n' : Nat} (X : Stand p l e R s m args below meth c T locs k n) (hk : k ≤ k') (hn : n ≤ n') : Stand p l e R s m args below meth c T locs k' n' := { X with same := X.same.mono hk hn }
theorem own_nar {t : FieldType} {v : Value} (h : v.isRef = true) (ht : t.isReference = true := by rfl) : narrow t v = v := by
  rcases ref_cases h with rfl | ⟨a, rfl⟩ <;> cases t <;> first | rfl | (cases ht; done)
theorem own_fit {t : FieldType} {v : Value} (h : v.isRef = true) (ht : t.isReference = true := by rfl) : fits t v = true := by
  rcases ref_cases h with rfl | ⟨a, rfl⟩ <;> cases t <;> first | rfl | (cases ht; done)
theorem own_ifc {P Q : Prop} [Decidable P] [Decidable Q] {α : Type} {a b c d : α} (h : P ↔ Q) (h1 : a = c) (h2 : b = d) : (if P then a else b) = (if Q then c else d) := by
  subst h1 h2; by_cases q : Q
  · rw [if_pos q, if_pos (h.mpr q)]
  · rw [if_neg q, if_neg (fun p => q (h.mp p))]
theorem own_cat {v : Value} (h : v.isRef = true) : v.category = 1 := by rcases ref_cases h with rfl | ⟨a, rfl⟩ <;> rfl
abbrev lv (x : Int64) : Slot := .val (.long x)
abbrev sd : Slot := .second
abbrev un : Slot := .unset
abbrev Rch (p : Program) (e : Env) (below : List Frame) (A B : State) : Prop := ∀ t, Steps p.tables e below B t → Steps p.tables e below A t

theorem own_m3 {x : Int32} (y : Int32) (h : x = (y &&& (3 : Int32))) : ¬ x < 0 ∧ x.toNatClampNeg ≤ 3 := by
  have m := c_mask y 3 2 (by decide) (by decide)
  subst h
  refine ⟨?_, ?_⟩
  · rw [Int32.lt_iff_toInt_lt]; show ¬ _ < (0 : Int); omega
  · simp only [Int32.toNatClampNeg]; omega

theorem d3_0 : decode jdk_22_method_1_code 0 = .ok (.aload_n 0, 1) := by decide +kernel
theorem d3_1 : decode jdk_22_method_1_code 1 = .ok (.invokespecial 1, 3) := by decide +kernel
theorem d3_4 : decode jdk_22_method_1_code 4 = .ok (.return_, 1) := by decide +kernel
theorem pn_0 : plainName "java/util/AbstractCollection" = true := by first | (simp [plainName, overriddenIn]; done) | decide +kernel
theorem d7_0 : decode jdk_91_method_1_code 0 = .ok (.aload_n 0, 1) := by decide +kernel
theorem d7_1 : decode jdk_91_method_1_code 1 = .ok (.invokespecial 1, 3) := by decide +kernel
theorem d7_4 : decode jdk_91_method_1_code 4 = .ok (.return_, 1) := by decide +kernel
theorem pn_1 : plainName "java/util/AbstractSet" = true := by first | (simp [plainName, overriddenIn]; done) | decide +kernel
theorem d9_0 : decode jdk_71_method_1_code 0 = .ok (.aload_n 0, 1) := by decide +kernel
theorem d9_1 : decode jdk_71_method_1_code 1 = .ok (.invokespecial 1, 3) := by decide +kernel
theorem d9_4 : decode jdk_71_method_1_code 4 = .ok (.return_, 1) := by decide +kernel
theorem pn_2 : plainName "java/util/AbstractMap" = true := by first | (simp [plainName, overriddenIn]; done) | decide +kernel
theorem d2_0 : decode jdk_39_method_1_code 0 = .ok (.aload_n 0, 1) := by decide +kernel
theorem d2_1 : decode jdk_39_method_1_code 1 = .ok (.invokespecial 1, 3) := by decide +kernel
theorem d2_4 : decode jdk_39_method_1_code 4 = .ok (.aload_n 0, 1) := by decide +kernel
theorem d2_5 : decode jdk_39_method_1_code 5 = .ok (.iconst 0, 1) := by decide +kernel
theorem d2_6 : decode jdk_39_method_1_code 6 = .ok (.putfield 7, 3) := by decide +kernel
theorem d2_9 : decode jdk_39_method_1_code 9 = .ok (.return_, 1) := by decide +kernel
theorem pn_3 : plainName "java/util/AbstractList" = true := by first | (simp [plainName, overriddenIn]; done) | decide +kernel
theorem d1_0 : decode jdk_38_method_2_code 0 = .ok (.aload_n 0, 1) := by decide +kernel
theorem d1_1 : decode jdk_38_method_2_code 1 = .ok (.invokespecial 1, 3) := by decide +kernel
theorem d1_4 : decode jdk_38_method_2_code 4 = .ok (.aload_n 0, 1) := by decide +kernel
theorem d1_5 : decode jdk_38_method_2_code 5 = .ok (.getstatic 39, 3) := by decide +kernel
theorem d1_8 : decode jdk_38_method_2_code 8 = .ok (.putfield 9, 3) := by decide +kernel
theorem d1_11 : decode jdk_38_method_2_code 11 = .ok (.return_, 1) := by decide +kernel
theorem pn_4 : plainName "java/util/ArrayList" = true := by first | (simp [plainName, overriddenIn]; done) | decide +kernel
theorem d8_0 : decode jdk_69_method_7_code 0 = .ok (.aload_n 0, 1) := by decide +kernel
theorem d8_1 : decode jdk_69_method_7_code 1 = .ok (.invokespecial 43, 3) := by decide +kernel
theorem d8_4 : decode jdk_69_method_7_code 4 = .ok (.aload_n 0, 1) := by decide +kernel
theorem d8_5 : decode jdk_69_method_7_code 5 = .ok (.ldc 92, 2) := by decide +kernel
theorem d8_7 : decode jdk_69_method_7_code 7 = .ok (.putfield 81, 3) := by decide +kernel
theorem d8_10 : decode jdk_69_method_7_code 10 = .ok (.return_, 1) := by decide +kernel
theorem pn_5 : plainName "java/util/HashMap" = true := by first | (simp [plainName, overriddenIn]; done) | decide +kernel
theorem d6_0 : decode jdk_93_method_1_code 0 = .ok (.aload_n 0, 1) := by decide +kernel
theorem d6_1 : decode jdk_93_method_1_code 1 = .ok (.invokespecial 1, 3) := by decide +kernel
theorem d6_4 : decode jdk_93_method_1_code 4 = .ok (.aload_n 0, 1) := by decide +kernel
theorem d6_5 : decode jdk_93_method_1_code 5 = .ok (.new 7, 3) := by decide +kernel
theorem d6_8 : decode jdk_93_method_1_code 8 = .ok (.dup, 1) := by decide +kernel
theorem d6_9 : decode jdk_93_method_1_code 9 = .ok (.invokespecial 9, 3) := by decide +kernel
theorem d6_12 : decode jdk_93_method_1_code 12 = .ok (.putfield 10, 3) := by decide +kernel
theorem d6_15 : decode jdk_93_method_1_code 15 = .ok (.return_, 1) := by decide +kernel
theorem pn_6 : plainName "java/util/HashSet" = true := by first | (simp [plainName, overriddenIn]; done) | decide +kernel
theorem d5_0 : decode prog_19_method_1_code 0 = .ok (.aload_n 0, 1) := by decide +kernel
theorem d5_1 : decode prog_19_method_1_code 1 = .ok (.invokespecial 1, 3) := by decide +kernel
theorem d5_4 : decode prog_19_method_1_code 4 = .ok (.aload_n 0, 1) := by decide +kernel
theorem d5_5 : decode prog_19_method_1_code 5 = .ok (.new 7, 3) := by decide +kernel
theorem d5_8 : decode prog_19_method_1_code 8 = .ok (.dup, 1) := by decide +kernel
theorem d5_9 : decode prog_19_method_1_code 9 = .ok (.invokespecial 9, 3) := by decide +kernel
theorem d5_12 : decode prog_19_method_1_code 12 = .ok (.putfield 10, 3) := by decide +kernel
theorem d5_15 : decode prog_19_method_1_code 15 = .ok (.aload_n 0, 1) := by decide +kernel
theorem d5_16 : decode prog_19_method_1_code 16 = .ok (.lload 5, 2) := by decide +kernel
theorem d5_18 : decode prog_19_method_1_code 18 = .ok (.putfield 16, 3) := by decide +kernel
theorem d5_21 : decode prog_19_method_1_code 21 = .ok (.aload_n 0, 1) := by decide +kernel
theorem d5_22 : decode prog_19_method_1_code 22 = .ok (.lload 7, 2) := by decide +kernel
theorem d5_24 : decode prog_19_method_1_code 24 = .ok (.putfield 20, 3) := by decide +kernel
theorem d5_27 : decode prog_19_method_1_code 27 = .ok (.aload_n 0, 1) := by decide +kernel
theorem d5_28 : decode prog_19_method_1_code 28 = .ok (.lload_n 3, 1) := by decide +kernel
theorem d5_29 : decode prog_19_method_1_code 29 = .ok (.putfield 23, 3) := by decide +kernel
theorem d5_32 : decode prog_19_method_1_code 32 = .ok (.aload_n 0, 1) := by decide +kernel
theorem d5_33 : decode prog_19_method_1_code 33 = .ok (.aload_n 1, 1) := by decide +kernel
theorem d5_34 : decode prog_19_method_1_code 34 = .ok (.putfield 26, 3) := by decide +kernel
theorem d5_37 : decode prog_19_method_1_code 37 = .ok (.aload_n 0, 1) := by decide +kernel
theorem d5_38 : decode prog_19_method_1_code 38 = .ok (.aload_n 2, 1) := by decide +kernel
theorem d5_39 : decode prog_19_method_1_code 39 = .ok (.putfield 30, 3) := by decide +kernel
theorem d5_42 : decode prog_19_method_1_code 42 = .ok (.aload_n 0, 1) := by decide +kernel
theorem d5_43 : decode prog_19_method_1_code 43 = .ok (.lload 5, 2) := by decide +kernel
theorem d5_45 : decode prog_19_method_1_code 45 = .ok (.putfield 34, 3) := by decide +kernel
theorem d5_48 : decode prog_19_method_1_code 48 = .ok (.aload_n 0, 1) := by decide +kernel
theorem d5_49 : decode prog_19_method_1_code 49 = .ok (.lload 7, 2) := by decide +kernel
theorem d5_51 : decode prog_19_method_1_code 51 = .ok (.putfield 37, 3) := by decide +kernel
theorem d5_54 : decode prog_19_method_1_code 54 = .ok (.aload_n 0, 1) := by decide +kernel
theorem d5_55 : decode prog_19_method_1_code 55 = .ok (.lload 5, 2) := by decide +kernel
theorem d5_57 : decode prog_19_method_1_code 57 = .ok (.putfield 40, 3) := by decide +kernel
theorem d5_60 : decode prog_19_method_1_code 60 = .ok (.return_, 1) := by decide +kernel
theorem pn_7 : plainName "com/example/usher/usher/core/Node" = true := by first | (simp [plainName, overriddenIn]; done) | decide +kernel
theorem d10_0 : decode prog_19_method_7_code 0 = .ok (.aload_n 0, 1) := by decide +kernel
theorem d10_1 : decode prog_19_method_7_code 1 = .ok (.aload_n 1, 1) := by decide +kernel
theorem d10_2 : decode prog_19_method_7_code 2 = .ok (.putfield 26, 3) := by decide +kernel
theorem d10_5 : decode prog_19_method_7_code 5 = .ok (.aload_n 0, 1) := by decide +kernel
theorem d10_6 : decode prog_19_method_7_code 6 = .ok (.lload_n 2, 1) := by decide +kernel
theorem d10_7 : decode prog_19_method_7_code 7 = .ok (.putfield 34, 3) := by decide +kernel
theorem d10_10 : decode prog_19_method_7_code 10 = .ok (.aload_n 0, 1) := by decide +kernel
theorem d10_11 : decode prog_19_method_7_code 11 = .ok (.lload 4, 2) := by decide +kernel
theorem d10_13 : decode prog_19_method_7_code 13 = .ok (.putfield 37, 3) := by decide +kernel
theorem d10_16 : decode prog_19_method_7_code 16 = .ok (.aload_n 0, 1) := by decide +kernel
theorem d10_17 : decode prog_19_method_7_code 17 = .ok (.dup, 1) := by decide +kernel
theorem d10_18 : decode prog_19_method_7_code 18 = .ok (.getfield 66, 3) := by decide +kernel
theorem d10_21 : decode prog_19_method_7_code 21 = .ok (.iconst 1, 1) := by decide +kernel
theorem d10_22 : decode prog_19_method_7_code 22 = .ok (.iadd, 1) := by decide +kernel
theorem d10_23 : decode prog_19_method_7_code 23 = .ok (.putfield 66, 3) := by decide +kernel
theorem d10_26 : decode prog_19_method_7_code 26 = .ok (.return_, 1) := by decide +kernel
theorem d13_0 : decode jdk_69_method_10_code 0 = .ok (.aload_n 0, 1) := by decide +kernel
theorem d13_1 : decode jdk_69_method_10_code 1 = .ok (.getfield 156, 3) := by decide +kernel
theorem d13_4 : decode jdk_69_method_10_code 4 = .ok (.ireturn, 1) := by decide +kernel
theorem d12_0 : decode jdk_93_method_7_code 0 = .ok (.aload_n 0, 1) := by decide +kernel
theorem d12_1 : decode jdk_93_method_7_code 1 = .ok (.getfield 10, 3) := by decide +kernel
theorem d12_4 : decode jdk_93_method_7_code 4 = .ok (.invokevirtual 55, 3) := by decide +kernel
theorem d12_7 : decode jdk_93_method_7_code 7 = .ok (.ireturn, 1) := by decide +kernel
theorem d14_0 : decode prog_60_method_1_code 0 = .ok (.aload_n 0, 1) := by decide +kernel
theorem d14_1 : decode prog_60_method_1_code 1 = .ok (.invokespecial 1, 3) := by decide +kernel
theorem d14_4 : decode prog_60_method_1_code 4 = .ok (.aload_n 0, 1) := by decide +kernel
theorem d14_5 : decode prog_60_method_1_code 5 = .ok (.lload_n 1, 1) := by decide +kernel
theorem d14_6 : decode prog_60_method_1_code 6 = .ok (.putfield 7, 3) := by decide +kernel
theorem d14_9 : decode prog_60_method_1_code 9 = .ok (.aload_n 0, 1) := by decide +kernel
theorem d14_10 : decode prog_60_method_1_code 10 = .ok (.lload_n 3, 1) := by decide +kernel
theorem d14_11 : decode prog_60_method_1_code 11 = .ok (.putfield 13, 3) := by decide +kernel
theorem d14_14 : decode prog_60_method_1_code 14 = .ok (.aload_n 0, 1) := by decide +kernel
theorem d14_15 : decode prog_60_method_1_code 15 = .ok (.lload 5, 2) := by decide +kernel
theorem d14_17 : decode prog_60_method_1_code 17 = .ok (.putfield 16, 3) := by decide +kernel
theorem d14_20 : decode prog_60_method_1_code 20 = .ok (.aload_n 0, 1) := by decide +kernel
theorem d14_21 : decode prog_60_method_1_code 21 = .ok (.lload 7, 2) := by decide +kernel
theorem d14_23 : decode prog_60_method_1_code 23 = .ok (.putfield 19, 3) := by decide +kernel
theorem d14_26 : decode prog_60_method_1_code 26 = .ok (.aload_n 0, 1) := by decide +kernel
theorem d14_27 : decode prog_60_method_1_code 27 = .ok (.iload 9, 2) := by decide +kernel
theorem d14_29 : decode prog_60_method_1_code 29 = .ok (.putfield 22, 3) := by decide +kernel
theorem d14_32 : decode prog_60_method_1_code 32 = .ok (.aload_n 0, 1) := by decide +kernel
theorem d14_33 : decode prog_60_method_1_code 33 = .ok (.iload 10, 2) := by decide +kernel
theorem d14_35 : decode prog_60_method_1_code 35 = .ok (.putfield 26, 3) := by decide +kernel
theorem d14_38 : decode prog_60_method_1_code 38 = .ok (.aload_n 0, 1) := by decide +kernel
theorem d14_39 : decode prog_60_method_1_code 39 = .ok (.iload 11, 2) := by decide +kernel
theorem d14_41 : decode prog_60_method_1_code 41 = .ok (.putfield 29, 3) := by decide +kernel
theorem d14_44 : decode prog_60_method_1_code 44 = .ok (.aload_n 0, 1) := by decide +kernel
theorem d14_45 : decode prog_60_method_1_code 45 = .ok (.lload 12, 2) := by decide +kernel
theorem d14_47 : decode prog_60_method_1_code 47 = .ok (.putfield 32, 3) := by decide +kernel
theorem d14_50 : decode prog_60_method_1_code 50 = .ok (.aload_n 0, 1) := by decide +kernel
theorem d14_51 : decode prog_60_method_1_code 51 = .ok (.iload 14, 2) := by decide +kernel
theorem d14_53 : decode prog_60_method_1_code 53 = .ok (.putfield 35, 3) := by decide +kernel
theorem d14_56 : decode prog_60_method_1_code 56 = .ok (.aload_n 0, 1) := by decide +kernel
theorem d14_57 : decode prog_60_method_1_code 57 = .ok (.iload 15, 2) := by decide +kernel
theorem d14_59 : decode prog_60_method_1_code 59 = .ok (.putfield 38, 3) := by decide +kernel
theorem d14_62 : decode prog_60_method_1_code 62 = .ok (.aload_n 0, 1) := by decide +kernel
theorem d14_63 : decode prog_60_method_1_code 63 = .ok (.lload 16, 2) := by decide +kernel
theorem d14_65 : decode prog_60_method_1_code 65 = .ok (.putfield 41, 3) := by decide +kernel
theorem d14_68 : decode prog_60_method_1_code 68 = .ok (.return_, 1) := by decide +kernel
theorem pn_8 : plainName "com/example/usher/usher/protocol/Stat" = true := by first | (simp [plainName, overriddenIn]; done) | decide +kernel
theorem d11_0 : decode prog_19_method_4_code 0 = .ok (.aload_n 0, 1) := by decide +kernel
theorem d11_1 : decode prog_19_method_4_code 1 = .ok (.getfield 26, 3) := by decide +kernel
theorem d11_4 : decode prog_19_method_4_code 4 = .ok (.ifnonnull 7, 3) := by decide +kernel
theorem d11_7 : decode prog_19_method_4_code 7 = .ok (.iconst 0, 1) := by decide +kernel
theorem d11_8 : decode prog_19_method_4_code 8 = .ok (.goto 8, 3) := by decide +kernel
theorem d11_16 : decode prog_19_method_4_code 16 = .ok (.istore_n 1, 1) := by decide +kernel
theorem d11_17 : decode prog_19_method_4_code 17 = .ok (.new 101, 3) := by decide +kernel
theorem d11_20 : decode prog_19_method_4_code 20 = .ok (.dup, 1) := by decide +kernel
theorem d11_21 : decode prog_19_method_4_code 21 = .ok (.aload_n 0, 1) := by decide +kernel
theorem d11_22 : decode prog_19_method_4_code 22 = .ok (.getfield 16, 3) := by decide +kernel
theorem d11_25 : decode prog_19_method_4_code 25 = .ok (.aload_n 0, 1) := by decide +kernel
theorem d11_26 : decode prog_19_method_4_code 26 = .ok (.getfield 34, 3) := by decide +kernel
theorem d11_29 : decode prog_19_method_4_code 29 = .ok (.aload_n 0, 1) := by decide +kernel
theorem d11_30 : decode prog_19_method_4_code 30 = .ok (.getfield 20, 3) := by decide +kernel
theorem d11_33 : decode prog_19_method_4_code 33 = .ok (.aload_n 0, 1) := by decide +kernel
theorem d11_34 : decode prog_19_method_4_code 34 = .ok (.getfield 37, 3) := by decide +kernel
theorem d11_37 : decode prog_19_method_4_code 37 = .ok (.aload_n 0, 1) := by decide +kernel
theorem d11_38 : decode prog_19_method_4_code 38 = .ok (.getfield 66, 3) := by decide +kernel
theorem d11_41 : decode prog_19_method_4_code 41 = .ok (.aload_n 0, 1) := by decide +kernel
theorem d11_42 : decode prog_19_method_4_code 42 = .ok (.getfield 70, 3) := by decide +kernel
theorem d11_45 : decode prog_19_method_4_code 45 = .ok (.aload_n 0, 1) := by decide +kernel
theorem d11_46 : decode prog_19_method_4_code 46 = .ok (.getfield 73, 3) := by decide +kernel
theorem d11_49 : decode prog_19_method_4_code 49 = .ok (.aload_n 0, 1) := by decide +kernel
theorem d11_50 : decode prog_19_method_4_code 50 = .ok (.getfield 23, 3) := by decide +kernel
theorem d11_53 : decode prog_19_method_4_code 53 = .ok (.iload_n 1, 1) := by decide +kernel
theorem d11_54 : decode prog_19_method_4_code 54 = .ok (.aload_n 0, 1) := by decide +kernel
theorem d11_55 : decode prog_19_method_4_code 55 = .ok (.getfield 10, 3) := by decide +kernel
theorem d11_58 : decode prog_19_method_4_code 58 = .ok (.invokeinterface 103 1, 5) := by decide +kernel
theorem d11_63 : decode prog_19_method_4_code 63 = .ok (.aload_n 0, 1) := by decide +kernel
theorem d11_64 : decode prog_19_method_4_code 64 = .ok (.getfield 40, 3) := by decide +kernel
theorem d11_67 : decode prog_19_method_4_code 67 = .ok (.invokespecial 108, 3) := by decide +kernel
theorem d11_70 : decode prog_19_method_4_code 70 = .ok (.areturn, 1) := by decide +kernel
theorem d11_11 : decode prog_19_method_4_code 11 = .ok (.aload_n 0, 1) := by decide +kernel
theorem d11_12 : decode prog_19_method_4_code 12 = .ok (.getfield 26, 3) := by decide +kernel
theorem d11_15 : decode prog_19_method_4_code 15 = .ok (.arraylength, 1) := by decide +kernel
theorem d15_0 : decode prog_19_method_6_code 0 = .ok (.aload_n 0, 1) := by decide +kernel
theorem d15_1 : decode prog_19_method_6_code 1 = .ok (.getfield 26, 3) := by decide +kernel
theorem d15_4 : decode prog_19_method_6_code 4 = .ok (.areturn, 1) := by decide +kernel
theorem d16_0 : decode prog_60_method_4_code 0 = .ok (.aload_n 0, 1) := by decide +kernel
theorem d16_1 : decode prog_60_method_4_code 1 = .ok (.getfield 13, 3) := by decide +kernel
theorem d16_4 : decode prog_60_method_4_code 4 = .ok (.lreturn, 1) := by decide +kernel
theorem d17_0 : decode prog_60_method_6_code 0 = .ok (.aload_n 0, 1) := by decide +kernel
theorem d17_1 : decode prog_60_method_6_code 1 = .ok (.getfield 19, 3) := by decide +kernel
theorem d17_4 : decode prog_60_method_6_code 4 = .ok (.lreturn, 1) := by decide +kernel
theorem d18_0 : decode prog_60_method_7_code 0 = .ok (.aload_n 0, 1) := by decide +kernel
theorem d18_1 : decode prog_60_method_7_code 1 = .ok (.getfield 22, 3) := by decide +kernel
theorem d18_4 : decode prog_60_method_7_code 4 = .ok (.ireturn, 1) := by decide +kernel
theorem d19_0 : decode prog_60_method_11_code 0 = .ok (.aload_n 0, 1) := by decide +kernel
theorem d19_1 : decode prog_60_method_11_code 1 = .ok (.getfield 35, 3) := by decide +kernel
theorem d19_4 : decode prog_60_method_11_code 4 = .ok (.ireturn, 1) := by decide +kernel
theorem d20_0 : decode prog_60_method_13_code 0 = .ok (.aload_n 0, 1) := by decide +kernel
theorem d20_1 : decode prog_60_method_13_code 1 = .ok (.getfield 41, 3) := by decide +kernel
theorem d20_4 : decode prog_60_method_13_code 4 = .ok (.lreturn, 1) := by decide +kernel
theorem d21_0 : decode prog_60_method_5_code 0 = .ok (.aload_n 0, 1) := by decide +kernel
theorem d21_1 : decode prog_60_method_5_code 1 = .ok (.getfield 16, 3) := by decide +kernel
theorem d21_4 : decode prog_60_method_5_code 4 = .ok (.lreturn, 1) := by decide +kernel
theorem pn_9 : plainName "com/example/usher/usher/core/NodeSetDataPinLaw" = true := by first | (simp [plainName, overriddenIn]; done) | decide +kernel
theorem pd_0 : parseMethodDescriptor "()V" = some ⟨[], none⟩ := by decide +kernel
theorem pd_1 : parseMethodDescriptor "()I" = some ⟨[], some .int⟩ := by decide +kernel
theorem pd_2 : parseMethodDescriptor "(JJJJIIIJIIJ)V" = some ⟨[.long, .long, .long, .long, .int, .int, .int, .long, .int, .int, .long], none⟩ := by decide +kernel
theorem pd_3 : parseMethodDescriptor "([BLjava/util/List;JJJ)V" = some ⟨[(.array .byte), (.object "java/util/List"), .long, .long, .long], none⟩ := by decide +kernel
theorem pd_4 : parseMethodDescriptor "([BJJ)V" = some ⟨[(.array .byte), .long, .long], none⟩ := by decide +kernel
theorem pd_5 : parseMethodDescriptor "()Lcom/example/usher/usher/protocol/Stat;" = some ⟨[], some (.object "com/example/usher/usher/protocol/Stat")⟩ := by decide +kernel
theorem pd_6 : parseMethodDescriptor "()[B" = some ⟨[], some (.array .byte)⟩ := by decide +kernel
theorem pd_7 : parseMethodDescriptor "()J" = some ⟨[], some .long⟩ := by decide +kernel
def Q_rmAC (Z : State) (a1 : Addr) (h0 : Heap) (n0 : Nat) (v : Option Value) (h : Heap) (L : List Loc) : Prop := v = none ∧ Fr n0 L ∧ h = h0
set_option maxRecDepth 65536 in
set_option maxHeartbeats 40000000 in
theorem rmAC (l : Launch) (Z : State) (a0 : Array Value) (hw : ∀ d ∈ tables_1, d.before a0 Z = true) (ws : List Jvm.Cond) (a1 : Addr) (h0 : Heap) (n0 : Nat) (Z0 : n0 ≤ h0.size) :
    MetFree l (⟨"java/util/AbstractCollection", "<init>", "()V"⟩ : MethodName) (head1 (Jvm.Cond.code (⟨"java/util/AbstractCollection", "<init>", "()V"⟩ : MethodName) jdk_22_method_1_code 1 none :: ws) ({ frames := 1, cells := 0, slots := 0, locals := 12 } : Room)) (fun a U => a = #[(.ref a1)] ∧ Z.Warmed39 U.vm ∧ U.heap = h0) (fun _ _ _ _ _ => True) (fun _ U o U' => ∃ v L, o = .returned v ∧ Q_rmAC Z a1 h0 n0 v U'.heap L ∧ FrameEnd U o U' L ({ frames := 1, cells := 0, slots := 0, locals := 12 } : Room).cells ({ frames := 1, cells := 0, slots := 0, locals := 12 } : Room).slots) := by
  refine MetFree.of_bodySF (plainFor_of_name pn_0) hisR ?_
  intro p e s m args below meth c s₁ Bd hml0 hP hK
  obtain ⟨rfl, hZ, hh⟩ := hP
  have hx := Bd.exec
  have hby := Bd.bytes
  have hml : c.maxLocals = 1 := hml0
  have hown : s.vm.findClass "java/util/AbstractCollection" = some m.cls := findClass_of_methodNamed Bd.named
  have hnm := (name_of_methodNamed Bd.named Bd.method).1
  have X0 : Stand p l e ({ frames := 1, cells := 0, slots := 0, locals := 12 } : Room) s m #[(.ref a1)] below meth c s₁ [] 0 0 := Stand.of_body Bd
  have e0 : s₁.heap = h0 := by rw [← hh, Bd.state]; rfl
  have N0 := Fr.nil n0
  have P0 : Rch p e below (s₁.setTop (entryFrame m #[(.ref a1)] 1)) (s₁.setTop (mkF m 0 #[rv a1] [])) := fun t k => castTop (by first | (simp [entryFrame, mkF, argsToLocals, Value.category]; done) | rfl) k
  have P1 : Rch p e below (s₁.setTop (entryFrame m #[(.ref a1)] 1)) (s₁.setTop (mkF m 1 #[rv a1] [(.ref a1)])) := fun t k => P0 t (by
    show Steps p.tables e below (s₁.setTop (mkF m 0 #[rv a1] [])) t
    refine XS.aloadN X0.here hx rfl (hb hby d3_0) rfl rfl ?_
    exact k)
  obtain ⟨T2, X2, e2, st2⟩ := initO X0 hx hZ hown (hw _ (List.mem_of_getElem? (i := 19) rfl)) (hw _ (List.mem_of_getElem? (i := 20) rfl)) (hw _ (List.mem_of_getElem? (i := 21) rfl)) e0 (g := (mkF m 1 #[rv a1] [(.ref a1)])) rfl (by rw [hml]; rfl) rfl (hb hby d3_1) (by decide) (W := 0) (by show 2 * 0 + _ ≤ _; exact Nat.le_of_eq rfl) (by decide)
  have P3 : Rch p e below (s₁.setTop (entryFrame m #[(.ref a1)] 1)) (T2.setTop (mkF m 4 #[rv a1] [])) := fun t k => P1 t (st2 t k)
  obtain ⟨fs, hr, hrun, hended, hW, hsame⟩ := X2.leave (v := none) (fun _ => rfl)
  refine ⟨_, _, P3 _ ?_, hrun, hended, _, _, rfl, ?_, ⟨_, rfl⟩, hW, hsame.mono (by decide) (by decide)⟩
  · exact X2.returnOut hx Bd.returns (hb hby d3_4) hr
  · show Q_rmAC Z a1 h0 n0 _ T2.heap _
    rw [e2]
    exact ⟨rfl, N0, rfl⟩
def Q_rmAS (Z : State) (a1 : Addr) (h0 : Heap) (n0 : Nat) (v : Option Value) (h : Heap) (L : List Loc) : Prop := v = none ∧ Fr n0 L ∧ h = h0
set_option maxRecDepth 65536 in
set_option maxHeartbeats 40000000 in
theorem rmAS (l : Launch) (Z : State) (a0 : Array Value) (hw : ∀ d ∈ tables_1, d.before a0 Z = true) (ws : List Jvm.Cond) (a1 : Addr) (h0 : Heap) (n0 : Nat) (Z0 : n0 ≤ h0.size) :
    MetFree l (⟨"java/util/AbstractSet", "<init>", "()V"⟩ : MethodName) (head1 (Jvm.Cond.code (⟨"java/util/AbstractSet", "<init>", "()V"⟩ : MethodName) jdk_91_method_1_code 1 none :: ws) ({ frames := 2, cells := 0, slots := 0, locals := 24 } : Room)) (fun a U => a = #[(.ref a1)] ∧ Z.Warmed39 U.vm ∧ U.heap = h0) (fun _ _ _ _ _ => True) (fun _ U o U' => ∃ v L, o = .returned v ∧ Q_rmAS Z a1 h0 n0 v U'.heap L ∧ FrameEnd U o U' L ({ frames := 2, cells := 0, slots := 0, locals := 24 } : Room).cells ({ frames := 2, cells := 0, slots := 0, locals := 24 } : Room).slots) := by
  refine MetFree.of_bodySF (plainFor_of_name pn_1) hisR ?_
  intro p e s m args below meth c s₁ Bd hml0 hP hK
  obtain ⟨rfl, hZ, hh⟩ := hP
  have hx := Bd.exec
  have hby := Bd.bytes
  have hml : c.maxLocals = 1 := hml0
  have hown : s.vm.findClass "java/util/AbstractSet" = some m.cls := findClass_of_methodNamed Bd.named
  have hnm := (name_of_methodNamed Bd.named Bd.method).1
  have X0 : Stand p l e ({ frames := 2, cells := 0, slots := 0, locals := 24 } : Room) s m #[(.ref a1)] below meth c s₁ [] 0 0 := Stand.of_body Bd
  have e0 : s₁.heap = h0 := by rw [← hh, Bd.state]; rfl
  have N0 := Fr.nil n0
  have P0 : Rch p e below (s₁.setTop (entryFrame m #[(.ref a1)] 1)) (s₁.setTop (mkF m 0 #[rv a1] [])) := fun t k => castTop (by first | (simp [entryFrame, mkF, argsToLocals, Value.category]; done) | rfl) k
  have P1 : Rch p e below (s₁.setTop (entryFrame m #[(.ref a1)] 1)) (s₁.setTop (mkF m 1 #[rv a1] [(.ref a1)])) := fun t k => P0 t (by
    show Steps p.tables e below (s₁.setTop (mkF m 0 #[rv a1] [])) t
    refine XS.aloadN X0.here hx rfl (hb hby d7_0) rfl rfl ?_
    exact k)
  obtain ⟨_, _, ⟨T2, L2, k2, n2⟩, -, X2, ⟨Lc2, hQ2, l2, y2, z2⟩, st2⟩ := X0.specialBack hx (y := (⟨"java/util/AbstractCollection", "<init>", "()V"⟩ : MethodName)) rfl hown (mvT hZ (hw _ (List.mem_of_getElem? (i := 46) rfl))) (mvT hZ (hw _ (List.mem_of_getElem? (i := 14) rfl))) (mvT hZ (hw _ (List.mem_of_getElem? (i := 18) rfl))) (by decide) (backOf (W := 0) (rmAC l Z a0 hw [] a1 h0 n0 Z0 ) hZ (hw _ (List.mem_of_getElem? (i := 18) rfl)) (hw _ (List.mem_of_getElem? (i := 17) rfl)) (by decide) (by decide)) (g := (mkF m 1 #[rv a1] [(.ref a1)])) rfl (by rw [hml]; rfl) (Steps.refl _) (a := a1) (argsL := []) (rest := []) (lenOf pd_0 rfl) rfl (by show 2 * 0 + _ ≤ _; exact Nat.le_of_eq rfl) (hb hby d7_1) (fun _ _ => ⟨rfl, e0, (by decide : 0 + 0 ≤ _), (by decide : 0 + 0 ≤ _)⟩)
  dsimp only [Pt.U, Pt.locs, Pt.cells, Pt.slots] at X2 l2 y2 z2 st2 hQ2
  subst y2 z2
  obtain ⟨rfl, N2q, e2⟩ := hQ2
  have N2 : Fr n0 L2 := by rw [l2]; exact Fr.app N0 N2q
  have P3 : Rch p e below (s₁.setTop (entryFrame m #[(.ref a1)] 1)) (T2.setTop (mkF m 4 #[rv a1] [])) := fun t k => P1 t (st2.trans k)
  obtain ⟨fs, hr, hrun, hended, hW, hsame⟩ := X2.leave (v := none) (fun _ => rfl)
  refine ⟨_, _, P3 _ ?_, hrun, hended, _, _, rfl, ?_, ⟨_, rfl⟩, hW, hsame.mono (by decide) (by decide)⟩
  · exact X2.returnOut hx Bd.returns (hb hby d7_4) hr
  · show Q_rmAS Z a1 h0 n0 _ T2.heap _
    rw [e2]
    exact ⟨rfl, N2, rfl⟩
def Q_rmAM (Z : State) (a1 : Addr) (h0 : Heap) (n0 : Nat) (v : Option Value) (h : Heap) (L : List Loc) : Prop := v = none ∧ Fr n0 L ∧ h = h0
set_option maxRecDepth 65536 in
set_option maxHeartbeats 40000000 in
theorem rmAM (l : Launch) (Z : State) (a0 : Array Value) (hw : ∀ d ∈ tables_1, d.before a0 Z = true) (ws : List Jvm.Cond) (a1 : Addr) (h0 : Heap) (n0 : Nat) (Z0 : n0 ≤ h0.size) :
    MetFree l (⟨"java/util/AbstractMap", "<init>", "()V"⟩ : MethodName) (head1 (Jvm.Cond.code (⟨"java/util/AbstractMap", "<init>", "()V"⟩ : MethodName) jdk_71_method_1_code 1 none :: ws) ({ frames := 1, cells := 0, slots := 0, locals := 12 } : Room)) (fun a U => a = #[(.ref a1)] ∧ Z.Warmed39 U.vm ∧ U.heap = h0) (fun _ _ _ _ _ => True) (fun _ U o U' => ∃ v L, o = .returned v ∧ Q_rmAM Z a1 h0 n0 v U'.heap L ∧ FrameEnd U o U' L ({ frames := 1, cells := 0, slots := 0, locals := 12 } : Room).cells ({ frames := 1, cells := 0, slots := 0, locals := 12 } : Room).slots) := by
  refine MetFree.of_bodySF (plainFor_of_name pn_2) hisR ?_
  intro p e s m args below meth c s₁ Bd hml0 hP hK
  obtain ⟨rfl, hZ, hh⟩ := hP
  have hx := Bd.exec
  have hby := Bd.bytes
  have hml : c.maxLocals = 1 := hml0
  have hown : s.vm.findClass "java/util/AbstractMap" = some m.cls := findClass_of_methodNamed Bd.named
  have hnm := (name_of_methodNamed Bd.named Bd.method).1
  have X0 : Stand p l e ({ frames := 1, cells := 0, slots := 0, locals := 12 } : Room) s m #[(.ref a1)] below meth c s₁ [] 0 0 := Stand.of_body Bd
  have e0 : s₁.heap = h0 := by rw [← hh, Bd.state]; rfl
  have N0 := Fr.nil n0
  have P0 : Rch p e below (s₁.setTop (entryFrame m #[(.ref a1)] 1)) (s₁.setTop (mkF m 0 #[rv a1] [])) := fun t k => castTop (by first | (simp [entryFrame, mkF, argsToLocals, Value.category]; done) | rfl) k
  have P1 : Rch p e below (s₁.setTop (entryFrame m #[(.ref a1)] 1)) (s₁.setTop (mkF m 1 #[rv a1] [(.ref a1)])) := fun t k => P0 t (by
    show Steps p.tables e below (s₁.setTop (mkF m 0 #[rv a1] [])) t
    refine XS.aloadN X0.here hx rfl (hb hby d9_0) rfl rfl ?_
    exact k)
  obtain ⟨T2, X2, e2, st2⟩ := initO X0 hx hZ hown (hw _ (List.mem_of_getElem? (i := 61) rfl)) (hw _ (List.mem_of_getElem? (i := 20) rfl)) (hw _ (List.mem_of_getElem? (i := 21) rfl)) e0 (g := (mkF m 1 #[rv a1] [(.ref a1)])) rfl (by rw [hml]; rfl) rfl (hb hby d9_1) (by decide) (W := 0) (by show 2 * 0 + _ ≤ _; exact Nat.le_of_eq rfl) (by decide)
  have P3 : Rch p e below (s₁.setTop (entryFrame m #[(.ref a1)] 1)) (T2.setTop (mkF m 4 #[rv a1] [])) := fun t k => P1 t (st2 t k)
  obtain ⟨fs, hr, hrun, hended, hW, hsame⟩ := X2.leave (v := none) (fun _ => rfl)
  refine ⟨_, _, P3 _ ?_, hrun, hended, _, _, rfl, ?_, ⟨_, rfl⟩, hW, hsame.mono (by decide) (by decide)⟩
  · exact X2.returnOut hx Bd.returns (hb hby d9_4) hr
  · show Q_rmAM Z a1 h0 n0 _ T2.heap _
    rw [e2]
    exact ⟨rfl, N0, rfl⟩
def Q_rmABL (Z : State) (a1 : Addr) (h0 : Heap) (n0 : Nat) (v : Option Value) (h : Heap) (L : List Loc) : Prop := v = none ∧ Fr n0 L ∧ Keep h0 h [a1] ∧ (Exa Z h a1 "java/util/ArrayList") ∧ (Fld Z h a1 "java/util/ArrayList" "elementData" "[Ljava/lang/Object;" .null)
set_option maxRecDepth 65536 in
set_option maxHeartbeats 40000000 in
theorem rmABL (l : Launch) (Z : State) (a0 : Array Value) (hw : ∀ d ∈ tables_1, d.before a0 Z = true) (ws : List Jvm.Cond) (a1 : Addr) (h0 : Heap) (n0 : Nat) (Z0 : n0 ≤ h0.size) (E1 : Exa Z h0 a1 "java/util/ArrayList") (g1 : n0 ≤ a1) (F1 : Fld Z h0 a1 "java/util/AbstractList" "modCount" "I" (.int (0 : Int32))) (F2 : Fld Z h0 a1 "java/util/ArrayList" "elementData" "[Ljava/lang/Object;" .null) :
    MetFree l (⟨"java/util/AbstractList", "<init>", "()V"⟩ : MethodName) (head1 (Jvm.Cond.code (⟨"java/util/AbstractList", "<init>", "()V"⟩ : MethodName) jdk_39_method_1_code 1 none :: ws) ({ frames := 2, cells := 0, slots := 0, locals := 24 } : Room)) (fun a U => a = #[(.ref a1)] ∧ Z.Warmed39 U.vm ∧ U.heap = h0) (fun _ _ _ _ _ => True) (fun _ U o U' => ∃ v L, o = .returned v ∧ Q_rmABL Z a1 h0 n0 v U'.heap L ∧ FrameEnd U o U' L ({ frames := 2, cells := 0, slots := 0, locals := 24 } : Room).cells ({ frames := 2, cells := 0, slots := 0, locals := 24 } : Room).slots) := by
  refine MetFree.of_bodySF (plainFor_of_name pn_3) hisR ?_
  intro p e s m args below meth c s₁ Bd hml0 hP hK
  obtain ⟨rfl, hZ, hh⟩ := hP
  have hx := Bd.exec
  have hby := Bd.bytes
  have hml : c.maxLocals = 1 := hml0
  have hown : s.vm.findClass "java/util/AbstractList" = some m.cls := findClass_of_methodNamed Bd.named
  have hnm := (name_of_methodNamed Bd.named Bd.method).1
  have X0 : Stand p l e ({ frames := 2, cells := 0, slots := 0, locals := 24 } : Room) s m #[(.ref a1)] below meth c s₁ [] 0 0 := Stand.of_body Bd
  have e0 : s₁.heap = h0 := by rw [← hh, Bd.state]; rfl
  have N0 := Fr.nil n0
  have P0 : Rch p e below (s₁.setTop (entryFrame m #[(.ref a1)] 1)) (s₁.setTop (mkF m 0 #[rv a1] [])) := fun t k => castTop (by first | (simp [entryFrame, mkF, argsToLocals, Value.category]; done) | rfl) k
  have P1 : Rch p e below (s₁.setTop (entryFrame m #[(.ref a1)] 1)) (s₁.setTop (mkF m 1 #[rv a1] [(.ref a1)])) := fun t k => P0 t (by
    show Steps p.tables e below (s₁.setTop (mkF m 0 #[rv a1] [])) t
    refine XS.aloadN X0.here hx rfl (hb hby d2_0) rfl rfl ?_
    exact k)
  obtain ⟨_, _, ⟨T2, L2, k2, n2⟩, -, X2, ⟨Lc2, hQ2, l2, y2, z2⟩, st2⟩ := X0.specialBack hx (y := (⟨"java/util/AbstractCollection", "<init>", "()V"⟩ : MethodName)) rfl hown (mvT hZ (hw _ (List.mem_of_getElem? (i := 13) rfl))) (mvT hZ (hw _ (List.mem_of_getElem? (i := 14) rfl))) (mvT hZ (hw _ (List.mem_of_getElem? (i := 18) rfl))) (by decide) (backOf (W := 0) (rmAC l Z a0 hw [] a1 h0 n0 Z0 ) hZ (hw _ (List.mem_of_getElem? (i := 18) rfl)) (hw _ (List.mem_of_getElem? (i := 17) rfl)) (by decide) (by decide)) (g := (mkF m 1 #[rv a1] [(.ref a1)])) rfl (by rw [hml]; rfl) (Steps.refl _) (a := a1) (argsL := []) (rest := []) (lenOf pd_0 rfl) rfl (by show 2 * 0 + _ ≤ _; exact Nat.le_of_eq rfl) (hb hby d2_1) (fun _ _ => ⟨rfl, e0, (by decide : 0 + 0 ≤ _), (by decide : 0 + 0 ≤ _)⟩)
  dsimp only [Pt.U, Pt.locs, Pt.cells, Pt.slots] at X2 l2 y2 z2 st2 hQ2
  subst y2 z2
  obtain ⟨rfl, N2q, e2⟩ := hQ2
  have N2 : Fr n0 L2 := by rw [l2]; exact Fr.app N0 N2q
  have P3 : Rch p e below (s₁.setTop (entryFrame m #[(.ref a1)] 1)) (T2.setTop (mkF m 4 #[rv a1] [])) := fun t k => P1 t (st2.trans k)
  have P4 : Rch p e below (s₁.setTop (entryFrame m #[(.ref a1)] 1)) (T2.setTop (mkF m 6 #[rv a1] [(.int (0 : Int32)), (.ref a1)])) := fun t k => P3 t (by
    show Steps p.tables e below (T2.setTop (mkF m 4 #[rv a1] [])) t
    refine XS.aloadN X2.here hx rfl (hb hby d2_4) rfl rfl ?_
    refine XS.iconst X2.here hx rfl (hb hby d2_5) ?_
    exact k)
  obtain ⟨T5, h5, X5, e5, W5, st5⟩ := putF X2 hx hZ hown (host := "") (Or.inl (hw _ (List.mem_of_getElem? (i := 22) rfl))) Via.refl e2 F1 E1 (Or.inl (hw _ (List.mem_of_getElem? (i := 23) rfl))) (hw _ (List.mem_of_getElem? (i := 2) rfl)) (ty := .int) (by decide) rfl rfl (g := (mkF m 6 #[rv a1] [(.int (0 : Int32)), (.ref a1)])) rfl rfl (hb hby d2_6)
  have Fw5 := F1.same W5
  have P6 : Rch p e below (s₁.setTop (entryFrame m #[(.ref a1)] 1)) (T5.setTop (mkF m 9 #[rv a1] [])) := fun t k => P4 t (st5 t k)
  have N5 := Fr.snoc X5 N2 g1
  obtain ⟨fs, hr, hrun, hended, hW, hsame⟩ := X5.leave (v := none) (fun _ => rfl)
  refine ⟨_, _, P6 _ ?_, hrun, hended, _, _, rfl, ?_, ⟨_, rfl⟩, hW, hsame.mono (by decide) (by decide)⟩
  · exact X5.returnOut hx Bd.returns (hb hby d2_9) hr
  · show Q_rmABL Z a1 h0 n0 _ T5.heap _
    rw [e5]
    have f7 : Keep h0 h5 [a1] := ((Keep.refl h0 [a1]).wr W5 (Or.inl (List.mem_of_getElem? (i := 0) rfl)))
    have f8 : Fld Z h5 a1 "java/util/ArrayList" "elementData" "[Ljava/lang/Object;" .null := (F2.other W5 (Or.inr (slot_ne (Or.inl (hw _ (List.mem_of_getElem? (i := 26) rfl))) (Or.inl (hw _ (List.mem_of_getElem? (i := 23) rfl))) (by decide) (t := (.array (.object "java/lang/Object"))) (t' := .int) (by decide) (by decide))))
    exact ⟨rfl, N5, f7, (E1.wr W5), f8⟩
def Q_rmAL (Z : State) (a1 : Addr) (aD : Addr) (h0 : Heap) (n0 : Nat) (v : Option Value) (h : Heap) (L : List Loc) : Prop := v = none ∧ Fr n0 L ∧ Keep h0 h [a1] ∧ (Exa Z h a1 "java/util/ArrayList")
set_option maxRecDepth 65536 in
set_option maxHeartbeats 40000000 in
theorem rmAL (l : Launch) (Z : State) (a0 : Array Value) (hw : ∀ d ∈ tables_1, d.before a0 Z = true) (ws : List Jvm.Cond) (a1 : Addr) (aD : Addr) (h0 : Heap) (n0 : Nat) (Z0 : n0 ≤ h0.size) (O0 : Old Z n0 h0) (Sd : Sta Z Z.heap "java/util/ArrayList" "DEFAULTCAPACITY_EMPTY_ELEMENTDATA" "[Ljava/lang/Object;" (.ref aD)) (E1 : Exa Z h0 a1 "java/util/ArrayList") (g1 : n0 ≤ a1) (F1 : Fld Z h0 a1 "java/util/AbstractList" "modCount" "I" (.int (0 : Int32))) (F2 : Fld Z h0 a1 "java/util/ArrayList" "elementData" "[Ljava/lang/Object;" .null) :
    MetFree l (⟨"java/util/ArrayList", "<init>", "()V"⟩ : MethodName) (head1 (Jvm.Cond.code (⟨"java/util/ArrayList", "<init>", "()V"⟩ : MethodName) jdk_38_method_2_code 1 none :: ws) ({ frames := 3, cells := 0, slots := 0, locals := 36 } : Room)) (fun a U => a = #[(.ref a1)] ∧ Z.Warmed39 U.vm ∧ U.heap = h0) (fun _ _ _ _ _ => True) (fun _ U o U' => ∃ v L, o = .returned v ∧ Q_rmAL Z a1 aD h0 n0 v U'.heap L ∧ FrameEnd U o U' L ({ frames := 3, cells := 0, slots := 0, locals := 36 } : Room).cells ({ frames := 3, cells := 0, slots := 0, locals := 36 } : Room).slots) := by
  refine MetFree.of_bodySF (plainFor_of_name pn_4) hisR ?_
  intro p e s m args below meth c s₁ Bd hml0 hP hK
  obtain ⟨rfl, hZ, hh⟩ := hP
  have hx := Bd.exec
  have hby := Bd.bytes
  have hml : c.maxLocals = 1 := hml0
  have hown : s.vm.findClass "java/util/ArrayList" = some m.cls := findClass_of_methodNamed Bd.named
  have hnm := (name_of_methodNamed Bd.named Bd.method).1
  have X0 : Stand p l e ({ frames := 3, cells := 0, slots := 0, locals := 36 } : Room) s m #[(.ref a1)] below meth c s₁ [] 0 0 := Stand.of_body Bd
  have e0 : s₁.heap = h0 := by rw [← hh, Bd.state]; rfl
  have N0 := Fr.nil n0
  have P0 : Rch p e below (s₁.setTop (entryFrame m #[(.ref a1)] 1)) (s₁.setTop (mkF m 0 #[rv a1] [])) := fun t k => castTop (by first | (simp [entryFrame, mkF, argsToLocals, Value.category]; done) | rfl) k
  have P1 : Rch p e below (s₁.setTop (entryFrame m #[(.ref a1)] 1)) (s₁.setTop (mkF m 1 #[rv a1] [(.ref a1)])) := fun t k => P0 t (by
    show Steps p.tables e below (s₁.setTop (mkF m 0 #[rv a1] [])) t
    refine XS.aloadN X0.here hx rfl (hb hby d1_0) rfl rfl ?_
    exact k)
  obtain ⟨_, _, ⟨T2, L2, k2, n2⟩, -, X2, ⟨Lc2, hQ2, l2, y2, z2⟩, st2⟩ := X0.specialBack hx (y := (⟨"java/util/AbstractList", "<init>", "()V"⟩ : MethodName)) rfl hown (mvT hZ (hw _ (List.mem_of_getElem? (i := 7) rfl))) (mvT hZ (hw _ (List.mem_of_getElem? (i := 8) rfl))) (mvT hZ (hw _ (List.mem_of_getElem? (i := 12) rfl))) (by decide) (backOf (W := 0) (rmABL l Z a0 hw [] a1 h0 n0 Z0 E1 g1 F1 F2) hZ (hw _ (List.mem_of_getElem? (i := 12) rfl)) (hw _ (List.mem_of_getElem? (i := 11) rfl)) (by decide) (by decide)) (g := (mkF m 1 #[rv a1] [(.ref a1)])) rfl (by rw [hml]; rfl) (Steps.refl _) (a := a1) (argsL := []) (rest := []) (lenOf pd_0 rfl) rfl (by show 2 * 0 + _ ≤ _; exact Nat.le_of_eq rfl) (hb hby d1_1) (fun _ _ => ⟨rfl, e0, (by decide : 0 + 0 ≤ _), (by decide : 0 + 0 ≤ _)⟩)
  dsimp only [Pt.U, Pt.locs, Pt.cells, Pt.slots] at X2 l2 y2 z2 st2 hQ2
  subst y2 z2
  obtain ⟨rfl, N2q, K2, E_2, G_2⟩ := hQ2
  have N2 : Fr n0 L2 := by rw [l2]; exact Fr.app N0 N2q
  have P3 : Rch p e below (s₁.setTop (entryFrame m #[(.ref a1)] 1)) (T2.setTop (mkF m 4 #[rv a1] [])) := fun t k => P1 t (st2.trans k)
  have P4 : Rch p e below (s₁.setTop (entryFrame m #[(.ref a1)] 1)) (T2.setTop (mkF m 5 #[rv a1] [(.ref a1)])) := fun t k => P3 t (by
    show Steps p.tables e below (T2.setTop (mkF m 4 #[rv a1] [])) t
    refine XS.aloadN X2.here hx rfl (hb hby d1_4) rfl rfl ?_
    exact k)
  have f6 : Old Z n0 T2.heap := (O0.keep K2 (allS g1 all0))
  obtain ⟨T5, X5, e5, st5⟩ := getS2 X2 hx hZ hown (host := "") (Or.inl (hw _ (List.mem_of_getElem? (i := 24) rfl))) Via.refl rfl (Sd.ext f6.2) (g := (mkF m 5 #[rv a1] [(.ref a1)])) rfl (hb hby d1_5)
  have P7 : Rch p e below (s₁.setTop (entryFrame m #[(.ref a1)] 1)) (T5.setTop (mkF m 8 #[rv a1] [(.ref aD), (.ref a1)])) := fun t k => P4 t (st5 t k)
  obtain ⟨T8, h8, X8, e8, W8, st8⟩ := putF X5 hx hZ hown (host := "") (Or.inl (hw _ (List.mem_of_getElem? (i := 25) rfl))) Via.refl e5 G_2 E_2 (Or.inl (hw _ (List.mem_of_getElem? (i := 26) rfl))) (hw _ (List.mem_of_getElem? (i := 2) rfl)) (ty := (.array (.object "java/lang/Object"))) (by decide) rfl rfl (g := (mkF m 8 #[rv a1] [(.ref aD), (.ref a1)])) rfl rfl (hb hby d1_8)
  have Fw8 := G_2.same W8
  have P9 : Rch p e below (s₁.setTop (entryFrame m #[(.ref a1)] 1)) (T8.setTop (mkF m 11 #[rv a1] [])) := fun t k => P7 t (st8 t k)
  have N8 := Fr.snoc X8 N2 g1
  obtain ⟨fs, hr, hrun, hended, hW, hsame⟩ := X8.leave (v := none) (fun _ => rfl)
  refine ⟨_, _, P9 _ ?_, hrun, hended, _, _, rfl, ?_, ⟨_, rfl⟩, hW, hsame.mono (by decide) (by decide)⟩
  · exact X8.returnOut hx Bd.returns (hb hby d1_11) hr
  · show Q_rmAL Z a1 aD h0 n0 _ T8.heap _
    rw [e8]
    have f10 : Keep h0 h8 [a1] := (((Keep.refl h0 [a1]).trans K2 (allS (P := fun x => x ∈ [a1] ∨ h0.size ≤ x) (Or.inl (List.mem_of_getElem? (i := 0) rfl)) all0)).wr W8 (Or.inl (List.mem_of_getElem? (i := 0) rfl)))
    exact ⟨rfl, N8, f10, (E_2.wr W8)⟩
def Q_rmHM (Z : State) (a1 : Addr) (h0 : Heap) (n0 : Nat) (v : Option Value) (h : Heap) (L : List Loc) : Prop := v = none ∧ Fr n0 L ∧ Keep h0 h [a1] ∧ (Exa Z h a1 "java/util/HashMap") ∧ (Fld Z h a1 "java/util/HashMap" "size" "I" (.int (0 : Int32)))
set_option maxRecDepth 65536 in
set_option maxHeartbeats 40000000 in
theorem rmHM (l : Launch) (Z : State) (a0 : Array Value) (hw : ∀ d ∈ tables_1, d.before a0 Z = true) (ws : List Jvm.Cond) (a1 : Addr) (h0 : Heap) (n0 : Nat) (Z0 : n0 ≤ h0.size) (E1 : Exa Z h0 a1 "java/util/HashMap") (g1 : n0 ≤ a1) (F1 : Fld Z h0 a1 "java/util/HashMap" "loadFactor" "F" (.float 0)) (F2 : Fld Z h0 a1 "java/util/HashMap" "size" "I" (.int (0 : Int32))) :
    MetFree l (⟨"java/util/HashMap", "<init>", "()V"⟩ : MethodName) (head1 (Jvm.Cond.code (⟨"java/util/HashMap", "<init>", "()V"⟩ : MethodName) jdk_69_method_7_code 1 none :: ws) ({ frames := 2, cells := 0, slots := 0, locals := 24 } : Room)) (fun a U => a = #[(.ref a1)] ∧ Z.Warmed39 U.vm ∧ U.heap = h0) (fun _ _ _ _ _ => True) (fun _ U o U' => ∃ v L, o = .returned v ∧ Q_rmHM Z a1 h0 n0 v U'.heap L ∧ FrameEnd U o U' L ({ frames := 2, cells := 0, slots := 0, locals := 24 } : Room).cells ({ frames := 2, cells := 0, slots := 0, locals := 24 } : Room).slots) := by
  refine MetFree.of_bodySF (plainFor_of_name pn_5) hisR ?_
  intro p e s m args below meth c s₁ Bd hml0 hP hK
  obtain ⟨rfl, hZ, hh⟩ := hP
  have hx := Bd.exec
  have hby := Bd.bytes
  have hml : c.maxLocals = 1 := hml0
  have hown : s.vm.findClass "java/util/HashMap" = some m.cls := findClass_of_methodNamed Bd.named
  have hnm := (name_of_methodNamed Bd.named Bd.method).1
  have X0 : Stand p l e ({ frames := 2, cells := 0, slots := 0, locals := 24 } : Room) s m #[(.ref a1)] below meth c s₁ [] 0 0 := Stand.of_body Bd
  have e0 : s₁.heap = h0 := by rw [← hh, Bd.state]; rfl
  have N0 := Fr.nil n0
  have P0 : Rch p e below (s₁.setTop (entryFrame m #[(.ref a1)] 1)) (s₁.setTop (mkF m 0 #[rv a1] [])) := fun t k => castTop (by first | (simp [entryFrame, mkF, argsToLocals, Value.category]; done) | rfl) k
  have P1 : Rch p e below (s₁.setTop (entryFrame m #[(.ref a1)] 1)) (s₁.setTop (mkF m 1 #[rv a1] [(.ref a1)])) := fun t k => P0 t (by
    show Steps p.tables e below (s₁.setTop (mkF m 0 #[rv a1] [])) t
    refine XS.aloadN X0.here hx rfl (hb hby d8_0) rfl rfl ?_
    exact k)
  obtain ⟨_, _, ⟨T2, L2, k2, n2⟩, -, X2, ⟨Lc2, hQ2, l2, y2, z2⟩, st2⟩ := X0.specialBack hx (y := (⟨"java/util/AbstractMap", "<init>", "()V"⟩ : MethodName)) rfl hown (mvT hZ (hw _ (List.mem_of_getElem? (i := 55) rfl))) (mvT hZ (hw _ (List.mem_of_getElem? (i := 56) rfl))) (mvT hZ (hw _ (List.mem_of_getElem? (i := 60) rfl))) (by decide) (backOf (W := 0) (rmAM l Z a0 hw [] a1 h0 n0 Z0 ) hZ (hw _ (List.mem_of_getElem? (i := 60) rfl)) (hw _ (List.mem_of_getElem? (i := 59) rfl)) (by decide) (by decide)) (g := (mkF m 1 #[rv a1] [(.ref a1)])) rfl (by rw [hml]; rfl) (Steps.refl _) (a := a1) (argsL := []) (rest := []) (lenOf pd_0 rfl) rfl (by show 2 * 0 + _ ≤ _; exact Nat.le_of_eq rfl) (hb hby d8_1) (fun _ _ => ⟨rfl, e0, (by decide : 0 + 0 ≤ _), (by decide : 0 + 0 ≤ _)⟩)
  dsimp only [Pt.U, Pt.locs, Pt.cells, Pt.slots] at X2 l2 y2 z2 st2 hQ2
  subst y2 z2
  obtain ⟨rfl, N2q, e2⟩ := hQ2
  have N2 : Fr n0 L2 := by rw [l2]; exact Fr.app N0 N2q
  have P3 : Rch p e below (s₁.setTop (entryFrame m #[(.ref a1)] 1)) (T2.setTop (mkF m 4 #[rv a1] [])) := fun t k => P1 t (st2.trans k)
  have P4 : Rch p e below (s₁.setTop (entryFrame m #[(.ref a1)] 1)) (T2.setTop (mkF m 7 #[rv a1] [(.float (1061158912 : UInt32)), (.ref a1)])) := fun t k => P3 t (by
    show Steps p.tables e below (T2.setTop (mkF m 4 #[rv a1] [])) t
    refine XS.aloadN X2.here hx rfl (hb hby d8_4) rfl rfl ?_
    refine X2.ldcFloatC hx hown (mvT hZ (hw _ (List.mem_of_getElem? (i := 62) rfl))) (g := (mkF m 5 #[rv a1] [(.ref a1)])) rfl (hb hby d8_5) _ ?_
    exact k)
  obtain ⟨T5, h5, X5, e5, W5, st5⟩ := putF X2 hx hZ hown (host := "") (Or.inl (hw _ (List.mem_of_getElem? (i := 63) rfl))) Via.refl e2 F1 E1 (Or.inr ⟨(hw _ (List.mem_of_getElem? (i := 64) rfl)), rfl, hnm⟩) (hw _ (List.mem_of_getElem? (i := 49) rfl)) (ty := .float) (by decide) rfl rfl (g := (mkF m 7 #[rv a1] [(.float (1061158912 : UInt32)), (.ref a1)])) rfl rfl (hb hby d8_7)
  have Fw5 := F1.same W5
  have P6 : Rch p e below (s₁.setTop (entryFrame m #[(.ref a1)] 1)) (T5.setTop (mkF m 10 #[rv a1] [])) := fun t k => P4 t (st5 t k)
  have N5 := Fr.snoc X5 N2 g1
  obtain ⟨fs, hr, hrun, hended, hW, hsame⟩ := X5.leave (v := none) (fun _ => rfl)
  refine ⟨_, _, P6 _ ?_, hrun, hended, _, _, rfl, ?_, ⟨_, rfl⟩, hW, hsame.mono (by decide) (by decide)⟩
  · exact X5.returnOut hx Bd.returns (hb hby d8_10) hr
  · show Q_rmHM Z a1 h0 n0 _ T5.heap _
    rw [e5]
    have f7 : Keep h0 h5 [a1] := ((Keep.refl h0 [a1]).wr W5 (Or.inl (List.mem_of_getElem? (i := 0) rfl)))
    have f8 : Fld Z h5 a1 "java/util/HashMap" "size" "I" (.int (0 : Int32)) := (F2.other W5 (Or.inr (slot_ne (Or.inl (hw _ (List.mem_of_getElem? (i := 119) rfl))) (Or.inr (hw _ (List.mem_of_getElem? (i := 64) rfl))) (by decide) (t := .int) (t' := .float) (by decide) (by decide))))
    exact ⟨rfl, N5, f7, (E1.wr W5), f8⟩
def Q_rmHS (Z : State) (a1 : Addr) (h0 : Heap) (n0 : Nat) (v : Option Value) (h : Heap) (L : List Loc) : Prop := ∃ (m_ : Addr), v = none ∧ Fr n0 L ∧ Keep h0 h [a1] ∧ (h0.size ≤ m_) ∧ (Exa Z h a1 "java/util/HashSet") ∧ (Fld Z h a1 "java/util/HashSet" "map" "Ljava/util/HashMap;" (.ref m_)) ∧ (Exa Z h m_ "java/util/HashMap") ∧ (Fld Z h m_ "java/util/HashMap" "size" "I" (.int (0 : Int32)))
set_option maxRecDepth 65536 in
set_option maxHeartbeats 40000000 in
theorem rmHS (l : Launch) (Z : State) (a0 : Array Value) (hw : ∀ d ∈ tables_1, d.before a0 Z = true) (ws : List Jvm.Cond) (a1 : Addr) (h0 : Heap) (n0 : Nat) (Z0 : n0 ≤ h0.size) (E1 : Exa Z h0 a1 "java/util/HashSet") (g1 : n0 ≤ a1) (F1 : Fld Z h0 a1 "java/util/HashSet" "map" "Ljava/util/HashMap;" .null) :
    MetFree l (⟨"java/util/HashSet", "<init>", "()V"⟩ : MethodName) (head1 (Jvm.Cond.code (⟨"java/util/HashSet", "<init>", "()V"⟩ : MethodName) jdk_93_method_1_code 1 none :: ws) ({ frames := 3, cells := 1, slots := 8, locals := 38 } : Room)) (fun a U => a = #[(.ref a1)] ∧ Z.Warmed39 U.vm ∧ U.heap = h0) (fun _ _ _ _ _ => True) (fun _ U o U' => ∃ v L, o = .returned v ∧ Q_rmHS Z a1 h0 n0 v U'.heap L ∧ FrameEnd U o U' L ({ frames := 3, cells := 1, slots := 8, locals := 38 } : Room).cells ({ frames := 3, cells := 1, slots := 8, locals := 38 } : Room).slots) := by
  refine MetFree.of_bodySF (plainFor_of_name pn_6) hisR ?_
  intro p e s m args below meth c s₁ Bd hml0 hP hK
  obtain ⟨rfl, hZ, hh⟩ := hP
  have hx := Bd.exec
  have hby := Bd.bytes
  have hml : c.maxLocals = 1 := hml0
  have hown : s.vm.findClass "java/util/HashSet" = some m.cls := findClass_of_methodNamed Bd.named
  have hnm := (name_of_methodNamed Bd.named Bd.method).1
  have X0 : Stand p l e ({ frames := 3, cells := 1, slots := 8, locals := 38 } : Room) s m #[(.ref a1)] below meth c s₁ [] 0 0 := Stand.of_body Bd
  have e0 : s₁.heap = h0 := by rw [← hh, Bd.state]; rfl
  have N0 := Fr.nil n0
  have P0 : Rch p e below (s₁.setTop (entryFrame m #[(.ref a1)] 1)) (s₁.setTop (mkF m 0 #[rv a1] [])) := fun t k => castTop (by first | (simp [entryFrame, mkF, argsToLocals, Value.category]; done) | rfl) k
  have P1 : Rch p e below (s₁.setTop (entryFrame m #[(.ref a1)] 1)) (s₁.setTop (mkF m 1 #[rv a1] [(.ref a1)])) := fun t k => P0 t (by
    show Steps p.tables e below (s₁.setTop (mkF m 0 #[rv a1] [])) t
    refine XS.aloadN X0.here hx rfl (hb hby d6_0) rfl rfl ?_
    exact k)
  obtain ⟨_, _, ⟨T2, L2, k2, n2⟩, -, X2, ⟨Lc2, hQ2, l2, y2, z2⟩, st2⟩ := X0.specialBack hx (y := (⟨"java/util/AbstractSet", "<init>", "()V"⟩ : MethodName)) rfl hown (mvT hZ (hw _ (List.mem_of_getElem? (i := 40) rfl))) (mvT hZ (hw _ (List.mem_of_getElem? (i := 41) rfl))) (mvT hZ (hw _ (List.mem_of_getElem? (i := 45) rfl))) (by decide) (backOf (W := 0) (rmAS l Z a0 hw [] a1 h0 n0 Z0 ) hZ (hw _ (List.mem_of_getElem? (i := 45) rfl)) (hw _ (List.mem_of_getElem? (i := 44) rfl)) (by decide) (by decide)) (g := (mkF m 1 #[rv a1] [(.ref a1)])) rfl (by rw [hml]; rfl) (Steps.refl _) (a := a1) (argsL := []) (rest := []) (lenOf pd_0 rfl) rfl (by show 2 * 0 + _ ≤ _; exact Nat.le_of_eq rfl) (hb hby d6_1) (fun _ _ => ⟨rfl, e0, (by decide : 0 + 0 ≤ _), (by decide : 0 + 0 ≤ _)⟩)
  dsimp only [Pt.U, Pt.locs, Pt.cells, Pt.slots] at X2 l2 y2 z2 st2 hQ2
  subst y2 z2
  obtain ⟨rfl, N2q, e2⟩ := hQ2
  have N2 : Fr n0 L2 := by rw [l2]; exact Fr.app N0 N2q
  have P3 : Rch p e below (s₁.setTop (entryFrame m #[(.ref a1)] 1)) (T2.setTop (mkF m 4 #[rv a1] [])) := fun t k => P1 t (st2.trans k)
  have P4 : Rch p e below (s₁.setTop (entryFrame m #[(.ref a1)] 1)) (T2.setTop (mkF m 5 #[rv a1] [(.ref a1)])) := fun t k => P3 t (by
    show Steps p.tables e below (T2.setTop (mkF m 4 #[rv a1] [])) t
    refine XS.aloadN X2.here hx rfl (hb hby d6_4) rfl rfl ?_
    exact k)
  obtain ⟨T5, h5, X5, e5, E5, A5, D5, -, st5⟩ := newO X2 hx hZ hown (hw _ (List.mem_of_getElem? (i := 48) rfl)) (hw _ (List.mem_of_getElem? (i := 49) rfl)) (hw _ (List.mem_of_getElem? (i := 50) rfl)) e2 (g := (mkF m 5 #[rv a1] [(.ref a1)])) rfl (hb hby d6_5) (by decide) (by decide)
  obtain ⟨b5, g5⟩ : ∃ z, z = h0.size := ⟨_, rfl⟩
  rw [← g5] at A5 D5 st5
  have g_b5 : n0 ≤ b5 := Nat.le_trans Z0 (Nat.le_of_eq g5.symm)
  have sz_b5 : h0.size ≤ b5 := Nat.le_trans (Keep.refl h0 [a1]).1 (Nat.le_of_eq g5.symm)
  have ne_a1_b5 : a1 ≠ b5 := Nat.ne_of_lt (Nat.lt_of_lt_of_le E1.lt (Nat.le_of_eq g5.symm))
  have F5_64 : Fld Z h5 b5 "java/util/HashMap" "loadFactor" "F" (.float 0) := D5 (Or.inr (hw _ (List.mem_of_getElem? (i := 64) rfl))) (ty := .float) (by decide)
  have F5_119 : Fld Z h5 b5 "java/util/HashMap" "size" "I" (.int (0 : Int32)) := D5 (Or.inl (hw _ (List.mem_of_getElem? (i := 119) rfl))) (ty := .int) (by decide)
  have P6 : Rch p e below (s₁.setTop (entryFrame m #[(.ref a1)] 1)) (T5.setTop (mkF m 8 #[rv a1] [(.ref b5), (.ref a1)])) := fun t k => P4 t (st5 t k)
  have P7 : Rch p e below (s₁.setTop (entryFrame m #[(.ref a1)] 1)) (T5.setTop (mkF m 9 #[rv a1] [(.ref b5), (.ref b5), (.ref a1)])) := fun t k => P6 t (by
    show Steps p.tables e below (T5.setTop (mkF m 8 #[rv a1] [(.ref b5), (.ref a1)])) t
    refine XS.dup X5.here hx rfl (hb hby d6_8) rfl rfl ?_
    exact k)
  have f9 : n0 ≤ h5.size := (Nat.le_trans Z0 E5.1)
  obtain ⟨_, _, ⟨T8, L8, k8, n8⟩, -, X8, ⟨Lc8, hQ8, l8, y8, z8⟩, st8⟩ := X5.specialBack hx (y := (⟨"java/util/HashMap", "<init>", "()V"⟩ : MethodName)) rfl hown (mvT hZ (hw _ (List.mem_of_getElem? (i := 51) rfl))) (mvT hZ (hw _ (List.mem_of_getElem? (i := 52) rfl))) (mvT hZ (hw _ (List.mem_of_getElem? (i := 54) rfl))) (by decide) (backOf (W := 2) (rmHM l Z a0 hw [] b5 h5 n0 f9 A5 g_b5 F5_64 F5_119) hZ (hw _ (List.mem_of_getElem? (i := 54) rfl)) (hw _ (List.mem_of_getElem? (i := 50) rfl)) (by decide) (by decide)) (g := (mkF m 9 #[rv a1] [(.ref b5), (.ref b5), (.ref a1)])) rfl (by rw [hml]; rfl) (Steps.refl _) (a := b5) (argsL := []) (rest := [(.ref b5), (.ref a1)]) (lenOf pd_0 rfl) rfl (by show 2 * 0 + _ ≤ _; exact Nat.le_of_eq rfl) (hb hby d6_9) (fun _ _ => ⟨rfl, e5, (by decide : 1 + 0 ≤ _), (by decide : 8 + 0 ≤ _)⟩)
  dsimp only [Pt.U, Pt.locs, Pt.cells, Pt.slots] at X8 l8 y8 z8 st8 hQ8
  subst y8 z8
  obtain ⟨rfl, N8q, K8, E_8, G_8⟩ := hQ8
  have N8 : Fr n0 L8 := by rw [l8]; exact Fr.app N2 N8q
  have P10 : Rch p e below (s₁.setTop (entryFrame m #[(.ref a1)] 1)) (T8.setTop (mkF m 12 #[rv a1] [(.ref b5), (.ref a1)])) := fun t k => P7 t (st8.trans k)
  obtain ⟨T11, h11, X11, e11, W11, st11⟩ := putF X8 hx hZ hown (host := "") (Or.inl (hw _ (List.mem_of_getElem? (i := 65) rfl))) Via.refl rfl ((F1.ext E5).keep K8 (ninS ne_a1_b5 nin0)) ((E1.ext E5).keep K8) (Or.inl (hw _ (List.mem_of_getElem? (i := 66) rfl))) (hw _ (List.mem_of_getElem? (i := 35) rfl)) (ty := (.object "java/util/HashMap")) (by decide) rfl rfl (g := (mkF m 12 #[rv a1] [(.ref b5), (.ref a1)])) rfl rfl (hb hby d6_12)
  have Fw11 := ((F1.ext E5).keep K8 (ninS ne_a1_b5 nin0)).same W11
  have P12 : Rch p e below (s₁.setTop (entryFrame m #[(.ref a1)] 1)) (T11.setTop (mkF m 15 #[rv a1] [])) := fun t k => P10 t (st11 t k)
  have N11 := Fr.snoc X11 N8 g1
  obtain ⟨fs, hr, hrun, hended, hW, hsame⟩ := X11.leave (v := none) (fun _ => rfl)
  refine ⟨_, _, P12 _ ?_, hrun, hended, _, _, rfl, ?_, ⟨_, rfl⟩, hW, hsame.mono (by decide) (by decide)⟩
  · exact X11.returnOut hx Bd.returns (hb hby d6_15) hr
  · show Q_rmHS Z a1 h0 n0 _ T11.heap _
    rw [e11]
    have f13 : Keep h0 h11 [a1] := ((((Keep.refl h0 [a1]).ext E5).trans K8 (allS (P := fun x => x ∈ [a1] ∨ h0.size ≤ x) (Or.inr sz_b5) all0)).wr W11 (Or.inl (List.mem_of_getElem? (i := 0) rfl)))
    exact ⟨b5, rfl, N11, f13, sz_b5, (((E1.ext E5).keep K8).wr W11), Fw11, (E_8.wr W11), (G_8.other W11 (Or.inl (Ne.symm ne_a1_b5)))⟩
def Q_rmND (Z : State) (a1 : Addr) (r2 : Value) (a3 : Addr) (q4 : Int64) (q5 : Int64) (q6 : Int64) (h0 : Heap) (n0 : Nat) (v : Option Value) (h : Heap) (L : List Loc) : Prop := ∃ (c_ : Addr), ∃ (m_ : Addr), v = none ∧ Fr n0 L ∧ Keep h0 h [a1] ∧ (h0.size ≤ c_) ∧ (h0.size ≤ m_) ∧ (Exa Z h a1 "com/example/usher/usher/core/Node") ∧ (Fld Z h a1 "com/example/usher/usher/core/Node" "children" "Ljava/util/Set;" (.ref c_)) ∧ (Fld Z h a1 "com/example/usher/usher/core/Node" "czxid" "J" (.long q5)) ∧ (Fld Z h a1 "com/example/usher/usher/core/Node" "ctime" "J" (.long q6)) ∧ (Fld Z h a1 "com/example/usher/usher/core/Node" "ephemeralOwner" "J" (.long q4)) ∧ (Fld Z h a1 "com/example/usher/usher/core/Node" "data" "[B" r2) ∧ (Fld Z h a1 "com/example/usher/usher/core/Node" "acl" "Ljava/util/List;" (.ref a3)) ∧ (Fld Z h a1 "com/example/usher/usher/core/Node" "mzxid" "J" (.long q5)) ∧ (Fld Z h a1 "com/example/usher/usher/core/Node" "mtime" "J" (.long q6)) ∧ (Fld Z h a1 "com/example/usher/usher/core/Node" "pzxid" "J" (.long q5)) ∧ (Fld Z h a1 "com/example/usher/usher/core/Node" "version" "I" (.int (0 : Int32))) ∧ (Fld Z h a1 "com/example/usher/usher/core/Node" "cversion" "I" (.int (0 : Int32))) ∧ (Fld Z h a1 "com/example/usher/usher/core/Node" "aversion" "I" (.int (0 : Int32))) ∧ (Exa Z h c_ "java/util/HashSet") ∧ (Fld Z h c_ "java/util/HashSet" "map" "Ljava/util/HashMap;" (.ref m_)) ∧ (Exa Z h m_ "java/util/HashMap") ∧ (Fld Z h m_ "java/util/HashMap" "size" "I" (.int (0 : Int32)))
set_option maxRecDepth 65536 in
set_option maxHeartbeats 40000000 in
theorem rmND (l : Launch) (Z : State) (a0 : Array Value) (hw : ∀ d ∈ tables_1, d.before a0 Z = true) (ws : List Jvm.Cond) (a1 : Addr) (r2 : Value) (a3 : Addr) (q4 : Int64) (q5 : Int64) (q6 : Int64) (h0 : Heap) (n0 : Nat) (Z0 : n0 ≤ h0.size) (hr2 : r2.isRef = true) (E1 : Exa Z h0 a1 "com/example/usher/usher/core/Node") (g1 : n0 ≤ a1) (F0 : Fld Z h0 a1 "com/example/usher/usher/core/Node" "children" "Ljava/util/Set;" .null) (F1 : Fld Z h0 a1 "com/example/usher/usher/core/Node" "czxid" "J" (.long (0 : Int64))) (F2 : Fld Z h0 a1 "com/example/usher/usher/core/Node" "ctime" "J" (.long (0 : Int64))) (F3 : Fld Z h0 a1 "com/example/usher/usher/core/Node" "ephemeralOwner" "J" (.long (0 : Int64))) (F4 : Fld Z h0 a1 "com/example/usher/usher/core/Node" "data" "[B" .null) (F5 : Fld Z h0 a1 "com/example/usher/usher/core/Node" "acl" "Ljava/util/List;" .null) (F6 : Fld Z h0 a1 "com/example/usher/usher/core/Node" "mzxid" "J" (.long (0 : Int64))) (F7 : Fld Z h0 a1 "com/example/usher/usher/core/Node" "mtime" "J" (.long (0 : Int64))) (F8 : Fld Z h0 a1 "com/example/usher/usher/core/Node" "pzxid" "J" (.long (0 : Int64))) (F9 : Fld Z h0 a1 "com/example/usher/usher/core/Node" "version" "I" (.int (0 : Int32))) (F10 : Fld Z h0 a1 "com/example/usher/usher/core/Node" "cversion" "I" (.int (0 : Int32))) (F11 : Fld Z h0 a1 "com/example/usher/usher/core/Node" "aversion" "I" (.int (0 : Int32))) :
    MetFree l (⟨"com/example/usher/usher/core/Node", "<init>", "([BLjava/util/List;JJJ)V"⟩ : MethodName) (head1 (Jvm.Cond.code (⟨"com/example/usher/usher/core/Node", "<init>", "([BLjava/util/List;JJJ)V"⟩ : MethodName) prog_19_method_1_code 9 none :: ws) ({ frames := 4, cells := 2, slots := 9, locals := 52 } : Room)) (fun a U => a = #[(.ref a1), r2, (.ref a3), (.long q4), (.long q5), (.long q6)] ∧ Z.Warmed39 U.vm ∧ U.heap = h0) (fun _ _ _ _ _ => True) (fun _ U o U' => ∃ v L, o = .returned v ∧ Q_rmND Z a1 r2 a3 q4 q5 q6 h0 n0 v U'.heap L ∧ FrameEnd U o U' L ({ frames := 4, cells := 2, slots := 9, locals := 52 } : Room).cells ({ frames := 4, cells := 2, slots := 9, locals := 52 } : Room).slots) := by
  refine MetFree.of_bodySF (plainFor_of_name pn_7) hisR ?_
  intro p e s m args below meth c s₁ Bd hml0 hP hK
  obtain ⟨rfl, hZ, hh⟩ := hP
  have hx := Bd.exec
  have hby := Bd.bytes
  have hml : c.maxLocals = 9 := hml0
  have hown : s.vm.findClass "com/example/usher/usher/core/Node" = some m.cls := findClass_of_methodNamed Bd.named
  have hnm := (name_of_methodNamed Bd.named Bd.method).1
  have X0 : Stand p l e ({ frames := 4, cells := 2, slots := 9, locals := 52 } : Room) s m #[(.ref a1), r2, (.ref a3), (.long q4), (.long q5), (.long q6)] below meth c s₁ [] 0 0 := Stand.of_body Bd
  have e0 : s₁.heap = h0 := by rw [← hh, Bd.state]; rfl
  have N0 := Fr.nil n0
  have P0 : Rch p e below (s₁.setTop (entryFrame m #[(.ref a1), r2, (.ref a3), (.long q4), (.long q5), (.long q6)] 9)) (s₁.setTop (mkF m 0 #[rv a1, .val r2, rv a3, lv q4, sd, lv q5, sd, lv q6, sd] [])) := fun t k => castTop (by rcases ref_cases hr2 with q_ | ⟨_, q_⟩ <;> rw [q_] <;> first | (simp [entryFrame, mkF, argsToLocals, Value.category]; done) | rfl) k
  have P1 : Rch p e below (s₁.setTop (entryFrame m #[(.ref a1), r2, (.ref a3), (.long q4), (.long q5), (.long q6)] 9)) (s₁.setTop (mkF m 1 #[rv a1, .val r2, rv a3, lv q4, sd, lv q5, sd, lv q6, sd] [(.ref a1)])) := fun t k => P0 t (by
    show Steps p.tables e below (s₁.setTop (mkF m 0 #[rv a1, .val r2, rv a3, lv q4, sd, lv q5, sd, lv q6, sd] [])) t
    refine XS.aloadN X0.here hx rfl (hb hby d5_0) rfl rfl ?_
    exact k)
  obtain ⟨T2, X2, e2, st2⟩ := initO X0 hx hZ hown (hw _ (List.mem_of_getElem? (i := 33) rfl)) (hw _ (List.mem_of_getElem? (i := 20) rfl)) (hw _ (List.mem_of_getElem? (i := 21) rfl)) e0 (g := (mkF m 1 #[rv a1, .val r2, rv a3, lv q4, sd, lv q5, sd, lv q6, sd] [(.ref a1)])) rfl (by rw [hml]; rfl) rfl (hb hby d5_1) (by decide) (W := 0) (by show 2 * 0 + _ ≤ _; exact Nat.le_of_eq rfl) (by decide)
  have P3 : Rch p e below (s₁.setTop (entryFrame m #[(.ref a1), r2, (.ref a3), (.long q4), (.long q5), (.long q6)] 9)) (T2.setTop (mkF m 4 #[rv a1, .val r2, rv a3, lv q4, sd, lv q5, sd, lv q6, sd] [])) := fun t k => P1 t (st2 t k)
  have P4 : Rch p e below (s₁.setTop (entryFrame m #[(.ref a1), r2, (.ref a3), (.long q4), (.long q5), (.long q6)] 9)) (T2.setTop (mkF m 5 #[rv a1, .val r2, rv a3, lv q4, sd, lv q5, sd, lv q6, sd] [(.ref a1)])) := fun t k => P3 t (by
    show Steps p.tables e below (T2.setTop (mkF m 4 #[rv a1, .val r2, rv a3, lv q4, sd, lv q5, sd, lv q6, sd] [])) t
    refine XS.aloadN X2.here hx rfl (hb hby d5_4) rfl rfl ?_
    exact k)
  obtain ⟨T5, h5, X5, e5, E5, A5, D5, -, st5⟩ := newO X2 hx hZ hown (hw _ (List.mem_of_getElem? (i := 34) rfl)) (hw _ (List.mem_of_getElem? (i := 35) rfl)) (hw _ (List.mem_of_getElem? (i := 36) rfl)) e2 (g := (mkF m 5 #[rv a1, .val r2, rv a3, lv q4, sd, lv q5, sd, lv q6, sd] [(.ref a1)])) rfl (hb hby d5_5) (by decide) (by decide)
  obtain ⟨b5, g5⟩ : ∃ z, z = h0.size := ⟨_, rfl⟩
  rw [← g5] at A5 D5 st5
  have g_b5 : n0 ≤ b5 := Nat.le_trans Z0 (Nat.le_of_eq g5.symm)
  have sz_b5 : h0.size ≤ b5 := Nat.le_trans (Keep.refl h0 [a1]).1 (Nat.le_of_eq g5.symm)
  have ne_a1_b5 : a1 ≠ b5 := Nat.ne_of_lt (Nat.lt_of_lt_of_le E1.lt (Nat.le_of_eq g5.symm))
  have F5_66 : Fld Z h5 b5 "java/util/HashSet" "map" "Ljava/util/HashMap;" .null := D5 (Or.inl (hw _ (List.mem_of_getElem? (i := 66) rfl))) (ty := (.object "java/util/HashMap")) (by decide)
  have P6 : Rch p e below (s₁.setTop (entryFrame m #[(.ref a1), r2, (.ref a3), (.long q4), (.long q5), (.long q6)] 9)) (T5.setTop (mkF m 8 #[rv a1, .val r2, rv a3, lv q4, sd, lv q5, sd, lv q6, sd] [(.ref b5), (.ref a1)])) := fun t k => P4 t (st5 t k)
  have P7 : Rch p e below (s₁.setTop (entryFrame m #[(.ref a1), r2, (.ref a3), (.long q4), (.long q5), (.long q6)] 9)) (T5.setTop (mkF m 9 #[rv a1, .val r2, rv a3, lv q4, sd, lv q5, sd, lv q6, sd] [(.ref b5), (.ref b5), (.ref a1)])) := fun t k => P6 t (by
    show Steps p.tables e below (T5.setTop (mkF m 8 #[rv a1, .val r2, rv a3, lv q4, sd, lv q5, sd, lv q6, sd] [(.ref b5), (.ref a1)])) t
    refine XS.dup X5.here hx rfl (hb hby d5_8) rfl rfl ?_
    exact k)
  have f9 : n0 ≤ h5.size := (Nat.le_trans Z0 E5.1)
  obtain ⟨_, _, ⟨T8, L8, k8, n8⟩, -, X8, ⟨Lc8, hQ8, l8, y8, z8⟩, st8⟩ := X5.specialBack hx (y := (⟨"java/util/HashSet", "<init>", "()V"⟩ : MethodName)) rfl hown (mvT hZ (hw _ (List.mem_of_getElem? (i := 37) rfl))) (mvT hZ (hw _ (List.mem_of_getElem? (i := 38) rfl))) (mvT hZ (hw _ (List.mem_of_getElem? (i := 39) rfl))) (by decide) (backOf (W := 2) (rmHS l Z a0 hw [] b5 h5 n0 f9 A5 g_b5 F5_66) hZ (hw _ (List.mem_of_getElem? (i := 39) rfl)) (hw _ (List.mem_of_getElem? (i := 36) rfl)) (by decide) (by decide)) (g := (mkF m 9 #[rv a1, .val r2, rv a3, lv q4, sd, lv q5, sd, lv q6, sd] [(.ref b5), (.ref b5), (.ref a1)])) rfl (by rw [hml]; rfl) (Steps.refl _) (a := b5) (argsL := []) (rest := [(.ref b5), (.ref a1)]) (lenOf pd_0 rfl) rfl (by show 2 * 0 + _ ≤ _; exact Nat.le_of_eq rfl) (hb hby d5_9) (fun _ _ => ⟨rfl, e5, (by decide : 1 + 1 ≤ _), (by decide : 1 + 8 ≤ _)⟩)
  dsimp only [Pt.U, Pt.locs, Pt.cells, Pt.slots] at X8 l8 y8 z8 st8 hQ8
  subst y8 z8
  have f10 : Keep h0 h5 [a1] := ((Keep.refl h0 [a1]).ext E5)
  obtain ⟨m__8, rfl, N8q, K8, Fz_8, E_8, G_8, Em_8, Gm_8⟩ := hQ8
  have N8 : Fr n0 L8 := by rw [l8]; exact Fr.app N0 N8q
  have g_m__8 : n0 ≤ m__8 := Nat.le_trans f9 Fz_8
  have sz_m__8 : h0.size ≤ m__8 := Nat.le_trans f10.1 Fz_8
  have ne_a1_m__8 : a1 ≠ m__8 := Nat.ne_of_lt (Nat.lt_of_lt_of_le (E1.ext E5).lt Fz_8)
  have ne_b5_m__8 : b5 ≠ m__8 := Nat.ne_of_lt (Nat.lt_of_lt_of_le A5.lt Fz_8)
  have P11 : Rch p e below (s₁.setTop (entryFrame m #[(.ref a1), r2, (.ref a3), (.long q4), (.long q5), (.long q6)] 9)) (T8.setTop (mkF m 12 #[rv a1, .val r2, rv a3, lv q4, sd, lv q5, sd, lv q6, sd] [(.ref b5), (.ref a1)])) := fun t k => P7 t (st8.trans k)
  obtain ⟨T12, h12, X12, e12, W12, st12⟩ := putF X8 hx hZ hown (host := "") (Or.inl (hw _ (List.mem_of_getElem? (i := 67) rfl))) Via.refl rfl ((F0.ext E5).keep K8 (ninS ne_a1_b5 nin0)) ((E1.ext E5).keep K8) (Or.inr ⟨(hw _ (List.mem_of_getElem? (i := 68) rfl)), rfl, hnm⟩) (hw _ (List.mem_of_getElem? (i := 28) rfl)) (ty := (.object "java/util/Set")) (by decide) rfl rfl (g := (mkF m 12 #[rv a1, .val r2, rv a3, lv q4, sd, lv q5, sd, lv q6, sd] [(.ref b5), (.ref a1)])) rfl rfl (hb hby d5_12)
  have Fw12 := ((F0.ext E5).keep K8 (ninS ne_a1_b5 nin0)).same W12
  have P13 : Rch p e below (s₁.setTop (entryFrame m #[(.ref a1), r2, (.ref a3), (.long q4), (.long q5), (.long q6)] 9)) (T12.setTop (mkF m 15 #[rv a1, .val r2, rv a3, lv q4, sd, lv q5, sd, lv q6, sd] [])) := fun t k => P11 t (st12 t k)
  have N12 := Fr.snoc X12 N8 g1
  have P14 : Rch p e below (s₁.setTop (entryFrame m #[(.ref a1), r2, (.ref a3), (.long q4), (.long q5), (.long q6)] 9)) (T12.setTop (mkF m 18 #[rv a1, .val r2, rv a3, lv q4, sd, lv q5, sd, lv q6, sd] [(.long q5), (.ref a1)])) := fun t k => P13 t (by
    show Steps p.tables e below (T12.setTop (mkF m 15 #[rv a1, .val r2, rv a3, lv q4, sd, lv q5, sd, lv q6, sd] [])) t
    refine XS.aloadN X12.here hx rfl (hb hby d5_15) rfl rfl ?_
    refine XS.lload X12.here hx rfl (hb hby d5_16) rfl ?_
    exact k)
  have f16 : Fld Z h12 a1 "com/example/usher/usher/core/Node" "czxid" "J" (.long (0 : Int64)) := (((F1.ext E5).keep K8 (ninS ne_a1_b5 nin0)).other W12 (Or.inr (slot_ne (Or.inr (hw _ (List.mem_of_getElem? (i := 70) rfl))) (Or.inr (hw _ (List.mem_of_getElem? (i := 68) rfl))) (by decide) (t := .long) (t' := (.object "java/util/Set")) (by decide) (by decide))))
  obtain ⟨T15, h15, X15, e15, W15, st15⟩ := putF X12 hx hZ hown (host := "") (Or.inl (hw _ (List.mem_of_getElem? (i := 69) rfl))) Via.refl e12 f16 (((E1.ext E5).keep K8).wr W12) (Or.inr ⟨(hw _ (List.mem_of_getElem? (i := 70) rfl)), rfl, hnm⟩) (hw _ (List.mem_of_getElem? (i := 28) rfl)) (ty := .long) (by decide) rfl rfl (g := (mkF m 18 #[rv a1, .val r2, rv a3, lv q4, sd, lv q5, sd, lv q6, sd] [(.long q5), (.ref a1)])) rfl rfl (hb hby d5_18)
  have Fw15 := f16.same W15
  have P17 : Rch p e below (s₁.setTop (entryFrame m #[(.ref a1), r2, (.ref a3), (.long q4), (.long q5), (.long q6)] 9)) (T15.setTop (mkF m 21 #[rv a1, .val r2, rv a3, lv q4, sd, lv q5, sd, lv q6, sd] [])) := fun t k => P14 t (st15 t k)
  have N15 := Fr.snoc X15 N12 g1
  have P18 : Rch p e below (s₁.setTop (entryFrame m #[(.ref a1), r2, (.ref a3), (.long q4), (.long q5), (.long q6)] 9)) (T15.setTop (mkF m 24 #[rv a1, .val r2, rv a3, lv q4, sd, lv q5, sd, lv q6, sd] [(.long q6), (.ref a1)])) := fun t k => P17 t (by
    show Steps p.tables e below (T15.setTop (mkF m 21 #[rv a1, .val r2, rv a3, lv q4, sd, lv q5, sd, lv q6, sd] [])) t
    refine XS.aloadN X15.here hx rfl (hb hby d5_21) rfl rfl ?_
    refine XS.lload X15.here hx rfl (hb hby d5_22) rfl ?_
    exact k)
  have f20 : Fld Z h15 a1 "com/example/usher/usher/core/Node" "ctime" "J" (.long (0 : Int64)) := ((((F2.ext E5).keep K8 (ninS ne_a1_b5 nin0)).other W12 (Or.inr (slot_ne (Or.inr (hw _ (List.mem_of_getElem? (i := 72) rfl))) (Or.inr (hw _ (List.mem_of_getElem? (i := 68) rfl))) (by decide) (t := .long) (t' := (.object "java/util/Set")) (by decide) (by decide)))).other W15 (Or.inr (slot_ne (Or.inr (hw _ (List.mem_of_getElem? (i := 72) rfl))) (Or.inr (hw _ (List.mem_of_getElem? (i := 70) rfl))) (by decide) (t := .long) (t' := .long) (by decide) (by decide))))
  obtain ⟨T19, h19, X19, e19, W19, st19⟩ := putF X15 hx hZ hown (host := "") (Or.inl (hw _ (List.mem_of_getElem? (i := 71) rfl))) Via.refl e15 f20 ((((E1.ext E5).keep K8).wr W12).wr W15) (Or.inr ⟨(hw _ (List.mem_of_getElem? (i := 72) rfl)), rfl, hnm⟩) (hw _ (List.mem_of_getElem? (i := 28) rfl)) (ty := .long) (by decide) rfl rfl (g := (mkF m 24 #[rv a1, .val r2, rv a3, lv q4, sd, lv q5, sd, lv q6, sd] [(.long q6), (.ref a1)])) rfl rfl (hb hby d5_24)
  have Fw19 := f20.same W19
  have P21 : Rch p e below (s₁.setTop (entryFrame m #[(.ref a1), r2, (.ref a3), (.long q4), (.long q5), (.long q6)] 9)) (T19.setTop (mkF m 27 #[rv a1, .val r2, rv a3, lv q4, sd, lv q5, sd, lv q6, sd] [])) := fun t k => P18 t (st19 t k)
  have N19 := Fr.snoc X19 N15 g1
  have P22 : Rch p e below (s₁.setTop (entryFrame m #[(.ref a1), r2, (.ref a3), (.long q4), (.long q5), (.long q6)] 9)) (T19.setTop (mkF m 29 #[rv a1, .val r2, rv a3, lv q4, sd, lv q5, sd, lv q6, sd] [(.long q4), (.ref a1)])) := fun t k => P21 t (by
    show Steps p.tables e below (T19.setTop (mkF m 27 #[rv a1, .val r2, rv a3, lv q4, sd, lv q5, sd, lv q6, sd] [])) t
    refine XS.aloadN X19.here hx rfl (hb hby d5_27) rfl rfl ?_
    refine XS.lloadN X19.here hx rfl (hb hby d5_28) rfl ?_
    exact k)
  have f24 : Fld Z h19 a1 "com/example/usher/usher/core/Node" "ephemeralOwner" "J" (.long (0 : Int64)) := (((((F3.ext E5).keep K8 (ninS ne_a1_b5 nin0)).other W12 (Or.inr (slot_ne (Or.inr (hw _ (List.mem_of_getElem? (i := 74) rfl))) (Or.inr (hw _ (List.mem_of_getElem? (i := 68) rfl))) (by decide) (t := .long) (t' := (.object "java/util/Set")) (by decide) (by decide)))).other W15 (Or.inr (slot_ne (Or.inr (hw _ (List.mem_of_getElem? (i := 74) rfl))) (Or.inr (hw _ (List.mem_of_getElem? (i := 70) rfl))) (by decide) (t := .long) (t' := .long) (by decide) (by decide)))).other W19 (Or.inr (slot_ne (Or.inr (hw _ (List.mem_of_getElem? (i := 74) rfl))) (Or.inr (hw _ (List.mem_of_getElem? (i := 72) rfl))) (by decide) (t := .long) (t' := .long) (by decide) (by decide))))
  obtain ⟨T23, h23, X23, e23, W23, st23⟩ := putF X19 hx hZ hown (host := "") (Or.inl (hw _ (List.mem_of_getElem? (i := 73) rfl))) Via.refl e19 f24 (((((E1.ext E5).keep K8).wr W12).wr W15).wr W19) (Or.inr ⟨(hw _ (List.mem_of_getElem? (i := 74) rfl)), rfl, hnm⟩) (hw _ (List.mem_of_getElem? (i := 28) rfl)) (ty := .long) (by decide) rfl rfl (g := (mkF m 29 #[rv a1, .val r2, rv a3, lv q4, sd, lv q5, sd, lv q6, sd] [(.long q4), (.ref a1)])) rfl rfl (hb hby d5_29)
  have Fw23 := f24.same W23
  have P25 : Rch p e below (s₁.setTop (entryFrame m #[(.ref a1), r2, (.ref a3), (.long q4), (.long q5), (.long q6)] 9)) (T23.setTop (mkF m 32 #[rv a1, .val r2, rv a3, lv q4, sd, lv q5, sd, lv q6, sd] [])) := fun t k => P22 t (st23 t k)
  have N23 := Fr.snoc X23 N19 g1
  have P26 : Rch p e below (s₁.setTop (entryFrame m #[(.ref a1), r2, (.ref a3), (.long q4), (.long q5), (.long q6)] 9)) (T23.setTop (mkF m 34 #[rv a1, .val r2, rv a3, lv q4, sd, lv q5, sd, lv q6, sd] [r2, (.ref a1)])) := fun t k => P25 t (by
    show Steps p.tables e below (T23.setTop (mkF m 32 #[rv a1, .val r2, rv a3, lv q4, sd, lv q5, sd, lv q6, sd] [])) t
    refine XS.aloadN X23.here hx rfl (hb hby d5_32) rfl rfl ?_
    refine XS.aloadN X23.here hx rfl (hb hby d5_33) rfl hr2 ?_
    exact k)
  have f28 : Fld Z h23 a1 "com/example/usher/usher/core/Node" "data" "[B" .null := ((((((F4.ext E5).keep K8 (ninS ne_a1_b5 nin0)).other W12 (Or.inr (slot_ne (Or.inl (hw _ (List.mem_of_getElem? (i := 76) rfl))) (Or.inr (hw _ (List.mem_of_getElem? (i := 68) rfl))) (by decide) (t := (.array .byte)) (t' := (.object "java/util/Set")) (by decide) (by decide)))).other W15 (Or.inr (slot_ne (Or.inl (hw _ (List.mem_of_getElem? (i := 76) rfl))) (Or.inr (hw _ (List.mem_of_getElem? (i := 70) rfl))) (by decide) (t := (.array .byte)) (t' := .long) (by decide) (by decide)))).other W19 (Or.inr (slot_ne (Or.inl (hw _ (List.mem_of_getElem? (i := 76) rfl))) (Or.inr (hw _ (List.mem_of_getElem? (i := 72) rfl))) (by decide) (t := (.array .byte)) (t' := .long) (by decide) (by decide)))).other W23 (Or.inr (slot_ne (Or.inl (hw _ (List.mem_of_getElem? (i := 76) rfl))) (Or.inr (hw _ (List.mem_of_getElem? (i := 74) rfl))) (by decide) (t := (.array .byte)) (t' := .long) (by decide) (by decide))))
  obtain ⟨T27, h27, X27, e27, W27, st27⟩ := putF X23 hx hZ hown (host := "") (Or.inl (hw _ (List.mem_of_getElem? (i := 75) rfl))) Via.refl e23 f28 ((((((E1.ext E5).keep K8).wr W12).wr W15).wr W19).wr W23) (Or.inl (hw _ (List.mem_of_getElem? (i := 76) rfl))) (hw _ (List.mem_of_getElem? (i := 28) rfl)) (ty := (.array .byte)) (by decide) (own_nar hr2) (own_fit hr2) (g := (mkF m 34 #[rv a1, .val r2, rv a3, lv q4, sd, lv q5, sd, lv q6, sd] [r2, (.ref a1)])) rfl rfl (hb hby d5_34)
  have Fw27 := f28.same W27
  have P29 : Rch p e below (s₁.setTop (entryFrame m #[(.ref a1), r2, (.ref a3), (.long q4), (.long q5), (.long q6)] 9)) (T27.setTop (mkF m 37 #[rv a1, .val r2, rv a3, lv q4, sd, lv q5, sd, lv q6, sd] [])) := fun t k => P26 t (st27 t k)
  have N27 := Fr.snoc X27 N23 g1
  have P30 : Rch p e below (s₁.setTop (entryFrame m #[(.ref a1), r2, (.ref a3), (.long q4), (.long q5), (.long q6)] 9)) (T27.setTop (mkF m 39 #[rv a1, .val r2, rv a3, lv q4, sd, lv q5, sd, lv q6, sd] [(.ref a3), (.ref a1)])) := fun t k => P29 t (by
    show Steps p.tables e below (T27.setTop (mkF m 37 #[rv a1, .val r2, rv a3, lv q4, sd, lv q5, sd, lv q6, sd] [])) t
    refine XS.aloadN X27.here hx rfl (hb hby d5_37) rfl rfl ?_
    refine XS.aloadN X27.here hx rfl (hb hby d5_38) rfl rfl ?_
    exact k)
  have f32 : Exa Z h27 a1 "com/example/usher/usher/core/Node" := (((((((E1.ext E5).keep K8).wr W12).wr W15).wr W19).wr W23).wr W27)
  have f33 : Fld Z h27 a1 "com/example/usher/usher/core/Node" "acl" "Ljava/util/List;" .null := (((((((F5.ext E5).keep K8 (ninS ne_a1_b5 nin0)).other W12 (Or.inr (slot_ne (Or.inl (hw _ (List.mem_of_getElem? (i := 78) rfl))) (Or.inr (hw _ (List.mem_of_getElem? (i := 68) rfl))) (by decide) (t := (.object "java/util/List")) (t' := (.object "java/util/Set")) (by decide) (by decide)))).other W15 (Or.inr (slot_ne (Or.inl (hw _ (List.mem_of_getElem? (i := 78) rfl))) (Or.inr (hw _ (List.mem_of_getElem? (i := 70) rfl))) (by decide) (t := (.object "java/util/List")) (t' := .long) (by decide) (by decide)))).other W19 (Or.inr (slot_ne (Or.inl (hw _ (List.mem_of_getElem? (i := 78) rfl))) (Or.inr (hw _ (List.mem_of_getElem? (i := 72) rfl))) (by decide) (t := (.object "java/util/List")) (t' := .long) (by decide) (by decide)))).other W23 (Or.inr (slot_ne (Or.inl (hw _ (List.mem_of_getElem? (i := 78) rfl))) (Or.inr (hw _ (List.mem_of_getElem? (i := 74) rfl))) (by decide) (t := (.object "java/util/List")) (t' := .long) (by decide) (by decide)))).other W27 (Or.inr (slot_ne (Or.inl (hw _ (List.mem_of_getElem? (i := 78) rfl))) (Or.inl (hw _ (List.mem_of_getElem? (i := 76) rfl))) (by decide) (t := (.object "java/util/List")) (t' := (.array .byte)) (by decide) (by decide))))
  obtain ⟨T31, h31, X31, e31, W31, st31⟩ := putF X27 hx hZ hown (host := "") (Or.inl (hw _ (List.mem_of_getElem? (i := 77) rfl))) Via.refl e27 f33 f32 (Or.inl (hw _ (List.mem_of_getElem? (i := 78) rfl))) (hw _ (List.mem_of_getElem? (i := 28) rfl)) (ty := (.object "java/util/List")) (by decide) rfl rfl (g := (mkF m 39 #[rv a1, .val r2, rv a3, lv q4, sd, lv q5, sd, lv q6, sd] [(.ref a3), (.ref a1)])) rfl rfl (hb hby d5_39)
  have Fw31 := f33.same W31
  have P34 : Rch p e below (s₁.setTop (entryFrame m #[(.ref a1), r2, (.ref a3), (.long q4), (.long q5), (.long q6)] 9)) (T31.setTop (mkF m 42 #[rv a1, .val r2, rv a3, lv q4, sd, lv q5, sd, lv q6, sd] [])) := fun t k => P30 t (st31 t k)
  have N31 := Fr.snoc X31 N27 g1
  have P35 : Rch p e below (s₁.setTop (entryFrame m #[(.ref a1), r2, (.ref a3), (.long q4), (.long q5), (.long q6)] 9)) (T31.setTop (mkF m 45 #[rv a1, .val r2, rv a3, lv q4, sd, lv q5, sd, lv q6, sd] [(.long q5), (.ref a1)])) := fun t k => P34 t (by
    show Steps p.tables e below (T31.setTop (mkF m 42 #[rv a1, .val r2, rv a3, lv q4, sd, lv q5, sd, lv q6, sd] [])) t
    refine XS.aloadN X31.here hx rfl (hb hby d5_42) rfl rfl ?_
    refine XS.lload X31.here hx rfl (hb hby d5_43) rfl ?_
    exact k)
  have f37 : Fld Z h31 a1 "com/example/usher/usher/core/Node" "mzxid" "J" (.long (0 : Int64)) := ((((((((F6.ext E5).keep K8 (ninS ne_a1_b5 nin0)).other W12 (Or.inr (slot_ne (Or.inl (hw _ (List.mem_of_getElem? (i := 80) rfl))) (Or.inr (hw _ (List.mem_of_getElem? (i := 68) rfl))) (by decide) (t := .long) (t' := (.object "java/util/Set")) (by decide) (by decide)))).other W15 (Or.inr (slot_ne (Or.inl (hw _ (List.mem_of_getElem? (i := 80) rfl))) (Or.inr (hw _ (List.mem_of_getElem? (i := 70) rfl))) (by decide) (t := .long) (t' := .long) (by decide) (by decide)))).other W19 (Or.inr (slot_ne (Or.inl (hw _ (List.mem_of_getElem? (i := 80) rfl))) (Or.inr (hw _ (List.mem_of_getElem? (i := 72) rfl))) (by decide) (t := .long) (t' := .long) (by decide) (by decide)))).other W23 (Or.inr (slot_ne (Or.inl (hw _ (List.mem_of_getElem? (i := 80) rfl))) (Or.inr (hw _ (List.mem_of_getElem? (i := 74) rfl))) (by decide) (t := .long) (t' := .long) (by decide) (by decide)))).other W27 (Or.inr (slot_ne (Or.inl (hw _ (List.mem_of_getElem? (i := 80) rfl))) (Or.inl (hw _ (List.mem_of_getElem? (i := 76) rfl))) (by decide) (t := .long) (t' := (.array .byte)) (by decide) (by decide)))).other W31 (Or.inr (slot_ne (Or.inl (hw _ (List.mem_of_getElem? (i := 80) rfl))) (Or.inl (hw _ (List.mem_of_getElem? (i := 78) rfl))) (by decide) (t := .long) (t' := (.object "java/util/List")) (by decide) (by decide))))
  obtain ⟨T36, h36, X36, e36, W36, st36⟩ := putF X31 hx hZ hown (host := "") (Or.inl (hw _ (List.mem_of_getElem? (i := 79) rfl))) Via.refl e31 f37 (f32.wr W31) (Or.inl (hw _ (List.mem_of_getElem? (i := 80) rfl))) (hw _ (List.mem_of_getElem? (i := 28) rfl)) (ty := .long) (by decide) rfl rfl (g := (mkF m 45 #[rv a1, .val r2, rv a3, lv q4, sd, lv q5, sd, lv q6, sd] [(.long q5), (.ref a1)])) rfl rfl (hb hby d5_45)
  have Fw36 := f37.same W36
  have P38 : Rch p e below (s₁.setTop (entryFrame m #[(.ref a1), r2, (.ref a3), (.long q4), (.long q5), (.long q6)] 9)) (T36.setTop (mkF m 48 #[rv a1, .val r2, rv a3, lv q4, sd, lv q5, sd, lv q6, sd] [])) := fun t k => P35 t (st36 t k)
  have N36 := Fr.snoc X36 N31 g1
  have P39 : Rch p e below (s₁.setTop (entryFrame m #[(.ref a1), r2, (.ref a3), (.long q4), (.long q5), (.long q6)] 9)) (T36.setTop (mkF m 51 #[rv a1, .val r2, rv a3, lv q4, sd, lv q5, sd, lv q6, sd] [(.long q6), (.ref a1)])) := fun t k => P38 t (by
    show Steps p.tables e below (T36.setTop (mkF m 48 #[rv a1, .val r2, rv a3, lv q4, sd, lv q5, sd, lv q6, sd] [])) t
    refine XS.aloadN X36.here hx rfl (hb hby d5_48) rfl rfl ?_
    refine XS.lload X36.here hx rfl (hb hby d5_49) rfl ?_
    exact k)
  have f41 : Fld Z h36 a1 "com/example/usher/usher/core/Node" "mtime" "J" (.long (0 : Int64)) := (((((((((F7.ext E5).keep K8 (ninS ne_a1_b5 nin0)).other W12 (Or.inr (slot_ne (Or.inl (hw _ (List.mem_of_getElem? (i := 82) rfl))) (Or.inr (hw _ (List.mem_of_getElem? (i := 68) rfl))) (by decide) (t := .long) (t' := (.object "java/util/Set")) (by decide) (by decide)))).other W15 (Or.inr (slot_ne (Or.inl (hw _ (List.mem_of_getElem? (i := 82) rfl))) (Or.inr (hw _ (List.mem_of_getElem? (i := 70) rfl))) (by decide) (t := .long) (t' := .long) (by decide) (by decide)))).other W19 (Or.inr (slot_ne (Or.inl (hw _ (List.mem_of_getElem? (i := 82) rfl))) (Or.inr (hw _ (List.mem_of_getElem? (i := 72) rfl))) (by decide) (t := .long) (t' := .long) (by decide) (by decide)))).other W23 (Or.inr (slot_ne (Or.inl (hw _ (List.mem_of_getElem? (i := 82) rfl))) (Or.inr (hw _ (List.mem_of_getElem? (i := 74) rfl))) (by decide) (t := .long) (t' := .long) (by decide) (by decide)))).other W27 (Or.inr (slot_ne (Or.inl (hw _ (List.mem_of_getElem? (i := 82) rfl))) (Or.inl (hw _ (List.mem_of_getElem? (i := 76) rfl))) (by decide) (t := .long) (t' := (.array .byte)) (by decide) (by decide)))).other W31 (Or.inr (slot_ne (Or.inl (hw _ (List.mem_of_getElem? (i := 82) rfl))) (Or.inl (hw _ (List.mem_of_getElem? (i := 78) rfl))) (by decide) (t := .long) (t' := (.object "java/util/List")) (by decide) (by decide)))).other W36 (Or.inr (slot_ne (Or.inl (hw _ (List.mem_of_getElem? (i := 82) rfl))) (Or.inl (hw _ (List.mem_of_getElem? (i := 80) rfl))) (by decide) (t := .long) (t' := .long) (by decide) (by decide))))
  obtain ⟨T40, h40, X40, e40, W40, st40⟩ := putF X36 hx hZ hown (host := "") (Or.inl (hw _ (List.mem_of_getElem? (i := 81) rfl))) Via.refl e36 f41 ((f32.wr W31).wr W36) (Or.inl (hw _ (List.mem_of_getElem? (i := 82) rfl))) (hw _ (List.mem_of_getElem? (i := 28) rfl)) (ty := .long) (by decide) rfl rfl (g := (mkF m 51 #[rv a1, .val r2, rv a3, lv q4, sd, lv q5, sd, lv q6, sd] [(.long q6), (.ref a1)])) rfl rfl (hb hby d5_51)
  have Fw40 := f41.same W40
  have P42 : Rch p e below (s₁.setTop (entryFrame m #[(.ref a1), r2, (.ref a3), (.long q4), (.long q5), (.long q6)] 9)) (T40.setTop (mkF m 54 #[rv a1, .val r2, rv a3, lv q4, sd, lv q5, sd, lv q6, sd] [])) := fun t k => P39 t (st40 t k)
  have N40 := Fr.snoc X40 N36 g1
  have P43 : Rch p e below (s₁.setTop (entryFrame m #[(.ref a1), r2, (.ref a3), (.long q4), (.long q5), (.long q6)] 9)) (T40.setTop (mkF m 57 #[rv a1, .val r2, rv a3, lv q4, sd, lv q5, sd, lv q6, sd] [(.long q5), (.ref a1)])) := fun t k => P42 t (by
    show Steps p.tables e below (T40.setTop (mkF m 54 #[rv a1, .val r2, rv a3, lv q4, sd, lv q5, sd, lv q6, sd] [])) t
    refine XS.aloadN X40.here hx rfl (hb hby d5_54) rfl rfl ?_
    refine XS.lload X40.here hx rfl (hb hby d5_55) rfl ?_
    exact k)
  have f45 : Fld Z h40 a1 "com/example/usher/usher/core/Node" "pzxid" "J" (.long (0 : Int64)) := ((((((((((F8.ext E5).keep K8 (ninS ne_a1_b5 nin0)).other W12 (Or.inr (slot_ne (Or.inl (hw _ (List.mem_of_getElem? (i := 84) rfl))) (Or.inr (hw _ (List.mem_of_getElem? (i := 68) rfl))) (by decide) (t := .long) (t' := (.object "java/util/Set")) (by decide) (by decide)))).other W15 (Or.inr (slot_ne (Or.inl (hw _ (List.mem_of_getElem? (i := 84) rfl))) (Or.inr (hw _ (List.mem_of_getElem? (i := 70) rfl))) (by decide) (t := .long) (t' := .long) (by decide) (by decide)))).other W19 (Or.inr (slot_ne (Or.inl (hw _ (List.mem_of_getElem? (i := 84) rfl))) (Or.inr (hw _ (List.mem_of_getElem? (i := 72) rfl))) (by decide) (t := .long) (t' := .long) (by decide) (by decide)))).other W23 (Or.inr (slot_ne (Or.inl (hw _ (List.mem_of_getElem? (i := 84) rfl))) (Or.inr (hw _ (List.mem_of_getElem? (i := 74) rfl))) (by decide) (t := .long) (t' := .long) (by decide) (by decide)))).other W27 (Or.inr (slot_ne (Or.inl (hw _ (List.mem_of_getElem? (i := 84) rfl))) (Or.inl (hw _ (List.mem_of_getElem? (i := 76) rfl))) (by decide) (t := .long) (t' := (.array .byte)) (by decide) (by decide)))).other W31 (Or.inr (slot_ne (Or.inl (hw _ (List.mem_of_getElem? (i := 84) rfl))) (Or.inl (hw _ (List.mem_of_getElem? (i := 78) rfl))) (by decide) (t := .long) (t' := (.object "java/util/List")) (by decide) (by decide)))).other W36 (Or.inr (slot_ne (Or.inl (hw _ (List.mem_of_getElem? (i := 84) rfl))) (Or.inl (hw _ (List.mem_of_getElem? (i := 80) rfl))) (by decide) (t := .long) (t' := .long) (by decide) (by decide)))).other W40 (Or.inr (slot_ne (Or.inl (hw _ (List.mem_of_getElem? (i := 84) rfl))) (Or.inl (hw _ (List.mem_of_getElem? (i := 82) rfl))) (by decide) (t := .long) (t' := .long) (by decide) (by decide))))
  obtain ⟨T44, h44, X44, e44, W44, st44⟩ := putF X40 hx hZ hown (host := "") (Or.inl (hw _ (List.mem_of_getElem? (i := 83) rfl))) Via.refl e40 f45 (((f32.wr W31).wr W36).wr W40) (Or.inl (hw _ (List.mem_of_getElem? (i := 84) rfl))) (hw _ (List.mem_of_getElem? (i := 28) rfl)) (ty := .long) (by decide) rfl rfl (g := (mkF m 57 #[rv a1, .val r2, rv a3, lv q4, sd, lv q5, sd, lv q6, sd] [(.long q5), (.ref a1)])) rfl rfl (hb hby d5_57)
  have Fw44 := f45.same W44
  have P46 : Rch p e below (s₁.setTop (entryFrame m #[(.ref a1), r2, (.ref a3), (.long q4), (.long q5), (.long q6)] 9)) (T44.setTop (mkF m 60 #[rv a1, .val r2, rv a3, lv q4, sd, lv q5, sd, lv q6, sd] [])) := fun t k => P43 t (st44 t k)
  have N44 := Fr.snoc X44 N40 g1
  obtain ⟨fs, hr, hrun, hended, hW, hsame⟩ := X44.leave (v := none) (fun _ => rfl)
  refine ⟨_, _, P46 _ ?_, hrun, hended, _, _, rfl, ?_, ⟨_, rfl⟩, hW, hsame.mono (by decide) (by decide)⟩
  · exact X44.returnOut hx Bd.returns (hb hby d5_60) hr
  · show Q_rmND Z a1 r2 a3 q4 q5 q6 h0 n0 _ T44.heap _
    rw [e44]
    have f47 : Fld Z h44 a1 "com/example/usher/usher/core/Node" "children" "Ljava/util/Set;" (.ref b5) := ((((((((Fw12.other W15 (Or.inr (slot_ne (Or.inr (hw _ (List.mem_of_getElem? (i := 68) rfl))) (Or.inr (hw _ (List.mem_of_getElem? (i := 70) rfl))) (by decide) (t := (.object "java/util/Set")) (t' := .long) (by decide) (by decide)))).other W19 (Or.inr (slot_ne (Or.inr (hw _ (List.mem_of_getElem? (i := 68) rfl))) (Or.inr (hw _ (List.mem_of_getElem? (i := 72) rfl))) (by decide) (t := (.object "java/util/Set")) (t' := .long) (by decide) (by decide)))).other W23 (Or.inr (slot_ne (Or.inr (hw _ (List.mem_of_getElem? (i := 68) rfl))) (Or.inr (hw _ (List.mem_of_getElem? (i := 74) rfl))) (by decide) (t := (.object "java/util/Set")) (t' := .long) (by decide) (by decide)))).other W27 (Or.inr (slot_ne (Or.inr (hw _ (List.mem_of_getElem? (i := 68) rfl))) (Or.inl (hw _ (List.mem_of_getElem? (i := 76) rfl))) (by decide) (t := (.object "java/util/Set")) (t' := (.array .byte)) (by decide) (by decide)))).other W31 (Or.inr (slot_ne (Or.inr (hw _ (List.mem_of_getElem? (i := 68) rfl))) (Or.inl (hw _ (List.mem_of_getElem? (i := 78) rfl))) (by decide) (t := (.object "java/util/Set")) (t' := (.object "java/util/List")) (by decide) (by decide)))).other W36 (Or.inr (slot_ne (Or.inr (hw _ (List.mem_of_getElem? (i := 68) rfl))) (Or.inl (hw _ (List.mem_of_getElem? (i := 80) rfl))) (by decide) (t := (.object "java/util/Set")) (t' := .long) (by decide) (by decide)))).other W40 (Or.inr (slot_ne (Or.inr (hw _ (List.mem_of_getElem? (i := 68) rfl))) (Or.inl (hw _ (List.mem_of_getElem? (i := 82) rfl))) (by decide) (t := (.object "java/util/Set")) (t' := .long) (by decide) (by decide)))).other W44 (Or.inr (slot_ne (Or.inr (hw _ (List.mem_of_getElem? (i := 68) rfl))) (Or.inl (hw _ (List.mem_of_getElem? (i := 84) rfl))) (by decide) (t := (.object "java/util/Set")) (t' := .long) (by decide) (by decide))))
    have f48 : Fld Z h44 b5 "java/util/HashSet" "map" "Ljava/util/HashMap;" (.ref m__8) := (((((((((G_8.other W12 (Or.inl (Ne.symm ne_a1_b5))).other W15 (Or.inl (Ne.symm ne_a1_b5))).other W19 (Or.inl (Ne.symm ne_a1_b5))).other W23 (Or.inl (Ne.symm ne_a1_b5))).other W27 (Or.inl (Ne.symm ne_a1_b5))).other W31 (Or.inl (Ne.symm ne_a1_b5))).other W36 (Or.inl (Ne.symm ne_a1_b5))).other W40 (Or.inl (Ne.symm ne_a1_b5))).other W44 (Or.inl (Ne.symm ne_a1_b5)))
    have f49 : Keep h0 h44 [a1] := ((((((((((f10.trans K8 (allS (P := fun x => x ∈ [a1] ∨ h0.size ≤ x) (Or.inr sz_b5) all0)).wr W12 (Or.inl (List.mem_of_getElem? (i := 0) rfl))).wr W15 (Or.inl (List.mem_of_getElem? (i := 0) rfl))).wr W19 (Or.inl (List.mem_of_getElem? (i := 0) rfl))).wr W23 (Or.inl (List.mem_of_getElem? (i := 0) rfl))).wr W27 (Or.inl (List.mem_of_getElem? (i := 0) rfl))).wr W31 (Or.inl (List.mem_of_getElem? (i := 0) rfl))).wr W36 (Or.inl (List.mem_of_getElem? (i := 0) rfl))).wr W40 (Or.inl (List.mem_of_getElem? (i := 0) rfl))).wr W44 (Or.inl (List.mem_of_getElem? (i := 0) rfl)))
    have f50 : Fld Z h44 a1 "com/example/usher/usher/core/Node" "czxid" "J" (.long q5) := (((((((Fw15.other W19 (Or.inr (slot_ne (Or.inr (hw _ (List.mem_of_getElem? (i := 70) rfl))) (Or.inr (hw _ (List.mem_of_getElem? (i := 72) rfl))) (by decide) (t := .long) (t' := .long) (by decide) (by decide)))).other W23 (Or.inr (slot_ne (Or.inr (hw _ (List.mem_of_getElem? (i := 70) rfl))) (Or.inr (hw _ (List.mem_of_getElem? (i := 74) rfl))) (by decide) (t := .long) (t' := .long) (by decide) (by decide)))).other W27 (Or.inr (slot_ne (Or.inr (hw _ (List.mem_of_getElem? (i := 70) rfl))) (Or.inl (hw _ (List.mem_of_getElem? (i := 76) rfl))) (by decide) (t := .long) (t' := (.array .byte)) (by decide) (by decide)))).other W31 (Or.inr (slot_ne (Or.inr (hw _ (List.mem_of_getElem? (i := 70) rfl))) (Or.inl (hw _ (List.mem_of_getElem? (i := 78) rfl))) (by decide) (t := .long) (t' := (.object "java/util/List")) (by decide) (by decide)))).other W36 (Or.inr (slot_ne (Or.inr (hw _ (List.mem_of_getElem? (i := 70) rfl))) (Or.inl (hw _ (List.mem_of_getElem? (i := 80) rfl))) (by decide) (t := .long) (t' := .long) (by decide) (by decide)))).other W40 (Or.inr (slot_ne (Or.inr (hw _ (List.mem_of_getElem? (i := 70) rfl))) (Or.inl (hw _ (List.mem_of_getElem? (i := 82) rfl))) (by decide) (t := .long) (t' := .long) (by decide) (by decide)))).other W44 (Or.inr (slot_ne (Or.inr (hw _ (List.mem_of_getElem? (i := 70) rfl))) (Or.inl (hw _ (List.mem_of_getElem? (i := 84) rfl))) (by decide) (t := .long) (t' := .long) (by decide) (by decide))))
    have f51 : Fld Z h44 a1 "com/example/usher/usher/core/Node" "ctime" "J" (.long q6) := ((((((Fw19.other W23 (Or.inr (slot_ne (Or.inr (hw _ (List.mem_of_getElem? (i := 72) rfl))) (Or.inr (hw _ (List.mem_of_getElem? (i := 74) rfl))) (by decide) (t := .long) (t' := .long) (by decide) (by decide)))).other W27 (Or.inr (slot_ne (Or.inr (hw _ (List.mem_of_getElem? (i := 72) rfl))) (Or.inl (hw _ (List.mem_of_getElem? (i := 76) rfl))) (by decide) (t := .long) (t' := (.array .byte)) (by decide) (by decide)))).other W31 (Or.inr (slot_ne (Or.inr (hw _ (List.mem_of_getElem? (i := 72) rfl))) (Or.inl (hw _ (List.mem_of_getElem? (i := 78) rfl))) (by decide) (t := .long) (t' := (.object "java/util/List")) (by decide) (by decide)))).other W36 (Or.inr (slot_ne (Or.inr (hw _ (List.mem_of_getElem? (i := 72) rfl))) (Or.inl (hw _ (List.mem_of_getElem? (i := 80) rfl))) (by decide) (t := .long) (t' := .long) (by decide) (by decide)))).other W40 (Or.inr (slot_ne (Or.inr (hw _ (List.mem_of_getElem? (i := 72) rfl))) (Or.inl (hw _ (List.mem_of_getElem? (i := 82) rfl))) (by decide) (t := .long) (t' := .long) (by decide) (by decide)))).other W44 (Or.inr (slot_ne (Or.inr (hw _ (List.mem_of_getElem? (i := 72) rfl))) (Or.inl (hw _ (List.mem_of_getElem? (i := 84) rfl))) (by decide) (t := .long) (t' := .long) (by decide) (by decide))))
    have f52 : Fld Z h44 a1 "com/example/usher/usher/core/Node" "ephemeralOwner" "J" (.long q4) := (((((Fw23.other W27 (Or.inr (slot_ne (Or.inr (hw _ (List.mem_of_getElem? (i := 74) rfl))) (Or.inl (hw _ (List.mem_of_getElem? (i := 76) rfl))) (by decide) (t := .long) (t' := (.array .byte)) (by decide) (by decide)))).other W31 (Or.inr (slot_ne (Or.inr (hw _ (List.mem_of_getElem? (i := 74) rfl))) (Or.inl (hw _ (List.mem_of_getElem? (i := 78) rfl))) (by decide) (t := .long) (t' := (.object "java/util/List")) (by decide) (by decide)))).other W36 (Or.inr (slot_ne (Or.inr (hw _ (List.mem_of_getElem? (i := 74) rfl))) (Or.inl (hw _ (List.mem_of_getElem? (i := 80) rfl))) (by decide) (t := .long) (t' := .long) (by decide) (by decide)))).other W40 (Or.inr (slot_ne (Or.inr (hw _ (List.mem_of_getElem? (i := 74) rfl))) (Or.inl (hw _ (List.mem_of_getElem? (i := 82) rfl))) (by decide) (t := .long) (t' := .long) (by decide) (by decide)))).other W44 (Or.inr (slot_ne (Or.inr (hw _ (List.mem_of_getElem? (i := 74) rfl))) (Or.inl (hw _ (List.mem_of_getElem? (i := 84) rfl))) (by decide) (t := .long) (t' := .long) (by decide) (by decide))))
    have f53 : Fld Z h44 a1 "com/example/usher/usher/core/Node" "data" "[B" r2 := ((((Fw27.other W31 (Or.inr (slot_ne (Or.inl (hw _ (List.mem_of_getElem? (i := 76) rfl))) (Or.inl (hw _ (List.mem_of_getElem? (i := 78) rfl))) (by decide) (t := (.array .byte)) (t' := (.object "java/util/List")) (by decide) (by decide)))).other W36 (Or.inr (slot_ne (Or.inl (hw _ (List.mem_of_getElem? (i := 76) rfl))) (Or.inl (hw _ (List.mem_of_getElem? (i := 80) rfl))) (by decide) (t := (.array .byte)) (t' := .long) (by decide) (by decide)))).other W40 (Or.inr (slot_ne (Or.inl (hw _ (List.mem_of_getElem? (i := 76) rfl))) (Or.inl (hw _ (List.mem_of_getElem? (i := 82) rfl))) (by decide) (t := (.array .byte)) (t' := .long) (by decide) (by decide)))).other W44 (Or.inr (slot_ne (Or.inl (hw _ (List.mem_of_getElem? (i := 76) rfl))) (Or.inl (hw _ (List.mem_of_getElem? (i := 84) rfl))) (by decide) (t := (.array .byte)) (t' := .long) (by decide) (by decide))))
    have f54 : Fld Z h44 a1 "com/example/usher/usher/core/Node" "acl" "Ljava/util/List;" (.ref a3) := (((Fw31.other W36 (Or.inr (slot_ne (Or.inl (hw _ (List.mem_of_getElem? (i := 78) rfl))) (Or.inl (hw _ (List.mem_of_getElem? (i := 80) rfl))) (by decide) (t := (.object "java/util/List")) (t' := .long) (by decide) (by decide)))).other W40 (Or.inr (slot_ne (Or.inl (hw _ (List.mem_of_getElem? (i := 78) rfl))) (Or.inl (hw _ (List.mem_of_getElem? (i := 82) rfl))) (by decide) (t := (.object "java/util/List")) (t' := .long) (by decide) (by decide)))).other W44 (Or.inr (slot_ne (Or.inl (hw _ (List.mem_of_getElem? (i := 78) rfl))) (Or.inl (hw _ (List.mem_of_getElem? (i := 84) rfl))) (by decide) (t := (.object "java/util/List")) (t' := .long) (by decide) (by decide))))
    have f55 : Fld Z h44 a1 "com/example/usher/usher/core/Node" "mzxid" "J" (.long q5) := ((Fw36.other W40 (Or.inr (slot_ne (Or.inl (hw _ (List.mem_of_getElem? (i := 80) rfl))) (Or.inl (hw _ (List.mem_of_getElem? (i := 82) rfl))) (by decide) (t := .long) (t' := .long) (by decide) (by decide)))).other W44 (Or.inr (slot_ne (Or.inl (hw _ (List.mem_of_getElem? (i := 80) rfl))) (Or.inl (hw _ (List.mem_of_getElem? (i := 84) rfl))) (by decide) (t := .long) (t' := .long) (by decide) (by decide))))
    have f56 : Fld Z h44 a1 "com/example/usher/usher/core/Node" "mtime" "J" (.long q6) := (Fw40.other W44 (Or.inr (slot_ne (Or.inl (hw _ (List.mem_of_getElem? (i := 82) rfl))) (Or.inl (hw _ (List.mem_of_getElem? (i := 84) rfl))) (by decide) (t := .long) (t' := .long) (by decide) (by decide))))
    have f57 : Fld Z h44 a1 "com/example/usher/usher/core/Node" "version" "I" (.int (0 : Int32)) := (((((((((((F9.ext E5).keep K8 (ninS ne_a1_b5 nin0)).other W12 (Or.inr (slot_ne (Or.inl (hw _ (List.mem_of_getElem? (i := 91) rfl))) (Or.inr (hw _ (List.mem_of_getElem? (i := 68) rfl))) (by decide) (t := .int) (t' := (.object "java/util/Set")) (by decide) (by decide)))).other W15 (Or.inr (slot_ne (Or.inl (hw _ (List.mem_of_getElem? (i := 91) rfl))) (Or.inr (hw _ (List.mem_of_getElem? (i := 70) rfl))) (by decide) (t := .int) (t' := .long) (by decide) (by decide)))).other W19 (Or.inr (slot_ne (Or.inl (hw _ (List.mem_of_getElem? (i := 91) rfl))) (Or.inr (hw _ (List.mem_of_getElem? (i := 72) rfl))) (by decide) (t := .int) (t' := .long) (by decide) (by decide)))).other W23 (Or.inr (slot_ne (Or.inl (hw _ (List.mem_of_getElem? (i := 91) rfl))) (Or.inr (hw _ (List.mem_of_getElem? (i := 74) rfl))) (by decide) (t := .int) (t' := .long) (by decide) (by decide)))).other W27 (Or.inr (slot_ne (Or.inl (hw _ (List.mem_of_getElem? (i := 91) rfl))) (Or.inl (hw _ (List.mem_of_getElem? (i := 76) rfl))) (by decide) (t := .int) (t' := (.array .byte)) (by decide) (by decide)))).other W31 (Or.inr (slot_ne (Or.inl (hw _ (List.mem_of_getElem? (i := 91) rfl))) (Or.inl (hw _ (List.mem_of_getElem? (i := 78) rfl))) (by decide) (t := .int) (t' := (.object "java/util/List")) (by decide) (by decide)))).other W36 (Or.inr (slot_ne (Or.inl (hw _ (List.mem_of_getElem? (i := 91) rfl))) (Or.inl (hw _ (List.mem_of_getElem? (i := 80) rfl))) (by decide) (t := .int) (t' := .long) (by decide) (by decide)))).other W40 (Or.inr (slot_ne (Or.inl (hw _ (List.mem_of_getElem? (i := 91) rfl))) (Or.inl (hw _ (List.mem_of_getElem? (i := 82) rfl))) (by decide) (t := .int) (t' := .long) (by decide) (by decide)))).other W44 (Or.inr (slot_ne (Or.inl (hw _ (List.mem_of_getElem? (i := 91) rfl))) (Or.inl (hw _ (List.mem_of_getElem? (i := 84) rfl))) (by decide) (t := .int) (t' := .long) (by decide) (by decide))))
    have f58 : Fld Z h44 a1 "com/example/usher/usher/core/Node" "cversion" "I" (.int (0 : Int32)) := (((((((((((F10.ext E5).keep K8 (ninS ne_a1_b5 nin0)).other W12 (Or.inr (slot_ne (Or.inl (hw _ (List.mem_of_getElem? (i := 101) rfl))) (Or.inr (hw _ (List.mem_of_getElem? (i := 68) rfl))) (by decide) (t := .int) (t' := (.object "java/util/Set")) (by decide) (by decide)))).other W15 (Or.inr (slot_ne (Or.inl (hw _ (List.mem_of_getElem? (i := 101) rfl))) (Or.inr (hw _ (List.mem_of_getElem? (i := 70) rfl))) (by decide) (t := .int) (t' := .long) (by decide) (by decide)))).other W19 (Or.inr (slot_ne (Or.inl (hw _ (List.mem_of_getElem? (i := 101) rfl))) (Or.inr (hw _ (List.mem_of_getElem? (i := 72) rfl))) (by decide) (t := .int) (t' := .long) (by decide) (by decide)))).other W23 (Or.inr (slot_ne (Or.inl (hw _ (List.mem_of_getElem? (i := 101) rfl))) (Or.inr (hw _ (List.mem_of_getElem? (i := 74) rfl))) (by decide) (t := .int) (t' := .long) (by decide) (by decide)))).other W27 (Or.inr (slot_ne (Or.inl (hw _ (List.mem_of_getElem? (i := 101) rfl))) (Or.inl (hw _ (List.mem_of_getElem? (i := 76) rfl))) (by decide) (t := .int) (t' := (.array .byte)) (by decide) (by decide)))).other W31 (Or.inr (slot_ne (Or.inl (hw _ (List.mem_of_getElem? (i := 101) rfl))) (Or.inl (hw _ (List.mem_of_getElem? (i := 78) rfl))) (by decide) (t := .int) (t' := (.object "java/util/List")) (by decide) (by decide)))).other W36 (Or.inr (slot_ne (Or.inl (hw _ (List.mem_of_getElem? (i := 101) rfl))) (Or.inl (hw _ (List.mem_of_getElem? (i := 80) rfl))) (by decide) (t := .int) (t' := .long) (by decide) (by decide)))).other W40 (Or.inr (slot_ne (Or.inl (hw _ (List.mem_of_getElem? (i := 101) rfl))) (Or.inl (hw _ (List.mem_of_getElem? (i := 82) rfl))) (by decide) (t := .int) (t' := .long) (by decide) (by decide)))).other W44 (Or.inr (slot_ne (Or.inl (hw _ (List.mem_of_getElem? (i := 101) rfl))) (Or.inl (hw _ (List.mem_of_getElem? (i := 84) rfl))) (by decide) (t := .int) (t' := .long) (by decide) (by decide))))
    have f59 : Fld Z h44 a1 "com/example/usher/usher/core/Node" "aversion" "I" (.int (0 : Int32)) := (((((((((((F11.ext E5).keep K8 (ninS ne_a1_b5 nin0)).other W12 (Or.inr (slot_ne (Or.inl (hw _ (List.mem_of_getElem? (i := 103) rfl))) (Or.inr (hw _ (List.mem_of_getElem? (i := 68) rfl))) (by decide) (t := .int) (t' := (.object "java/util/Set")) (by decide) (by decide)))).other W15 (Or.inr (slot_ne (Or.inl (hw _ (List.mem_of_getElem? (i := 103) rfl))) (Or.inr (hw _ (List.mem_of_getElem? (i := 70) rfl))) (by decide) (t := .int) (t' := .long) (by decide) (by decide)))).other W19 (Or.inr (slot_ne (Or.inl (hw _ (List.mem_of_getElem? (i := 103) rfl))) (Or.inr (hw _ (List.mem_of_getElem? (i := 72) rfl))) (by decide) (t := .int) (t' := .long) (by decide) (by decide)))).other W23 (Or.inr (slot_ne (Or.inl (hw _ (List.mem_of_getElem? (i := 103) rfl))) (Or.inr (hw _ (List.mem_of_getElem? (i := 74) rfl))) (by decide) (t := .int) (t' := .long) (by decide) (by decide)))).other W27 (Or.inr (slot_ne (Or.inl (hw _ (List.mem_of_getElem? (i := 103) rfl))) (Or.inl (hw _ (List.mem_of_getElem? (i := 76) rfl))) (by decide) (t := .int) (t' := (.array .byte)) (by decide) (by decide)))).other W31 (Or.inr (slot_ne (Or.inl (hw _ (List.mem_of_getElem? (i := 103) rfl))) (Or.inl (hw _ (List.mem_of_getElem? (i := 78) rfl))) (by decide) (t := .int) (t' := (.object "java/util/List")) (by decide) (by decide)))).other W36 (Or.inr (slot_ne (Or.inl (hw _ (List.mem_of_getElem? (i := 103) rfl))) (Or.inl (hw _ (List.mem_of_getElem? (i := 80) rfl))) (by decide) (t := .int) (t' := .long) (by decide) (by decide)))).other W40 (Or.inr (slot_ne (Or.inl (hw _ (List.mem_of_getElem? (i := 103) rfl))) (Or.inl (hw _ (List.mem_of_getElem? (i := 82) rfl))) (by decide) (t := .int) (t' := .long) (by decide) (by decide)))).other W44 (Or.inr (slot_ne (Or.inl (hw _ (List.mem_of_getElem? (i := 103) rfl))) (Or.inl (hw _ (List.mem_of_getElem? (i := 84) rfl))) (by decide) (t := .int) (t' := .long) (by decide) (by decide))))
    have f60 : Exa Z h44 b5 "java/util/HashSet" := (((((((((E_8.wr W12).wr W15).wr W19).wr W23).wr W27).wr W31).wr W36).wr W40).wr W44)
    have f61 : Exa Z h44 m__8 "java/util/HashMap" := (((((((((Em_8.wr W12).wr W15).wr W19).wr W23).wr W27).wr W31).wr W36).wr W40).wr W44)
    have f62 : Fld Z h44 m__8 "java/util/HashMap" "size" "I" (.int (0 : Int32)) := (((((((((Gm_8.other W12 (Or.inl (Ne.symm ne_a1_m__8))).other W15 (Or.inl (Ne.symm ne_a1_m__8))).other W19 (Or.inl (Ne.symm ne_a1_m__8))).other W23 (Or.inl (Ne.symm ne_a1_m__8))).other W27 (Or.inl (Ne.symm ne_a1_m__8))).other W31 (Or.inl (Ne.symm ne_a1_m__8))).other W36 (Or.inl (Ne.symm ne_a1_m__8))).other W40 (Or.inl (Ne.symm ne_a1_m__8))).other W44 (Or.inl (Ne.symm ne_a1_m__8)))
    exact ⟨b5, m__8, rfl, N44, f49, sz_b5, sz_m__8, ((((f32.wr W31).wr W36).wr W40).wr W44), f47, f50, f51, f52, f53, f54, f55, f56, Fw44, f57, f58, f59, f60, f48, f61, f62⟩
def Q_rmSD (Z : State) (a1 : Addr) (r2 : Value) (q3 : Int64) (q4 : Int64) (w0 : Addr) (w1 : Int64) (w2 : Int64) (w3 : Int64) (u4 : Value) (w5 : Addr) (w6 : Int64) (w7 : Int64) (w8 : Int64) (w9 : Int32) (w10 : Int32) (w11 : Int32) (h0 : Heap) (n0 : Nat) (v : Option Value) (h : Heap) (L : List Loc) : Prop := v = none ∧ Fr n0 L ∧ Keep h0 h [a1] ∧ (Exa Z h a1 "com/example/usher/usher/core/Node") ∧ (Fld Z h a1 "com/example/usher/usher/core/Node" "children" "Ljava/util/Set;" (.ref w0)) ∧ (Fld Z h a1 "com/example/usher/usher/core/Node" "czxid" "J" (.long w1)) ∧ (Fld Z h a1 "com/example/usher/usher/core/Node" "ctime" "J" (.long w2)) ∧ (Fld Z h a1 "com/example/usher/usher/core/Node" "ephemeralOwner" "J" (.long w3)) ∧ (Fld Z h a1 "com/example/usher/usher/core/Node" "data" "[B" r2) ∧ (Fld Z h a1 "com/example/usher/usher/core/Node" "acl" "Ljava/util/List;" (.ref w5)) ∧ (Fld Z h a1 "com/example/usher/usher/core/Node" "mzxid" "J" (.long q3)) ∧ (Fld Z h a1 "com/example/usher/usher/core/Node" "mtime" "J" (.long q4)) ∧ (Fld Z h a1 "com/example/usher/usher/core/Node" "pzxid" "J" (.long w8)) ∧ (Fld Z h a1 "com/example/usher/usher/core/Node" "version" "I" (.int (w9 + (1 : Int32)))) ∧ (Fld Z h a1 "com/example/usher/usher/core/Node" "cversion" "I" (.int w10)) ∧ (Fld Z h a1 "com/example/usher/usher/core/Node" "aversion" "I" (.int w11))
set_option maxRecDepth 65536 in
set_option maxHeartbeats 40000000 in
theorem rmSD (l : Launch) (Z : State) (a0 : Array Value) (hw : ∀ d ∈ tables_1, d.before a0 Z = true) (ws : List Jvm.Cond) (a1 : Addr) (r2 : Value) (q3 : Int64) (q4 : Int64) (w0 : Addr) (w1 : Int64) (w2 : Int64) (w3 : Int64) (u4 : Value) (w5 : Addr) (w6 : Int64) (w7 : Int64) (w8 : Int64) (w9 : Int32) (w10 : Int32) (w11 : Int32) (h0 : Heap) (n0 : Nat) (Z0 : n0 ≤ h0.size) (hr2 : r2.isRef = true) (E1 : Exa Z h0 a1 "com/example/usher/usher/core/Node") (g1 : n0 ≤ a1) (F0 : Fld Z h0 a1 "com/example/usher/usher/core/Node" "children" "Ljava/util/Set;" (.ref w0)) (F1 : Fld Z h0 a1 "com/example/usher/usher/core/Node" "czxid" "J" (.long w1)) (F2 : Fld Z h0 a1 "com/example/usher/usher/core/Node" "ctime" "J" (.long w2)) (F3 : Fld Z h0 a1 "com/example/usher/usher/core/Node" "ephemeralOwner" "J" (.long w3)) (F4 : Fld Z h0 a1 "com/example/usher/usher/core/Node" "data" "[B" u4) (F5 : Fld Z h0 a1 "com/example/usher/usher/core/Node" "acl" "Ljava/util/List;" (.ref w5)) (F6 : Fld Z h0 a1 "com/example/usher/usher/core/Node" "mzxid" "J" (.long w6)) (F7 : Fld Z h0 a1 "com/example/usher/usher/core/Node" "mtime" "J" (.long w7)) (F8 : Fld Z h0 a1 "com/example/usher/usher/core/Node" "pzxid" "J" (.long w8)) (F9 : Fld Z h0 a1 "com/example/usher/usher/core/Node" "version" "I" (.int w9)) (F10 : Fld Z h0 a1 "com/example/usher/usher/core/Node" "cversion" "I" (.int w10)) (F11 : Fld Z h0 a1 "com/example/usher/usher/core/Node" "aversion" "I" (.int w11)) :
    MetFree l (⟨"com/example/usher/usher/core/Node", "setData", "([BJJ)V"⟩ : MethodName) (head1 (Jvm.Cond.code (⟨"com/example/usher/usher/core/Node", "setData", "([BJJ)V"⟩ : MethodName) prog_19_method_7_code 6 none :: ws) ({ frames := 0, cells := 0, slots := 0, locals := 0 } : Room)) (fun a U => a = #[(.ref a1), r2, (.long q3), (.long q4)] ∧ Z.Warmed39 U.vm ∧ U.heap = h0) (fun _ _ _ _ _ => True) (fun _ U o U' => ∃ v L, o = .returned v ∧ Q_rmSD Z a1 r2 q3 q4 w0 w1 w2 w3 u4 w5 w6 w7 w8 w9 w10 w11 h0 n0 v U'.heap L ∧ FrameEnd U o U' L ({ frames := 0, cells := 0, slots := 0, locals := 0 } : Room).cells ({ frames := 0, cells := 0, slots := 0, locals := 0 } : Room).slots) := by
  refine MetFree.of_bodySF (plainFor_of_name pn_7) hisR ?_
  intro p e s m args below meth c s₁ Bd hml0 hP hK
  obtain ⟨rfl, hZ, hh⟩ := hP
  have hx := Bd.exec
  have hby := Bd.bytes
  have hml : c.maxLocals = 6 := hml0
  have hown : s.vm.findClass "com/example/usher/usher/core/Node" = some m.cls := findClass_of_methodNamed Bd.named
  have hnm := (name_of_methodNamed Bd.named Bd.method).1
  have X0 : Stand p l e ({ frames := 0, cells := 0, slots := 0, locals := 0 } : Room) s m #[(.ref a1), r2, (.long q3), (.long q4)] below meth c s₁ [] 0 0 := Stand.of_body Bd
  have e0 : s₁.heap = h0 := by rw [← hh, Bd.state]; rfl
  have N0 := Fr.nil n0
  have P0 : Rch p e below (s₁.setTop (entryFrame m #[(.ref a1), r2, (.long q3), (.long q4)] 6)) (s₁.setTop (mkF m 0 #[rv a1, .val r2, lv q3, sd, lv q4, sd] [])) := fun t k => castTop (by rcases ref_cases hr2 with q_ | ⟨_, q_⟩ <;> rw [q_] <;> first | (simp [entryFrame, mkF, argsToLocals, Value.category]; done) | rfl) k
  have P1 : Rch p e below (s₁.setTop (entryFrame m #[(.ref a1), r2, (.long q3), (.long q4)] 6)) (s₁.setTop (mkF m 2 #[rv a1, .val r2, lv q3, sd, lv q4, sd] [r2, (.ref a1)])) := fun t k => P0 t (by
    show Steps p.tables e below (s₁.setTop (mkF m 0 #[rv a1, .val r2, lv q3, sd, lv q4, sd] [])) t
    refine XS.aloadN X0.here hx rfl (hb hby d10_0) rfl rfl ?_
    refine XS.aloadN X0.here hx rfl (hb hby d10_1) rfl hr2 ?_
    exact k)
  obtain ⟨T2, h2, X2, e2, W2, st2⟩ := putF X0 hx hZ hown (host := "") (Or.inl (hw _ (List.mem_of_getElem? (i := 75) rfl))) Via.refl e0 F4 E1 (Or.inl (hw _ (List.mem_of_getElem? (i := 76) rfl))) (hw _ (List.mem_of_getElem? (i := 28) rfl)) (ty := (.array .byte)) (by decide) (own_nar hr2) (own_fit hr2) (g := (mkF m 2 #[rv a1, .val r2, lv q3, sd, lv q4, sd] [r2, (.ref a1)])) rfl rfl (hb hby d10_2)
  have Fw2 := F4.same W2
  have P3 : Rch p e below (s₁.setTop (entryFrame m #[(.ref a1), r2, (.long q3), (.long q4)] 6)) (T2.setTop (mkF m 5 #[rv a1, .val r2, lv q3, sd, lv q4, sd] [])) := fun t k => P1 t (st2 t k)
  have N2 := Fr.snoc X2 N0 g1
  have P4 : Rch p e below (s₁.setTop (entryFrame m #[(.ref a1), r2, (.long q3), (.long q4)] 6)) (T2.setTop (mkF m 7 #[rv a1, .val r2, lv q3, sd, lv q4, sd] [(.long q3), (.ref a1)])) := fun t k => P3 t (by
    show Steps p.tables e below (T2.setTop (mkF m 5 #[rv a1, .val r2, lv q3, sd, lv q4, sd] [])) t
    refine XS.aloadN X2.here hx rfl (hb hby d10_5) rfl rfl ?_
    refine XS.lloadN X2.here hx rfl (hb hby d10_6) rfl ?_
    exact k)
  have f6 : Fld Z h2 a1 "com/example/usher/usher/core/Node" "mzxid" "J" (.long w6) := (F6.other W2 (Or.inr (slot_ne (Or.inl (hw _ (List.mem_of_getElem? (i := 80) rfl))) (Or.inl (hw _ (List.mem_of_getElem? (i := 76) rfl))) (by decide) (t := .long) (t' := (.array .byte)) (by decide) (by decide))))
  obtain ⟨T5, h5, X5, e5, W5, st5⟩ := putF X2 hx hZ hown (host := "") (Or.inl (hw _ (List.mem_of_getElem? (i := 79) rfl))) Via.refl e2 f6 (E1.wr W2) (Or.inl (hw _ (List.mem_of_getElem? (i := 80) rfl))) (hw _ (List.mem_of_getElem? (i := 28) rfl)) (ty := .long) (by decide) rfl rfl (g := (mkF m 7 #[rv a1, .val r2, lv q3, sd, lv q4, sd] [(.long q3), (.ref a1)])) rfl rfl (hb hby d10_7)
  have Fw5 := f6.same W5
  have P7 : Rch p e below (s₁.setTop (entryFrame m #[(.ref a1), r2, (.long q3), (.long q4)] 6)) (T5.setTop (mkF m 10 #[rv a1, .val r2, lv q3, sd, lv q4, sd] [])) := fun t k => P4 t (st5 t k)
  have N5 := Fr.snoc X5 N2 g1
  have P8 : Rch p e below (s₁.setTop (entryFrame m #[(.ref a1), r2, (.long q3), (.long q4)] 6)) (T5.setTop (mkF m 13 #[rv a1, .val r2, lv q3, sd, lv q4, sd] [(.long q4), (.ref a1)])) := fun t k => P7 t (by
    show Steps p.tables e below (T5.setTop (mkF m 10 #[rv a1, .val r2, lv q3, sd, lv q4, sd] [])) t
    refine XS.aloadN X5.here hx rfl (hb hby d10_10) rfl rfl ?_
    refine XS.lload X5.here hx rfl (hb hby d10_11) rfl ?_
    exact k)
  have f10 : Fld Z h5 a1 "com/example/usher/usher/core/Node" "mtime" "J" (.long w7) := ((F7.other W2 (Or.inr (slot_ne (Or.inl (hw _ (List.mem_of_getElem? (i := 82) rfl))) (Or.inl (hw _ (List.mem_of_getElem? (i := 76) rfl))) (by decide) (t := .long) (t' := (.array .byte)) (by decide) (by decide)))).other W5 (Or.inr (slot_ne (Or.inl (hw _ (List.mem_of_getElem? (i := 82) rfl))) (Or.inl (hw _ (List.mem_of_getElem? (i := 80) rfl))) (by decide) (t := .long) (t' := .long) (by decide) (by decide))))
  obtain ⟨T9, h9, X9, e9, W9, st9⟩ := putF X5 hx hZ hown (host := "") (Or.inl (hw _ (List.mem_of_getElem? (i := 81) rfl))) Via.refl e5 f10 ((E1.wr W2).wr W5) (Or.inl (hw _ (List.mem_of_getElem? (i := 82) rfl))) (hw _ (List.mem_of_getElem? (i := 28) rfl)) (ty := .long) (by decide) rfl rfl (g := (mkF m 13 #[rv a1, .val r2, lv q3, sd, lv q4, sd] [(.long q4), (.ref a1)])) rfl rfl (hb hby d10_13)
  have Fw9 := f10.same W9
  have P11 : Rch p e below (s₁.setTop (entryFrame m #[(.ref a1), r2, (.long q3), (.long q4)] 6)) (T9.setTop (mkF m 16 #[rv a1, .val r2, lv q3, sd, lv q4, sd] [])) := fun t k => P8 t (st9 t k)
  have N9 := Fr.snoc X9 N5 g1
  have P12 : Rch p e below (s₁.setTop (entryFrame m #[(.ref a1), r2, (.long q3), (.long q4)] 6)) (T9.setTop (mkF m 18 #[rv a1, .val r2, lv q3, sd, lv q4, sd] [(.ref a1), (.ref a1)])) := fun t k => P11 t (by
    show Steps p.tables e below (T9.setTop (mkF m 16 #[rv a1, .val r2, lv q3, sd, lv q4, sd] [])) t
    refine XS.aloadN X9.here hx rfl (hb hby d10_16) rfl rfl ?_
    refine XS.dup X9.here hx rfl (hb hby d10_17) rfl rfl ?_
    exact k)
  have f13 : Fld Z h9 a1 "com/example/usher/usher/core/Node" "version" "I" (.int w9) := (((F9.other W2 (Or.inr (slot_ne (Or.inl (hw _ (List.mem_of_getElem? (i := 91) rfl))) (Or.inl (hw _ (List.mem_of_getElem? (i := 76) rfl))) (by decide) (t := .int) (t' := (.array .byte)) (by decide) (by decide)))).other W5 (Or.inr (slot_ne (Or.inl (hw _ (List.mem_of_getElem? (i := 91) rfl))) (Or.inl (hw _ (List.mem_of_getElem? (i := 80) rfl))) (by decide) (t := .int) (t' := .long) (by decide) (by decide)))).other W9 (Or.inr (slot_ne (Or.inl (hw _ (List.mem_of_getElem? (i := 91) rfl))) (Or.inl (hw _ (List.mem_of_getElem? (i := 82) rfl))) (by decide) (t := .int) (t' := .long) (by decide) (by decide))))
  obtain ⟨T14, X14, e14, st14⟩ := getF X9 hx hZ hown (host := "") (Or.inl (hw _ (List.mem_of_getElem? (i := 90) rfl))) Via.refl e9 f13 (g := (mkF m 18 #[rv a1, .val r2, lv q3, sd, lv q4, sd] [(.ref a1), (.ref a1)])) rfl rfl (hb hby d10_18)
  have P15 : Rch p e below (s₁.setTop (entryFrame m #[(.ref a1), r2, (.long q3), (.long q4)] 6)) (T14.setTop (mkF m 21 #[rv a1, .val r2, lv q3, sd, lv q4, sd] [(.int w9), (.ref a1)])) := fun t k => P12 t (st14 t k)
  obtain ⟨x16, hx16⟩ : ∃ z : Int32, z = (w9 + (1 : Int32)) := ⟨_, rfl⟩
  have P17 : Rch p e below (s₁.setTop (entryFrame m #[(.ref a1), r2, (.long q3), (.long q4)] 6)) (T14.setTop (mkF m 23 #[rv a1, .val r2, lv q3, sd, lv q4, sd] [(.int x16), (.ref a1)])) := fun t k => P15 t (by
    subst hx16
    show Steps p.tables e below (T14.setTop (mkF m 21 #[rv a1, .val r2, lv q3, sd, lv q4, sd] [(.int w9), (.ref a1)])) t
    refine XS.iconst X14.here hx rfl (hb hby d10_21) ?_
    refine XS.iadd X14.here hx rfl (hb hby d10_22) rfl ?_
    exact k)
  obtain ⟨T18, h18, X18, e18, W18, st18⟩ := putF X14 hx hZ hown (host := "") (Or.inl (hw _ (List.mem_of_getElem? (i := 90) rfl))) Via.refl e14 f13 (((E1.wr W2).wr W5).wr W9) (Or.inl (hw _ (List.mem_of_getElem? (i := 91) rfl))) (hw _ (List.mem_of_getElem? (i := 28) rfl)) (ty := .int) (by decide) rfl rfl (g := (mkF m 23 #[rv a1, .val r2, lv q3, sd, lv q4, sd] [(.int x16), (.ref a1)])) rfl rfl (hb hby d10_23)
  have Fw18 := f13.same W18
  have P19 : Rch p e below (s₁.setTop (entryFrame m #[(.ref a1), r2, (.long q3), (.long q4)] 6)) (T18.setTop (mkF m 26 #[rv a1, .val r2, lv q3, sd, lv q4, sd] [])) := fun t k => P17 t (st18 t k)
  have N18 := Fr.snoc X18 N9 g1
  obtain ⟨fs, hr, hrun, hended, hW, hsame⟩ := X18.leave (v := none) (fun _ => rfl)
  refine ⟨_, _, P19 _ ?_, hrun, hended, _, _, rfl, ?_, ⟨_, rfl⟩, hW, hsame.mono (by decide) (by decide)⟩
  · exact X18.returnOut hx Bd.returns (hb hby d10_26) hr
  · show Q_rmSD Z a1 r2 q3 q4 w0 w1 w2 w3 u4 w5 w6 w7 w8 w9 w10 w11 h0 n0 _ T18.heap _
    rw [e18]
    have f20 : Keep h0 h18 [a1] := (((((Keep.refl h0 [a1]).wr W2 (Or.inl (List.mem_of_getElem? (i := 0) rfl))).wr W5 (Or.inl (List.mem_of_getElem? (i := 0) rfl))).wr W9 (Or.inl (List.mem_of_getElem? (i := 0) rfl))).wr W18 (Or.inl (List.mem_of_getElem? (i := 0) rfl)))
    have f21 : Fld Z h18 a1 "com/example/usher/usher/core/Node" "children" "Ljava/util/Set;" (.ref w0) := ((((F0.other W2 (Or.inr (slot_ne (Or.inr (hw _ (List.mem_of_getElem? (i := 68) rfl))) (Or.inl (hw _ (List.mem_of_getElem? (i := 76) rfl))) (by decide) (t := (.object "java/util/Set")) (t' := (.array .byte)) (by decide) (by decide)))).other W5 (Or.inr (slot_ne (Or.inr (hw _ (List.mem_of_getElem? (i := 68) rfl))) (Or.inl (hw _ (List.mem_of_getElem? (i := 80) rfl))) (by decide) (t := (.object "java/util/Set")) (t' := .long) (by decide) (by decide)))).other W9 (Or.inr (slot_ne (Or.inr (hw _ (List.mem_of_getElem? (i := 68) rfl))) (Or.inl (hw _ (List.mem_of_getElem? (i := 82) rfl))) (by decide) (t := (.object "java/util/Set")) (t' := .long) (by decide) (by decide)))).other W18 (Or.inr (slot_ne (Or.inr (hw _ (List.mem_of_getElem? (i := 68) rfl))) (Or.inl (hw _ (List.mem_of_getElem? (i := 91) rfl))) (by decide) (t := (.object "java/util/Set")) (t' := .int) (by decide) (by decide))))
    have f22 : Fld Z h18 a1 "com/example/usher/usher/core/Node" "czxid" "J" (.long w1) := ((((F1.other W2 (Or.inr (slot_ne (Or.inr (hw _ (List.mem_of_getElem? (i := 70) rfl))) (Or.inl (hw _ (List.mem_of_getElem? (i := 76) rfl))) (by decide) (t := .long) (t' := (.array .byte)) (by decide) (by decide)))).other W5 (Or.inr (slot_ne (Or.inr (hw _ (List.mem_of_getElem? (i := 70) rfl))) (Or.inl (hw _ (List.mem_of_getElem? (i := 80) rfl))) (by decide) (t := .long) (t' := .long) (by decide) (by decide)))).other W9 (Or.inr (slot_ne (Or.inr (hw _ (List.mem_of_getElem? (i := 70) rfl))) (Or.inl (hw _ (List.mem_of_getElem? (i := 82) rfl))) (by decide) (t := .long) (t' := .long) (by decide) (by decide)))).other W18 (Or.inr (slot_ne (Or.inr (hw _ (List.mem_of_getElem? (i := 70) rfl))) (Or.inl (hw _ (List.mem_of_getElem? (i := 91) rfl))) (by decide) (t := .long) (t' := .int) (by decide) (by decide))))
    have f23 : Fld Z h18 a1 "com/example/usher/usher/core/Node" "ctime" "J" (.long w2) := ((((F2.other W2 (Or.inr (slot_ne (Or.inr (hw _ (List.mem_of_getElem? (i := 72) rfl))) (Or.inl (hw _ (List.mem_of_getElem? (i := 76) rfl))) (by decide) (t := .long) (t' := (.array .byte)) (by decide) (by decide)))).other W5 (Or.inr (slot_ne (Or.inr (hw _ (List.mem_of_getElem? (i := 72) rfl))) (Or.inl (hw _ (List.mem_of_getElem? (i := 80) rfl))) (by decide) (t := .long) (t' := .long) (by decide) (by decide)))).other W9 (Or.inr (slot_ne (Or.inr (hw _ (List.mem_of_getElem? (i := 72) rfl))) (Or.inl (hw _ (List.mem_of_getElem? (i := 82) rfl))) (by decide) (t := .long) (t' := .long) (by decide) (by decide)))).other W18 (Or.inr (slot_ne (Or.inr (hw _ (List.mem_of_getElem? (i := 72) rfl))) (Or.inl (hw _ (List.mem_of_getElem? (i := 91) rfl))) (by decide) (t := .long) (t' := .int) (by decide) (by decide))))
    have f24 : Fld Z h18 a1 "com/example/usher/usher/core/Node" "ephemeralOwner" "J" (.long w3) := ((((F3.other W2 (Or.inr (slot_ne (Or.inr (hw _ (List.mem_of_getElem? (i := 74) rfl))) (Or.inl (hw _ (List.mem_of_getElem? (i := 76) rfl))) (by decide) (t := .long) (t' := (.array .byte)) (by decide) (by decide)))).other W5 (Or.inr (slot_ne (Or.inr (hw _ (List.mem_of_getElem? (i := 74) rfl))) (Or.inl (hw _ (List.mem_of_getElem? (i := 80) rfl))) (by decide) (t := .long) (t' := .long) (by decide) (by decide)))).other W9 (Or.inr (slot_ne (Or.inr (hw _ (List.mem_of_getElem? (i := 74) rfl))) (Or.inl (hw _ (List.mem_of_getElem? (i := 82) rfl))) (by decide) (t := .long) (t' := .long) (by decide) (by decide)))).other W18 (Or.inr (slot_ne (Or.inr (hw _ (List.mem_of_getElem? (i := 74) rfl))) (Or.inl (hw _ (List.mem_of_getElem? (i := 91) rfl))) (by decide) (t := .long) (t' := .int) (by decide) (by decide))))
    have f25 : Fld Z h18 a1 "com/example/usher/usher/core/Node" "data" "[B" r2 := (((Fw2.other W5 (Or.inr (slot_ne (Or.inl (hw _ (List.mem_of_getElem? (i := 76) rfl))) (Or.inl (hw _ (List.mem_of_getElem? (i := 80) rfl))) (by decide) (t := (.array .byte)) (t' := .long) (by decide) (by decide)))).other W9 (Or.inr (slot_ne (Or.inl (hw _ (List.mem_of_getElem? (i := 76) rfl))) (Or.inl (hw _ (List.mem_of_getElem? (i := 82) rfl))) (by decide) (t := (.array .byte)) (t' := .long) (by decide) (by decide)))).other W18 (Or.inr (slot_ne (Or.inl (hw _ (List.mem_of_getElem? (i := 76) rfl))) (Or.inl (hw _ (List.mem_of_getElem? (i := 91) rfl))) (by decide) (t := (.array .byte)) (t' := .int) (by decide) (by decide))))
    have f26 : Fld Z h18 a1 "com/example/usher/usher/core/Node" "acl" "Ljava/util/List;" (.ref w5) := ((((F5.other W2 (Or.inr (slot_ne (Or.inl (hw _ (List.mem_of_getElem? (i := 78) rfl))) (Or.inl (hw _ (List.mem_of_getElem? (i := 76) rfl))) (by decide) (t := (.object "java/util/List")) (t' := (.array .byte)) (by decide) (by decide)))).other W5 (Or.inr (slot_ne (Or.inl (hw _ (List.mem_of_getElem? (i := 78) rfl))) (Or.inl (hw _ (List.mem_of_getElem? (i := 80) rfl))) (by decide) (t := (.object "java/util/List")) (t' := .long) (by decide) (by decide)))).other W9 (Or.inr (slot_ne (Or.inl (hw _ (List.mem_of_getElem? (i := 78) rfl))) (Or.inl (hw _ (List.mem_of_getElem? (i := 82) rfl))) (by decide) (t := (.object "java/util/List")) (t' := .long) (by decide) (by decide)))).other W18 (Or.inr (slot_ne (Or.inl (hw _ (List.mem_of_getElem? (i := 78) rfl))) (Or.inl (hw _ (List.mem_of_getElem? (i := 91) rfl))) (by decide) (t := (.object "java/util/List")) (t' := .int) (by decide) (by decide))))
    have f27 : Fld Z h18 a1 "com/example/usher/usher/core/Node" "mzxid" "J" (.long q3) := ((Fw5.other W9 (Or.inr (slot_ne (Or.inl (hw _ (List.mem_of_getElem? (i := 80) rfl))) (Or.inl (hw _ (List.mem_of_getElem? (i := 82) rfl))) (by decide) (t := .long) (t' := .long) (by decide) (by decide)))).other W18 (Or.inr (slot_ne (Or.inl (hw _ (List.mem_of_getElem? (i := 80) rfl))) (Or.inl (hw _ (List.mem_of_getElem? (i := 91) rfl))) (by decide) (t := .long) (t' := .int) (by decide) (by decide))))
    have f28 : Fld Z h18 a1 "com/example/usher/usher/core/Node" "mtime" "J" (.long q4) := (Fw9.other W18 (Or.inr (slot_ne (Or.inl (hw _ (List.mem_of_getElem? (i := 82) rfl))) (Or.inl (hw _ (List.mem_of_getElem? (i := 91) rfl))) (by decide) (t := .long) (t' := .int) (by decide) (by decide))))
    have f29 : Fld Z h18 a1 "com/example/usher/usher/core/Node" "pzxid" "J" (.long w8) := ((((F8.other W2 (Or.inr (slot_ne (Or.inl (hw _ (List.mem_of_getElem? (i := 84) rfl))) (Or.inl (hw _ (List.mem_of_getElem? (i := 76) rfl))) (by decide) (t := .long) (t' := (.array .byte)) (by decide) (by decide)))).other W5 (Or.inr (slot_ne (Or.inl (hw _ (List.mem_of_getElem? (i := 84) rfl))) (Or.inl (hw _ (List.mem_of_getElem? (i := 80) rfl))) (by decide) (t := .long) (t' := .long) (by decide) (by decide)))).other W9 (Or.inr (slot_ne (Or.inl (hw _ (List.mem_of_getElem? (i := 84) rfl))) (Or.inl (hw _ (List.mem_of_getElem? (i := 82) rfl))) (by decide) (t := .long) (t' := .long) (by decide) (by decide)))).other W18 (Or.inr (slot_ne (Or.inl (hw _ (List.mem_of_getElem? (i := 84) rfl))) (Or.inl (hw _ (List.mem_of_getElem? (i := 91) rfl))) (by decide) (t := .long) (t' := .int) (by decide) (by decide))))
    have f30 : Fld Z h18 a1 "com/example/usher/usher/core/Node" "cversion" "I" (.int w10) := ((((F10.other W2 (Or.inr (slot_ne (Or.inl (hw _ (List.mem_of_getElem? (i := 101) rfl))) (Or.inl (hw _ (List.mem_of_getElem? (i := 76) rfl))) (by decide) (t := .int) (t' := (.array .byte)) (by decide) (by decide)))).other W5 (Or.inr (slot_ne (Or.inl (hw _ (List.mem_of_getElem? (i := 101) rfl))) (Or.inl (hw _ (List.mem_of_getElem? (i := 80) rfl))) (by decide) (t := .int) (t' := .long) (by decide) (by decide)))).other W9 (Or.inr (slot_ne (Or.inl (hw _ (List.mem_of_getElem? (i := 101) rfl))) (Or.inl (hw _ (List.mem_of_getElem? (i := 82) rfl))) (by decide) (t := .int) (t' := .long) (by decide) (by decide)))).other W18 (Or.inr (slot_ne (Or.inl (hw _ (List.mem_of_getElem? (i := 101) rfl))) (Or.inl (hw _ (List.mem_of_getElem? (i := 91) rfl))) (by decide) (t := .int) (t' := .int) (by decide) (by decide))))
    have f31 : Fld Z h18 a1 "com/example/usher/usher/core/Node" "aversion" "I" (.int w11) := ((((F11.other W2 (Or.inr (slot_ne (Or.inl (hw _ (List.mem_of_getElem? (i := 103) rfl))) (Or.inl (hw _ (List.mem_of_getElem? (i := 76) rfl))) (by decide) (t := .int) (t' := (.array .byte)) (by decide) (by decide)))).other W5 (Or.inr (slot_ne (Or.inl (hw _ (List.mem_of_getElem? (i := 103) rfl))) (Or.inl (hw _ (List.mem_of_getElem? (i := 80) rfl))) (by decide) (t := .int) (t' := .long) (by decide) (by decide)))).other W9 (Or.inr (slot_ne (Or.inl (hw _ (List.mem_of_getElem? (i := 103) rfl))) (Or.inl (hw _ (List.mem_of_getElem? (i := 82) rfl))) (by decide) (t := .int) (t' := .long) (by decide) (by decide)))).other W18 (Or.inr (slot_ne (Or.inl (hw _ (List.mem_of_getElem? (i := 103) rfl))) (Or.inl (hw _ (List.mem_of_getElem? (i := 91) rfl))) (by decide) (t := .int) (t' := .int) (by decide) (by decide))))
    exact ⟨rfl, N18, f20, ((((E1.wr W2).wr W5).wr W9).wr W18), f21, f22, f23, f24, f25, f26, f27, f28, f29, (by rw [← hx16]; exact Fw18), f30, f31⟩
def Q_rmMS (Z : State) (a1 : Addr) (w1 : Int32) (h0 : Heap) (n0 : Nat) (v : Option Value) (h : Heap) (L : List Loc) : Prop := v = some (.int w1) ∧ Fr n0 L ∧ h = h0
set_option maxRecDepth 65536 in
set_option maxHeartbeats 40000000 in
theorem rmMS (l : Launch) (Z : State) (a0 : Array Value) (hw : ∀ d ∈ tables_1, d.before a0 Z = true) (ws : List Jvm.Cond) (a1 : Addr) (w1 : Int32) (h0 : Heap) (n0 : Nat) (Z0 : n0 ≤ h0.size) (F1 : Fld Z h0 a1 "java/util/HashMap" "size" "I" (.int w1)) :
    MetFree l (⟨"java/util/HashMap", "size", "()I"⟩ : MethodName) (head1 (Jvm.Cond.code (⟨"java/util/HashMap", "size", "()I"⟩ : MethodName) jdk_69_method_10_code 1 (some .int) :: ws) ({ frames := 0, cells := 0, slots := 0, locals := 0 } : Room)) (fun a U => a = #[(.ref a1)] ∧ Z.Warmed39 U.vm ∧ U.heap = h0) (fun _ _ _ _ _ => True) (fun _ U o U' => ∃ v L, o = .returned v ∧ Q_rmMS Z a1 w1 h0 n0 v U'.heap L ∧ FrameEnd U o U' L ({ frames := 0, cells := 0, slots := 0, locals := 0 } : Room).cells ({ frames := 0, cells := 0, slots := 0, locals := 0 } : Room).slots) := by
  refine MetFree.of_bodySF (plainFor_of_name pn_5) hisR ?_
  intro p e s m args below meth c s₁ Bd hml0 hP hK
  obtain ⟨rfl, hZ, hh⟩ := hP
  have hx := Bd.exec
  have hby := Bd.bytes
  have hml : c.maxLocals = 1 := hml0
  have hown : s.vm.findClass "java/util/HashMap" = some m.cls := findClass_of_methodNamed Bd.named
  have hnm := (name_of_methodNamed Bd.named Bd.method).1
  have X0 : Stand p l e ({ frames := 0, cells := 0, slots := 0, locals := 0 } : Room) s m #[(.ref a1)] below meth c s₁ [] 0 0 := Stand.of_body Bd
  have e0 : s₁.heap = h0 := by rw [← hh, Bd.state]; rfl
  have N0 := Fr.nil n0
  have P0 : Rch p e below (s₁.setTop (entryFrame m #[(.ref a1)] 1)) (s₁.setTop (mkF m 0 #[rv a1] [])) := fun t k => castTop (by first | (simp [entryFrame, mkF, argsToLocals, Value.category]; done) | rfl) k
  have P1 : Rch p e below (s₁.setTop (entryFrame m #[(.ref a1)] 1)) (s₁.setTop (mkF m 1 #[rv a1] [(.ref a1)])) := fun t k => P0 t (by
    show Steps p.tables e below (s₁.setTop (mkF m 0 #[rv a1] [])) t
    refine XS.aloadN X0.here hx rfl (hb hby d13_0) rfl rfl ?_
    exact k)
  obtain ⟨T2, X2, e2, st2⟩ := getF X0 hx hZ hown (host := "") (Or.inl (hw _ (List.mem_of_getElem? (i := 118) rfl))) Via.refl e0 F1 (g := (mkF m 1 #[rv a1] [(.ref a1)])) rfl rfl (hb hby d13_1)
  have P3 : Rch p e below (s₁.setTop (entryFrame m #[(.ref a1)] 1)) (T2.setTop (mkF m 4 #[rv a1] [(.int w1)])) := fun t k => P1 t (st2 t k)
  obtain ⟨fs, hr, hrun, hended, hW, hsame⟩ := X2.leave (v := some (.int w1)) (fun h => by rw [Bd.returns] at h; cases h)
  refine ⟨_, _, P3 _ ?_, hrun, hended, _, _, rfl, ?_, ⟨_, rfl⟩, hW, hsame.mono (by decide) (by decide)⟩
  · exact retI X2 hx Bd.returns (hb hby d13_4) hr
  · show Q_rmMS Z a1 w1 h0 n0 _ T2.heap _
    rw [e2]
    exact ⟨rfl, N0, rfl⟩
def Q_rmHz (Z : State) (a1 : Addr) (m2 : Addr) (w1 : Int32) (h0 : Heap) (n0 : Nat) (v : Option Value) (h : Heap) (L : List Loc) : Prop := v = some (.int w1) ∧ Fr n0 L ∧ h = h0
set_option maxRecDepth 65536 in
set_option maxHeartbeats 40000000 in
theorem rmHz (l : Launch) (Z : State) (a0 : Array Value) (hw : ∀ d ∈ tables_1, d.before a0 Z = true) (ws : List Jvm.Cond) (a1 : Addr) (m2 : Addr) (w1 : Int32) (h0 : Heap) (n0 : Nat) (Z0 : n0 ≤ h0.size) (F1 : Fld Z h0 a1 "java/util/HashSet" "map" "Ljava/util/HashMap;" (.ref m2)) (E2 : Exa Z h0 m2 "java/util/HashMap") (F2 : Fld Z h0 m2 "java/util/HashMap" "size" "I" (.int w1)) :
    MetFree l (⟨"java/util/HashSet", "size", "()I"⟩ : MethodName) (head1 (Jvm.Cond.code (⟨"java/util/HashSet", "size", "()I"⟩ : MethodName) jdk_93_method_7_code 1 (some .int) :: ws) ({ frames := 1, cells := 0, slots := 0, locals := 12 } : Room)) (fun a U => a = #[(.ref a1)] ∧ Z.Warmed39 U.vm ∧ U.heap = h0) (fun _ _ _ _ _ => True) (fun _ U o U' => ∃ v L, o = .returned v ∧ Q_rmHz Z a1 m2 w1 h0 n0 v U'.heap L ∧ FrameEnd U o U' L ({ frames := 1, cells := 0, slots := 0, locals := 12 } : Room).cells ({ frames := 1, cells := 0, slots := 0, locals := 12 } : Room).slots) := by
  refine MetFree.of_bodySF (plainFor_of_name pn_6) hisR ?_
  intro p e s m args below meth c s₁ Bd hml0 hP hK
  obtain ⟨rfl, hZ, hh⟩ := hP
  have hx := Bd.exec
  have hby := Bd.bytes
  have hml : c.maxLocals = 1 := hml0
  have hown : s.vm.findClass "java/util/HashSet" = some m.cls := findClass_of_methodNamed Bd.named
  have hnm := (name_of_methodNamed Bd.named Bd.method).1
  have X0 : Stand p l e ({ frames := 1, cells := 0, slots := 0, locals := 12 } : Room) s m #[(.ref a1)] below meth c s₁ [] 0 0 := Stand.of_body Bd
  have e0 : s₁.heap = h0 := by rw [← hh, Bd.state]; rfl
  have N0 := Fr.nil n0
  have P0 : Rch p e below (s₁.setTop (entryFrame m #[(.ref a1)] 1)) (s₁.setTop (mkF m 0 #[rv a1] [])) := fun t k => castTop (by first | (simp [entryFrame, mkF, argsToLocals, Value.category]; done) | rfl) k
  have P1 : Rch p e below (s₁.setTop (entryFrame m #[(.ref a1)] 1)) (s₁.setTop (mkF m 1 #[rv a1] [(.ref a1)])) := fun t k => P0 t (by
    show Steps p.tables e below (s₁.setTop (mkF m 0 #[rv a1] [])) t
    refine XS.aloadN X0.here hx rfl (hb hby d12_0) rfl rfl ?_
    exact k)
  obtain ⟨T2, X2, e2, st2⟩ := getF X0 hx hZ hown (host := "") (Or.inl (hw _ (List.mem_of_getElem? (i := 65) rfl))) Via.refl e0 F1 (g := (mkF m 1 #[rv a1] [(.ref a1)])) rfl rfl (hb hby d12_1)
  have P3 : Rch p e below (s₁.setTop (entryFrame m #[(.ref a1)] 1)) (T2.setTop (mkF m 4 #[rv a1] [(.ref m2)])) := fun t k => P1 t (st2 t k)
  obtain ⟨cq4, kq4, q4a, q4b, q4c⟩ := isOf hZ e2 E2
  obtain ⟨_, _, ⟨T4, L4, k4, n4⟩, -, X4, ⟨Lc4, hQ4, l4, y4, z4⟩, st4⟩ := X2.virtualBack hx (y := (⟨"java/util/HashMap", "size", "()I"⟩ : MethodName)) (z := (⟨"java/util/HashMap", "size", "()I"⟩ : MethodName)) hown (mvT hZ (hw _ (List.mem_of_getElem? (i := 113) rfl))) (mvT hZ (hw _ (List.mem_of_getElem? (i := 114) rfl))) (notFace_of_selects (args := #[]) (mvT hZ (hw _ (List.mem_of_getElem? (i := 116) rfl)))) (mvT hZ (hw _ (List.mem_of_getElem? (i := 116) rfl))) (mvT hZ (hw _ (List.mem_of_getElem? (i := 115) rfl))) (by decide) (backOf (W := 0) (rmMS l Z a0 hw [] m2 w1 h0 n0 Z0 F2) hZ (hw _ (List.mem_of_getElem? (i := 117) rfl)) (hw _ (List.mem_of_getElem? (i := 50) rfl)) (by decide) (by decide)) q4a q4c (g := (mkF m 4 #[rv a1] [(.ref m2)])) rfl (by rw [hml]; rfl) (Steps.refl _) (argsL := []) (rest := []) (lenOf pd_1 rfl) rfl (by show 2 * 0 + _ ≤ _; exact Nat.le_of_eq rfl) (hb hby d12_4) (fun _ _ => ⟨rfl, e2, (by decide : 0 + 0 ≤ _), (by decide : 0 + 0 ≤ _)⟩)
  dsimp only [Pt.U, Pt.locs, Pt.cells, Pt.slots] at X4 l4 y4 z4 st4 hQ4
  subst y4 z4
  obtain ⟨rfl, N4q, e4⟩ := hQ4
  have N4 : Fr n0 L4 := by rw [l4]; exact Fr.app N0 N4q
  have P5 : Rch p e below (s₁.setTop (entryFrame m #[(.ref a1)] 1)) (T4.setTop (mkF m 7 #[rv a1] [(.int w1)])) := fun t k => P3 t (st4.trans k)
  obtain ⟨fs, hr, hrun, hended, hW, hsame⟩ := X4.leave (v := some (.int w1)) (fun h => by rw [Bd.returns] at h; cases h)
  refine ⟨_, _, P5 _ ?_, hrun, hended, _, _, rfl, ?_, ⟨_, rfl⟩, hW, hsame.mono (by decide) (by decide)⟩
  · exact retI X4 hx Bd.returns (hb hby d12_7) hr
  · show Q_rmHz Z a1 m2 w1 h0 n0 _ T4.heap _
    rw [e4]
    exact ⟨rfl, N4, rfl⟩
def Q_rmSI (Z : State) (a1 : Addr) (q2 : Int64) (q3 : Int64) (q4 : Int64) (q5 : Int64) (p6 : Int32) (p7 : Int32) (p8 : Int32) (q9 : Int64) (p10 : Int32) (p11 : Int32) (q12 : Int64) (h0 : Heap) (n0 : Nat) (v : Option Value) (h : Heap) (L : List Loc) : Prop := v = none ∧ Fr n0 L ∧ Keep h0 h [a1] ∧ (Exa Z h a1 "com/example/usher/usher/protocol/Stat") ∧ (Fld Z h a1 "com/example/usher/usher/protocol/Stat" "czxid" "J" (.long q2)) ∧ (Fld Z h a1 "com/example/usher/usher/protocol/Stat" "mzxid" "J" (.long q3)) ∧ (Fld Z h a1 "com/example/usher/usher/protocol/Stat" "ctime" "J" (.long q4)) ∧ (Fld Z h a1 "com/example/usher/usher/protocol/Stat" "mtime" "J" (.long q5)) ∧ (Fld Z h a1 "com/example/usher/usher/protocol/Stat" "version" "I" (.int p6)) ∧ (Fld Z h a1 "com/example/usher/usher/protocol/Stat" "cversion" "I" (.int p7)) ∧ (Fld Z h a1 "com/example/usher/usher/protocol/Stat" "aversion" "I" (.int p8)) ∧ (Fld Z h a1 "com/example/usher/usher/protocol/Stat" "ephemeralOwner" "J" (.long q9)) ∧ (Fld Z h a1 "com/example/usher/usher/protocol/Stat" "dataLength" "I" (.int p10)) ∧ (Fld Z h a1 "com/example/usher/usher/protocol/Stat" "numChildren" "I" (.int p11)) ∧ (Fld Z h a1 "com/example/usher/usher/protocol/Stat" "pzxid" "J" (.long q12))
set_option maxRecDepth 65536 in
set_option maxHeartbeats 40000000 in
theorem rmSI (l : Launch) (Z : State) (a0 : Array Value) (hw : ∀ d ∈ tables_1, d.before a0 Z = true) (ws : List Jvm.Cond) (a1 : Addr) (q2 : Int64) (q3 : Int64) (q4 : Int64) (q5 : Int64) (p6 : Int32) (p7 : Int32) (p8 : Int32) (q9 : Int64) (p10 : Int32) (p11 : Int32) (q12 : Int64) (h0 : Heap) (n0 : Nat) (Z0 : n0 ≤ h0.size) (E1 : Exa Z h0 a1 "com/example/usher/usher/protocol/Stat") (g1 : n0 ≤ a1) (F0 : Fld Z h0 a1 "com/example/usher/usher/protocol/Stat" "czxid" "J" (.long (0 : Int64))) (F1 : Fld Z h0 a1 "com/example/usher/usher/protocol/Stat" "mzxid" "J" (.long (0 : Int64))) (F2 : Fld Z h0 a1 "com/example/usher/usher/protocol/Stat" "ctime" "J" (.long (0 : Int64))) (F3 : Fld Z h0 a1 "com/example/usher/usher/protocol/Stat" "mtime" "J" (.long (0 : Int64))) (F4 : Fld Z h0 a1 "com/example/usher/usher/protocol/Stat" "version" "I" (.int (0 : Int32))) (F5 : Fld Z h0 a1 "com/example/usher/usher/protocol/Stat" "cversion" "I" (.int (0 : Int32))) (F6 : Fld Z h0 a1 "com/example/usher/usher/protocol/Stat" "aversion" "I" (.int (0 : Int32))) (F7 : Fld Z h0 a1 "com/example/usher/usher/protocol/Stat" "ephemeralOwner" "J" (.long (0 : Int64))) (F8 : Fld Z h0 a1 "com/example/usher/usher/protocol/Stat" "dataLength" "I" (.int (0 : Int32))) (F9 : Fld Z h0 a1 "com/example/usher/usher/protocol/Stat" "numChildren" "I" (.int (0 : Int32))) (F10 : Fld Z h0 a1 "com/example/usher/usher/protocol/Stat" "pzxid" "J" (.long (0 : Int64))) :
    MetFree l (⟨"com/example/usher/usher/protocol/Stat", "<init>", "(JJJJIIIJIIJ)V"⟩ : MethodName) (head1 (Jvm.Cond.code (⟨"com/example/usher/usher/protocol/Stat", "<init>", "(JJJJIIIJIIJ)V"⟩ : MethodName) prog_60_method_1_code 18 none :: ws) ({ frames := 1, cells := 0, slots := 0, locals := 12 } : Room)) (fun a U => a = #[(.ref a1), (.long q2), (.long q3), (.long q4), (.long q5), (.int p6), (.int p7), (.int p8), (.long q9), (.int p10), (.int p11), (.long q12)] ∧ Z.Warmed39 U.vm ∧ U.heap = h0) (fun _ _ _ _ _ => True) (fun _ U o U' => ∃ v L, o = .returned v ∧ Q_rmSI Z a1 q2 q3 q4 q5 p6 p7 p8 q9 p10 p11 q12 h0 n0 v U'.heap L ∧ FrameEnd U o U' L ({ frames := 1, cells := 0, slots := 0, locals := 12 } : Room).cells ({ frames := 1, cells := 0, slots := 0, locals := 12 } : Room).slots) := by
  refine MetFree.of_bodySF (plainFor_of_name pn_8) hisR ?_
  intro p e s m args below meth c s₁ Bd hml0 hP hK
  obtain ⟨rfl, hZ, hh⟩ := hP
  have hx := Bd.exec
  have hby := Bd.bytes
  have hml : c.maxLocals = 18 := hml0
  have hown : s.vm.findClass "com/example/usher/usher/protocol/Stat" = some m.cls := findClass_of_methodNamed Bd.named
  have hnm := (name_of_methodNamed Bd.named Bd.method).1
  have X0 : Stand p l e ({ frames := 1, cells := 0, slots := 0, locals := 12 } : Room) s m #[(.ref a1), (.long q2), (.long q3), (.long q4), (.long q5), (.int p6), (.int p7), (.int p8), (.long q9), (.int p10), (.int p11), (.long q12)] below meth c s₁ [] 0 0 := Stand.of_body Bd
  have e0 : s₁.heap = h0 := by rw [← hh, Bd.state]; rfl
  have N0 := Fr.nil n0
  have P0 : Rch p e below (s₁.setTop (entryFrame m #[(.ref a1), (.long q2), (.long q3), (.long q4), (.long q5), (.int p6), (.int p7), (.int p8), (.long q9), (.int p10), (.int p11), (.long q12)] 18)) (s₁.setTop (mkF m 0 #[rv a1, lv q2, sd, lv q3, sd, lv q4, sd, lv q5, sd, iv p6, iv p7, iv p8, lv q9, sd, iv p10, iv p11, lv q12, sd] [])) := fun t k => castTop (by first | (simp [entryFrame, mkF, argsToLocals, Value.category]; done) | rfl) k
  have P1 : Rch p e below (s₁.setTop (entryFrame m #[(.ref a1), (.long q2), (.long q3), (.long q4), (.long q5), (.int p6), (.int p7), (.int p8), (.long q9), (.int p10), (.int p11), (.long q12)] 18)) (s₁.setTop (mkF m 1 #[rv a1, lv q2, sd, lv q3, sd, lv q4, sd, lv q5, sd, iv p6, iv p7, iv p8, lv q9, sd, iv p10, iv p11, lv q12, sd] [(.ref a1)])) := fun t k => P0 t (by
    show Steps p.tables e below (s₁.setTop (mkF m 0 #[rv a1, lv q2, sd, lv q3, sd, lv q4, sd, lv q5, sd, iv p6, iv p7, iv p8, lv q9, sd, iv p10, iv p11, lv q12, sd] [])) t
    refine XS.aloadN X0.here hx rfl (hb hby d14_0) rfl rfl ?_
    exact k)
  obtain ⟨T2, X2, e2, st2⟩ := initO X0 hx hZ hown (hw _ (List.mem_of_getElem? (i := 123) rfl)) (hw _ (List.mem_of_getElem? (i := 20) rfl)) (hw _ (List.mem_of_getElem? (i := 21) rfl)) e0 (g := (mkF m 1 #[rv a1, lv q2, sd, lv q3, sd, lv q4, sd, lv q5, sd, iv p6, iv p7, iv p8, lv q9, sd, iv p10, iv p11, lv q12, sd] [(.ref a1)])) rfl (by rw [hml]; rfl) rfl (hb hby d14_1) (by decide) (W := 0) (by show 2 * 0 + _ ≤ _; exact Nat.le_of_eq rfl) (by decide)
  have P3 : Rch p e below (s₁.setTop (entryFrame m #[(.ref a1), (.long q2), (.long q3), (.long q4), (.long q5), (.int p6), (.int p7), (.int p8), (.long q9), (.int p10), (.int p11), (.long q12)] 18)) (T2.setTop (mkF m 4 #[rv a1, lv q2, sd, lv q3, sd, lv q4, sd, lv q5, sd, iv p6, iv p7, iv p8, lv q9, sd, iv p10, iv p11, lv q12, sd] [])) := fun t k => P1 t (st2 t k)
  have P4 : Rch p e below (s₁.setTop (entryFrame m #[(.ref a1), (.long q2), (.long q3), (.long q4), (.long q5), (.int p6), (.int p7), (.int p8), (.long q9), (.int p10), (.int p11), (.long q12)] 18)) (T2.setTop (mkF m 6 #[rv a1, lv q2, sd, lv q3, sd, lv q4, sd, lv q5, sd, iv p6, iv p7, iv p8, lv q9, sd, iv p10, iv p11, lv q12, sd] [(.long q2), (.ref a1)])) := fun t k => P3 t (by
    show Steps p.tables e below (T2.setTop (mkF m 4 #[rv a1, lv q2, sd, lv q3, sd, lv q4, sd, lv q5, sd, iv p6, iv p7, iv p8, lv q9, sd, iv p10, iv p11, lv q12, sd] [])) t
    refine XS.aloadN X2.here hx rfl (hb hby d14_4) rfl rfl ?_
    refine XS.lloadN X2.here hx rfl (hb hby d14_5) rfl ?_
    exact k)
  obtain ⟨T5, h5, X5, e5, W5, st5⟩ := putF X2 hx hZ hown (host := "") (Or.inl (hw _ (List.mem_of_getElem? (i := 124) rfl))) Via.refl e2 F0 E1 (Or.inr ⟨(hw _ (List.mem_of_getElem? (i := 125) rfl)), rfl, hnm⟩) (hw _ (List.mem_of_getElem? (i := 98) rfl)) (ty := .long) (by decide) rfl rfl (g := (mkF m 6 #[rv a1, lv q2, sd, lv q3, sd, lv q4, sd, lv q5, sd, iv p6, iv p7, iv p8, lv q9, sd, iv p10, iv p11, lv q12, sd] [(.long q2), (.ref a1)])) rfl rfl (hb hby d14_6)
  have Fw5 := F0.same W5
  have P6 : Rch p e below (s₁.setTop (entryFrame m #[(.ref a1), (.long q2), (.long q3), (.long q4), (.long q5), (.int p6), (.int p7), (.int p8), (.long q9), (.int p10), (.int p11), (.long q12)] 18)) (T5.setTop (mkF m 9 #[rv a1, lv q2, sd, lv q3, sd, lv q4, sd, lv q5, sd, iv p6, iv p7, iv p8, lv q9, sd, iv p10, iv p11, lv q12, sd] [])) := fun t k => P4 t (st5 t k)
  have N5 := Fr.snoc X5 N0 g1
  have P7 : Rch p e below (s₁.setTop (entryFrame m #[(.ref a1), (.long q2), (.long q3), (.long q4), (.long q5), (.int p6), (.int p7), (.int p8), (.long q9), (.int p10), (.int p11), (.long q12)] 18)) (T5.setTop (mkF m 11 #[rv a1, lv q2, sd, lv q3, sd, lv q4, sd, lv q5, sd, iv p6, iv p7, iv p8, lv q9, sd, iv p10, iv p11, lv q12, sd] [(.long q3), (.ref a1)])) := fun t k => P6 t (by
    show Steps p.tables e below (T5.setTop (mkF m 9 #[rv a1, lv q2, sd, lv q3, sd, lv q4, sd, lv q5, sd, iv p6, iv p7, iv p8, lv q9, sd, iv p10, iv p11, lv q12, sd] [])) t
    refine XS.aloadN X5.here hx rfl (hb hby d14_9) rfl rfl ?_
    refine XS.lloadN X5.here hx rfl (hb hby d14_10) rfl ?_
    exact k)
  have f9 : Fld Z h5 a1 "com/example/usher/usher/protocol/Stat" "mzxid" "J" (.long (0 : Int64)) := (F1.other W5 (Or.inr (slot_ne (Or.inr (hw _ (List.mem_of_getElem? (i := 127) rfl))) (Or.inr (hw _ (List.mem_of_getElem? (i := 125) rfl))) (by decide) (t := .long) (t' := .long) (by decide) (by decide))))
  obtain ⟨T8, h8, X8, e8, W8, st8⟩ := putF X5 hx hZ hown (host := "") (Or.inl (hw _ (List.mem_of_getElem? (i := 126) rfl))) Via.refl e5 f9 (E1.wr W5) (Or.inr ⟨(hw _ (List.mem_of_getElem? (i := 127) rfl)), rfl, hnm⟩) (hw _ (List.mem_of_getElem? (i := 98) rfl)) (ty := .long) (by decide) rfl rfl (g := (mkF m 11 #[rv a1, lv q2, sd, lv q3, sd, lv q4, sd, lv q5, sd, iv p6, iv p7, iv p8, lv q9, sd, iv p10, iv p11, lv q12, sd] [(.long q3), (.ref a1)])) rfl rfl (hb hby d14_11)
  have Fw8 := f9.same W8
  have P10 : Rch p e below (s₁.setTop (entryFrame m #[(.ref a1), (.long q2), (.long q3), (.long q4), (.long q5), (.int p6), (.int p7), (.int p8), (.long q9), (.int p10), (.int p11), (.long q12)] 18)) (T8.setTop (mkF m 14 #[rv a1, lv q2, sd, lv q3, sd, lv q4, sd, lv q5, sd, iv p6, iv p7, iv p8, lv q9, sd, iv p10, iv p11, lv q12, sd] [])) := fun t k => P7 t (st8 t k)
  have N8 := Fr.snoc X8 N5 g1
  have P11 : Rch p e below (s₁.setTop (entryFrame m #[(.ref a1), (.long q2), (.long q3), (.long q4), (.long q5), (.int p6), (.int p7), (.int p8), (.long q9), (.int p10), (.int p11), (.long q12)] 18)) (T8.setTop (mkF m 17 #[rv a1, lv q2, sd, lv q3, sd, lv q4, sd, lv q5, sd, iv p6, iv p7, iv p8, lv q9, sd, iv p10, iv p11, lv q12, sd] [(.long q4), (.ref a1)])) := fun t k => P10 t (by
    show Steps p.tables e below (T8.setTop (mkF m 14 #[rv a1, lv q2, sd, lv q3, sd, lv q4, sd, lv q5, sd, iv p6, iv p7, iv p8, lv q9, sd, iv p10, iv p11, lv q12, sd] [])) t
    refine XS.aloadN X8.here hx rfl (hb hby d14_14) rfl rfl ?_
    refine XS.lload X8.here hx rfl (hb hby d14_15) rfl ?_
    exact k)
  have f13 : Fld Z h8 a1 "com/example/usher/usher/protocol/Stat" "ctime" "J" (.long (0 : Int64)) := ((F2.other W5 (Or.inr (slot_ne (Or.inr (hw _ (List.mem_of_getElem? (i := 129) rfl))) (Or.inr (hw _ (List.mem_of_getElem? (i := 125) rfl))) (by decide) (t := .long) (t' := .long) (by decide) (by decide)))).other W8 (Or.inr (slot_ne (Or.inr (hw _ (List.mem_of_getElem? (i := 129) rfl))) (Or.inr (hw _ (List.mem_of_getElem? (i := 127) rfl))) (by decide) (t := .long) (t' := .long) (by decide) (by decide))))
  obtain ⟨T12, h12, X12, e12, W12, st12⟩ := putF X8 hx hZ hown (host := "") (Or.inl (hw _ (List.mem_of_getElem? (i := 128) rfl))) Via.refl e8 f13 ((E1.wr W5).wr W8) (Or.inr ⟨(hw _ (List.mem_of_getElem? (i := 129) rfl)), rfl, hnm⟩) (hw _ (List.mem_of_getElem? (i := 98) rfl)) (ty := .long) (by decide) rfl rfl (g := (mkF m 17 #[rv a1, lv q2, sd, lv q3, sd, lv q4, sd, lv q5, sd, iv p6, iv p7, iv p8, lv q9, sd, iv p10, iv p11, lv q12, sd] [(.long q4), (.ref a1)])) rfl rfl (hb hby d14_17)
  have Fw12 := f13.same W12
  have P14 : Rch p e below (s₁.setTop (entryFrame m #[(.ref a1), (.long q2), (.long q3), (.long q4), (.long q5), (.int p6), (.int p7), (.int p8), (.long q9), (.int p10), (.int p11), (.long q12)] 18)) (T12.setTop (mkF m 20 #[rv a1, lv q2, sd, lv q3, sd, lv q4, sd, lv q5, sd, iv p6, iv p7, iv p8, lv q9, sd, iv p10, iv p11, lv q12, sd] [])) := fun t k => P11 t (st12 t k)
  have N12 := Fr.snoc X12 N8 g1
  have P15 : Rch p e below (s₁.setTop (entryFrame m #[(.ref a1), (.long q2), (.long q3), (.long q4), (.long q5), (.int p6), (.int p7), (.int p8), (.long q9), (.int p10), (.int p11), (.long q12)] 18)) (T12.setTop (mkF m 23 #[rv a1, lv q2, sd, lv q3, sd, lv q4, sd, lv q5, sd, iv p6, iv p7, iv p8, lv q9, sd, iv p10, iv p11, lv q12, sd] [(.long q5), (.ref a1)])) := fun t k => P14 t (by
    show Steps p.tables e below (T12.setTop (mkF m 20 #[rv a1, lv q2, sd, lv q3, sd, lv q4, sd, lv q5, sd, iv p6, iv p7, iv p8, lv q9, sd, iv p10, iv p11, lv q12, sd] [])) t
    refine XS.aloadN X12.here hx rfl (hb hby d14_20) rfl rfl ?_
    refine XS.lload X12.here hx rfl (hb hby d14_21) rfl ?_
    exact k)
  have f17 : Fld Z h12 a1 "com/example/usher/usher/protocol/Stat" "mtime" "J" (.long (0 : Int64)) := (((F3.other W5 (Or.inr (slot_ne (Or.inr (hw _ (List.mem_of_getElem? (i := 131) rfl))) (Or.inr (hw _ (List.mem_of_getElem? (i := 125) rfl))) (by decide) (t := .long) (t' := .long) (by decide) (by decide)))).other W8 (Or.inr (slot_ne (Or.inr (hw _ (List.mem_of_getElem? (i := 131) rfl))) (Or.inr (hw _ (List.mem_of_getElem? (i := 127) rfl))) (by decide) (t := .long) (t' := .long) (by decide) (by decide)))).other W12 (Or.inr (slot_ne (Or.inr (hw _ (List.mem_of_getElem? (i := 131) rfl))) (Or.inr (hw _ (List.mem_of_getElem? (i := 129) rfl))) (by decide) (t := .long) (t' := .long) (by decide) (by decide))))
  obtain ⟨T16, h16, X16, e16, W16, st16⟩ := putF X12 hx hZ hown (host := "") (Or.inl (hw _ (List.mem_of_getElem? (i := 130) rfl))) Via.refl e12 f17 (((E1.wr W5).wr W8).wr W12) (Or.inr ⟨(hw _ (List.mem_of_getElem? (i := 131) rfl)), rfl, hnm⟩) (hw _ (List.mem_of_getElem? (i := 98) rfl)) (ty := .long) (by decide) rfl rfl (g := (mkF m 23 #[rv a1, lv q2, sd, lv q3, sd, lv q4, sd, lv q5, sd, iv p6, iv p7, iv p8, lv q9, sd, iv p10, iv p11, lv q12, sd] [(.long q5), (.ref a1)])) rfl rfl (hb hby d14_23)
  have Fw16 := f17.same W16
  have P18 : Rch p e below (s₁.setTop (entryFrame m #[(.ref a1), (.long q2), (.long q3), (.long q4), (.long q5), (.int p6), (.int p7), (.int p8), (.long q9), (.int p10), (.int p11), (.long q12)] 18)) (T16.setTop (mkF m 26 #[rv a1, lv q2, sd, lv q3, sd, lv q4, sd, lv q5, sd, iv p6, iv p7, iv p8, lv q9, sd, iv p10, iv p11, lv q12, sd] [])) := fun t k => P15 t (st16 t k)
  have N16 := Fr.snoc X16 N12 g1
  have P19 : Rch p e below (s₁.setTop (entryFrame m #[(.ref a1), (.long q2), (.long q3), (.long q4), (.long q5), (.int p6), (.int p7), (.int p8), (.long q9), (.int p10), (.int p11), (.long q12)] 18)) (T16.setTop (mkF m 29 #[rv a1, lv q2, sd, lv q3, sd, lv q4, sd, lv q5, sd, iv p6, iv p7, iv p8, lv q9, sd, iv p10, iv p11, lv q12, sd] [(.int p6), (.ref a1)])) := fun t k => P18 t (by
    show Steps p.tables e below (T16.setTop (mkF m 26 #[rv a1, lv q2, sd, lv q3, sd, lv q4, sd, lv q5, sd, iv p6, iv p7, iv p8, lv q9, sd, iv p10, iv p11, lv q12, sd] [])) t
    refine XS.aloadN X16.here hx rfl (hb hby d14_26) rfl rfl ?_
    refine XS.iload X16.here hx rfl (hb hby d14_27) rfl ?_
    exact k)
  have f21 : Fld Z h16 a1 "com/example/usher/usher/protocol/Stat" "version" "I" (.int (0 : Int32)) := ((((F4.other W5 (Or.inr (slot_ne (Or.inr (hw _ (List.mem_of_getElem? (i := 133) rfl))) (Or.inr (hw _ (List.mem_of_getElem? (i := 125) rfl))) (by decide) (t := .int) (t' := .long) (by decide) (by decide)))).other W8 (Or.inr (slot_ne (Or.inr (hw _ (List.mem_of_getElem? (i := 133) rfl))) (Or.inr (hw _ (List.mem_of_getElem? (i := 127) rfl))) (by decide) (t := .int) (t' := .long) (by decide) (by decide)))).other W12 (Or.inr (slot_ne (Or.inr (hw _ (List.mem_of_getElem? (i := 133) rfl))) (Or.inr (hw _ (List.mem_of_getElem? (i := 129) rfl))) (by decide) (t := .int) (t' := .long) (by decide) (by decide)))).other W16 (Or.inr (slot_ne (Or.inr (hw _ (List.mem_of_getElem? (i := 133) rfl))) (Or.inr (hw _ (List.mem_of_getElem? (i := 131) rfl))) (by decide) (t := .int) (t' := .long) (by decide) (by decide))))
  obtain ⟨T20, h20, X20, e20, W20, st20⟩ := putF X16 hx hZ hown (host := "") (Or.inl (hw _ (List.mem_of_getElem? (i := 132) rfl))) Via.refl e16 f21 ((((E1.wr W5).wr W8).wr W12).wr W16) (Or.inr ⟨(hw _ (List.mem_of_getElem? (i := 133) rfl)), rfl, hnm⟩) (hw _ (List.mem_of_getElem? (i := 98) rfl)) (ty := .int) (by decide) rfl rfl (g := (mkF m 29 #[rv a1, lv q2, sd, lv q3, sd, lv q4, sd, lv q5, sd, iv p6, iv p7, iv p8, lv q9, sd, iv p10, iv p11, lv q12, sd] [(.int p6), (.ref a1)])) rfl rfl (hb hby d14_29)
  have Fw20 := f21.same W20
  have P22 : Rch p e below (s₁.setTop (entryFrame m #[(.ref a1), (.long q2), (.long q3), (.long q4), (.long q5), (.int p6), (.int p7), (.int p8), (.long q9), (.int p10), (.int p11), (.long q12)] 18)) (T20.setTop (mkF m 32 #[rv a1, lv q2, sd, lv q3, sd, lv q4, sd, lv q5, sd, iv p6, iv p7, iv p8, lv q9, sd, iv p10, iv p11, lv q12, sd] [])) := fun t k => P19 t (st20 t k)
  have N20 := Fr.snoc X20 N16 g1
  have P23 : Rch p e below (s₁.setTop (entryFrame m #[(.ref a1), (.long q2), (.long q3), (.long q4), (.long q5), (.int p6), (.int p7), (.int p8), (.long q9), (.int p10), (.int p11), (.long q12)] 18)) (T20.setTop (mkF m 35 #[rv a1, lv q2, sd, lv q3, sd, lv q4, sd, lv q5, sd, iv p6, iv p7, iv p8, lv q9, sd, iv p10, iv p11, lv q12, sd] [(.int p7), (.ref a1)])) := fun t k => P22 t (by
    show Steps p.tables e below (T20.setTop (mkF m 32 #[rv a1, lv q2, sd, lv q3, sd, lv q4, sd, lv q5, sd, iv p6, iv p7, iv p8, lv q9, sd, iv p10, iv p11, lv q12, sd] [])) t
    refine XS.aloadN X20.here hx rfl (hb hby d14_32) rfl rfl ?_
    refine XS.iload X20.here hx rfl (hb hby d14_33) rfl ?_
    exact k)
  have f25 : Fld Z h20 a1 "com/example/usher/usher/protocol/Stat" "cversion" "I" (.int (0 : Int32)) := (((((F5.other W5 (Or.inr (slot_ne (Or.inr (hw _ (List.mem_of_getElem? (i := 135) rfl))) (Or.inr (hw _ (List.mem_of_getElem? (i := 125) rfl))) (by decide) (t := .int) (t' := .long) (by decide) (by decide)))).other W8 (Or.inr (slot_ne (Or.inr (hw _ (List.mem_of_getElem? (i := 135) rfl))) (Or.inr (hw _ (List.mem_of_getElem? (i := 127) rfl))) (by decide) (t := .int) (t' := .long) (by decide) (by decide)))).other W12 (Or.inr (slot_ne (Or.inr (hw _ (List.mem_of_getElem? (i := 135) rfl))) (Or.inr (hw _ (List.mem_of_getElem? (i := 129) rfl))) (by decide) (t := .int) (t' := .long) (by decide) (by decide)))).other W16 (Or.inr (slot_ne (Or.inr (hw _ (List.mem_of_getElem? (i := 135) rfl))) (Or.inr (hw _ (List.mem_of_getElem? (i := 131) rfl))) (by decide) (t := .int) (t' := .long) (by decide) (by decide)))).other W20 (Or.inr (slot_ne (Or.inr (hw _ (List.mem_of_getElem? (i := 135) rfl))) (Or.inr (hw _ (List.mem_of_getElem? (i := 133) rfl))) (by decide) (t := .int) (t' := .int) (by decide) (by decide))))
  obtain ⟨T24, h24, X24, e24, W24, st24⟩ := putF X20 hx hZ hown (host := "") (Or.inl (hw _ (List.mem_of_getElem? (i := 134) rfl))) Via.refl e20 f25 (((((E1.wr W5).wr W8).wr W12).wr W16).wr W20) (Or.inr ⟨(hw _ (List.mem_of_getElem? (i := 135) rfl)), rfl, hnm⟩) (hw _ (List.mem_of_getElem? (i := 98) rfl)) (ty := .int) (by decide) rfl rfl (g := (mkF m 35 #[rv a1, lv q2, sd, lv q3, sd, lv q4, sd, lv q5, sd, iv p6, iv p7, iv p8, lv q9, sd, iv p10, iv p11, lv q12, sd] [(.int p7), (.ref a1)])) rfl rfl (hb hby d14_35)
  have Fw24 := f25.same W24
  have P26 : Rch p e below (s₁.setTop (entryFrame m #[(.ref a1), (.long q2), (.long q3), (.long q4), (.long q5), (.int p6), (.int p7), (.int p8), (.long q9), (.int p10), (.int p11), (.long q12)] 18)) (T24.setTop (mkF m 38 #[rv a1, lv q2, sd, lv q3, sd, lv q4, sd, lv q5, sd, iv p6, iv p7, iv p8, lv q9, sd, iv p10, iv p11, lv q12, sd] [])) := fun t k => P23 t (st24 t k)
  have N24 := Fr.snoc X24 N20 g1
  have P27 : Rch p e below (s₁.setTop (entryFrame m #[(.ref a1), (.long q2), (.long q3), (.long q4), (.long q5), (.int p6), (.int p7), (.int p8), (.long q9), (.int p10), (.int p11), (.long q12)] 18)) (T24.setTop (mkF m 41 #[rv a1, lv q2, sd, lv q3, sd, lv q4, sd, lv q5, sd, iv p6, iv p7, iv p8, lv q9, sd, iv p10, iv p11, lv q12, sd] [(.int p8), (.ref a1)])) := fun t k => P26 t (by
    show Steps p.tables e below (T24.setTop (mkF m 38 #[rv a1, lv q2, sd, lv q3, sd, lv q4, sd, lv q5, sd, iv p6, iv p7, iv p8, lv q9, sd, iv p10, iv p11, lv q12, sd] [])) t
    refine XS.aloadN X24.here hx rfl (hb hby d14_38) rfl rfl ?_
    refine XS.iload X24.here hx rfl (hb hby d14_39) rfl ?_
    exact k)
  have f29 : Fld Z h24 a1 "com/example/usher/usher/protocol/Stat" "aversion" "I" (.int (0 : Int32)) := ((((((F6.other W5 (Or.inr (slot_ne (Or.inr (hw _ (List.mem_of_getElem? (i := 137) rfl))) (Or.inr (hw _ (List.mem_of_getElem? (i := 125) rfl))) (by decide) (t := .int) (t' := .long) (by decide) (by decide)))).other W8 (Or.inr (slot_ne (Or.inr (hw _ (List.mem_of_getElem? (i := 137) rfl))) (Or.inr (hw _ (List.mem_of_getElem? (i := 127) rfl))) (by decide) (t := .int) (t' := .long) (by decide) (by decide)))).other W12 (Or.inr (slot_ne (Or.inr (hw _ (List.mem_of_getElem? (i := 137) rfl))) (Or.inr (hw _ (List.mem_of_getElem? (i := 129) rfl))) (by decide) (t := .int) (t' := .long) (by decide) (by decide)))).other W16 (Or.inr (slot_ne (Or.inr (hw _ (List.mem_of_getElem? (i := 137) rfl))) (Or.inr (hw _ (List.mem_of_getElem? (i := 131) rfl))) (by decide) (t := .int) (t' := .long) (by decide) (by decide)))).other W20 (Or.inr (slot_ne (Or.inr (hw _ (List.mem_of_getElem? (i := 137) rfl))) (Or.inr (hw _ (List.mem_of_getElem? (i := 133) rfl))) (by decide) (t := .int) (t' := .int) (by decide) (by decide)))).other W24 (Or.inr (slot_ne (Or.inr (hw _ (List.mem_of_getElem? (i := 137) rfl))) (Or.inr (hw _ (List.mem_of_getElem? (i := 135) rfl))) (by decide) (t := .int) (t' := .int) (by decide) (by decide))))
  obtain ⟨T28, h28, X28, e28, W28, st28⟩ := putF X24 hx hZ hown (host := "") (Or.inl (hw _ (List.mem_of_getElem? (i := 136) rfl))) Via.refl e24 f29 ((((((E1.wr W5).wr W8).wr W12).wr W16).wr W20).wr W24) (Or.inr ⟨(hw _ (List.mem_of_getElem? (i := 137) rfl)), rfl, hnm⟩) (hw _ (List.mem_of_getElem? (i := 98) rfl)) (ty := .int) (by decide) rfl rfl (g := (mkF m 41 #[rv a1, lv q2, sd, lv q3, sd, lv q4, sd, lv q5, sd, iv p6, iv p7, iv p8, lv q9, sd, iv p10, iv p11, lv q12, sd] [(.int p8), (.ref a1)])) rfl rfl (hb hby d14_41)
  have Fw28 := f29.same W28
  have P30 : Rch p e below (s₁.setTop (entryFrame m #[(.ref a1), (.long q2), (.long q3), (.long q4), (.long q5), (.int p6), (.int p7), (.int p8), (.long q9), (.int p10), (.int p11), (.long q12)] 18)) (T28.setTop (mkF m 44 #[rv a1, lv q2, sd, lv q3, sd, lv q4, sd, lv q5, sd, iv p6, iv p7, iv p8, lv q9, sd, iv p10, iv p11, lv q12, sd] [])) := fun t k => P27 t (st28 t k)
  have N28 := Fr.snoc X28 N24 g1
  have P31 : Rch p e below (s₁.setTop (entryFrame m #[(.ref a1), (.long q2), (.long q3), (.long q4), (.long q5), (.int p6), (.int p7), (.int p8), (.long q9), (.int p10), (.int p11), (.long q12)] 18)) (T28.setTop (mkF m 47 #[rv a1, lv q2, sd, lv q3, sd, lv q4, sd, lv q5, sd, iv p6, iv p7, iv p8, lv q9, sd, iv p10, iv p11, lv q12, sd] [(.long q9), (.ref a1)])) := fun t k => P30 t (by
    show Steps p.tables e below (T28.setTop (mkF m 44 #[rv a1, lv q2, sd, lv q3, sd, lv q4, sd, lv q5, sd, iv p6, iv p7, iv p8, lv q9, sd, iv p10, iv p11, lv q12, sd] [])) t
    refine XS.aloadN X28.here hx rfl (hb hby d14_44) rfl rfl ?_
    refine XS.lload X28.here hx rfl (hb hby d14_45) rfl ?_
    exact k)
  have f33 : Exa Z h28 a1 "com/example/usher/usher/protocol/Stat" := (((((((E1.wr W5).wr W8).wr W12).wr W16).wr W20).wr W24).wr W28)
  have f34 : Fld Z h28 a1 "com/example/usher/usher/protocol/Stat" "ephemeralOwner" "J" (.long (0 : Int64)) := (((((((F7.other W5 (Or.inr (slot_ne (Or.inr (hw _ (List.mem_of_getElem? (i := 139) rfl))) (Or.inr (hw _ (List.mem_of_getElem? (i := 125) rfl))) (by decide) (t := .long) (t' := .long) (by decide) (by decide)))).other W8 (Or.inr (slot_ne (Or.inr (hw _ (List.mem_of_getElem? (i := 139) rfl))) (Or.inr (hw _ (List.mem_of_getElem? (i := 127) rfl))) (by decide) (t := .long) (t' := .long) (by decide) (by decide)))).other W12 (Or.inr (slot_ne (Or.inr (hw _ (List.mem_of_getElem? (i := 139) rfl))) (Or.inr (hw _ (List.mem_of_getElem? (i := 129) rfl))) (by decide) (t := .long) (t' := .long) (by decide) (by decide)))).other W16 (Or.inr (slot_ne (Or.inr (hw _ (List.mem_of_getElem? (i := 139) rfl))) (Or.inr (hw _ (List.mem_of_getElem? (i := 131) rfl))) (by decide) (t := .long) (t' := .long) (by decide) (by decide)))).other W20 (Or.inr (slot_ne (Or.inr (hw _ (List.mem_of_getElem? (i := 139) rfl))) (Or.inr (hw _ (List.mem_of_getElem? (i := 133) rfl))) (by decide) (t := .long) (t' := .int) (by decide) (by decide)))).other W24 (Or.inr (slot_ne (Or.inr (hw _ (List.mem_of_getElem? (i := 139) rfl))) (Or.inr (hw _ (List.mem_of_getElem? (i := 135) rfl))) (by decide) (t := .long) (t' := .int) (by decide) (by decide)))).other W28 (Or.inr (slot_ne (Or.inr (hw _ (List.mem_of_getElem? (i := 139) rfl))) (Or.inr (hw _ (List.mem_of_getElem? (i := 137) rfl))) (by decide) (t := .long) (t' := .int) (by decide) (by decide))))
  obtain ⟨T32, h32, X32, e32, W32, st32⟩ := putF X28 hx hZ hown (host := "") (Or.inl (hw _ (List.mem_of_getElem? (i := 138) rfl))) Via.refl e28 f34 f33 (Or.inr ⟨(hw _ (List.mem_of_getElem? (i := 139) rfl)), rfl, hnm⟩) (hw _ (List.mem_of_getElem? (i := 98) rfl)) (ty := .long) (by decide) rfl rfl (g := (mkF m 47 #[rv a1, lv q2, sd, lv q3, sd, lv q4, sd, lv q5, sd, iv p6, iv p7, iv p8, lv q9, sd, iv p10, iv p11, lv q12, sd] [(.long q9), (.ref a1)])) rfl rfl (hb hby d14_47)
  have Fw32 := f34.same W32
  have P35 : Rch p e below (s₁.setTop (entryFrame m #[(.ref a1), (.long q2), (.long q3), (.long q4), (.long q5), (.int p6), (.int p7), (.int p8), (.long q9), (.int p10), (.int p11), (.long q12)] 18)) (T32.setTop (mkF m 50 #[rv a1, lv q2, sd, lv q3, sd, lv q4, sd, lv q5, sd, iv p6, iv p7, iv p8, lv q9, sd, iv p10, iv p11, lv q12, sd] [])) := fun t k => P31 t (st32 t k)
  have N32 := Fr.snoc X32 N28 g1
  have P36 : Rch p e below (s₁.setTop (entryFrame m #[(.ref a1), (.long q2), (.long q3), (.long q4), (.long q5), (.int p6), (.int p7), (.int p8), (.long q9), (.int p10), (.int p11), (.long q12)] 18)) (T32.setTop (mkF m 53 #[rv a1, lv q2, sd, lv q3, sd, lv q4, sd, lv q5, sd, iv p6, iv p7, iv p8, lv q9, sd, iv p10, iv p11, lv q12, sd] [(.int p10), (.ref a1)])) := fun t k => P35 t (by
    show Steps p.tables e below (T32.setTop (mkF m 50 #[rv a1, lv q2, sd, lv q3, sd, lv q4, sd, lv q5, sd, iv p6, iv p7, iv p8, lv q9, sd, iv p10, iv p11, lv q12, sd] [])) t
    refine XS.aloadN X32.here hx rfl (hb hby d14_50) rfl rfl ?_
    refine XS.iload X32.here hx rfl (hb hby d14_51) rfl ?_
    exact k)
  have f38 : Fld Z h32 a1 "com/example/usher/usher/protocol/Stat" "dataLength" "I" (.int (0 : Int32)) := ((((((((F8.other W5 (Or.inr (slot_ne (Or.inr (hw _ (List.mem_of_getElem? (i := 141) rfl))) (Or.inr (hw _ (List.mem_of_getElem? (i := 125) rfl))) (by decide) (t := .int) (t' := .long) (by decide) (by decide)))).other W8 (Or.inr (slot_ne (Or.inr (hw _ (List.mem_of_getElem? (i := 141) rfl))) (Or.inr (hw _ (List.mem_of_getElem? (i := 127) rfl))) (by decide) (t := .int) (t' := .long) (by decide) (by decide)))).other W12 (Or.inr (slot_ne (Or.inr (hw _ (List.mem_of_getElem? (i := 141) rfl))) (Or.inr (hw _ (List.mem_of_getElem? (i := 129) rfl))) (by decide) (t := .int) (t' := .long) (by decide) (by decide)))).other W16 (Or.inr (slot_ne (Or.inr (hw _ (List.mem_of_getElem? (i := 141) rfl))) (Or.inr (hw _ (List.mem_of_getElem? (i := 131) rfl))) (by decide) (t := .int) (t' := .long) (by decide) (by decide)))).other W20 (Or.inr (slot_ne (Or.inr (hw _ (List.mem_of_getElem? (i := 141) rfl))) (Or.inr (hw _ (List.mem_of_getElem? (i := 133) rfl))) (by decide) (t := .int) (t' := .int) (by decide) (by decide)))).other W24 (Or.inr (slot_ne (Or.inr (hw _ (List.mem_of_getElem? (i := 141) rfl))) (Or.inr (hw _ (List.mem_of_getElem? (i := 135) rfl))) (by decide) (t := .int) (t' := .int) (by decide) (by decide)))).other W28 (Or.inr (slot_ne (Or.inr (hw _ (List.mem_of_getElem? (i := 141) rfl))) (Or.inr (hw _ (List.mem_of_getElem? (i := 137) rfl))) (by decide) (t := .int) (t' := .int) (by decide) (by decide)))).other W32 (Or.inr (slot_ne (Or.inr (hw _ (List.mem_of_getElem? (i := 141) rfl))) (Or.inr (hw _ (List.mem_of_getElem? (i := 139) rfl))) (by decide) (t := .int) (t' := .long) (by decide) (by decide))))
  obtain ⟨T37, h37, X37, e37, W37, st37⟩ := putF X32 hx hZ hown (host := "") (Or.inl (hw _ (List.mem_of_getElem? (i := 140) rfl))) Via.refl e32 f38 (f33.wr W32) (Or.inr ⟨(hw _ (List.mem_of_getElem? (i := 141) rfl)), rfl, hnm⟩) (hw _ (List.mem_of_getElem? (i := 98) rfl)) (ty := .int) (by decide) rfl rfl (g := (mkF m 53 #[rv a1, lv q2, sd, lv q3, sd, lv q4, sd, lv q5, sd, iv p6, iv p7, iv p8, lv q9, sd, iv p10, iv p11, lv q12, sd] [(.int p10), (.ref a1)])) rfl rfl (hb hby d14_53)
  have Fw37 := f38.same W37
  have P39 : Rch p e below (s₁.setTop (entryFrame m #[(.ref a1), (.long q2), (.long q3), (.long q4), (.long q5), (.int p6), (.int p7), (.int p8), (.long q9), (.int p10), (.int p11), (.long q12)] 18)) (T37.setTop (mkF m 56 #[rv a1, lv q2, sd, lv q3, sd, lv q4, sd, lv q5, sd, iv p6, iv p7, iv p8, lv q9, sd, iv p10, iv p11, lv q12, sd] [])) := fun t k => P36 t (st37 t k)
  have N37 := Fr.snoc X37 N32 g1
  have P40 : Rch p e below (s₁.setTop (entryFrame m #[(.ref a1), (.long q2), (.long q3), (.long q4), (.long q5), (.int p6), (.int p7), (.int p8), (.long q9), (.int p10), (.int p11), (.long q12)] 18)) (T37.setTop (mkF m 59 #[rv a1, lv q2, sd, lv q3, sd, lv q4, sd, lv q5, sd, iv p6, iv p7, iv p8, lv q9, sd, iv p10, iv p11, lv q12, sd] [(.int p11), (.ref a1)])) := fun t k => P39 t (by
    show Steps p.tables e below (T37.setTop (mkF m 56 #[rv a1, lv q2, sd, lv q3, sd, lv q4, sd, lv q5, sd, iv p6, iv p7, iv p8, lv q9, sd, iv p10, iv p11, lv q12, sd] [])) t
    refine XS.aloadN X37.here hx rfl (hb hby d14_56) rfl rfl ?_
    refine XS.iload X37.here hx rfl (hb hby d14_57) rfl ?_
    exact k)
  have f42 : Fld Z h37 a1 "com/example/usher/usher/protocol/Stat" "numChildren" "I" (.int (0 : Int32)) := (((((((((F9.other W5 (Or.inr (slot_ne (Or.inr (hw _ (List.mem_of_getElem? (i := 143) rfl))) (Or.inr (hw _ (List.mem_of_getElem? (i := 125) rfl))) (by decide) (t := .int) (t' := .long) (by decide) (by decide)))).other W8 (Or.inr (slot_ne (Or.inr (hw _ (List.mem_of_getElem? (i := 143) rfl))) (Or.inr (hw _ (List.mem_of_getElem? (i := 127) rfl))) (by decide) (t := .int) (t' := .long) (by decide) (by decide)))).other W12 (Or.inr (slot_ne (Or.inr (hw _ (List.mem_of_getElem? (i := 143) rfl))) (Or.inr (hw _ (List.mem_of_getElem? (i := 129) rfl))) (by decide) (t := .int) (t' := .long) (by decide) (by decide)))).other W16 (Or.inr (slot_ne (Or.inr (hw _ (List.mem_of_getElem? (i := 143) rfl))) (Or.inr (hw _ (List.mem_of_getElem? (i := 131) rfl))) (by decide) (t := .int) (t' := .long) (by decide) (by decide)))).other W20 (Or.inr (slot_ne (Or.inr (hw _ (List.mem_of_getElem? (i := 143) rfl))) (Or.inr (hw _ (List.mem_of_getElem? (i := 133) rfl))) (by decide) (t := .int) (t' := .int) (by decide) (by decide)))).other W24 (Or.inr (slot_ne (Or.inr (hw _ (List.mem_of_getElem? (i := 143) rfl))) (Or.inr (hw _ (List.mem_of_getElem? (i := 135) rfl))) (by decide) (t := .int) (t' := .int) (by decide) (by decide)))).other W28 (Or.inr (slot_ne (Or.inr (hw _ (List.mem_of_getElem? (i := 143) rfl))) (Or.inr (hw _ (List.mem_of_getElem? (i := 137) rfl))) (by decide) (t := .int) (t' := .int) (by decide) (by decide)))).other W32 (Or.inr (slot_ne (Or.inr (hw _ (List.mem_of_getElem? (i := 143) rfl))) (Or.inr (hw _ (List.mem_of_getElem? (i := 139) rfl))) (by decide) (t := .int) (t' := .long) (by decide) (by decide)))).other W37 (Or.inr (slot_ne (Or.inr (hw _ (List.mem_of_getElem? (i := 143) rfl))) (Or.inr (hw _ (List.mem_of_getElem? (i := 141) rfl))) (by decide) (t := .int) (t' := .int) (by decide) (by decide))))
  obtain ⟨T41, h41, X41, e41, W41, st41⟩ := putF X37 hx hZ hown (host := "") (Or.inl (hw _ (List.mem_of_getElem? (i := 142) rfl))) Via.refl e37 f42 ((f33.wr W32).wr W37) (Or.inr ⟨(hw _ (List.mem_of_getElem? (i := 143) rfl)), rfl, hnm⟩) (hw _ (List.mem_of_getElem? (i := 98) rfl)) (ty := .int) (by decide) rfl rfl (g := (mkF m 59 #[rv a1, lv q2, sd, lv q3, sd, lv q4, sd, lv q5, sd, iv p6, iv p7, iv p8, lv q9, sd, iv p10, iv p11, lv q12, sd] [(.int p11), (.ref a1)])) rfl rfl (hb hby d14_59)
  have Fw41 := f42.same W41
  have P43 : Rch p e below (s₁.setTop (entryFrame m #[(.ref a1), (.long q2), (.long q3), (.long q4), (.long q5), (.int p6), (.int p7), (.int p8), (.long q9), (.int p10), (.int p11), (.long q12)] 18)) (T41.setTop (mkF m 62 #[rv a1, lv q2, sd, lv q3, sd, lv q4, sd, lv q5, sd, iv p6, iv p7, iv p8, lv q9, sd, iv p10, iv p11, lv q12, sd] [])) := fun t k => P40 t (st41 t k)
  have N41 := Fr.snoc X41 N37 g1
  have P44 : Rch p e below (s₁.setTop (entryFrame m #[(.ref a1), (.long q2), (.long q3), (.long q4), (.long q5), (.int p6), (.int p7), (.int p8), (.long q9), (.int p10), (.int p11), (.long q12)] 18)) (T41.setTop (mkF m 65 #[rv a1, lv q2, sd, lv q3, sd, lv q4, sd, lv q5, sd, iv p6, iv p7, iv p8, lv q9, sd, iv p10, iv p11, lv q12, sd] [(.long q12), (.ref a1)])) := fun t k => P43 t (by
    show Steps p.tables e below (T41.setTop (mkF m 62 #[rv a1, lv q2, sd, lv q3, sd, lv q4, sd, lv q5, sd, iv p6, iv p7, iv p8, lv q9, sd, iv p10, iv p11, lv q12, sd] [])) t
    refine XS.aloadN X41.here hx rfl (hb hby d14_62) rfl rfl ?_
    refine XS.lload X41.here hx rfl (hb hby d14_63) rfl ?_
    exact k)
  have f46 : Fld Z h41 a1 "com/example/usher/usher/protocol/Stat" "pzxid" "J" (.long (0 : Int64)) := ((((((((((F10.other W5 (Or.inr (slot_ne (Or.inr (hw _ (List.mem_of_getElem? (i := 145) rfl))) (Or.inr (hw _ (List.mem_of_getElem? (i := 125) rfl))) (by decide) (t := .long) (t' := .long) (by decide) (by decide)))).other W8 (Or.inr (slot_ne (Or.inr (hw _ (List.mem_of_getElem? (i := 145) rfl))) (Or.inr (hw _ (List.mem_of_getElem? (i := 127) rfl))) (by decide) (t := .long) (t' := .long) (by decide) (by decide)))).other W12 (Or.inr (slot_ne (Or.inr (hw _ (List.mem_of_getElem? (i := 145) rfl))) (Or.inr (hw _ (List.mem_of_getElem? (i := 129) rfl))) (by decide) (t := .long) (t' := .long) (by decide) (by decide)))).other W16 (Or.inr (slot_ne (Or.inr (hw _ (List.mem_of_getElem? (i := 145) rfl))) (Or.inr (hw _ (List.mem_of_getElem? (i := 131) rfl))) (by decide) (t := .long) (t' := .long) (by decide) (by decide)))).other W20 (Or.inr (slot_ne (Or.inr (hw _ (List.mem_of_getElem? (i := 145) rfl))) (Or.inr (hw _ (List.mem_of_getElem? (i := 133) rfl))) (by decide) (t := .long) (t' := .int) (by decide) (by decide)))).other W24 (Or.inr (slot_ne (Or.inr (hw _ (List.mem_of_getElem? (i := 145) rfl))) (Or.inr (hw _ (List.mem_of_getElem? (i := 135) rfl))) (by decide) (t := .long) (t' := .int) (by decide) (by decide)))).other W28 (Or.inr (slot_ne (Or.inr (hw _ (List.mem_of_getElem? (i := 145) rfl))) (Or.inr (hw _ (List.mem_of_getElem? (i := 137) rfl))) (by decide) (t := .long) (t' := .int) (by decide) (by decide)))).other W32 (Or.inr (slot_ne (Or.inr (hw _ (List.mem_of_getElem? (i := 145) rfl))) (Or.inr (hw _ (List.mem_of_getElem? (i := 139) rfl))) (by decide) (t := .long) (t' := .long) (by decide) (by decide)))).other W37 (Or.inr (slot_ne (Or.inr (hw _ (List.mem_of_getElem? (i := 145) rfl))) (Or.inr (hw _ (List.mem_of_getElem? (i := 141) rfl))) (by decide) (t := .long) (t' := .int) (by decide) (by decide)))).other W41 (Or.inr (slot_ne (Or.inr (hw _ (List.mem_of_getElem? (i := 145) rfl))) (Or.inr (hw _ (List.mem_of_getElem? (i := 143) rfl))) (by decide) (t := .long) (t' := .int) (by decide) (by decide))))
  obtain ⟨T45, h45, X45, e45, W45, st45⟩ := putF X41 hx hZ hown (host := "") (Or.inl (hw _ (List.mem_of_getElem? (i := 144) rfl))) Via.refl e41 f46 (((f33.wr W32).wr W37).wr W41) (Or.inr ⟨(hw _ (List.mem_of_getElem? (i := 145) rfl)), rfl, hnm⟩) (hw _ (List.mem_of_getElem? (i := 98) rfl)) (ty := .long) (by decide) rfl rfl (g := (mkF m 65 #[rv a1, lv q2, sd, lv q3, sd, lv q4, sd, lv q5, sd, iv p6, iv p7, iv p8, lv q9, sd, iv p10, iv p11, lv q12, sd] [(.long q12), (.ref a1)])) rfl rfl (hb hby d14_65)
  have Fw45 := f46.same W45
  have P47 : Rch p e below (s₁.setTop (entryFrame m #[(.ref a1), (.long q2), (.long q3), (.long q4), (.long q5), (.int p6), (.int p7), (.int p8), (.long q9), (.int p10), (.int p11), (.long q12)] 18)) (T45.setTop (mkF m 68 #[rv a1, lv q2, sd, lv q3, sd, lv q4, sd, lv q5, sd, iv p6, iv p7, iv p8, lv q9, sd, iv p10, iv p11, lv q12, sd] [])) := fun t k => P44 t (st45 t k)
  have N45 := Fr.snoc X45 N41 g1
  obtain ⟨fs, hr, hrun, hended, hW, hsame⟩ := X45.leave (v := none) (fun _ => rfl)
  refine ⟨_, _, P47 _ ?_, hrun, hended, _, _, rfl, ?_, ⟨_, rfl⟩, hW, hsame.mono (by decide) (by decide)⟩
  · exact X45.returnOut hx Bd.returns (hb hby d14_68) hr
  · show Q_rmSI Z a1 q2 q3 q4 q5 p6 p7 p8 q9 p10 p11 q12 h0 n0 _ T45.heap _
    rw [e45]
    have f48 : Keep h0 h45 [a1] := ((((((((((((Keep.refl h0 [a1]).wr W5 (Or.inl (List.mem_of_getElem? (i := 0) rfl))).wr W8 (Or.inl (List.mem_of_getElem? (i := 0) rfl))).wr W12 (Or.inl (List.mem_of_getElem? (i := 0) rfl))).wr W16 (Or.inl (List.mem_of_getElem? (i := 0) rfl))).wr W20 (Or.inl (List.mem_of_getElem? (i := 0) rfl))).wr W24 (Or.inl (List.mem_of_getElem? (i := 0) rfl))).wr W28 (Or.inl (List.mem_of_getElem? (i := 0) rfl))).wr W32 (Or.inl (List.mem_of_getElem? (i := 0) rfl))).wr W37 (Or.inl (List.mem_of_getElem? (i := 0) rfl))).wr W41 (Or.inl (List.mem_of_getElem? (i := 0) rfl))).wr W45 (Or.inl (List.mem_of_getElem? (i := 0) rfl)))
    have f49 : Fld Z h45 a1 "com/example/usher/usher/protocol/Stat" "czxid" "J" (.long q2) := ((((((((((Fw5.other W8 (Or.inr (slot_ne (Or.inr (hw _ (List.mem_of_getElem? (i := 125) rfl))) (Or.inr (hw _ (List.mem_of_getElem? (i := 127) rfl))) (by decide) (t := .long) (t' := .long) (by decide) (by decide)))).other W12 (Or.inr (slot_ne (Or.inr (hw _ (List.mem_of_getElem? (i := 125) rfl))) (Or.inr (hw _ (List.mem_of_getElem? (i := 129) rfl))) (by decide) (t := .long) (t' := .long) (by decide) (by decide)))).other W16 (Or.inr (slot_ne (Or.inr (hw _ (List.mem_of_getElem? (i := 125) rfl))) (Or.inr (hw _ (List.mem_of_getElem? (i := 131) rfl))) (by decide) (t := .long) (t' := .long) (by decide) (by decide)))).other W20 (Or.inr (slot_ne (Or.inr (hw _ (List.mem_of_getElem? (i := 125) rfl))) (Or.inr (hw _ (List.mem_of_getElem? (i := 133) rfl))) (by decide) (t := .long) (t' := .int) (by decide) (by decide)))).other W24 (Or.inr (slot_ne (Or.inr (hw _ (List.mem_of_getElem? (i := 125) rfl))) (Or.inr (hw _ (List.mem_of_getElem? (i := 135) rfl))) (by decide) (t := .long) (t' := .int) (by decide) (by decide)))).other W28 (Or.inr (slot_ne (Or.inr (hw _ (List.mem_of_getElem? (i := 125) rfl))) (Or.inr (hw _ (List.mem_of_getElem? (i := 137) rfl))) (by decide) (t := .long) (t' := .int) (by decide) (by decide)))).other W32 (Or.inr (slot_ne (Or.inr (hw _ (List.mem_of_getElem? (i := 125) rfl))) (Or.inr (hw _ (List.mem_of_getElem? (i := 139) rfl))) (by decide) (t := .long) (t' := .long) (by decide) (by decide)))).other W37 (Or.inr (slot_ne (Or.inr (hw _ (List.mem_of_getElem? (i := 125) rfl))) (Or.inr (hw _ (List.mem_of_getElem? (i := 141) rfl))) (by decide) (t := .long) (t' := .int) (by decide) (by decide)))).other W41 (Or.inr (slot_ne (Or.inr (hw _ (List.mem_of_getElem? (i := 125) rfl))) (Or.inr (hw _ (List.mem_of_getElem? (i := 143) rfl))) (by decide) (t := .long) (t' := .int) (by decide) (by decide)))).other W45 (Or.inr (slot_ne (Or.inr (hw _ (List.mem_of_getElem? (i := 125) rfl))) (Or.inr (hw _ (List.mem_of_getElem? (i := 145) rfl))) (by decide) (t := .long) (t' := .long) (by decide) (by decide))))
    have f50 : Fld Z h45 a1 "com/example/usher/usher/protocol/Stat" "mzxid" "J" (.long q3) := (((((((((Fw8.other W12 (Or.inr (slot_ne (Or.inr (hw _ (List.mem_of_getElem? (i := 127) rfl))) (Or.inr (hw _ (List.mem_of_getElem? (i := 129) rfl))) (by decide) (t := .long) (t' := .long) (by decide) (by decide)))).other W16 (Or.inr (slot_ne (Or.inr (hw _ (List.mem_of_getElem? (i := 127) rfl))) (Or.inr (hw _ (List.mem_of_getElem? (i := 131) rfl))) (by decide) (t := .long) (t' := .long) (by decide) (by decide)))).other W20 (Or.inr (slot_ne (Or.inr (hw _ (List.mem_of_getElem? (i := 127) rfl))) (Or.inr (hw _ (List.mem_of_getElem? (i := 133) rfl))) (by decide) (t := .long) (t' := .int) (by decide) (by decide)))).other W24 (Or.inr (slot_ne (Or.inr (hw _ (List.mem_of_getElem? (i := 127) rfl))) (Or.inr (hw _ (List.mem_of_getElem? (i := 135) rfl))) (by decide) (t := .long) (t' := .int) (by decide) (by decide)))).other W28 (Or.inr (slot_ne (Or.inr (hw _ (List.mem_of_getElem? (i := 127) rfl))) (Or.inr (hw _ (List.mem_of_getElem? (i := 137) rfl))) (by decide) (t := .long) (t' := .int) (by decide) (by decide)))).other W32 (Or.inr (slot_ne (Or.inr (hw _ (List.mem_of_getElem? (i := 127) rfl))) (Or.inr (hw _ (List.mem_of_getElem? (i := 139) rfl))) (by decide) (t := .long) (t' := .long) (by decide) (by decide)))).other W37 (Or.inr (slot_ne (Or.inr (hw _ (List.mem_of_getElem? (i := 127) rfl))) (Or.inr (hw _ (List.mem_of_getElem? (i := 141) rfl))) (by decide) (t := .long) (t' := .int) (by decide) (by decide)))).other W41 (Or.inr (slot_ne (Or.inr (hw _ (List.mem_of_getElem? (i := 127) rfl))) (Or.inr (hw _ (List.mem_of_getElem? (i := 143) rfl))) (by decide) (t := .long) (t' := .int) (by decide) (by decide)))).other W45 (Or.inr (slot_ne (Or.inr (hw _ (List.mem_of_getElem? (i := 127) rfl))) (Or.inr (hw _ (List.mem_of_getElem? (i := 145) rfl))) (by decide) (t := .long) (t' := .long) (by decide) (by decide))))
    have f51 : Fld Z h45 a1 "com/example/usher/usher/protocol/Stat" "ctime" "J" (.long q4) := ((((((((Fw12.other W16 (Or.inr (slot_ne (Or.inr (hw _ (List.mem_of_getElem? (i := 129) rfl))) (Or.inr (hw _ (List.mem_of_getElem? (i := 131) rfl))) (by decide) (t := .long) (t' := .long) (by decide) (by decide)))).other W20 (Or.inr (slot_ne (Or.inr (hw _ (List.mem_of_getElem? (i := 129) rfl))) (Or.inr (hw _ (List.mem_of_getElem? (i := 133) rfl))) (by decide) (t := .long) (t' := .int) (by decide) (by decide)))).other W24 (Or.inr (slot_ne (Or.inr (hw _ (List.mem_of_getElem? (i := 129) rfl))) (Or.inr (hw _ (List.mem_of_getElem? (i := 135) rfl))) (by decide) (t := .long) (t' := .int) (by decide) (by decide)))).other W28 (Or.inr (slot_ne (Or.inr (hw _ (List.mem_of_getElem? (i := 129) rfl))) (Or.inr (hw _ (List.mem_of_getElem? (i := 137) rfl))) (by decide) (t := .long) (t' := .int) (by decide) (by decide)))).other W32 (Or.inr (slot_ne (Or.inr (hw _ (List.mem_of_getElem? (i := 129) rfl))) (Or.inr (hw _ (List.mem_of_getElem? (i := 139) rfl))) (by decide) (t := .long) (t' := .long) (by decide) (by decide)))).other W37 (Or.inr (slot_ne (Or.inr (hw _ (List.mem_of_getElem? (i := 129) rfl))) (Or.inr (hw _ (List.mem_of_getElem? (i := 141) rfl))) (by decide) (t := .long) (t' := .int) (by decide) (by decide)))).other W41 (Or.inr (slot_ne (Or.inr (hw _ (List.mem_of_getElem? (i := 129) rfl))) (Or.inr (hw _ (List.mem_of_getElem? (i := 143) rfl))) (by decide) (t := .long) (t' := .int) (by decide) (by decide)))).other W45 (Or.inr (slot_ne (Or.inr (hw _ (List.mem_of_getElem? (i := 129) rfl))) (Or.inr (hw _ (List.mem_of_getElem? (i := 145) rfl))) (by decide) (t := .long) (t' := .long) (by decide) (by decide))))
    have f52 : Fld Z h45 a1 "com/example/usher/usher/protocol/Stat" "mtime" "J" (.long q5) := (((((((Fw16.other W20 (Or.inr (slot_ne (Or.inr (hw _ (List.mem_of_getElem? (i := 131) rfl))) (Or.inr (hw _ (List.mem_of_getElem? (i := 133) rfl))) (by decide) (t := .long) (t' := .int) (by decide) (by decide)))).other W24 (Or.inr (slot_ne (Or.inr (hw _ (List.mem_of_getElem? (i := 131) rfl))) (Or.inr (hw _ (List.mem_of_getElem? (i := 135) rfl))) (by decide) (t := .long) (t' := .int) (by decide) (by decide)))).other W28 (Or.inr (slot_ne (Or.inr (hw _ (List.mem_of_getElem? (i := 131) rfl))) (Or.inr (hw _ (List.mem_of_getElem? (i := 137) rfl))) (by decide) (t := .long) (t' := .int) (by decide) (by decide)))).other W32 (Or.inr (slot_ne (Or.inr (hw _ (List.mem_of_getElem? (i := 131) rfl))) (Or.inr (hw _ (List.mem_of_getElem? (i := 139) rfl))) (by decide) (t := .long) (t' := .long) (by decide) (by decide)))).other W37 (Or.inr (slot_ne (Or.inr (hw _ (List.mem_of_getElem? (i := 131) rfl))) (Or.inr (hw _ (List.mem_of_getElem? (i := 141) rfl))) (by decide) (t := .long) (t' := .int) (by decide) (by decide)))).other W41 (Or.inr (slot_ne (Or.inr (hw _ (List.mem_of_getElem? (i := 131) rfl))) (Or.inr (hw _ (List.mem_of_getElem? (i := 143) rfl))) (by decide) (t := .long) (t' := .int) (by decide) (by decide)))).other W45 (Or.inr (slot_ne (Or.inr (hw _ (List.mem_of_getElem? (i := 131) rfl))) (Or.inr (hw _ (List.mem_of_getElem? (i := 145) rfl))) (by decide) (t := .long) (t' := .long) (by decide) (by decide))))
    have f53 : Fld Z h45 a1 "com/example/usher/usher/protocol/Stat" "version" "I" (.int p6) := ((((((Fw20.other W24 (Or.inr (slot_ne (Or.inr (hw _ (List.mem_of_getElem? (i := 133) rfl))) (Or.inr (hw _ (List.mem_of_getElem? (i := 135) rfl))) (by decide) (t := .int) (t' := .int) (by decide) (by decide)))).other W28 (Or.inr (slot_ne (Or.inr (hw _ (List.mem_of_getElem? (i := 133) rfl))) (Or.inr (hw _ (List.mem_of_getElem? (i := 137) rfl))) (by decide) (t := .int) (t' := .int) (by decide) (by decide)))).other W32 (Or.inr (slot_ne (Or.inr (hw _ (List.mem_of_getElem? (i := 133) rfl))) (Or.inr (hw _ (List.mem_of_getElem? (i := 139) rfl))) (by decide) (t := .int) (t' := .long) (by decide) (by decide)))).other W37 (Or.inr (slot_ne (Or.inr (hw _ (List.mem_of_getElem? (i := 133) rfl))) (Or.inr (hw _ (List.mem_of_getElem? (i := 141) rfl))) (by decide) (t := .int) (t' := .int) (by decide) (by decide)))).other W41 (Or.inr (slot_ne (Or.inr (hw _ (List.mem_of_getElem? (i := 133) rfl))) (Or.inr (hw _ (List.mem_of_getElem? (i := 143) rfl))) (by decide) (t := .int) (t' := .int) (by decide) (by decide)))).other W45 (Or.inr (slot_ne (Or.inr (hw _ (List.mem_of_getElem? (i := 133) rfl))) (Or.inr (hw _ (List.mem_of_getElem? (i := 145) rfl))) (by decide) (t := .int) (t' := .long) (by decide) (by decide))))
    have f54 : Fld Z h45 a1 "com/example/usher/usher/protocol/Stat" "cversion" "I" (.int p7) := (((((Fw24.other W28 (Or.inr (slot_ne (Or.inr (hw _ (List.mem_of_getElem? (i := 135) rfl))) (Or.inr (hw _ (List.mem_of_getElem? (i := 137) rfl))) (by decide) (t := .int) (t' := .int) (by decide) (by decide)))).other W32 (Or.inr (slot_ne (Or.inr (hw _ (List.mem_of_getElem? (i := 135) rfl))) (Or.inr (hw _ (List.mem_of_getElem? (i := 139) rfl))) (by decide) (t := .int) (t' := .long) (by decide) (by decide)))).other W37 (Or.inr (slot_ne (Or.inr (hw _ (List.mem_of_getElem? (i := 135) rfl))) (Or.inr (hw _ (List.mem_of_getElem? (i := 141) rfl))) (by decide) (t := .int) (t' := .int) (by decide) (by decide)))).other W41 (Or.inr (slot_ne (Or.inr (hw _ (List.mem_of_getElem? (i := 135) rfl))) (Or.inr (hw _ (List.mem_of_getElem? (i := 143) rfl))) (by decide) (t := .int) (t' := .int) (by decide) (by decide)))).other W45 (Or.inr (slot_ne (Or.inr (hw _ (List.mem_of_getElem? (i := 135) rfl))) (Or.inr (hw _ (List.mem_of_getElem? (i := 145) rfl))) (by decide) (t := .int) (t' := .long) (by decide) (by decide))))
    have f55 : Fld Z h45 a1 "com/example/usher/usher/protocol/Stat" "aversion" "I" (.int p8) := ((((Fw28.other W32 (Or.inr (slot_ne (Or.inr (hw _ (List.mem_of_getElem? (i := 137) rfl))) (Or.inr (hw _ (List.mem_of_getElem? (i := 139) rfl))) (by decide) (t := .int) (t' := .long) (by decide) (by decide)))).other W37 (Or.inr (slot_ne (Or.inr (hw _ (List.mem_of_getElem? (i := 137) rfl))) (Or.inr (hw _ (List.mem_of_getElem? (i := 141) rfl))) (by decide) (t := .int) (t' := .int) (by decide) (by decide)))).other W41 (Or.inr (slot_ne (Or.inr (hw _ (List.mem_of_getElem? (i := 137) rfl))) (Or.inr (hw _ (List.mem_of_getElem? (i := 143) rfl))) (by decide) (t := .int) (t' := .int) (by decide) (by decide)))).other W45 (Or.inr (slot_ne (Or.inr (hw _ (List.mem_of_getElem? (i := 137) rfl))) (Or.inr (hw _ (List.mem_of_getElem? (i := 145) rfl))) (by decide) (t := .int) (t' := .long) (by decide) (by decide))))
    have f56 : Fld Z h45 a1 "com/example/usher/usher/protocol/Stat" "ephemeralOwner" "J" (.long q9) := (((Fw32.other W37 (Or.inr (slot_ne (Or.inr (hw _ (List.mem_of_getElem? (i := 139) rfl))) (Or.inr (hw _ (List.mem_of_getElem? (i := 141) rfl))) (by decide) (t := .long) (t' := .int) (by decide) (by decide)))).other W41 (Or.inr (slot_ne (Or.inr (hw _ (List.mem_of_getElem? (i := 139) rfl))) (Or.inr (hw _ (List.mem_of_getElem? (i := 143) rfl))) (by decide) (t := .long) (t' := .int) (by decide) (by decide)))).other W45 (Or.inr (slot_ne (Or.inr (hw _ (List.mem_of_getElem? (i := 139) rfl))) (Or.inr (hw _ (List.mem_of_getElem? (i := 145) rfl))) (by decide) (t := .long) (t' := .long) (by decide) (by decide))))
    have f57 : Fld Z h45 a1 "com/example/usher/usher/protocol/Stat" "dataLength" "I" (.int p10) := ((Fw37.other W41 (Or.inr (slot_ne (Or.inr (hw _ (List.mem_of_getElem? (i := 141) rfl))) (Or.inr (hw _ (List.mem_of_getElem? (i := 143) rfl))) (by decide) (t := .int) (t' := .int) (by decide) (by decide)))).other W45 (Or.inr (slot_ne (Or.inr (hw _ (List.mem_of_getElem? (i := 141) rfl))) (Or.inr (hw _ (List.mem_of_getElem? (i := 145) rfl))) (by decide) (t := .int) (t' := .long) (by decide) (by decide))))
    have f58 : Fld Z h45 a1 "com/example/usher/usher/protocol/Stat" "numChildren" "I" (.int p11) := (Fw41.other W45 (Or.inr (slot_ne (Or.inr (hw _ (List.mem_of_getElem? (i := 143) rfl))) (Or.inr (hw _ (List.mem_of_getElem? (i := 145) rfl))) (by decide) (t := .int) (t' := .long) (by decide) (by decide))))
    exact ⟨rfl, N45, f48, ((((f33.wr W32).wr W37).wr W41).wr W45), f49, f50, f51, f52, f53, f54, f55, f56, f57, f58, Fw45⟩
def Q_rmS0 (Z : State) (a1 : Addr) (w0 : Addr) (w1 : Int64) (w2 : Int64) (w3 : Int64) (w5 : Addr) (w6 : Int64) (w7 : Int64) (w8 : Int64) (w9 : Int32) (w10 : Int32) (w11 : Int32) (m13 : Addr) (h0 : Heap) (n0 : Nat) (v : Option Value) (h : Heap) (L : List Loc) : Prop := ∃ (t_ : Addr), v = some (.ref t_) ∧ Fr n0 L ∧ Keep h0 h [] ∧ (h0.size ≤ t_) ∧ (Exa Z h t_ "com/example/usher/usher/protocol/Stat") ∧ (Fld Z h t_ "com/example/usher/usher/protocol/Stat" "mzxid" "J" (.long w6)) ∧ (Fld Z h t_ "com/example/usher/usher/protocol/Stat" "ctime" "J" (.long w2)) ∧ (Fld Z h t_ "com/example/usher/usher/protocol/Stat" "mtime" "J" (.long w7)) ∧ (Fld Z h t_ "com/example/usher/usher/protocol/Stat" "version" "I" (.int w9)) ∧ (Fld Z h t_ "com/example/usher/usher/protocol/Stat" "dataLength" "I" (.int (0 : Int32))) ∧ (Fld Z h t_ "com/example/usher/usher/protocol/Stat" "pzxid" "J" (.long w8))
set_option maxRecDepth 65536 in
set_option maxHeartbeats 40000000 in
theorem rmS0 (l : Launch) (Z : State) (a0 : Array Value) (hw : ∀ d ∈ tables_1, d.before a0 Z = true) (ws : List Jvm.Cond) (a1 : Addr) (w0 : Addr) (w1 : Int64) (w2 : Int64) (w3 : Int64) (w5 : Addr) (w6 : Int64) (w7 : Int64) (w8 : Int64) (w9 : Int32) (w10 : Int32) (w11 : Int32) (m13 : Addr) (h0 : Heap) (n0 : Nat) (Z0 : n0 ≤ h0.size) (E1 : Exa Z h0 a1 "com/example/usher/usher/core/Node") (F0 : Fld Z h0 a1 "com/example/usher/usher/core/Node" "children" "Ljava/util/Set;" (.ref w0)) (F1 : Fld Z h0 a1 "com/example/usher/usher/core/Node" "czxid" "J" (.long w1)) (F2 : Fld Z h0 a1 "com/example/usher/usher/core/Node" "ctime" "J" (.long w2)) (F3 : Fld Z h0 a1 "com/example/usher/usher/core/Node" "ephemeralOwner" "J" (.long w3)) (F4 : Fld Z h0 a1 "com/example/usher/usher/core/Node" "data" "[B" .null) (F5 : Fld Z h0 a1 "com/example/usher/usher/core/Node" "acl" "Ljava/util/List;" (.ref w5)) (F6 : Fld Z h0 a1 "com/example/usher/usher/core/Node" "mzxid" "J" (.long w6)) (F7 : Fld Z h0 a1 "com/example/usher/usher/core/Node" "mtime" "J" (.long w7)) (F8 : Fld Z h0 a1 "com/example/usher/usher/core/Node" "pzxid" "J" (.long w8)) (F9 : Fld Z h0 a1 "com/example/usher/usher/core/Node" "version" "I" (.int w9)) (F10 : Fld Z h0 a1 "com/example/usher/usher/core/Node" "cversion" "I" (.int w10)) (F11 : Fld Z h0 a1 "com/example/usher/usher/core/Node" "aversion" "I" (.int w11)) (Ec : Exa Z h0 w0 "java/util/HashSet") (Gc : Fld Z h0 w0 "java/util/HashSet" "map" "Ljava/util/HashMap;" (.ref m13)) (Em : Exa Z h0 m13 "java/util/HashMap") (Gm : Fld Z h0 m13 "java/util/HashMap" "size" "I" (.int (0 : Int32))) :
    MetFree l (⟨"com/example/usher/usher/core/Node", "stat", "()Lcom/example/usher/usher/protocol/Stat;"⟩ : MethodName) (head1 (Jvm.Cond.code (⟨"com/example/usher/usher/core/Node", "stat", "()Lcom/example/usher/usher/protocol/Stat;"⟩ : MethodName) prog_19_method_4_code 2 (some (.object "com/example/usher/usher/protocol/Stat")) :: ws) ({ frames := 2, cells := 1, slots := 11, locals := 42 } : Room)) (fun a U => a = #[(.ref a1)] ∧ Z.Warmed39 U.vm ∧ U.heap = h0) (fun _ _ _ _ _ => True) (fun _ U o U' => ∃ v L, o = .returned v ∧ Q_rmS0 Z a1 w0 w1 w2 w3 w5 w6 w7 w8 w9 w10 w11 m13 h0 n0 v U'.heap L ∧ FrameEnd U o U' L ({ frames := 2, cells := 1, slots := 11, locals := 42 } : Room).cells ({ frames := 2, cells := 1, slots := 11, locals := 42 } : Room).slots) := by
  refine MetFree.of_bodySF (plainFor_of_name pn_7) hisR ?_
  intro p e s m args below meth c s₁ Bd hml0 hP hK
  obtain ⟨rfl, hZ, hh⟩ := hP
  have hx := Bd.exec
  have hby := Bd.bytes
  have hml : c.maxLocals = 2 := hml0
  have hown : s.vm.findClass "com/example/usher/usher/core/Node" = some m.cls := findClass_of_methodNamed Bd.named
  have hnm := (name_of_methodNamed Bd.named Bd.method).1
  have X0 : Stand p l e ({ frames := 2, cells := 1, slots := 11, locals := 42 } : Room) s m #[(.ref a1)] below meth c s₁ [] 0 0 := Stand.of_body Bd
  have e0 : s₁.heap = h0 := by rw [← hh, Bd.state]; rfl
  have N0 := Fr.nil n0
  have P0 : Rch p e below (s₁.setTop (entryFrame m #[(.ref a1)] 2)) (s₁.setTop (mkF m 0 #[rv a1, un] [])) := fun t k => castTop (by first | (simp [entryFrame, mkF, argsToLocals, Value.category]; done) | rfl) k
  have P1 : Rch p e below (s₁.setTop (entryFrame m #[(.ref a1)] 2)) (s₁.setTop (mkF m 1 #[rv a1, un] [(.ref a1)])) := fun t k => P0 t (by
    show Steps p.tables e below (s₁.setTop (mkF m 0 #[rv a1, un] [])) t
    refine XS.aloadN X0.here hx rfl (hb hby d11_0) rfl rfl ?_
    exact k)
  obtain ⟨T2, X2, e2, st2⟩ := getF X0 hx hZ hown (host := "") (Or.inl (hw _ (List.mem_of_getElem? (i := 75) rfl))) Via.refl e0 F4 (g := (mkF m 1 #[rv a1, un] [(.ref a1)])) rfl rfl (hb hby d11_1)
  have P3 : Rch p e below (s₁.setTop (entryFrame m #[(.ref a1)] 2)) (T2.setTop (mkF m 4 #[rv a1, un] [.null])) := fun t k => P1 t (st2 t k)
  have P4 : Rch p e below (s₁.setTop (entryFrame m #[(.ref a1)] 2)) (T2.setTop (mkF m 17 #[rv a1, iv (0 : Int32)] [])) := fun t k => P3 t (by
    show Steps p.tables e below (T2.setTop (mkF m 4 #[rv a1, un] [.null])) t
    refine XS.ifnonnullNo X2.here hx rfl (hb hby d11_4) rfl ?_
    refine XS.iconst X2.here hx rfl (hb hby d11_7) ?_
    refine XS.goto X2.here hx rfl (pc0 := 8) (pc' := 16) rfl (hb hby d11_8) (by decide) (by decide) ?_
    show Steps p.tables e below (T2.setTop (mkF m 16 #[rv a1, un] [(.int (0 : Int32))])) t
    refine XS.istoreN X2.here hx rfl (hb hby d11_16) rfl (l' := #[rv a1, iv (0 : Int32)]) rfl ?_
    exact k)
  obtain ⟨T5, h5, X5, e5, E5, A5, D5, -, st5⟩ := newO X2 hx hZ hown (hw _ (List.mem_of_getElem? (i := 97) rfl)) (hw _ (List.mem_of_getElem? (i := 98) rfl)) (hw _ (List.mem_of_getElem? (i := 99) rfl)) e2 (g := (mkF m 17 #[rv a1, iv (0 : Int32)] [])) rfl (hb hby d11_17) (by decide) (by decide)
  obtain ⟨b5, g5⟩ : ∃ z, z = h0.size := ⟨_, rfl⟩
  rw [← g5] at A5 D5 st5
  have g_b5 : n0 ≤ b5 := Nat.le_trans Z0 (Nat.le_of_eq g5.symm)
  have sz_b5 : h0.size ≤ b5 := Nat.le_trans (Keep.refl h0 []).1 (Nat.le_of_eq g5.symm)
  have ne_a1_b5 : a1 ≠ b5 := Nat.ne_of_lt (Nat.lt_of_lt_of_le E1.lt (Nat.le_of_eq g5.symm))
  have ne_w0_b5 : w0 ≠ b5 := Nat.ne_of_lt (Nat.lt_of_lt_of_le Ec.lt (Nat.le_of_eq g5.symm))
  have ne_m13_b5 : m13 ≠ b5 := Nat.ne_of_lt (Nat.lt_of_lt_of_le Em.lt (Nat.le_of_eq g5.symm))
  have F5_125 : Fld Z h5 b5 "com/example/usher/usher/protocol/Stat" "czxid" "J" (.long (0 : Int64)) := D5 (Or.inr (hw _ (List.mem_of_getElem? (i := 125) rfl))) (ty := .long) (by decide)
  have F5_127 : Fld Z h5 b5 "com/example/usher/usher/protocol/Stat" "mzxid" "J" (.long (0 : Int64)) := D5 (Or.inr (hw _ (List.mem_of_getElem? (i := 127) rfl))) (ty := .long) (by decide)
  have F5_129 : Fld Z h5 b5 "com/example/usher/usher/protocol/Stat" "ctime" "J" (.long (0 : Int64)) := D5 (Or.inr (hw _ (List.mem_of_getElem? (i := 129) rfl))) (ty := .long) (by decide)
  have F5_131 : Fld Z h5 b5 "com/example/usher/usher/protocol/Stat" "mtime" "J" (.long (0 : Int64)) := D5 (Or.inr (hw _ (List.mem_of_getElem? (i := 131) rfl))) (ty := .long) (by decide)
  have F5_133 : Fld Z h5 b5 "com/example/usher/usher/protocol/Stat" "version" "I" (.int (0 : Int32)) := D5 (Or.inr (hw _ (List.mem_of_getElem? (i := 133) rfl))) (ty := .int) (by decide)
  have F5_135 : Fld Z h5 b5 "com/example/usher/usher/protocol/Stat" "cversion" "I" (.int (0 : Int32)) := D5 (Or.inr (hw _ (List.mem_of_getElem? (i := 135) rfl))) (ty := .int) (by decide)
  have F5_137 : Fld Z h5 b5 "com/example/usher/usher/protocol/Stat" "aversion" "I" (.int (0 : Int32)) := D5 (Or.inr (hw _ (List.mem_of_getElem? (i := 137) rfl))) (ty := .int) (by decide)
  have F5_139 : Fld Z h5 b5 "com/example/usher/usher/protocol/Stat" "ephemeralOwner" "J" (.long (0 : Int64)) := D5 (Or.inr (hw _ (List.mem_of_getElem? (i := 139) rfl))) (ty := .long) (by decide)
  have F5_141 : Fld Z h5 b5 "com/example/usher/usher/protocol/Stat" "dataLength" "I" (.int (0 : Int32)) := D5 (Or.inr (hw _ (List.mem_of_getElem? (i := 141) rfl))) (ty := .int) (by decide)
  have F5_143 : Fld Z h5 b5 "com/example/usher/usher/protocol/Stat" "numChildren" "I" (.int (0 : Int32)) := D5 (Or.inr (hw _ (List.mem_of_getElem? (i := 143) rfl))) (ty := .int) (by decide)
  have F5_145 : Fld Z h5 b5 "com/example/usher/usher/protocol/Stat" "pzxid" "J" (.long (0 : Int64)) := D5 (Or.inr (hw _ (List.mem_of_getElem? (i := 145) rfl))) (ty := .long) (by decide)
  have P6 : Rch p e below (s₁.setTop (entryFrame m #[(.ref a1)] 2)) (T5.setTop (mkF m 20 #[rv a1, iv (0 : Int32)] [(.ref b5)])) := fun t k => P4 t (st5 t k)
  have P7 : Rch p e below (s₁.setTop (entryFrame m #[(.ref a1)] 2)) (T5.setTop (mkF m 22 #[rv a1, iv (0 : Int32)] [(.ref a1), (.ref b5), (.ref b5)])) := fun t k => P6 t (by
    show Steps p.tables e below (T5.setTop (mkF m 20 #[rv a1, iv (0 : Int32)] [(.ref b5)])) t
    refine XS.dup X5.here hx rfl (hb hby d11_20) rfl rfl ?_
    refine XS.aloadN X5.here hx rfl (hb hby d11_21) rfl rfl ?_
    exact k)
  obtain ⟨T8, X8, e8, st8⟩ := getF X5 hx hZ hown (host := "") (Or.inl (hw _ (List.mem_of_getElem? (i := 69) rfl))) Via.refl e5 (F1.ext E5) (g := (mkF m 22 #[rv a1, iv (0 : Int32)] [(.ref a1), (.ref b5), (.ref b5)])) rfl rfl (hb hby d11_22)
  have P9 : Rch p e below (s₁.setTop (entryFrame m #[(.ref a1)] 2)) (T8.setTop (mkF m 25 #[rv a1, iv (0 : Int32)] [(.long w1), (.ref b5), (.ref b5)])) := fun t k => P7 t (st8 t k)
  have P10 : Rch p e below (s₁.setTop (entryFrame m #[(.ref a1)] 2)) (T8.setTop (mkF m 26 #[rv a1, iv (0 : Int32)] [(.ref a1), (.long w1), (.ref b5), (.ref b5)])) := fun t k => P9 t (by
    show Steps p.tables e below (T8.setTop (mkF m 25 #[rv a1, iv (0 : Int32)] [(.long w1), (.ref b5), (.ref b5)])) t
    refine XS.aloadN X8.here hx rfl (hb hby d11_25) rfl rfl ?_
    exact k)
  obtain ⟨T11, X11, e11, st11⟩ := getF X8 hx hZ hown (host := "") (Or.inl (hw _ (List.mem_of_getElem? (i := 79) rfl))) Via.refl e8 (F6.ext E5) (g := (mkF m 26 #[rv a1, iv (0 : Int32)] [(.ref a1), (.long w1), (.ref b5), (.ref b5)])) rfl rfl (hb hby d11_26)
  have P12 : Rch p e below (s₁.setTop (entryFrame m #[(.ref a1)] 2)) (T11.setTop (mkF m 29 #[rv a1, iv (0 : Int32)] [(.long w6), (.long w1), (.ref b5), (.ref b5)])) := fun t k => P10 t (st11 t k)
  have P13 : Rch p e below (s₁.setTop (entryFrame m #[(.ref a1)] 2)) (T11.setTop (mkF m 30 #[rv a1, iv (0 : Int32)] [(.ref a1), (.long w6), (.long w1), (.ref b5), (.ref b5)])) := fun t k => P12 t (by
    show Steps p.tables e below (T11.setTop (mkF m 29 #[rv a1, iv (0 : Int32)] [(.long w6), (.long w1), (.ref b5), (.ref b5)])) t
    refine XS.aloadN X11.here hx rfl (hb hby d11_29) rfl rfl ?_
    exact k)
  obtain ⟨T14, X14, e14, st14⟩ := getF X11 hx hZ hown (host := "") (Or.inl (hw _ (List.mem_of_getElem? (i := 71) rfl))) Via.refl e11 (F2.ext E5) (g := (mkF m 30 #[rv a1, iv (0 : Int32)] [(.ref a1), (.long w6), (.long w1), (.ref b5), (.ref b5)])) rfl rfl (hb hby d11_30)
  have P15 : Rch p e below (s₁.setTop (entryFrame m #[(.ref a1)] 2)) (T14.setTop (mkF m 33 #[rv a1, iv (0 : Int32)] [(.long w2), (.long w6), (.long w1), (.ref b5), (.ref b5)])) := fun t k => P13 t (st14 t k)
  have P16 : Rch p e below (s₁.setTop (entryFrame m #[(.ref a1)] 2)) (T14.setTop (mkF m 34 #[rv a1, iv (0 : Int32)] [(.ref a1), (.long w2), (.long w6), (.long w1), (.ref b5), (.ref b5)])) := fun t k => P15 t (by
    show Steps p.tables e below (T14.setTop (mkF m 33 #[rv a1, iv (0 : Int32)] [(.long w2), (.long w6), (.long w1), (.ref b5), (.ref b5)])) t
    refine XS.aloadN X14.here hx rfl (hb hby d11_33) rfl rfl ?_
    exact k)
  obtain ⟨T17, X17, e17, st17⟩ := getF X14 hx hZ hown (host := "") (Or.inl (hw _ (List.mem_of_getElem? (i := 81) rfl))) Via.refl e14 (F7.ext E5) (g := (mkF m 34 #[rv a1, iv (0 : Int32)] [(.ref a1), (.long w2), (.long w6), (.long w1), (.ref b5), (.ref b5)])) rfl rfl (hb hby d11_34)
  have P18 : Rch p e below (s₁.setTop (entryFrame m #[(.ref a1)] 2)) (T17.setTop (mkF m 37 #[rv a1, iv (0 : Int32)] [(.long w7), (.long w2), (.long w6), (.long w1), (.ref b5), (.ref b5)])) := fun t k => P16 t (st17 t k)
  have P19 : Rch p e below (s₁.setTop (entryFrame m #[(.ref a1)] 2)) (T17.setTop (mkF m 38 #[rv a1, iv (0 : Int32)] [(.ref a1), (.long w7), (.long w2), (.long w6), (.long w1), (.ref b5), (.ref b5)])) := fun t k => P18 t (by
    show Steps p.tables e below (T17.setTop (mkF m 37 #[rv a1, iv (0 : Int32)] [(.long w7), (.long w2), (.long w6), (.long w1), (.ref b5), (.ref b5)])) t
    refine XS.aloadN X17.here hx rfl (hb hby d11_37) rfl rfl ?_
    exact k)
  obtain ⟨T20, X20, e20, st20⟩ := getF X17 hx hZ hown (host := "") (Or.inl (hw _ (List.mem_of_getElem? (i := 90) rfl))) Via.refl e17 (F9.ext E5) (g := (mkF m 38 #[rv a1, iv (0 : Int32)] [(.ref a1), (.long w7), (.long w2), (.long w6), (.long w1), (.ref b5), (.ref b5)])) rfl rfl (hb hby d11_38)
  have P21 : Rch p e below (s₁.setTop (entryFrame m #[(.ref a1)] 2)) (T20.setTop (mkF m 41 #[rv a1, iv (0 : Int32)] [(.int w9), (.long w7), (.long w2), (.long w6), (.long w1), (.ref b5), (.ref b5)])) := fun t k => P19 t (st20 t k)
  have P22 : Rch p e below (s₁.setTop (entryFrame m #[(.ref a1)] 2)) (T20.setTop (mkF m 42 #[rv a1, iv (0 : Int32)] [(.ref a1), (.int w9), (.long w7), (.long w2), (.long w6), (.long w1), (.ref b5), (.ref b5)])) := fun t k => P21 t (by
    show Steps p.tables e below (T20.setTop (mkF m 41 #[rv a1, iv (0 : Int32)] [(.int w9), (.long w7), (.long w2), (.long w6), (.long w1), (.ref b5), (.ref b5)])) t
    refine XS.aloadN X20.here hx rfl (hb hby d11_41) rfl rfl ?_
    exact k)
  obtain ⟨T23, X23, e23, st23⟩ := getF X20 hx hZ hown (host := "") (Or.inl (hw _ (List.mem_of_getElem? (i := 100) rfl))) Via.refl e20 (F10.ext E5) (g := (mkF m 42 #[rv a1, iv (0 : Int32)] [(.ref a1), (.int w9), (.long w7), (.long w2), (.long w6), (.long w1), (.ref b5), (.ref b5)])) rfl rfl (hb hby d11_42)
  have P24 : Rch p e below (s₁.setTop (entryFrame m #[(.ref a1)] 2)) (T23.setTop (mkF m 45 #[rv a1, iv (0 : Int32)] [(.int w10), (.int w9), (.long w7), (.long w2), (.long w6), (.long w1), (.ref b5), (.ref b5)])) := fun t k => P22 t (st23 t k)
  have P25 : Rch p e below (s₁.setTop (entryFrame m #[(.ref a1)] 2)) (T23.setTop (mkF m 46 #[rv a1, iv (0 : Int32)] [(.ref a1), (.int w10), (.int w9), (.long w7), (.long w2), (.long w6), (.long w1), (.ref b5), (.ref b5)])) := fun t k => P24 t (by
    show Steps p.tables e below (T23.setTop (mkF m 45 #[rv a1, iv (0 : Int32)] [(.int w10), (.int w9), (.long w7), (.long w2), (.long w6), (.long w1), (.ref b5), (.ref b5)])) t
    refine XS.aloadN X23.here hx rfl (hb hby d11_45) rfl rfl ?_
    exact k)
  obtain ⟨T26, X26, e26, st26⟩ := getF X23 hx hZ hown (host := "") (Or.inl (hw _ (List.mem_of_getElem? (i := 102) rfl))) Via.refl e23 (F11.ext E5) (g := (mkF m 46 #[rv a1, iv (0 : Int32)] [(.ref a1), (.int w10), (.int w9), (.long w7), (.long w2), (.long w6), (.long w1), (.ref b5), (.ref b5)])) rfl rfl (hb hby d11_46)
  have P27 : Rch p e below (s₁.setTop (entryFrame m #[(.ref a1)] 2)) (T26.setTop (mkF m 49 #[rv a1, iv (0 : Int32)] [(.int w11), (.int w10), (.int w9), (.long w7), (.long w2), (.long w6), (.long w1), (.ref b5), (.ref b5)])) := fun t k => P25 t (st26 t k)
  have P28 : Rch p e below (s₁.setTop (entryFrame m #[(.ref a1)] 2)) (T26.setTop (mkF m 50 #[rv a1, iv (0 : Int32)] [(.ref a1), (.int w11), (.int w10), (.int w9), (.long w7), (.long w2), (.long w6), (.long w1), (.ref b5), (.ref b5)])) := fun t k => P27 t (by
    show Steps p.tables e below (T26.setTop (mkF m 49 #[rv a1, iv (0 : Int32)] [(.int w11), (.int w10), (.int w9), (.long w7), (.long w2), (.long w6), (.long w1), (.ref b5), (.ref b5)])) t
    refine XS.aloadN X26.here hx rfl (hb hby d11_49) rfl rfl ?_
    exact k)
  obtain ⟨T29, X29, e29, st29⟩ := getF X26 hx hZ hown (host := "") (Or.inl (hw _ (List.mem_of_getElem? (i := 73) rfl))) Via.refl e26 (F3.ext E5) (g := (mkF m 50 #[rv a1, iv (0 : Int32)] [(.ref a1), (.int w11), (.int w10), (.int w9), (.long w7), (.long w2), (.long w6), (.long w1), (.ref b5), (.ref b5)])) rfl rfl (hb hby d11_50)
  have P30 : Rch p e below (s₁.setTop (entryFrame m #[(.ref a1)] 2)) (T29.setTop (mkF m 53 #[rv a1, iv (0 : Int32)] [(.long w3), (.int w11), (.int w10), (.int w9), (.long w7), (.long w2), (.long w6), (.long w1), (.ref b5), (.ref b5)])) := fun t k => P28 t (st29 t k)
  have P31 : Rch p e below (s₁.setTop (entryFrame m #[(.ref a1)] 2)) (T29.setTop (mkF m 55 #[rv a1, iv (0 : Int32)] [(.ref a1), (.int (0 : Int32)), (.long w3), (.int w11), (.int w10), (.int w9), (.long w7), (.long w2), (.long w6), (.long w1), (.ref b5), (.ref b5)])) := fun t k => P30 t (by
    show Steps p.tables e below (T29.setTop (mkF m 53 #[rv a1, iv (0 : Int32)] [(.long w3), (.int w11), (.int w10), (.int w9), (.long w7), (.long w2), (.long w6), (.long w1), (.ref b5), (.ref b5)])) t
    refine XS.iloadN X29.here hx rfl (hb hby d11_53) rfl ?_
    refine XS.aloadN X29.here hx rfl (hb hby d11_54) rfl rfl ?_
    exact k)
  obtain ⟨T32, X32, e32, st32⟩ := getF X29 hx hZ hown (host := "") (Or.inl (hw _ (List.mem_of_getElem? (i := 67) rfl))) Via.refl e29 (F0.ext E5) (g := (mkF m 55 #[rv a1, iv (0 : Int32)] [(.ref a1), (.int (0 : Int32)), (.long w3), (.int w11), (.int w10), (.int w9), (.long w7), (.long w2), (.long w6), (.long w1), (.ref b5), (.ref b5)])) rfl rfl (hb hby d11_55)
  have P33 : Rch p e below (s₁.setTop (entryFrame m #[(.ref a1)] 2)) (T32.setTop (mkF m 58 #[rv a1, iv (0 : Int32)] [(.ref w0), (.int (0 : Int32)), (.long w3), (.int w11), (.int w10), (.int w9), (.long w7), (.long w2), (.long w6), (.long w1), (.ref b5), (.ref b5)])) := fun t k => P31 t (st32 t k)
  have f35 : n0 ≤ h5.size := (Nat.le_trans Z0 E5.1)
  obtain ⟨cq34, kq34, q34a, q34b, q34c⟩ := isOf hZ e32 (Ec.ext E5)
  obtain ⟨_, _, ⟨T34, L34, k34, n34⟩, -, X34, ⟨Lc34, hQ34, l34, y34, z34⟩, st34⟩ := X32.interfaceBack hx (xi := (⟨"java/util/Set", "size", "()I"⟩ : MethodName)) (y := (⟨"java/util/HashSet", "size", "()I"⟩ : MethodName)) hown (mvT hZ (hw _ (List.mem_of_getElem? (i := 104) rfl))) (mvT hZ (hw _ (List.mem_of_getElem? (i := 105) rfl))) (mvT hZ (hw _ (List.mem_of_getElem? (i := 106) rfl))) (mvT hZ (hw _ (List.mem_of_getElem? (i := 107) rfl))) (mvT hZ (hw _ (List.mem_of_getElem? (i := 108) rfl))) (mvT hZ (hw _ (List.mem_of_getElem? (i := 109) rfl))) (mvT hZ (hw _ (List.mem_of_getElem? (i := 110) rfl))) (mvT hZ (hw _ (List.mem_of_getElem? (i := 111) rfl))) (by decide) (backOf (W := 16) (rmHz l Z a0 hw [] w0 m13 (0 : Int32) h5 n0 f35 (Gc.ext E5) (Em.ext E5) (Gm.ext E5)) hZ (hw _ (List.mem_of_getElem? (i := 112) rfl)) (hw _ (List.mem_of_getElem? (i := 36) rfl)) (by decide) (by decide)) q34a q34b q34c (g := (mkF m 58 #[rv a1, iv (0 : Int32)] [(.ref w0), (.int (0 : Int32)), (.long w3), (.int w11), (.int w10), (.int w9), (.long w7), (.long w2), (.long w6), (.long w1), (.ref b5), (.ref b5)])) rfl (by rw [hml]; rfl) (Steps.refl _) (argsL := []) (rest := [(.int (0 : Int32)), (.long w3), (.int w11), (.int w10), (.int w9), (.long w7), (.long w2), (.long w6), (.long w1), (.ref b5), (.ref b5)]) (lenOf pd_1 rfl) rfl (by show 2 * 0 + _ ≤ _; exact Nat.le_of_eq rfl) (hb hby d11_58) (fun _ _ => ⟨rfl, e32, (by decide : 1 + 0 ≤ _), (by decide : 11 + 0 ≤ _)⟩)
  dsimp only [Pt.U, Pt.locs, Pt.cells, Pt.slots] at X34 l34 y34 z34 st34 hQ34
  subst y34 z34
  obtain ⟨rfl, N34q, e34⟩ := hQ34
  have N34 : Fr n0 L34 := by rw [l34]; exact Fr.app N0 N34q
  have P36 : Rch p e below (s₁.setTop (entryFrame m #[(.ref a1)] 2)) (T34.setTop (mkF m 63 #[rv a1, iv (0 : Int32)] [(.int (0 : Int32)), (.int (0 : Int32)), (.long w3), (.int w11), (.int w10), (.int w9), (.long w7), (.long w2), (.long w6), (.long w1), (.ref b5), (.ref b5)])) := fun t k => P33 t (st34.trans k)
  have P37 : Rch p e below (s₁.setTop (entryFrame m #[(.ref a1)] 2)) (T34.setTop (mkF m 64 #[rv a1, iv (0 : Int32)] [(.ref a1), (.int (0 : Int32)), (.int (0 : Int32)), (.long w3), (.int w11), (.int w10), (.int w9), (.long w7), (.long w2), (.long w6), (.long w1), (.ref b5), (.ref b5)])) := fun t k => P36 t (by
    show Steps p.tables e below (T34.setTop (mkF m 63 #[rv a1, iv (0 : Int32)] [(.int (0 : Int32)), (.int (0 : Int32)), (.long w3), (.int w11), (.int w10), (.int w9), (.long w7), (.long w2), (.long w6), (.long w1), (.ref b5), (.ref b5)])) t
    refine XS.aloadN X34.here hx rfl (hb hby d11_63) rfl rfl ?_
    exact k)
  obtain ⟨T38, X38, e38, st38⟩ := getF X34 hx hZ hown (host := "") (Or.inl (hw _ (List.mem_of_getElem? (i := 83) rfl))) Via.refl e34 (F8.ext E5) (g := (mkF m 64 #[rv a1, iv (0 : Int32)] [(.ref a1), (.int (0 : Int32)), (.int (0 : Int32)), (.long w3), (.int w11), (.int w10), (.int w9), (.long w7), (.long w2), (.long w6), (.long w1), (.ref b5), (.ref b5)])) rfl rfl (hb hby d11_64)
  have P39 : Rch p e below (s₁.setTop (entryFrame m #[(.ref a1)] 2)) (T38.setTop (mkF m 67 #[rv a1, iv (0 : Int32)] [(.long w8), (.int (0 : Int32)), (.int (0 : Int32)), (.long w3), (.int w11), (.int w10), (.int w9), (.long w7), (.long w2), (.long w6), (.long w1), (.ref b5), (.ref b5)])) := fun t k => P37 t (st38 t k)
  obtain ⟨_, _, ⟨T40, L40, k40, n40⟩, -, X40, ⟨Lc40, hQ40, l40, y40, z40⟩, st40⟩ := X38.specialBack hx (y := (⟨"com/example/usher/usher/protocol/Stat", "<init>", "(JJJJIIIJIIJ)V"⟩ : MethodName)) rfl hown (mvT hZ (hw _ (List.mem_of_getElem? (i := 120) rfl))) (mvT hZ (hw _ (List.mem_of_getElem? (i := 121) rfl))) (mvT hZ (hw _ (List.mem_of_getElem? (i := 122) rfl))) (by decide) (backOf (W := 1) (rmSI l Z a0 hw [] b5 w1 w6 w2 w7 w9 w10 w11 w3 (0 : Int32) (0 : Int32) w8 h5 n0 f35 A5 g_b5 F5_125 F5_127 F5_129 F5_131 F5_133 F5_135 F5_137 F5_139 F5_141 F5_143 F5_145) hZ (hw _ (List.mem_of_getElem? (i := 122) rfl)) (hw _ (List.mem_of_getElem? (i := 99) rfl)) (by decide) (by decide)) (g := (mkF m 67 #[rv a1, iv (0 : Int32)] [(.long w8), (.int (0 : Int32)), (.int (0 : Int32)), (.long w3), (.int w11), (.int w10), (.int w9), (.long w7), (.long w2), (.long w6), (.long w1), (.ref b5), (.ref b5)])) rfl (by rw [hml]; rfl) (Steps.refl _) (a := b5) (argsL := [(.long w1), (.long w6), (.long w2), (.long w7), (.int w9), (.int w10), (.int w11), (.long w3), (.int (0 : Int32)), (.int (0 : Int32)), (.long w8)]) (rest := [(.ref b5)]) (lenOf pd_2 rfl) rfl (by show 2 * 0 + _ ≤ _; exact Nat.le_of_eq rfl) (hb hby d11_67) (fun _ _ => ⟨rfl, e38, (by decide : 1 + 0 ≤ _), (by decide : 11 + 0 ≤ _)⟩)
  dsimp only [Pt.U, Pt.locs, Pt.cells, Pt.slots] at X40 l40 y40 z40 st40 hQ40
  subst y40 z40
  obtain ⟨rfl, N40q, K40, E_40, G0_40, G1_40, G2_40, G3_40, G4_40, G5_40, G6_40, G7_40, G8_40, G9_40, G10_40⟩ := hQ40
  have N40 : Fr n0 L40 := by rw [l40]; exact Fr.app N34 N40q
  have P41 : Rch p e below (s₁.setTop (entryFrame m #[(.ref a1)] 2)) (T40.setTop (mkF m 70 #[rv a1, iv (0 : Int32)] [(.ref b5)])) := fun t k => P39 t (st40.trans k)
  obtain ⟨fs, hr, hrun, hended, hW, hsame⟩ := X40.leave (v := some (.ref b5)) (fun h => by rw [Bd.returns] at h; cases h)
  refine ⟨_, _, P41 _ ?_, hrun, hended, _, _, rfl, ?_, ⟨_, rfl⟩, hW, hsame.mono (by decide) (by decide)⟩
  · exact retOut X40 hx Bd.returns rfl (Or.inr (Or.inr (Or.inr (Or.inr ⟨rfl, rfl, rfl⟩)))) (hb hby d11_70) hr
  · show Q_rmS0 Z a1 w0 w1 w2 w3 w5 w6 w7 w8 w9 w10 w11 m13 h0 n0 _ T40.heap _
    have f42 : Keep h0 T40.heap [] := (((Keep.refl h0 []).ext E5).trans K40 (allS (P := fun x => x ∈ [] ∨ h0.size ≤ x) (Or.inr sz_b5) all0))
    exact ⟨b5, rfl, N40, f42, sz_b5, E_40, G1_40, G2_40, G3_40, G4_40, G8_40, G10_40⟩
def Q_rmS1 (Z : State) (a1 : Addr) (w0 : Addr) (w1 : Int64) (w2 : Int64) (w3 : Int64) (w5 : Addr) (w6 : Int64) (w7 : Int64) (w8 : Int64) (w9 : Int32) (w10 : Int32) (w11 : Int32) (d4 : Addr) (k4 : ClassId) (n4 : Int32) (v4 : List Value) (m13 : Addr) (h0 : Heap) (n0 : Nat) (v : Option Value) (h : Heap) (L : List Loc) : Prop := ∃ (t_ : Addr), v = some (.ref t_) ∧ Fr n0 L ∧ Keep h0 h [] ∧ (h0.size ≤ t_) ∧ (Exa Z h t_ "com/example/usher/usher/protocol/Stat") ∧ (Fld Z h t_ "com/example/usher/usher/protocol/Stat" "mzxid" "J" (.long w6)) ∧ (Fld Z h t_ "com/example/usher/usher/protocol/Stat" "ctime" "J" (.long w2)) ∧ (Fld Z h t_ "com/example/usher/usher/protocol/Stat" "mtime" "J" (.long w7)) ∧ (Fld Z h t_ "com/example/usher/usher/protocol/Stat" "version" "I" (.int w9)) ∧ (Fld Z h t_ "com/example/usher/usher/protocol/Stat" "dataLength" "I" (.int n4)) ∧ (Fld Z h t_ "com/example/usher/usher/protocol/Stat" "pzxid" "J" (.long w8))
set_option maxRecDepth 65536 in
set_option maxHeartbeats 40000000 in
theorem rmS1 (l : Launch) (Z : State) (a0 : Array Value) (hw : ∀ d ∈ tables_1, d.before a0 Z = true) (ws : List Jvm.Cond) (a1 : Addr) (w0 : Addr) (w1 : Int64) (w2 : Int64) (w3 : Int64) (w5 : Addr) (w6 : Int64) (w7 : Int64) (w8 : Int64) (w9 : Int32) (w10 : Int32) (w11 : Int32) (d4 : Addr) (k4 : ClassId) (n4 : Int32) (v4 : List Value) (m13 : Addr) (h0 : Heap) (n0 : Nat) (Z0 : n0 ≤ h0.size) (E1 : Exa Z h0 a1 "com/example/usher/usher/core/Node") (F0 : Fld Z h0 a1 "com/example/usher/usher/core/Node" "children" "Ljava/util/Set;" (.ref w0)) (F1 : Fld Z h0 a1 "com/example/usher/usher/core/Node" "czxid" "J" (.long w1)) (F2 : Fld Z h0 a1 "com/example/usher/usher/core/Node" "ctime" "J" (.long w2)) (F3 : Fld Z h0 a1 "com/example/usher/usher/core/Node" "ephemeralOwner" "J" (.long w3)) (F4 : Fld Z h0 a1 "com/example/usher/usher/core/Node" "data" "[B" (.ref d4)) (F5 : Fld Z h0 a1 "com/example/usher/usher/core/Node" "acl" "Ljava/util/List;" (.ref w5)) (F6 : Fld Z h0 a1 "com/example/usher/usher/core/Node" "mzxid" "J" (.long w6)) (F7 : Fld Z h0 a1 "com/example/usher/usher/core/Node" "mtime" "J" (.long w7)) (F8 : Fld Z h0 a1 "com/example/usher/usher/core/Node" "pzxid" "J" (.long w8)) (F9 : Fld Z h0 a1 "com/example/usher/usher/core/Node" "version" "I" (.int w9)) (F10 : Fld Z h0 a1 "com/example/usher/usher/core/Node" "cversion" "I" (.int w10)) (F11 : Fld Z h0 a1 "com/example/usher/usher/core/Node" "aversion" "I" (.int w11)) (Ec : Exa Z h0 w0 "java/util/HashSet") (Gc : Fld Z h0 w0 "java/util/HashSet" "map" "Ljava/util/HashMap;" (.ref m13)) (Em : Exa Z h0 m13 "java/util/HashMap") (Gm : Fld Z h0 m13 "java/util/HashMap" "size" "I" (.int (0 : Int32))) (V4 : Arv Z h0 d4 k4 .byte n4 v4 (.int (0 : Int32))) :
    MetFree l (⟨"com/example/usher/usher/core/Node", "stat", "()Lcom/example/usher/usher/protocol/Stat;"⟩ : MethodName) (head1 (Jvm.Cond.code (⟨"com/example/usher/usher/core/Node", "stat", "()Lcom/example/usher/usher/protocol/Stat;"⟩ : MethodName) prog_19_method_4_code 2 (some (.object "com/example/usher/usher/protocol/Stat")) :: ws) ({ frames := 2, cells := 1, slots := 11, locals := 42 } : Room)) (fun a U => a = #[(.ref a1)] ∧ Z.Warmed39 U.vm ∧ U.heap = h0) (fun _ _ _ _ _ => True) (fun _ U o U' => ∃ v L, o = .returned v ∧ Q_rmS1 Z a1 w0 w1 w2 w3 w5 w6 w7 w8 w9 w10 w11 d4 k4 n4 v4 m13 h0 n0 v U'.heap L ∧ FrameEnd U o U' L ({ frames := 2, cells := 1, slots := 11, locals := 42 } : Room).cells ({ frames := 2, cells := 1, slots := 11, locals := 42 } : Room).slots) := by
  refine MetFree.of_bodySF (plainFor_of_name pn_7) hisR ?_
  intro p e s m args below meth c s₁ Bd hml0 hP hK
  obtain ⟨rfl, hZ, hh⟩ := hP
  have hx := Bd.exec
  have hby := Bd.bytes
  have hml : c.maxLocals = 2 := hml0
  have hown : s.vm.findClass "com/example/usher/usher/core/Node" = some m.cls := findClass_of_methodNamed Bd.named
  have hnm := (name_of_methodNamed Bd.named Bd.method).1
  have X0 : Stand p l e ({ frames := 2, cells := 1, slots := 11, locals := 42 } : Room) s m #[(.ref a1)] below meth c s₁ [] 0 0 := Stand.of_body Bd
  have e0 : s₁.heap = h0 := by rw [← hh, Bd.state]; rfl
  have N0 := Fr.nil n0
  have P0 : Rch p e below (s₁.setTop (entryFrame m #[(.ref a1)] 2)) (s₁.setTop (mkF m 0 #[rv a1, un] [])) := fun t k => castTop (by first | (simp [entryFrame, mkF, argsToLocals, Value.category]; done) | rfl) k
  have P1 : Rch p e below (s₁.setTop (entryFrame m #[(.ref a1)] 2)) (s₁.setTop (mkF m 1 #[rv a1, un] [(.ref a1)])) := fun t k => P0 t (by
    show Steps p.tables e below (s₁.setTop (mkF m 0 #[rv a1, un] [])) t
    refine XS.aloadN X0.here hx rfl (hb hby d11_0) rfl rfl ?_
    exact k)
  obtain ⟨T2, X2, e2, st2⟩ := getF X0 hx hZ hown (host := "") (Or.inl (hw _ (List.mem_of_getElem? (i := 75) rfl))) Via.refl e0 F4 (g := (mkF m 1 #[rv a1, un] [(.ref a1)])) rfl rfl (hb hby d11_1)
  have P3 : Rch p e below (s₁.setTop (entryFrame m #[(.ref a1)] 2)) (T2.setTop (mkF m 4 #[rv a1, un] [(.ref d4)])) := fun t k => P1 t (st2 t k)
  have P4 : Rch p e below (s₁.setTop (entryFrame m #[(.ref a1)] 2)) (T2.setTop (mkF m 12 #[rv a1, un] [(.ref a1)])) := fun t k => P3 t (by
    show Steps p.tables e below (T2.setTop (mkF m 4 #[rv a1, un] [(.ref d4)])) t
    refine XS.ifnonnullYes X2.here hx rfl (pc0 := 4) (pc' := 11) rfl (hb hby d11_4) rfl (by decide) (by decide) ?_
    refine XS.aloadN X2.here hx rfl (hb hby d11_11) rfl rfl ?_
    exact k)
  obtain ⟨T5, X5, e5, st5⟩ := getF X2 hx hZ hown (host := "") (Or.inl (hw _ (List.mem_of_getElem? (i := 75) rfl))) Via.refl e2 F4 (g := (mkF m 12 #[rv a1, un] [(.ref a1)])) rfl rfl (hb hby d11_12)
  have P6 : Rch p e below (s₁.setTop (entryFrame m #[(.ref a1)] 2)) (T5.setTop (mkF m 15 #[rv a1, un] [(.ref d4)])) := fun t k => P4 t (st5 t k)
  have V_o7 := V4
  obtain ⟨co7, Aro7, qo7, So7, Mo7, Ho7, Go7⟩ := V_o7
  have P8 : Rch p e below (s₁.setTop (entryFrame m #[(.ref a1)] 2)) (T5.setTop (mkF m 16 #[rv a1, un] [(.int n4)])) := fun t k => P6 t (by
    refine X5.arraylength hx (by rw [e5]; exact Aro7.1) (State.isArrayOf_alike hZ.alike Aro7.2.1) (g := (mkF m 15 #[rv a1, un] [(.ref d4)])) rfl rfl (hb hby d11_15) _ ?_
    rw [len_of So7 Mo7]; exact k)
  have P9 : Rch p e below (s₁.setTop (entryFrame m #[(.ref a1)] 2)) (T5.setTop (mkF m 17 #[rv a1, iv n4] [])) := fun t k => P8 t (by
    show Steps p.tables e below (T5.setTop (mkF m 16 #[rv a1, un] [(.int n4)])) t
    refine XS.istoreN X5.here hx rfl (hb hby d11_16) rfl (l' := #[rv a1, iv n4]) rfl ?_
    exact k)
  obtain ⟨T10, h10, X10, e10, E10, A10, D10, -, st10⟩ := newO X5 hx hZ hown (hw _ (List.mem_of_getElem? (i := 97) rfl)) (hw _ (List.mem_of_getElem? (i := 98) rfl)) (hw _ (List.mem_of_getElem? (i := 99) rfl)) e5 (g := (mkF m 17 #[rv a1, iv n4] [])) rfl (hb hby d11_17) (by decide) (by decide)
  obtain ⟨b10, g10⟩ : ∃ z, z = h0.size := ⟨_, rfl⟩
  rw [← g10] at A10 D10 st10
  have g_b10 : n0 ≤ b10 := Nat.le_trans Z0 (Nat.le_of_eq g10.symm)
  have sz_b10 : h0.size ≤ b10 := Nat.le_trans (Keep.refl h0 []).1 (Nat.le_of_eq g10.symm)
  have ne_a1_b10 : a1 ≠ b10 := Nat.ne_of_lt (Nat.lt_of_lt_of_le E1.lt (Nat.le_of_eq g10.symm))
  have ne_w0_b10 : w0 ≠ b10 := Nat.ne_of_lt (Nat.lt_of_lt_of_le Ec.lt (Nat.le_of_eq g10.symm))
  have ne_m13_b10 : m13 ≠ b10 := Nat.ne_of_lt (Nat.lt_of_lt_of_le Em.lt (Nat.le_of_eq g10.symm))
  have ne_d4_b10 : d4 ≠ b10 := Nat.ne_of_lt (Nat.lt_of_lt_of_le V4.lt (Nat.le_of_eq g10.symm))
  have F10_125 : Fld Z h10 b10 "com/example/usher/usher/protocol/Stat" "czxid" "J" (.long (0 : Int64)) := D10 (Or.inr (hw _ (List.mem_of_getElem? (i := 125) rfl))) (ty := .long) (by decide)
  have F10_127 : Fld Z h10 b10 "com/example/usher/usher/protocol/Stat" "mzxid" "J" (.long (0 : Int64)) := D10 (Or.inr (hw _ (List.mem_of_getElem? (i := 127) rfl))) (ty := .long) (by decide)
  have F10_129 : Fld Z h10 b10 "com/example/usher/usher/protocol/Stat" "ctime" "J" (.long (0 : Int64)) := D10 (Or.inr (hw _ (List.mem_of_getElem? (i := 129) rfl))) (ty := .long) (by decide)
  have F10_131 : Fld Z h10 b10 "com/example/usher/usher/protocol/Stat" "mtime" "J" (.long (0 : Int64)) := D10 (Or.inr (hw _ (List.mem_of_getElem? (i := 131) rfl))) (ty := .long) (by decide)
  have F10_133 : Fld Z h10 b10 "com/example/usher/usher/protocol/Stat" "version" "I" (.int (0 : Int32)) := D10 (Or.inr (hw _ (List.mem_of_getElem? (i := 133) rfl))) (ty := .int) (by decide)
  have F10_135 : Fld Z h10 b10 "com/example/usher/usher/protocol/Stat" "cversion" "I" (.int (0 : Int32)) := D10 (Or.inr (hw _ (List.mem_of_getElem? (i := 135) rfl))) (ty := .int) (by decide)
  have F10_137 : Fld Z h10 b10 "com/example/usher/usher/protocol/Stat" "aversion" "I" (.int (0 : Int32)) := D10 (Or.inr (hw _ (List.mem_of_getElem? (i := 137) rfl))) (ty := .int) (by decide)
  have F10_139 : Fld Z h10 b10 "com/example/usher/usher/protocol/Stat" "ephemeralOwner" "J" (.long (0 : Int64)) := D10 (Or.inr (hw _ (List.mem_of_getElem? (i := 139) rfl))) (ty := .long) (by decide)
  have F10_141 : Fld Z h10 b10 "com/example/usher/usher/protocol/Stat" "dataLength" "I" (.int (0 : Int32)) := D10 (Or.inr (hw _ (List.mem_of_getElem? (i := 141) rfl))) (ty := .int) (by decide)
  have F10_143 : Fld Z h10 b10 "com/example/usher/usher/protocol/Stat" "numChildren" "I" (.int (0 : Int32)) := D10 (Or.inr (hw _ (List.mem_of_getElem? (i := 143) rfl))) (ty := .int) (by decide)
  have F10_145 : Fld Z h10 b10 "com/example/usher/usher/protocol/Stat" "pzxid" "J" (.long (0 : Int64)) := D10 (Or.inr (hw _ (List.mem_of_getElem? (i := 145) rfl))) (ty := .long) (by decide)
  have P11 : Rch p e below (s₁.setTop (entryFrame m #[(.ref a1)] 2)) (T10.setTop (mkF m 20 #[rv a1, iv n4] [(.ref b10)])) := fun t k => P9 t (st10 t k)
  have P12 : Rch p e below (s₁.setTop (entryFrame m #[(.ref a1)] 2)) (T10.setTop (mkF m 22 #[rv a1, iv n4] [(.ref a1), (.ref b10), (.ref b10)])) := fun t k => P11 t (by
    show Steps p.tables e below (T10.setTop (mkF m 20 #[rv a1, iv n4] [(.ref b10)])) t
    refine XS.dup X10.here hx rfl (hb hby d11_20) rfl rfl ?_
    refine XS.aloadN X10.here hx rfl (hb hby d11_21) rfl rfl ?_
    exact k)
  obtain ⟨T13, X13, e13, st13⟩ := getF X10 hx hZ hown (host := "") (Or.inl (hw _ (List.mem_of_getElem? (i := 69) rfl))) Via.refl e10 (F1.ext E10) (g := (mkF m 22 #[rv a1, iv n4] [(.ref a1), (.ref b10), (.ref b10)])) rfl rfl (hb hby d11_22)
  have P14 : Rch p e below (s₁.setTop (entryFrame m #[(.ref a1)] 2)) (T13.setTop (mkF m 25 #[rv a1, iv n4] [(.long w1), (.ref b10), (.ref b10)])) := fun t k => P12 t (st13 t k)
  have P15 : Rch p e below (s₁.setTop (entryFrame m #[(.ref a1)] 2)) (T13.setTop (mkF m 26 #[rv a1, iv n4] [(.ref a1), (.long w1), (.ref b10), (.ref b10)])) := fun t k => P14 t (by
    show Steps p.tables e below (T13.setTop (mkF m 25 #[rv a1, iv n4] [(.long w1), (.ref b10), (.ref b10)])) t
    refine XS.aloadN X13.here hx rfl (hb hby d11_25) rfl rfl ?_
    exact k)
  obtain ⟨T16, X16, e16, st16⟩ := getF X13 hx hZ hown (host := "") (Or.inl (hw _ (List.mem_of_getElem? (i := 79) rfl))) Via.refl e13 (F6.ext E10) (g := (mkF m 26 #[rv a1, iv n4] [(.ref a1), (.long w1), (.ref b10), (.ref b10)])) rfl rfl (hb hby d11_26)
  have P17 : Rch p e below (s₁.setTop (entryFrame m #[(.ref a1)] 2)) (T16.setTop (mkF m 29 #[rv a1, iv n4] [(.long w6), (.long w1), (.ref b10), (.ref b10)])) := fun t k => P15 t (st16 t k)
  have P18 : Rch p e below (s₁.setTop (entryFrame m #[(.ref a1)] 2)) (T16.setTop (mkF m 30 #[rv a1, iv n4] [(.ref a1), (.long w6), (.long w1), (.ref b10), (.ref b10)])) := fun t k => P17 t (by
    show Steps p.tables e below (T16.setTop (mkF m 29 #[rv a1, iv n4] [(.long w6), (.long w1), (.ref b10), (.ref b10)])) t
    refine XS.aloadN X16.here hx rfl (hb hby d11_29) rfl rfl ?_
    exact k)
  obtain ⟨T19, X19, e19, st19⟩ := getF X16 hx hZ hown (host := "") (Or.inl (hw _ (List.mem_of_getElem? (i := 71) rfl))) Via.refl e16 (F2.ext E10) (g := (mkF m 30 #[rv a1, iv n4] [(.ref a1), (.long w6), (.long w1), (.ref b10), (.ref b10)])) rfl rfl (hb hby d11_30)
  have P20 : Rch p e below (s₁.setTop (entryFrame m #[(.ref a1)] 2)) (T19.setTop (mkF m 33 #[rv a1, iv n4] [(.long w2), (.long w6), (.long w1), (.ref b10), (.ref b10)])) := fun t k => P18 t (st19 t k)
  have P21 : Rch p e below (s₁.setTop (entryFrame m #[(.ref a1)] 2)) (T19.setTop (mkF m 34 #[rv a1, iv n4] [(.ref a1), (.long w2), (.long w6), (.long w1), (.ref b10), (.ref b10)])) := fun t k => P20 t (by
    show Steps p.tables e below (T19.setTop (mkF m 33 #[rv a1, iv n4] [(.long w2), (.long w6), (.long w1), (.ref b10), (.ref b10)])) t
    refine XS.aloadN X19.here hx rfl (hb hby d11_33) rfl rfl ?_
    exact k)
  obtain ⟨T22, X22, e22, st22⟩ := getF X19 hx hZ hown (host := "") (Or.inl (hw _ (List.mem_of_getElem? (i := 81) rfl))) Via.refl e19 (F7.ext E10) (g := (mkF m 34 #[rv a1, iv n4] [(.ref a1), (.long w2), (.long w6), (.long w1), (.ref b10), (.ref b10)])) rfl rfl (hb hby d11_34)
  have P23 : Rch p e below (s₁.setTop (entryFrame m #[(.ref a1)] 2)) (T22.setTop (mkF m 37 #[rv a1, iv n4] [(.long w7), (.long w2), (.long w6), (.long w1), (.ref b10), (.ref b10)])) := fun t k => P21 t (st22 t k)
  have P24 : Rch p e below (s₁.setTop (entryFrame m #[(.ref a1)] 2)) (T22.setTop (mkF m 38 #[rv a1, iv n4] [(.ref a1), (.long w7), (.long w2), (.long w6), (.long w1), (.ref b10), (.ref b10)])) := fun t k => P23 t (by
    show Steps p.tables e below (T22.setTop (mkF m 37 #[rv a1, iv n4] [(.long w7), (.long w2), (.long w6), (.long w1), (.ref b10), (.ref b10)])) t
    refine XS.aloadN X22.here hx rfl (hb hby d11_37) rfl rfl ?_
    exact k)
  obtain ⟨T25, X25, e25, st25⟩ := getF X22 hx hZ hown (host := "") (Or.inl (hw _ (List.mem_of_getElem? (i := 90) rfl))) Via.refl e22 (F9.ext E10) (g := (mkF m 38 #[rv a1, iv n4] [(.ref a1), (.long w7), (.long w2), (.long w6), (.long w1), (.ref b10), (.ref b10)])) rfl rfl (hb hby d11_38)
  have P26 : Rch p e below (s₁.setTop (entryFrame m #[(.ref a1)] 2)) (T25.setTop (mkF m 41 #[rv a1, iv n4] [(.int w9), (.long w7), (.long w2), (.long w6), (.long w1), (.ref b10), (.ref b10)])) := fun t k => P24 t (st25 t k)
  have P27 : Rch p e below (s₁.setTop (entryFrame m #[(.ref a1)] 2)) (T25.setTop (mkF m 42 #[rv a1, iv n4] [(.ref a1), (.int w9), (.long w7), (.long w2), (.long w6), (.long w1), (.ref b10), (.ref b10)])) := fun t k => P26 t (by
    show Steps p.tables e below (T25.setTop (mkF m 41 #[rv a1, iv n4] [(.int w9), (.long w7), (.long w2), (.long w6), (.long w1), (.ref b10), (.ref b10)])) t
    refine XS.aloadN X25.here hx rfl (hb hby d11_41) rfl rfl ?_
    exact k)
  obtain ⟨T28, X28, e28, st28⟩ := getF X25 hx hZ hown (host := "") (Or.inl (hw _ (List.mem_of_getElem? (i := 100) rfl))) Via.refl e25 (F10.ext E10) (g := (mkF m 42 #[rv a1, iv n4] [(.ref a1), (.int w9), (.long w7), (.long w2), (.long w6), (.long w1), (.ref b10), (.ref b10)])) rfl rfl (hb hby d11_42)
  have P29 : Rch p e below (s₁.setTop (entryFrame m #[(.ref a1)] 2)) (T28.setTop (mkF m 45 #[rv a1, iv n4] [(.int w10), (.int w9), (.long w7), (.long w2), (.long w6), (.long w1), (.ref b10), (.ref b10)])) := fun t k => P27 t (st28 t k)
  have P30 : Rch p e below (s₁.setTop (entryFrame m #[(.ref a1)] 2)) (T28.setTop (mkF m 46 #[rv a1, iv n4] [(.ref a1), (.int w10), (.int w9), (.long w7), (.long w2), (.long w6), (.long w1), (.ref b10), (.ref b10)])) := fun t k => P29 t (by
    show Steps p.tables e below (T28.setTop (mkF m 45 #[rv a1, iv n4] [(.int w10), (.int w9), (.long w7), (.long w2), (.long w6), (.long w1), (.ref b10), (.ref b10)])) t
    refine XS.aloadN X28.here hx rfl (hb hby d11_45) rfl rfl ?_
    exact k)
  obtain ⟨T31, X31, e31, st31⟩ := getF X28 hx hZ hown (host := "") (Or.inl (hw _ (List.mem_of_getElem? (i := 102) rfl))) Via.refl e28 (F11.ext E10) (g := (mkF m 46 #[rv a1, iv n4] [(.ref a1), (.int w10), (.int w9), (.long w7), (.long w2), (.long w6), (.long w1), (.ref b10), (.ref b10)])) rfl rfl (hb hby d11_46)
  have P32 : Rch p e below (s₁.setTop (entryFrame m #[(.ref a1)] 2)) (T31.setTop (mkF m 49 #[rv a1, iv n4] [(.int w11), (.int w10), (.int w9), (.long w7), (.long w2), (.long w6), (.long w1), (.ref b10), (.ref b10)])) := fun t k => P30 t (st31 t k)
  have P33 : Rch p e below (s₁.setTop (entryFrame m #[(.ref a1)] 2)) (T31.setTop (mkF m 50 #[rv a1, iv n4] [(.ref a1), (.int w11), (.int w10), (.int w9), (.long w7), (.long w2), (.long w6), (.long w1), (.ref b10), (.ref b10)])) := fun t k => P32 t (by
    show Steps p.tables e below (T31.setTop (mkF m 49 #[rv a1, iv n4] [(.int w11), (.int w10), (.int w9), (.long w7), (.long w2), (.long w6), (.long w1), (.ref b10), (.ref b10)])) t
    refine XS.aloadN X31.here hx rfl (hb hby d11_49) rfl rfl ?_
    exact k)
  obtain ⟨T34, X34, e34, st34⟩ := getF X31 hx hZ hown (host := "") (Or.inl (hw _ (List.mem_of_getElem? (i := 73) rfl))) Via.refl e31 (F3.ext E10) (g := (mkF m 50 #[rv a1, iv n4] [(.ref a1), (.int w11), (.int w10), (.int w9), (.long w7), (.long w2), (.long w6), (.long w1), (.ref b10), (.ref b10)])) rfl rfl (hb hby d11_50)
  have P35 : Rch p e below (s₁.setTop (entryFrame m #[(.ref a1)] 2)) (T34.setTop (mkF m 53 #[rv a1, iv n4] [(.long w3), (.int w11), (.int w10), (.int w9), (.long w7), (.long w2), (.long w6), (.long w1), (.ref b10), (.ref b10)])) := fun t k => P33 t (st34 t k)
  have P36 : Rch p e below (s₁.setTop (entryFrame m #[(.ref a1)] 2)) (T34.setTop (mkF m 55 #[rv a1, iv n4] [(.ref a1), (.int n4), (.long w3), (.int w11), (.int w10), (.int w9), (.long w7), (.long w2), (.long w6), (.long w1), (.ref b10), (.ref b10)])) := fun t k => P35 t (by
    show Steps p.tables e below (T34.setTop (mkF m 53 #[rv a1, iv n4] [(.long w3), (.int w11), (.int w10), (.int w9), (.long w7), (.long w2), (.long w6), (.long w1), (.ref b10), (.ref b10)])) t
    refine XS.iloadN X34.here hx rfl (hb hby d11_53) rfl ?_
    refine XS.aloadN X34.here hx rfl (hb hby d11_54) rfl rfl ?_
    exact k)
  obtain ⟨T37, X37, e37, st37⟩ := getF X34 hx hZ hown (host := "") (Or.inl (hw _ (List.mem_of_getElem? (i := 67) rfl))) Via.refl e34 (F0.ext E10) (g := (mkF m 55 #[rv a1, iv n4] [(.ref a1), (.int n4), (.long w3), (.int w11), (.int w10), (.int w9), (.long w7), (.long w2), (.long w6), (.long w1), (.ref b10), (.ref b10)])) rfl rfl (hb hby d11_55)
  have P38 : Rch p e below (s₁.setTop (entryFrame m #[(.ref a1)] 2)) (T37.setTop (mkF m 58 #[rv a1, iv n4] [(.ref w0), (.int n4), (.long w3), (.int w11), (.int w10), (.int w9), (.long w7), (.long w2), (.long w6), (.long w1), (.ref b10), (.ref b10)])) := fun t k => P36 t (st37 t k)
  have f40 : n0 ≤ h10.size := (Nat.le_trans Z0 E10.1)
  obtain ⟨cq39, kq39, q39a, q39b, q39c⟩ := isOf hZ e37 (Ec.ext E10)
  obtain ⟨_, _, ⟨T39, L39, k39, n39⟩, -, X39, ⟨Lc39, hQ39, l39, y39, z39⟩, st39⟩ := X37.interfaceBack hx (xi := (⟨"java/util/Set", "size", "()I"⟩ : MethodName)) (y := (⟨"java/util/HashSet", "size", "()I"⟩ : MethodName)) hown (mvT hZ (hw _ (List.mem_of_getElem? (i := 104) rfl))) (mvT hZ (hw _ (List.mem_of_getElem? (i := 105) rfl))) (mvT hZ (hw _ (List.mem_of_getElem? (i := 106) rfl))) (mvT hZ (hw _ (List.mem_of_getElem? (i := 107) rfl))) (mvT hZ (hw _ (List.mem_of_getElem? (i := 108) rfl))) (mvT hZ (hw _ (List.mem_of_getElem? (i := 109) rfl))) (mvT hZ (hw _ (List.mem_of_getElem? (i := 110) rfl))) (mvT hZ (hw _ (List.mem_of_getElem? (i := 111) rfl))) (by decide) (backOf (W := 16) (rmHz l Z a0 hw [] w0 m13 (0 : Int32) h10 n0 f40 (Gc.ext E10) (Em.ext E10) (Gm.ext E10)) hZ (hw _ (List.mem_of_getElem? (i := 112) rfl)) (hw _ (List.mem_of_getElem? (i := 36) rfl)) (by decide) (by decide)) q39a q39b q39c (g := (mkF m 58 #[rv a1, iv n4] [(.ref w0), (.int n4), (.long w3), (.int w11), (.int w10), (.int w9), (.long w7), (.long w2), (.long w6), (.long w1), (.ref b10), (.ref b10)])) rfl (by rw [hml]; rfl) (Steps.refl _) (argsL := []) (rest := [(.int n4), (.long w3), (.int w11), (.int w10), (.int w9), (.long w7), (.long w2), (.long w6), (.long w1), (.ref b10), (.ref b10)]) (lenOf pd_1 rfl) rfl (by show 2 * 0 + _ ≤ _; exact Nat.le_of_eq rfl) (hb hby d11_58) (fun _ _ => ⟨rfl, e37, (by decide : 1 + 0 ≤ _), (by decide : 11 + 0 ≤ _)⟩)
  dsimp only [Pt.U, Pt.locs, Pt.cells, Pt.slots] at X39 l39 y39 z39 st39 hQ39
  subst y39 z39
  obtain ⟨rfl, N39q, e39⟩ := hQ39
  have N39 : Fr n0 L39 := by rw [l39]; exact Fr.app N0 N39q
  have P41 : Rch p e below (s₁.setTop (entryFrame m #[(.ref a1)] 2)) (T39.setTop (mkF m 63 #[rv a1, iv n4] [(.int (0 : Int32)), (.int n4), (.long w3), (.int w11), (.int w10), (.int w9), (.long w7), (.long w2), (.long w6), (.long w1), (.ref b10), (.ref b10)])) := fun t k => P38 t (st39.trans k)
  have P42 : Rch p e below (s₁.setTop (entryFrame m #[(.ref a1)] 2)) (T39.setTop (mkF m 64 #[rv a1, iv n4] [(.ref a1), (.int (0 : Int32)), (.int n4), (.long w3), (.int w11), (.int w10), (.int w9), (.long w7), (.long w2), (.long w6), (.long w1), (.ref b10), (.ref b10)])) := fun t k => P41 t (by
    show Steps p.tables e below (T39.setTop (mkF m 63 #[rv a1, iv n4] [(.int (0 : Int32)), (.int n4), (.long w3), (.int w11), (.int w10), (.int w9), (.long w7), (.long w2), (.long w6), (.long w1), (.ref b10), (.ref b10)])) t
    refine XS.aloadN X39.here hx rfl (hb hby d11_63) rfl rfl ?_
    exact k)
  obtain ⟨T43, X43, e43, st43⟩ := getF X39 hx hZ hown (host := "") (Or.inl (hw _ (List.mem_of_getElem? (i := 83) rfl))) Via.refl e39 (F8.ext E10) (g := (mkF m 64 #[rv a1, iv n4] [(.ref a1), (.int (0 : Int32)), (.int n4), (.long w3), (.int w11), (.int w10), (.int w9), (.long w7), (.long w2), (.long w6), (.long w1), (.ref b10), (.ref b10)])) rfl rfl (hb hby d11_64)
  have P44 : Rch p e below (s₁.setTop (entryFrame m #[(.ref a1)] 2)) (T43.setTop (mkF m 67 #[rv a1, iv n4] [(.long w8), (.int (0 : Int32)), (.int n4), (.long w3), (.int w11), (.int w10), (.int w9), (.long w7), (.long w2), (.long w6), (.long w1), (.ref b10), (.ref b10)])) := fun t k => P42 t (st43 t k)
  obtain ⟨_, _, ⟨T45, L45, k45, n45⟩, -, X45, ⟨Lc45, hQ45, l45, y45, z45⟩, st45⟩ := X43.specialBack hx (y := (⟨"com/example/usher/usher/protocol/Stat", "<init>", "(JJJJIIIJIIJ)V"⟩ : MethodName)) rfl hown (mvT hZ (hw _ (List.mem_of_getElem? (i := 120) rfl))) (mvT hZ (hw _ (List.mem_of_getElem? (i := 121) rfl))) (mvT hZ (hw _ (List.mem_of_getElem? (i := 122) rfl))) (by decide) (backOf (W := 1) (rmSI l Z a0 hw [] b10 w1 w6 w2 w7 w9 w10 w11 w3 n4 (0 : Int32) w8 h10 n0 f40 A10 g_b10 F10_125 F10_127 F10_129 F10_131 F10_133 F10_135 F10_137 F10_139 F10_141 F10_143 F10_145) hZ (hw _ (List.mem_of_getElem? (i := 122) rfl)) (hw _ (List.mem_of_getElem? (i := 99) rfl)) (by decide) (by decide)) (g := (mkF m 67 #[rv a1, iv n4] [(.long w8), (.int (0 : Int32)), (.int n4), (.long w3), (.int w11), (.int w10), (.int w9), (.long w7), (.long w2), (.long w6), (.long w1), (.ref b10), (.ref b10)])) rfl (by rw [hml]; rfl) (Steps.refl _) (a := b10) (argsL := [(.long w1), (.long w6), (.long w2), (.long w7), (.int w9), (.int w10), (.int w11), (.long w3), (.int n4), (.int (0 : Int32)), (.long w8)]) (rest := [(.ref b10)]) (lenOf pd_2 rfl) rfl (by show 2 * 0 + _ ≤ _; exact Nat.le_of_eq rfl) (hb hby d11_67) (fun _ _ => ⟨rfl, e43, (by decide : 1 + 0 ≤ _), (by decide : 11 + 0 ≤ _)⟩)
  dsimp only [Pt.U, Pt.locs, Pt.cells, Pt.slots] at X45 l45 y45 z45 st45 hQ45
  subst y45 z45
  obtain ⟨rfl, N45q, K45, E_45, G0_45, G1_45, G2_45, G3_45, G4_45, G5_45, G6_45, G7_45, G8_45, G9_45, G10_45⟩ := hQ45
  have N45 : Fr n0 L45 := by rw [l45]; exact Fr.app N39 N45q
  have P46 : Rch p e below (s₁.setTop (entryFrame m #[(.ref a1)] 2)) (T45.setTop (mkF m 70 #[rv a1, iv n4] [(.ref b10)])) := fun t k => P44 t (st45.trans k)
  obtain ⟨fs, hr, hrun, hended, hW, hsame⟩ := X45.leave (v := some (.ref b10)) (fun h => by rw [Bd.returns] at h; cases h)
  refine ⟨_, _, P46 _ ?_, hrun, hended, _, _, rfl, ?_, ⟨_, rfl⟩, hW, hsame.mono (by decide) (by decide)⟩
  · exact retOut X45 hx Bd.returns rfl (Or.inr (Or.inr (Or.inr (Or.inr ⟨rfl, rfl, rfl⟩)))) (hb hby d11_70) hr
  · show Q_rmS1 Z a1 w0 w1 w2 w3 w5 w6 w7 w8 w9 w10 w11 d4 k4 n4 v4 m13 h0 n0 _ T45.heap _
    have f47 : Keep h0 T45.heap [] := (((Keep.refl h0 []).ext E10).trans K45 (allS (P := fun x => x ∈ [] ∨ h0.size ≤ x) (Or.inr sz_b10) all0))
    exact ⟨b10, rfl, N45, f47, sz_b10, E_45, G1_45, G2_45, G3_45, G4_45, G8_45, G10_45⟩
def Q_rmdt (Z : State) (a1 : Addr) (u4 : Value) (h0 : Heap) (n0 : Nat) (v : Option Value) (h : Heap) (L : List Loc) : Prop := v = some u4 ∧ Fr n0 L ∧ h = h0
set_option maxRecDepth 65536 in
set_option maxHeartbeats 40000000 in
theorem rmdt (l : Launch) (Z : State) (a0 : Array Value) (hw : ∀ d ∈ tables_1, d.before a0 Z = true) (ws : List Jvm.Cond) (a1 : Addr) (u4 : Value) (h0 : Heap) (n0 : Nat) (Z0 : n0 ≤ h0.size) (F1 : Fld Z h0 a1 "com/example/usher/usher/core/Node" "data" "[B" u4) (hu4 : u4.isRef = true) :
    MetFree l (⟨"com/example/usher/usher/core/Node", "data", "()[B"⟩ : MethodName) (head1 (Jvm.Cond.code (⟨"com/example/usher/usher/core/Node", "data", "()[B"⟩ : MethodName) prog_19_method_6_code 1 (some (.array .byte)) :: ws) ({ frames := 0, cells := 0, slots := 0, locals := 0 } : Room)) (fun a U => a = #[(.ref a1)] ∧ Z.Warmed39 U.vm ∧ U.heap = h0) (fun _ _ _ _ _ => True) (fun _ U o U' => ∃ v L, o = .returned v ∧ Q_rmdt Z a1 u4 h0 n0 v U'.heap L ∧ FrameEnd U o U' L ({ frames := 0, cells := 0, slots := 0, locals := 0 } : Room).cells ({ frames := 0, cells := 0, slots := 0, locals := 0 } : Room).slots) := by
  refine MetFree.of_bodySF (plainFor_of_name pn_7) hisR ?_
  intro p e s m args below meth c s₁ Bd hml0 hP hK
  obtain ⟨rfl, hZ, hh⟩ := hP
  have hx := Bd.exec
  have hby := Bd.bytes
  have hml : c.maxLocals = 1 := hml0
  have hown : s.vm.findClass "com/example/usher/usher/core/Node" = some m.cls := findClass_of_methodNamed Bd.named
  have hnm := (name_of_methodNamed Bd.named Bd.method).1
  have X0 : Stand p l e ({ frames := 0, cells := 0, slots := 0, locals := 0 } : Room) s m #[(.ref a1)] below meth c s₁ [] 0 0 := Stand.of_body Bd
  have e0 : s₁.heap = h0 := by rw [← hh, Bd.state]; rfl
  have N0 := Fr.nil n0
  have P0 : Rch p e below (s₁.setTop (entryFrame m #[(.ref a1)] 1)) (s₁.setTop (mkF m 0 #[rv a1] [])) := fun t k => castTop (by first | (simp [entryFrame, mkF, argsToLocals, Value.category]; done) | rfl) k
  have P1 : Rch p e below (s₁.setTop (entryFrame m #[(.ref a1)] 1)) (s₁.setTop (mkF m 1 #[rv a1] [(.ref a1)])) := fun t k => P0 t (by
    show Steps p.tables e below (s₁.setTop (mkF m 0 #[rv a1] [])) t
    refine XS.aloadN X0.here hx rfl (hb hby d15_0) rfl rfl ?_
    exact k)
  obtain ⟨T2, X2, e2, st2⟩ := getF X0 hx hZ hown (host := "") (Or.inl (hw _ (List.mem_of_getElem? (i := 75) rfl))) Via.refl e0 F1 (g := (mkF m 1 #[rv a1] [(.ref a1)])) rfl rfl (hb hby d15_1)
  have P3 : Rch p e below (s₁.setTop (entryFrame m #[(.ref a1)] 1)) (T2.setTop (mkF m 4 #[rv a1] [u4])) := fun t k => P1 t (st2 t k)
  obtain ⟨fs, hr, hrun, hended, hW, hsame⟩ := X2.leave (v := some u4) (fun h => by rw [Bd.returns] at h; cases h)
  refine ⟨_, _, P3 _ ?_, hrun, hended, _, _, rfl, ?_, ⟨_, rfl⟩, hW, hsame.mono (by decide) (by decide)⟩
  · exact retOut X2 hx Bd.returns (own_nar hu4) (Or.inr (Or.inr (Or.inr (Or.inr ⟨rfl, rfl, hu4⟩)))) (hb hby d15_4) hr
  · show Q_rmdt Z a1 u4 h0 n0 _ T2.heap _
    rw [e2]
    exact ⟨rfl, N0, rfl⟩
def Q_rmG_mzxid (Z : State) (a1 : Addr) (w1 : Int64) (h0 : Heap) (n0 : Nat) (v : Option Value) (h : Heap) (L : List Loc) : Prop := v = some (.long w1) ∧ Fr n0 L ∧ h = h0
set_option maxRecDepth 65536 in
set_option maxHeartbeats 40000000 in
theorem rmG_mzxid (l : Launch) (Z : State) (a0 : Array Value) (hw : ∀ d ∈ tables_1, d.before a0 Z = true) (ws : List Jvm.Cond) (a1 : Addr) (w1 : Int64) (h0 : Heap) (n0 : Nat) (Z0 : n0 ≤ h0.size) (F1 : Fld Z h0 a1 "com/example/usher/usher/protocol/Stat" "mzxid" "J" (.long w1)) :
    MetFree l (⟨"com/example/usher/usher/protocol/Stat", "mzxid", "()J"⟩ : MethodName) (head1 (Jvm.Cond.code (⟨"com/example/usher/usher/protocol/Stat", "mzxid", "()J"⟩ : MethodName) prog_60_method_4_code 1 (some .long) :: ws) ({ frames := 0, cells := 0, slots := 0, locals := 0 } : Room)) (fun a U => a = #[(.ref a1)] ∧ Z.Warmed39 U.vm ∧ U.heap = h0) (fun _ _ _ _ _ => True) (fun _ U o U' => ∃ v L, o = .returned v ∧ Q_rmG_mzxid Z a1 w1 h0 n0 v U'.heap L ∧ FrameEnd U o U' L ({ frames := 0, cells := 0, slots := 0, locals := 0 } : Room).cells ({ frames := 0, cells := 0, slots := 0, locals := 0 } : Room).slots) := by
  refine MetFree.of_bodySF (plainFor_of_name pn_8) hisR ?_
  intro p e s m args below meth c s₁ Bd hml0 hP hK
  obtain ⟨rfl, hZ, hh⟩ := hP
  have hx := Bd.exec
  have hby := Bd.bytes
  have hml : c.maxLocals = 1 := hml0
  have hown : s.vm.findClass "com/example/usher/usher/protocol/Stat" = some m.cls := findClass_of_methodNamed Bd.named
  have hnm := (name_of_methodNamed Bd.named Bd.method).1
  have X0 : Stand p l e ({ frames := 0, cells := 0, slots := 0, locals := 0 } : Room) s m #[(.ref a1)] below meth c s₁ [] 0 0 := Stand.of_body Bd
  have e0 : s₁.heap = h0 := by rw [← hh, Bd.state]; rfl
  have N0 := Fr.nil n0
  have P0 : Rch p e below (s₁.setTop (entryFrame m #[(.ref a1)] 1)) (s₁.setTop (mkF m 0 #[rv a1] [])) := fun t k => castTop (by first | (simp [entryFrame, mkF, argsToLocals, Value.category]; done) | rfl) k
  have P1 : Rch p e below (s₁.setTop (entryFrame m #[(.ref a1)] 1)) (s₁.setTop (mkF m 1 #[rv a1] [(.ref a1)])) := fun t k => P0 t (by
    show Steps p.tables e below (s₁.setTop (mkF m 0 #[rv a1] [])) t
    refine XS.aloadN X0.here hx rfl (hb hby d16_0) rfl rfl ?_
    exact k)
  obtain ⟨T2, X2, e2, st2⟩ := getF X0 hx hZ hown (host := "") (Or.inl (hw _ (List.mem_of_getElem? (i := 126) rfl))) Via.refl e0 F1 (g := (mkF m 1 #[rv a1] [(.ref a1)])) rfl rfl (hb hby d16_1)
  have P3 : Rch p e below (s₁.setTop (entryFrame m #[(.ref a1)] 1)) (T2.setTop (mkF m 4 #[rv a1] [(.long w1)])) := fun t k => P1 t (st2 t k)
  obtain ⟨fs, hr, hrun, hended, hW, hsame⟩ := X2.leave (v := some (.long w1)) (fun h => by rw [Bd.returns] at h; cases h)
  refine ⟨_, _, P3 _ ?_, hrun, hended, _, _, rfl, ?_, ⟨_, rfl⟩, hW, hsame.mono (by decide) (by decide)⟩
  · exact retOut X2 hx Bd.returns rfl (Or.inr (Or.inl ⟨rfl, rfl, _, rfl⟩)) (hb hby d16_4) hr
  · show Q_rmG_mzxid Z a1 w1 h0 n0 _ T2.heap _
    rw [e2]
    exact ⟨rfl, N0, rfl⟩
def Q_rmG_mtime (Z : State) (a1 : Addr) (w1 : Int64) (h0 : Heap) (n0 : Nat) (v : Option Value) (h : Heap) (L : List Loc) : Prop := v = some (.long w1) ∧ Fr n0 L ∧ h = h0
set_option maxRecDepth 65536 in
set_option maxHeartbeats 40000000 in
theorem rmG_mtime (l : Launch) (Z : State) (a0 : Array Value) (hw : ∀ d ∈ tables_1, d.before a0 Z = true) (ws : List Jvm.Cond) (a1 : Addr) (w1 : Int64) (h0 : Heap) (n0 : Nat) (Z0 : n0 ≤ h0.size) (F1 : Fld Z h0 a1 "com/example/usher/usher/protocol/Stat" "mtime" "J" (.long w1)) :
    MetFree l (⟨"com/example/usher/usher/protocol/Stat", "mtime", "()J"⟩ : MethodName) (head1 (Jvm.Cond.code (⟨"com/example/usher/usher/protocol/Stat", "mtime", "()J"⟩ : MethodName) prog_60_method_6_code 1 (some .long) :: ws) ({ frames := 0, cells := 0, slots := 0, locals := 0 } : Room)) (fun a U => a = #[(.ref a1)] ∧ Z.Warmed39 U.vm ∧ U.heap = h0) (fun _ _ _ _ _ => True) (fun _ U o U' => ∃ v L, o = .returned v ∧ Q_rmG_mtime Z a1 w1 h0 n0 v U'.heap L ∧ FrameEnd U o U' L ({ frames := 0, cells := 0, slots := 0, locals := 0 } : Room).cells ({ frames := 0, cells := 0, slots := 0, locals := 0 } : Room).slots) := by
  refine MetFree.of_bodySF (plainFor_of_name pn_8) hisR ?_
  intro p e s m args below meth c s₁ Bd hml0 hP hK
  obtain ⟨rfl, hZ, hh⟩ := hP
  have hx := Bd.exec
  have hby := Bd.bytes
  have hml : c.maxLocals = 1 := hml0
  have hown : s.vm.findClass "com/example/usher/usher/protocol/Stat" = some m.cls := findClass_of_methodNamed Bd.named
  have hnm := (name_of_methodNamed Bd.named Bd.method).1
  have X0 : Stand p l e ({ frames := 0, cells := 0, slots := 0, locals := 0 } : Room) s m #[(.ref a1)] below meth c s₁ [] 0 0 := Stand.of_body Bd
  have e0 : s₁.heap = h0 := by rw [← hh, Bd.state]; rfl
  have N0 := Fr.nil n0
  have P0 : Rch p e below (s₁.setTop (entryFrame m #[(.ref a1)] 1)) (s₁.setTop (mkF m 0 #[rv a1] [])) := fun t k => castTop (by first | (simp [entryFrame, mkF, argsToLocals, Value.category]; done) | rfl) k
  have P1 : Rch p e below (s₁.setTop (entryFrame m #[(.ref a1)] 1)) (s₁.setTop (mkF m 1 #[rv a1] [(.ref a1)])) := fun t k => P0 t (by
    show Steps p.tables e below (s₁.setTop (mkF m 0 #[rv a1] [])) t
    refine XS.aloadN X0.here hx rfl (hb hby d17_0) rfl rfl ?_
    exact k)
  obtain ⟨T2, X2, e2, st2⟩ := getF X0 hx hZ hown (host := "") (Or.inl (hw _ (List.mem_of_getElem? (i := 130) rfl))) Via.refl e0 F1 (g := (mkF m 1 #[rv a1] [(.ref a1)])) rfl rfl (hb hby d17_1)
  have P3 : Rch p e below (s₁.setTop (entryFrame m #[(.ref a1)] 1)) (T2.setTop (mkF m 4 #[rv a1] [(.long w1)])) := fun t k => P1 t (st2 t k)
  obtain ⟨fs, hr, hrun, hended, hW, hsame⟩ := X2.leave (v := some (.long w1)) (fun h => by rw [Bd.returns] at h; cases h)
  refine ⟨_, _, P3 _ ?_, hrun, hended, _, _, rfl, ?_, ⟨_, rfl⟩, hW, hsame.mono (by decide) (by decide)⟩
  · exact retOut X2 hx Bd.returns rfl (Or.inr (Or.inl ⟨rfl, rfl, _, rfl⟩)) (hb hby d17_4) hr
  · show Q_rmG_mtime Z a1 w1 h0 n0 _ T2.heap _
    rw [e2]
    exact ⟨rfl, N0, rfl⟩
def Q_rmG_version (Z : State) (a1 : Addr) (w1 : Int32) (h0 : Heap) (n0 : Nat) (v : Option Value) (h : Heap) (L : List Loc) : Prop := v = some (.int w1) ∧ Fr n0 L ∧ h = h0
set_option maxRecDepth 65536 in
set_option maxHeartbeats 40000000 in
theorem rmG_version (l : Launch) (Z : State) (a0 : Array Value) (hw : ∀ d ∈ tables_1, d.before a0 Z = true) (ws : List Jvm.Cond) (a1 : Addr) (w1 : Int32) (h0 : Heap) (n0 : Nat) (Z0 : n0 ≤ h0.size) (F1 : Fld Z h0 a1 "com/example/usher/usher/protocol/Stat" "version" "I" (.int w1)) :
    MetFree l (⟨"com/example/usher/usher/protocol/Stat", "version", "()I"⟩ : MethodName) (head1 (Jvm.Cond.code (⟨"com/example/usher/usher/protocol/Stat", "version", "()I"⟩ : MethodName) prog_60_method_7_code 1 (some .int) :: ws) ({ frames := 0, cells := 0, slots := 0, locals := 0 } : Room)) (fun a U => a = #[(.ref a1)] ∧ Z.Warmed39 U.vm ∧ U.heap = h0) (fun _ _ _ _ _ => True) (fun _ U o U' => ∃ v L, o = .returned v ∧ Q_rmG_version Z a1 w1 h0 n0 v U'.heap L ∧ FrameEnd U o U' L ({ frames := 0, cells := 0, slots := 0, locals := 0 } : Room).cells ({ frames := 0, cells := 0, slots := 0, locals := 0 } : Room).slots) := by
  refine MetFree.of_bodySF (plainFor_of_name pn_8) hisR ?_
  intro p e s m args below meth c s₁ Bd hml0 hP hK
  obtain ⟨rfl, hZ, hh⟩ := hP
  have hx := Bd.exec
  have hby := Bd.bytes
  have hml : c.maxLocals = 1 := hml0
  have hown : s.vm.findClass "com/example/usher/usher/protocol/Stat" = some m.cls := findClass_of_methodNamed Bd.named
  have hnm := (name_of_methodNamed Bd.named Bd.method).1
  have X0 : Stand p l e ({ frames := 0, cells := 0, slots := 0, locals := 0 } : Room) s m #[(.ref a1)] below meth c s₁ [] 0 0 := Stand.of_body Bd
  have e0 : s₁.heap = h0 := by rw [← hh, Bd.state]; rfl
  have N0 := Fr.nil n0
  have P0 : Rch p e below (s₁.setTop (entryFrame m #[(.ref a1)] 1)) (s₁.setTop (mkF m 0 #[rv a1] [])) := fun t k => castTop (by first | (simp [entryFrame, mkF, argsToLocals, Value.category]; done) | rfl) k
  have P1 : Rch p e below (s₁.setTop (entryFrame m #[(.ref a1)] 1)) (s₁.setTop (mkF m 1 #[rv a1] [(.ref a1)])) := fun t k => P0 t (by
    show Steps p.tables e below (s₁.setTop (mkF m 0 #[rv a1] [])) t
    refine XS.aloadN X0.here hx rfl (hb hby d18_0) rfl rfl ?_
    exact k)
  obtain ⟨T2, X2, e2, st2⟩ := getF X0 hx hZ hown (host := "") (Or.inl (hw _ (List.mem_of_getElem? (i := 132) rfl))) Via.refl e0 F1 (g := (mkF m 1 #[rv a1] [(.ref a1)])) rfl rfl (hb hby d18_1)
  have P3 : Rch p e below (s₁.setTop (entryFrame m #[(.ref a1)] 1)) (T2.setTop (mkF m 4 #[rv a1] [(.int w1)])) := fun t k => P1 t (st2 t k)
  obtain ⟨fs, hr, hrun, hended, hW, hsame⟩ := X2.leave (v := some (.int w1)) (fun h => by rw [Bd.returns] at h; cases h)
  refine ⟨_, _, P3 _ ?_, hrun, hended, _, _, rfl, ?_, ⟨_, rfl⟩, hW, hsame.mono (by decide) (by decide)⟩
  · exact retI X2 hx Bd.returns (hb hby d18_4) hr
  · show Q_rmG_version Z a1 w1 h0 n0 _ T2.heap _
    rw [e2]
    exact ⟨rfl, N0, rfl⟩
def Q_rmG_dataLength (Z : State) (a1 : Addr) (w1 : Int32) (h0 : Heap) (n0 : Nat) (v : Option Value) (h : Heap) (L : List Loc) : Prop := v = some (.int w1) ∧ Fr n0 L ∧ h = h0
set_option maxRecDepth 65536 in
set_option maxHeartbeats 40000000 in
theorem rmG_dataLength (l : Launch) (Z : State) (a0 : Array Value) (hw : ∀ d ∈ tables_1, d.before a0 Z = true) (ws : List Jvm.Cond) (a1 : Addr) (w1 : Int32) (h0 : Heap) (n0 : Nat) (Z0 : n0 ≤ h0.size) (F1 : Fld Z h0 a1 "com/example/usher/usher/protocol/Stat" "dataLength" "I" (.int w1)) :
    MetFree l (⟨"com/example/usher/usher/protocol/Stat", "dataLength", "()I"⟩ : MethodName) (head1 (Jvm.Cond.code (⟨"com/example/usher/usher/protocol/Stat", "dataLength", "()I"⟩ : MethodName) prog_60_method_11_code 1 (some .int) :: ws) ({ frames := 0, cells := 0, slots := 0, locals := 0 } : Room)) (fun a U => a = #[(.ref a1)] ∧ Z.Warmed39 U.vm ∧ U.heap = h0) (fun _ _ _ _ _ => True) (fun _ U o U' => ∃ v L, o = .returned v ∧ Q_rmG_dataLength Z a1 w1 h0 n0 v U'.heap L ∧ FrameEnd U o U' L ({ frames := 0, cells := 0, slots := 0, locals := 0 } : Room).cells ({ frames := 0, cells := 0, slots := 0, locals := 0 } : Room).slots) := by
  refine MetFree.of_bodySF (plainFor_of_name pn_8) hisR ?_
  intro p e s m args below meth c s₁ Bd hml0 hP hK
  obtain ⟨rfl, hZ, hh⟩ := hP
  have hx := Bd.exec
  have hby := Bd.bytes
  have hml : c.maxLocals = 1 := hml0
  have hown : s.vm.findClass "com/example/usher/usher/protocol/Stat" = some m.cls := findClass_of_methodNamed Bd.named
  have hnm := (name_of_methodNamed Bd.named Bd.method).1
  have X0 : Stand p l e ({ frames := 0, cells := 0, slots := 0, locals := 0 } : Room) s m #[(.ref a1)] below meth c s₁ [] 0 0 := Stand.of_body Bd
  have e0 : s₁.heap = h0 := by rw [← hh, Bd.state]; rfl
  have N0 := Fr.nil n0
  have P0 : Rch p e below (s₁.setTop (entryFrame m #[(.ref a1)] 1)) (s₁.setTop (mkF m 0 #[rv a1] [])) := fun t k => castTop (by first | (simp [entryFrame, mkF, argsToLocals, Value.category]; done) | rfl) k
  have P1 : Rch p e below (s₁.setTop (entryFrame m #[(.ref a1)] 1)) (s₁.setTop (mkF m 1 #[rv a1] [(.ref a1)])) := fun t k => P0 t (by
    show Steps p.tables e below (s₁.setTop (mkF m 0 #[rv a1] [])) t
    refine XS.aloadN X0.here hx rfl (hb hby d19_0) rfl rfl ?_
    exact k)
  obtain ⟨T2, X2, e2, st2⟩ := getF X0 hx hZ hown (host := "") (Or.inl (hw _ (List.mem_of_getElem? (i := 140) rfl))) Via.refl e0 F1 (g := (mkF m 1 #[rv a1] [(.ref a1)])) rfl rfl (hb hby d19_1)
  have P3 : Rch p e below (s₁.setTop (entryFrame m #[(.ref a1)] 1)) (T2.setTop (mkF m 4 #[rv a1] [(.int w1)])) := fun t k => P1 t (st2 t k)
  obtain ⟨fs, hr, hrun, hended, hW, hsame⟩ := X2.leave (v := some (.int w1)) (fun h => by rw [Bd.returns] at h; cases h)
  refine ⟨_, _, P3 _ ?_, hrun, hended, _, _, rfl, ?_, ⟨_, rfl⟩, hW, hsame.mono (by decide) (by decide)⟩
  · exact retI X2 hx Bd.returns (hb hby d19_4) hr
  · show Q_rmG_dataLength Z a1 w1 h0 n0 _ T2.heap _
    rw [e2]
    exact ⟨rfl, N0, rfl⟩
def Q_rmG_pzxid (Z : State) (a1 : Addr) (w1 : Int64) (h0 : Heap) (n0 : Nat) (v : Option Value) (h : Heap) (L : List Loc) : Prop := v = some (.long w1) ∧ Fr n0 L ∧ h = h0
set_option maxRecDepth 65536 in
set_option maxHeartbeats 40000000 in
theorem rmG_pzxid (l : Launch) (Z : State) (a0 : Array Value) (hw : ∀ d ∈ tables_1, d.before a0 Z = true) (ws : List Jvm.Cond) (a1 : Addr) (w1 : Int64) (h0 : Heap) (n0 : Nat) (Z0 : n0 ≤ h0.size) (F1 : Fld Z h0 a1 "com/example/usher/usher/protocol/Stat" "pzxid" "J" (.long w1)) :
    MetFree l (⟨"com/example/usher/usher/protocol/Stat", "pzxid", "()J"⟩ : MethodName) (head1 (Jvm.Cond.code (⟨"com/example/usher/usher/protocol/Stat", "pzxid", "()J"⟩ : MethodName) prog_60_method_13_code 1 (some .long) :: ws) ({ frames := 0, cells := 0, slots := 0, locals := 0 } : Room)) (fun a U => a = #[(.ref a1)] ∧ Z.Warmed39 U.vm ∧ U.heap = h0) (fun _ _ _ _ _ => True) (fun _ U o U' => ∃ v L, o = .returned v ∧ Q_rmG_pzxid Z a1 w1 h0 n0 v U'.heap L ∧ FrameEnd U o U' L ({ frames := 0, cells := 0, slots := 0, locals := 0 } : Room).cells ({ frames := 0, cells := 0, slots := 0, locals := 0 } : Room).slots) := by
  refine MetFree.of_bodySF (plainFor_of_name pn_8) hisR ?_
  intro p e s m args below meth c s₁ Bd hml0 hP hK
  obtain ⟨rfl, hZ, hh⟩ := hP
  have hx := Bd.exec
  have hby := Bd.bytes
  have hml : c.maxLocals = 1 := hml0
  have hown : s.vm.findClass "com/example/usher/usher/protocol/Stat" = some m.cls := findClass_of_methodNamed Bd.named
  have hnm := (name_of_methodNamed Bd.named Bd.method).1
  have X0 : Stand p l e ({ frames := 0, cells := 0, slots := 0, locals := 0 } : Room) s m #[(.ref a1)] below meth c s₁ [] 0 0 := Stand.of_body Bd
  have e0 : s₁.heap = h0 := by rw [← hh, Bd.state]; rfl
  have N0 := Fr.nil n0
  have P0 : Rch p e below (s₁.setTop (entryFrame m #[(.ref a1)] 1)) (s₁.setTop (mkF m 0 #[rv a1] [])) := fun t k => castTop (by first | (simp [entryFrame, mkF, argsToLocals, Value.category]; done) | rfl) k
  have P1 : Rch p e below (s₁.setTop (entryFrame m #[(.ref a1)] 1)) (s₁.setTop (mkF m 1 #[rv a1] [(.ref a1)])) := fun t k => P0 t (by
    show Steps p.tables e below (s₁.setTop (mkF m 0 #[rv a1] [])) t
    refine XS.aloadN X0.here hx rfl (hb hby d20_0) rfl rfl ?_
    exact k)
  obtain ⟨T2, X2, e2, st2⟩ := getF X0 hx hZ hown (host := "") (Or.inl (hw _ (List.mem_of_getElem? (i := 144) rfl))) Via.refl e0 F1 (g := (mkF m 1 #[rv a1] [(.ref a1)])) rfl rfl (hb hby d20_1)
  have P3 : Rch p e below (s₁.setTop (entryFrame m #[(.ref a1)] 1)) (T2.setTop (mkF m 4 #[rv a1] [(.long w1)])) := fun t k => P1 t (st2 t k)
  obtain ⟨fs, hr, hrun, hended, hW, hsame⟩ := X2.leave (v := some (.long w1)) (fun h => by rw [Bd.returns] at h; cases h)
  refine ⟨_, _, P3 _ ?_, hrun, hended, _, _, rfl, ?_, ⟨_, rfl⟩, hW, hsame.mono (by decide) (by decide)⟩
  · exact retOut X2 hx Bd.returns rfl (Or.inr (Or.inl ⟨rfl, rfl, _, rfl⟩)) (hb hby d20_4) hr
  · show Q_rmG_pzxid Z a1 w1 h0 n0 _ T2.heap _
    rw [e2]
    exact ⟨rfl, N0, rfl⟩
def Q_rmG_ctime (Z : State) (a1 : Addr) (w1 : Int64) (h0 : Heap) (n0 : Nat) (v : Option Value) (h : Heap) (L : List Loc) : Prop := v = some (.long w1) ∧ Fr n0 L ∧ h = h0
set_option maxRecDepth 65536 in
set_option maxHeartbeats 40000000 in
theorem rmG_ctime (l : Launch) (Z : State) (a0 : Array Value) (hw : ∀ d ∈ tables_1, d.before a0 Z = true) (ws : List Jvm.Cond) (a1 : Addr) (w1 : Int64) (h0 : Heap) (n0 : Nat) (Z0 : n0 ≤ h0.size) (F1 : Fld Z h0 a1 "com/example/usher/usher/protocol/Stat" "ctime" "J" (.long w1)) :
    MetFree l (⟨"com/example/usher/usher/protocol/Stat", "ctime", "()J"⟩ : MethodName) (head1 (Jvm.Cond.code (⟨"com/example/usher/usher/protocol/Stat", "ctime", "()J"⟩ : MethodName) prog_60_method_5_code 1 (some .long) :: ws) ({ frames := 0, cells := 0, slots := 0, locals := 0 } : Room)) (fun a U => a = #[(.ref a1)] ∧ Z.Warmed39 U.vm ∧ U.heap = h0) (fun _ _ _ _ _ => True) (fun _ U o U' => ∃ v L, o = .returned v ∧ Q_rmG_ctime Z a1 w1 h0 n0 v U'.heap L ∧ FrameEnd U o U' L ({ frames := 0, cells := 0, slots := 0, locals := 0 } : Room).cells ({ frames := 0, cells := 0, slots := 0, locals := 0 } : Room).slots) := by
  refine MetFree.of_bodySF (plainFor_of_name pn_8) hisR ?_
  intro p e s m args below meth c s₁ Bd hml0 hP hK
  obtain ⟨rfl, hZ, hh⟩ := hP
  have hx := Bd.exec
  have hby := Bd.bytes
  have hml : c.maxLocals = 1 := hml0
  have hown : s.vm.findClass "com/example/usher/usher/protocol/Stat" = some m.cls := findClass_of_methodNamed Bd.named
  have hnm := (name_of_methodNamed Bd.named Bd.method).1
  have X0 : Stand p l e ({ frames := 0, cells := 0, slots := 0, locals := 0 } : Room) s m #[(.ref a1)] below meth c s₁ [] 0 0 := Stand.of_body Bd
  have e0 : s₁.heap = h0 := by rw [← hh, Bd.state]; rfl
  have N0 := Fr.nil n0
  have P0 : Rch p e below (s₁.setTop (entryFrame m #[(.ref a1)] 1)) (s₁.setTop (mkF m 0 #[rv a1] [])) := fun t k => castTop (by first | (simp [entryFrame, mkF, argsToLocals, Value.category]; done) | rfl) k
  have P1 : Rch p e below (s₁.setTop (entryFrame m #[(.ref a1)] 1)) (s₁.setTop (mkF m 1 #[rv a1] [(.ref a1)])) := fun t k => P0 t (by
    show Steps p.tables e below (s₁.setTop (mkF m 0 #[rv a1] [])) t
    refine XS.aloadN X0.here hx rfl (hb hby d21_0) rfl rfl ?_
    exact k)
  obtain ⟨T2, X2, e2, st2⟩ := getF X0 hx hZ hown (host := "") (Or.inl (hw _ (List.mem_of_getElem? (i := 128) rfl))) Via.refl e0 F1 (g := (mkF m 1 #[rv a1] [(.ref a1)])) rfl rfl (hb hby d21_1)
  have P3 : Rch p e below (s₁.setTop (entryFrame m #[(.ref a1)] 1)) (T2.setTop (mkF m 4 #[rv a1] [(.long w1)])) := fun t k => P1 t (st2 t k)
  obtain ⟨fs, hr, hrun, hended, hW, hsame⟩ := X2.leave (v := some (.long w1)) (fun h => by rw [Bd.returns] at h; cases h)
  refine ⟨_, _, P3 _ ?_, hrun, hended, _, _, rfl, ?_, ⟨_, rfl⟩, hW, hsame.mono (by decide) (by decide)⟩
  · exact retOut X2 hx Bd.returns rfl (Or.inr (Or.inl ⟨rfl, rfl, _, rfl⟩)) (hb hby d21_4) hr
  · show Q_rmG_ctime Z a1 w1 h0 n0 _ T2.heap _
    rw [e2]
    exact ⟨rfl, N0, rfl⟩
def Q_rm0 (Z : State) (q1 : Int64) (q2 : Int64) (q3 : Int64) (q4 : Int64) (q5 : Int64) (p6 : Int32) (aD : Addr) (h0 : Heap) (n0 : Nat) (v : Option Value) (h : Heap) (L : List Loc) : Prop := v = some (.int (1 : Int32)) ∧ Fr n0 L
set_option maxRecDepth 65536 in
set_option maxHeartbeats 40000000 in
theorem rm0 (l : Launch) (Z : State) (a0 : Array Value) (hw : ∀ d ∈ tables_1, d.before a0 Z = true) (ws : List Jvm.Cond) (q1 : Int64) (q2 : Int64) (q3 : Int64) (q4 : Int64) (q5 : Int64) (p6 : Int32) (aD : Addr) (h0 : Heap) (n0 : Nat) (Z0 : n0 ≤ h0.size) (O0 : Old Z n0 h0) (Sd : Sta Z Z.heap "java/util/ArrayList" "DEFAULTCAPACITY_EMPTY_ELEMENTDATA" "[Ljava/lang/Object;" (.ref aD)) :
    MetFree l x (head1 (Jvm.Cond.code x code maxLocals ret :: ws) room_1) (fun a U => a = #[(.long q1), (.long q2), (.long q3), (.long q4), (.long q5), (.int p6)] ∧ Z.Warmed39 U.vm ∧ U.heap = h0) (fun _ _ _ _ _ => True) (fun _ U o U' => ∃ v L, o = .returned v ∧ Q_rm0 Z q1 q2 q3 q4 q5 p6 aD h0 n0 v U'.heap L ∧ FrameEnd U o U' L room_1.cells room_1.slots) := by
  refine MetFree.of_bodySF (plainFor_of_name pn_9) hisR ?_
  intro p e s m args below meth c s₁ Bd hml0 hP hK
  obtain ⟨rfl, hZ, hh⟩ := hP
  have hx := Bd.exec
  have hby := Bd.bytes
  have hml : c.maxLocals = 31 := hml0
  have hown : s.vm.findClass "com/example/usher/usher/core/NodeSetDataPinLaw" = some m.cls := findClass_of_methodNamed Bd.named
  have hnm := (name_of_methodNamed Bd.named Bd.method).1
  have X0 : Stand p l e room_1 s m #[(.long q1), (.long q2), (.long q3), (.long q4), (.long q5), (.int p6)] below meth c s₁ [] 0 0 := Stand.of_body Bd
  have e0 : s₁.heap = h0 := by rw [← hh, Bd.state]; rfl
  have N0 := Fr.nil n0
  have P0 : Rch p e below (s₁.setTop (entryFrame m #[(.long q1), (.long q2), (.long q3), (.long q4), (.long q5), (.int p6)] maxLocals)) (s₁.setTop (mkF m 0 #[lv q1, sd, lv q2, sd, lv q3, sd, lv q4, sd, lv q5, sd, iv p6, un, un, un, un, un, un, un, un, un, un, un, un, un, un, un, un, un, un, un, un] [])) := fun t k => castTop (by first | (simp [entryFrame, mkF, argsToLocals, Value.category, maxLocals]; done) | rfl) k
  obtain ⟨x1, hx1⟩ : ∃ z : Int32, z = (p6 &&& (1 : Int32)) := ⟨_, rfl⟩
  have P2 : Rch p e below (s₁.setTop (entryFrame m #[(.long q1), (.long q2), (.long q3), (.long q4), (.long q5), (.int p6)] maxLocals)) (s₁.setTop (mkF m 4 #[lv q1, sd, lv q2, sd, lv q3, sd, lv q4, sd, lv q5, sd, iv p6, un, un, un, un, un, un, un, un, un, un, un, un, un, un, un, un, un, un, un, un] [(.int x1)])) := fun t k => P0 t (by
    subst hx1
    show Steps p.tables e below (s₁.setTop (mkF m 0 #[lv q1, sd, lv q2, sd, lv q3, sd, lv q4, sd, lv q5, sd, iv p6, un, un, un, un, un, un, un, un, un, un, un, un, un, un, un, un, un, un, un, un] [])) t
    refine XS.iload X0.here hx rfl (hb hby at_0) rfl ?_
    refine XS.iconst X0.here hx rfl (hb hby at_2) ?_
    refine XS.iand X0.here hx rfl (hb hby at_3) rfl ?_
    exact k)
  obtain ⟨v4, hv4, P5⟩ : ∃ (v4 : Int32), v4 = (if x1 = (0 : Int32) then (0 : Int32) else (1 : Int32)) ∧ Rch p e below (s₁.setTop (entryFrame m #[(.long q1), (.long q2), (.long q3), (.long q4), (.long q5), (.int p6)] maxLocals)) (s₁.setTop (mkF m 12 #[lv q1, sd, lv q2, sd, lv q3, sd, lv q4, sd, lv q5, sd, iv p6, un, un, un, un, un, un, un, un, un, un, un, un, un, un, un, un, un, un, un, un] [(.int v4)])) := by
    by_cases c3 : x1 = (0 : Int32)
    · refine ⟨(0 : Int32), (by first | rfl | rw [if_pos c3] | simp only [if_pos c3]), fun t k => P2 t ?_⟩
      show Steps p.tables e below (s₁.setTop (mkF m 4 #[lv q1, sd, lv q2, sd, lv q3, sd, lv q4, sd, lv q5, sd, iv p6, un, un, un, un, un, un, un, un, un, un, un, un, un, un, un, un, un, un, un, un] [(.int x1)])) t
      refine XS.ifYes X0.here hx rfl (pc0 := 4) (pc' := 11) rfl (hb hby at_4) rfl ((if0 _ _).trans (teq c3).1) (by decide) (by decide) ?_
      refine XS.iconst X0.here hx rfl (hb hby at_11) ?_
      exact k
    · refine ⟨(1 : Int32), (by first | rfl | rw [if_neg c3] | simp only [if_neg c3]), fun t k => P2 t ?_⟩
      show Steps p.tables e below (s₁.setTop (mkF m 4 #[lv q1, sd, lv q2, sd, lv q3, sd, lv q4, sd, lv q5, sd, iv p6, un, un, un, un, un, un, un, un, un, un, un, un, un, un, un, un, un, un, un, un] [(.int x1)])) t
      refine XS.ifNo X0.here hx rfl (hb hby at_4) rfl ((if0 _ _).trans (feq c3).1) ?_
      refine XS.iconst X0.here hx rfl (hb hby at_7) ?_
      refine XS.goto X0.here hx rfl (pc0 := 8) (pc' := 12) rfl (hb hby at_8) (by decide) (by decide) ?_
      exact k
  obtain ⟨x6, hx6⟩ : ∃ z : Int32, z = (((p6.toUInt32 >>> ((1 : Int32) &&& 31).toUInt32).toInt32) &&& (3 : Int32)) := ⟨_, rfl⟩
  have P7 : Rch p e below (s₁.setTop (entryFrame m #[(.long q1), (.long q2), (.long q3), (.long q4), (.long q5), (.int p6)] maxLocals)) (s₁.setTop (mkF m 22 #[lv q1, sd, lv q2, sd, lv q3, sd, lv q4, sd, lv q5, sd, iv p6, iv v4, iv x6, un, un, un, un, un, un, un, un, un, un, un, un, un, un, un, un, un, un] [])) := fun t k => P5 t (by
    subst hx6
    show Steps p.tables e below (s₁.setTop (mkF m 12 #[lv q1, sd, lv q2, sd, lv q3, sd, lv q4, sd, lv q5, sd, iv p6, un, un, un, un, un, un, un, un, un, un, un, un, un, un, un, un, un, un, un, un] [(.int v4)])) t
    refine XS.istore X0.here hx rfl (hb hby at_12) rfl (l' := #[lv q1, sd, lv q2, sd, lv q3, sd, lv q4, sd, lv q5, sd, iv p6, iv v4, un, un, un, un, un, un, un, un, un, un, un, un, un, un, un, un, un, un, un]) rfl ?_
    refine XS.iload X0.here hx rfl (hb hby at_14) rfl ?_
    refine XS.iconst X0.here hx rfl (hb hby at_16) ?_
    show Steps p.tables e below (s₁.setTop (mkF m 17 #[lv q1, sd, lv q2, sd, lv q3, sd, lv q4, sd, lv q5, sd, iv p6, iv v4, un, un, un, un, un, un, un, un, un, un, un, un, un, un, un, un, un, un, un] [(.int (1 : Int32)), (.int p6)])) t
    refine XS.iushr X0.here hx rfl (hb hby at_17) rfl ?_
    refine XS.iconst X0.here hx rfl (hb hby at_18) ?_
    refine XS.iand X0.here hx rfl (hb hby at_19) rfl ?_
    refine XS.istore X0.here hx rfl (hb hby at_20) rfl (l' := #[lv q1, sd, lv q2, sd, lv q3, sd, lv q4, sd, lv q5, sd, iv p6, iv v4, iv (((p6.toUInt32 >>> ((1 : Int32) &&& 31).toUInt32).toInt32) &&& (3 : Int32)), un, un, un, un, un, un, un, un, un, un, un, un, un, un, un, un, un, un]) rfl ?_
    exact k)
  obtain ⟨x8, hx8⟩ : ∃ z : Int32, z = (p6 &&& (8 : Int32)) := ⟨_, rfl⟩
  have P9 : Rch p e below (s₁.setTop (entryFrame m #[(.long q1), (.long q2), (.long q3), (.long q4), (.long q5), (.int p6)] maxLocals)) (s₁.setTop (mkF m 27 #[lv q1, sd, lv q2, sd, lv q3, sd, lv q4, sd, lv q5, sd, iv p6, iv v4, iv x6, un, un, un, un, un, un, un, un, un, un, un, un, un, un, un, un, un, un] [(.int x8)])) := fun t k => P7 t (by
    subst hx8
    show Steps p.tables e below (s₁.setTop (mkF m 22 #[lv q1, sd, lv q2, sd, lv q3, sd, lv q4, sd, lv q5, sd, iv p6, iv v4, iv x6, un, un, un, un, un, un, un, un, un, un, un, un, un, un, un, un, un, un] [])) t
    refine XS.iload X0.here hx rfl (hb hby at_22) rfl ?_
    refine XS.bipush X0.here hx rfl (hb hby at_24) ?_
    refine XS.iand X0.here hx rfl (hb hby at_26) rfl ?_
    exact k)
  by_cases c10 : x8 = (0 : Int32)
  · obtain ⟨x11, hx11⟩ : ∃ z : Int32, z = (((p6.toUInt32 >>> ((4 : Int32) &&& 31).toUInt32).toInt32) &&& (3 : Int32)) := ⟨_, rfl⟩
    have P12 : Rch p e below (s₁.setTop (entryFrame m #[(.long q1), (.long q2), (.long q3), (.long q4), (.long q5), (.int p6)] maxLocals)) (s₁.setTop (mkF m 45 #[lv q1, sd, lv q2, sd, lv q3, sd, lv q4, sd, lv q5, sd, iv p6, iv v4, iv x6, iv (0 : Int32), iv x11, un, un, un, un, un, un, un, un, un, un, un, un, un, un, un, un] [])) := fun t k => P9 t (by
      subst hx11
      show Steps p.tables e below (s₁.setTop (mkF m 27 #[lv q1, sd, lv q2, sd, lv q3, sd, lv q4, sd, lv q5, sd, iv p6, iv v4, iv x6, un, un, un, un, un, un, un, un, un, un, un, un, un, un, un, un, un, un] [(.int x8)])) t
      refine XS.ifYes X0.here hx rfl (pc0 := 27) (pc' := 34) rfl (hb hby at_27) rfl ((if0 _ _).trans (teq c10).1) (by decide) (by decide) ?_
      refine XS.iconst X0.here hx rfl (hb hby at_34) ?_
      refine XS.istore X0.here hx rfl (hb hby at_35) rfl (l' := #[lv q1, sd, lv q2, sd, lv q3, sd, lv q4, sd, lv q5, sd, iv p6, iv v4, iv x6, iv (0 : Int32), un, un, un, un, un, un, un, un, un, un, un, un, un, un, un, un, un]) rfl ?_
      show Steps p.tables e below (s₁.setTop (mkF m 37 #[lv q1, sd, lv q2, sd, lv q3, sd, lv q4, sd, lv q5, sd, iv p6, iv v4, iv x6, iv (0 : Int32), un, un, un, un, un, un, un, un, un, un, un, un, un, un, un, un, un] [])) t
      refine XS.iload X0.here hx rfl (hb hby at_37) rfl ?_
      refine XS.iconst X0.here hx rfl (hb hby at_39) ?_
      refine XS.iushr X0.here hx rfl (hb hby at_40) rfl ?_
      refine XS.iconst X0.here hx rfl (hb hby at_41) ?_
      show Steps p.tables e below (s₁.setTop (mkF m 42 #[lv q1, sd, lv q2, sd, lv q3, sd, lv q4, sd, lv q5, sd, iv p6, iv v4, iv x6, iv (0 : Int32), un, un, un, un, un, un, un, un, un, un, un, un, un, un, un, un, un] [(.int (3 : Int32)), (.int ((p6.toUInt32 >>> ((4 : Int32) &&& 31).toUInt32).toInt32))])) t
      refine XS.iand X0.here hx rfl (hb hby at_42) rfl ?_
      refine XS.istore X0.here hx rfl (hb hby at_43) rfl (l' := #[lv q1, sd, lv q2, sd, lv q3, sd, lv q4, sd, lv q5, sd, iv p6, iv v4, iv x6, iv (0 : Int32), iv (((p6.toUInt32 >>> ((4 : Int32) &&& 31).toUInt32).toInt32) &&& (3 : Int32)), un, un, un, un, un, un, un, un, un, un, un, un, un, un, un, un]) rfl ?_
      exact k)
    obtain ⟨x13, hx13⟩ : ∃ z : Int32, z = (p6 &&& (64 : Int32)) := ⟨_, rfl⟩
    have P14 : Rch p e below (s₁.setTop (entryFrame m #[(.long q1), (.long q2), (.long q3), (.long q4), (.long q5), (.int p6)] maxLocals)) (s₁.setTop (mkF m 50 #[lv q1, sd, lv q2, sd, lv q3, sd, lv q4, sd, lv q5, sd, iv p6, iv v4, iv x6, iv (0 : Int32), iv x11, un, un, un, un, un, un, un, un, un, un, un, un, un, un, un, un] [(.int x13)])) := fun t k => P12 t (by
      subst hx13
      show Steps p.tables e below (s₁.setTop (mkF m 45 #[lv q1, sd, lv q2, sd, lv q3, sd, lv q4, sd, lv q5, sd, iv p6, iv v4, iv x6, iv (0 : Int32), iv x11, un, un, un, un, un, un, un, un, un, un, un, un, un, un, un, un] [])) t
      refine XS.iload X0.here hx rfl (hb hby at_45) rfl ?_
      refine XS.bipush X0.here hx rfl (hb hby at_47) ?_
      refine XS.iand X0.here hx rfl (hb hby at_49) rfl ?_
      exact k)
    by_cases c15 : x13 = (0 : Int32)
    · obtain ⟨x16, hx16⟩ : ∃ z : Int32, z = (((p6.toUInt32 >>> ((7 : Int32) &&& 31).toUInt32).toInt32) &&& (3 : Int32)) := ⟨_, rfl⟩
      have P17 : Rch p e below (s₁.setTop (entryFrame m #[(.long q1), (.long q2), (.long q3), (.long q4), (.long q5), (.int p6)] maxLocals)) (s₁.setTop (mkF m 69 #[lv q1, sd, lv q2, sd, lv q3, sd, lv q4, sd, lv q5, sd, iv p6, iv v4, iv x6, iv (0 : Int32), iv x11, iv (0 : Int32), iv x16, un, un, un, un, un, un, un, un, un, un, un, un, un, un] [])) := fun t k => P14 t (by
        subst hx16
        show Steps p.tables e below (s₁.setTop (mkF m 50 #[lv q1, sd, lv q2, sd, lv q3, sd, lv q4, sd, lv q5, sd, iv p6, iv v4, iv x6, iv (0 : Int32), iv x11, un, un, un, un, un, un, un, un, un, un, un, un, un, un, un, un] [(.int x13)])) t
        refine XS.ifYes X0.here hx rfl (pc0 := 50) (pc' := 57) rfl (hb hby at_50) rfl ((if0 _ _).trans (teq c15).1) (by decide) (by decide) ?_
        refine XS.iconst X0.here hx rfl (hb hby at_57) ?_
        refine XS.istore X0.here hx rfl (hb hby at_58) rfl (l' := #[lv q1, sd, lv q2, sd, lv q3, sd, lv q4, sd, lv q5, sd, iv p6, iv v4, iv x6, iv (0 : Int32), iv x11, iv (0 : Int32), un, un, un, un, un, un, un, un, un, un, un, un, un, un, un]) rfl ?_
        show Steps p.tables e below (s₁.setTop (mkF m 60 #[lv q1, sd, lv q2, sd, lv q3, sd, lv q4, sd, lv q5, sd, iv p6, iv v4, iv x6, iv (0 : Int32), iv x11, iv (0 : Int32), un, un, un, un, un, un, un, un, un, un, un, un, un, un, un] [])) t
        refine XS.iload X0.here hx rfl (hb hby at_60) rfl ?_
        refine XS.bipush X0.here hx rfl (hb hby at_62) ?_
        refine XS.iushr X0.here hx rfl (hb hby at_64) rfl ?_
        refine XS.iconst X0.here hx rfl (hb hby at_65) ?_
        show Steps p.tables e below (s₁.setTop (mkF m 66 #[lv q1, sd, lv q2, sd, lv q3, sd, lv q4, sd, lv q5, sd, iv p6, iv v4, iv x6, iv (0 : Int32), iv x11, iv (0 : Int32), un, un, un, un, un, un, un, un, un, un, un, un, un, un, un] [(.int (3 : Int32)), (.int ((p6.toUInt32 >>> ((7 : Int32) &&& 31).toUInt32).toInt32))])) t
        refine XS.iand X0.here hx rfl (hb hby at_66) rfl ?_
        refine XS.istore X0.here hx rfl (hb hby at_67) rfl (l' := #[lv q1, sd, lv q2, sd, lv q3, sd, lv q4, sd, lv q5, sd, iv p6, iv v4, iv x6, iv (0 : Int32), iv x11, iv (0 : Int32), iv (((p6.toUInt32 >>> ((7 : Int32) &&& 31).toUInt32).toInt32) &&& (3 : Int32)), un, un, un, un, un, un, un, un, un, un, un, un, un, un]) rfl ?_
        exact k)
      obtain ⟨x18, hx18⟩ : ∃ z : Int32, z = (p6 &&& (512 : Int32)) := ⟨_, rfl⟩
      have P19 : Rch p e below (s₁.setTop (entryFrame m #[(.long q1), (.long q2), (.long q3), (.long q4), (.long q5), (.int p6)] maxLocals)) (s₁.setTop (mkF m 75 #[lv q1, sd, lv q2, sd, lv q3, sd, lv q4, sd, lv q5, sd, iv p6, iv v4, iv x6, iv (0 : Int32), iv x11, iv (0 : Int32), iv x16, un, un, un, un, un, un, un, un, un, un, un, un, un, un] [(.int x18)])) := fun t k => P17 t (by
        subst hx18
        show Steps p.tables e below (s₁.setTop (mkF m 69 #[lv q1, sd, lv q2, sd, lv q3, sd, lv q4, sd, lv q5, sd, iv p6, iv v4, iv x6, iv (0 : Int32), iv x11, iv (0 : Int32), iv x16, un, un, un, un, un, un, un, un, un, un, un, un, un, un] [])) t
        refine XS.iload X0.here hx rfl (hb hby at_69) rfl ?_
        refine XS.sipush X0.here hx rfl (hb hby at_71) ?_
        refine XS.iand X0.here hx rfl (hb hby at_74) rfl ?_
        exact k)
      by_cases c20 : x18 = (0 : Int32)
      · have P21 : Rch p e below (s₁.setTop (entryFrame m #[(.long q1), (.long q2), (.long q3), (.long q4), (.long q5), (.int p6)] maxLocals)) (s₁.setTop (mkF m 87 #[lv q1, sd, lv q2, sd, lv q3, sd, lv q4, sd, lv q5, sd, iv p6, iv v4, iv x6, iv (0 : Int32), iv x11, iv (0 : Int32), iv x16, iv (0 : Int32), un, un, un, un, un, un, un, un, un, un, un, un, un] [(.int v4)])) := fun t k => P19 t (by
          show Steps p.tables e below (s₁.setTop (mkF m 75 #[lv q1, sd, lv q2, sd, lv q3, sd, lv q4, sd, lv q5, sd, iv p6, iv v4, iv x6, iv (0 : Int32), iv x11, iv (0 : Int32), iv x16, un, un, un, un, un, un, un, un, un, un, un, un, un, un] [(.int x18)])) t
          refine XS.ifYes X0.here hx rfl (pc0 := 75) (pc' := 82) rfl (hb hby at_75) rfl ((if0 _ _).trans (teq c20).1) (by decide) (by decide) ?_
          refine XS.iconst X0.here hx rfl (hb hby at_82) ?_
          refine XS.istore X0.here hx rfl (hb hby at_83) rfl (l' := #[lv q1, sd, lv q2, sd, lv q3, sd, lv q4, sd, lv q5, sd, iv p6, iv v4, iv x6, iv (0 : Int32), iv x11, iv (0 : Int32), iv x16, iv (0 : Int32), un, un, un, un, un, un, un, un, un, un, un, un, un]) rfl ?_
          show Steps p.tables e below (s₁.setTop (mkF m 85 #[lv q1, sd, lv q2, sd, lv q3, sd, lv q4, sd, lv q5, sd, iv p6, iv v4, iv x6, iv (0 : Int32), iv x11, iv (0 : Int32), iv x16, iv (0 : Int32), un, un, un, un, un, un, un, un, un, un, un, un, un] [])) t
          refine XS.iload X0.here hx rfl (hb hby at_85) rfl ?_
          exact k)
        obtain ⟨T22, L22, h22, r29, X22, e22, N22, Z22, K22, hr29, P22⟩ : ∃ (T22 : State) (L22 : List Loc) (h22 : Heap) (r29 : Value), Stand p l e room_1 s m #[(.long q1), (.long q2), (.long q3), (.long q4), (.long q5), (.int p6)] below meth c T22 L22 1 3 ∧ T22.heap = h22 ∧ Fr n0 L22 ∧ n0 ≤ h22.size ∧ Keep h0 h22 [] ∧ r29.isRef = true ∧ Rch p e below (s₁.setTop (entryFrame m #[(.long q1), (.long q2), (.long q3), (.long q4), (.long q5), (.int p6)] maxLocals)) (T22.setTop (mkF m 98 #[lv q1, sd, lv q2, sd, lv q3, sd, lv q4, sd, lv q5, sd, iv p6, iv v4, iv x6, iv (0 : Int32), iv x11, iv (0 : Int32), iv x16, iv (0 : Int32), un, un, un, un, un, un, un, un, un, un, un, un, un] [r29])) := by
          by_cases c23 : v4 = (0 : Int32)
          · have P24 : Rch p e below (s₁.setTop (entryFrame m #[(.long q1), (.long q2), (.long q3), (.long q4), (.long q5), (.int p6)] maxLocals)) (s₁.setTop (mkF m 96 #[lv q1, sd, lv q2, sd, lv q3, sd, lv q4, sd, lv q5, sd, iv p6, iv v4, iv x6, iv (0 : Int32), iv x11, iv (0 : Int32), iv x16, iv (0 : Int32), un, un, un, un, un, un, un, un, un, un, un, un, un] [(.int x6)])) := fun t k => P21 t (by
              show Steps p.tables e below (s₁.setTop (mkF m 87 #[lv q1, sd, lv q2, sd, lv q3, sd, lv q4, sd, lv q5, sd, iv p6, iv v4, iv x6, iv (0 : Int32), iv x11, iv (0 : Int32), iv x16, iv (0 : Int32), un, un, un, un, un, un, un, un, un, un, un, un, un] [(.int v4)])) t
              refine XS.ifYes X0.here hx rfl (pc0 := 87) (pc' := 94) rfl (hb hby at_87) rfl ((if0 _ _).trans (teq c23).1) (by decide) (by decide) ?_
              refine XS.iload X0.here hx rfl (hb hby at_94) rfl ?_
              exact k)
            have hm96 := own_m3 _ hx6
            obtain ⟨T25, h25, k25, X25, e25, E25, A25, st25⟩ := newP X0 hx hZ (hw _ (List.mem_of_getElem? (i := 0) rfl)) e0 (g := (mkF m 96 #[lv q1, sd, lv q2, sd, lv q3, sd, lv q4, sd, lv q5, sd, iv p6, iv v4, iv x6, iv (0 : Int32), iv x11, iv (0 : Int32), iv x16, iv (0 : Int32), un, un, un, un, un, un, un, un, un, un, un, un, un] [(.int x6)])) rfl (hb hby at_96) rfl hm96.1 (cap := 3) hm96.2 (by decide) (by decide) (by decide)
            obtain ⟨b25, g25⟩ : ∃ z, z = h0.size := ⟨_, rfl⟩
            rw [← g25] at A25 st25
            have g_b25 : n0 ≤ b25 := Nat.le_trans Z0 (Nat.le_of_eq g25.symm)
            have sz_b25 : h0.size ≤ b25 := Nat.le_trans (Keep.refl h0 []).1 (Nat.le_of_eq g25.symm)
            have szj_b25 : h0.size ≤ b25 := Nat.le_trans (Keep.refl h0 []).1 (Nat.le_of_eq g25.symm)
            have V25 : Arv Z h25 b25 k25 .byte x6 [] (.int (0 : Int32)) := Arv.new A25 hm96.1
            have P26 : Rch p e below (s₁.setTop (entryFrame m #[(.long q1), (.long q2), (.long q3), (.long q4), (.long q5), (.int p6)] maxLocals)) (T25.setTop (mkF m 98 #[lv q1, sd, lv q2, sd, lv q3, sd, lv q4, sd, lv q5, sd, iv p6, iv v4, iv x6, iv (0 : Int32), iv x11, iv (0 : Int32), iv x16, iv (0 : Int32), un, un, un, un, un, un, un, un, un, un, un, un, un] [(.ref b25)])) := fun t k => P24 t (st25 t k)
            have f27 : n0 ≤ h25.size := (Nat.le_trans Z0 E25.1)
            exact ⟨T25, _, h25, (.ref b25), X25, e25, N0, f27, ((Keep.refl h0 []).ext E25), rfl, P26⟩
          · have P28 : Rch p e below (s₁.setTop (entryFrame m #[(.long q1), (.long q2), (.long q3), (.long q4), (.long q5), (.int p6)] maxLocals)) (s₁.setTop (mkF m 98 #[lv q1, sd, lv q2, sd, lv q3, sd, lv q4, sd, lv q5, sd, iv p6, iv v4, iv x6, iv (0 : Int32), iv x11, iv (0 : Int32), iv x16, iv (0 : Int32), un, un, un, un, un, un, un, un, un, un, un, un, un] [.null])) := fun t k => P21 t (by
              show Steps p.tables e below (s₁.setTop (mkF m 87 #[lv q1, sd, lv q2, sd, lv q3, sd, lv q4, sd, lv q5, sd, iv p6, iv v4, iv x6, iv (0 : Int32), iv x11, iv (0 : Int32), iv x16, iv (0 : Int32), un, un, un, un, un, un, un, un, un, un, un, un, un] [(.int v4)])) t
              refine XS.ifNo X0.here hx rfl (hb hby at_87) rfl ((if0 _ _).trans (feq c23).1) ?_
              refine XS.aconstNull X0.here hx rfl (hb hby at_90) ?_
              refine XS.goto X0.here hx rfl (pc0 := 91) (pc' := 98) rfl (hb hby at_91) (by decide) (by decide) ?_
              exact k)
            exact ⟨s₁, _, h0, .null, (own_more X0 (by decide) (by decide)), e0, N0, Z0, (Keep.refl h0 []), rfl, P28⟩
        have P30 : Rch p e below (s₁.setTop (entryFrame m #[(.long q1), (.long q2), (.long q3), (.long q4), (.long q5), (.int p6)] maxLocals)) (T22.setTop (mkF m 111 #[lv q1, sd, lv q2, sd, lv q3, sd, lv q4, sd, lv q5, sd, iv p6, iv v4, iv x6, iv (0 : Int32), iv x11, iv (0 : Int32), iv x16, iv (0 : Int32), .val r29, un, un, un, un, un, un, un, un, un, un, un, un] [(.int x11)])) := fun t k => P22 t (by
          show Steps p.tables e below (T22.setTop (mkF m 98 #[lv q1, sd, lv q2, sd, lv q3, sd, lv q4, sd, lv q5, sd, iv p6, iv v4, iv x6, iv (0 : Int32), iv x11, iv (0 : Int32), iv x16, iv (0 : Int32), un, un, un, un, un, un, un, un, un, un, un, un, un] [r29])) t
          refine XS.astore X22.here hx rfl (hb hby at_98) rfl hr29 (l' := #[lv q1, sd, lv q2, sd, lv q3, sd, lv q4, sd, lv q5, sd, iv p6, iv v4, iv x6, iv (0 : Int32), iv x11, iv (0 : Int32), iv x16, iv (0 : Int32), .val r29, un, un, un, un, un, un, un, un, un, un, un, un]) (by rcases ref_cases hr29 with q_ | ⟨_, q_⟩ <;> rw [q_] <;> rfl) ?_
          refine XS.iload X22.here hx rfl (hb hby at_100) rfl ?_
          refine XS.ifYes X22.here hx rfl (pc0 := 102) (pc' := 109) rfl (hb hby at_102) rfl ((if0 _ _).trans (teq (by decide)).1) (by decide) (by decide) ?_
          show Steps p.tables e below (T22.setTop (mkF m 109 #[lv q1, sd, lv q2, sd, lv q3, sd, lv q4, sd, lv q5, sd, iv p6, iv v4, iv x6, iv (0 : Int32), iv x11, iv (0 : Int32), iv x16, iv (0 : Int32), .val r29, un, un, un, un, un, un, un, un, un, un, un, un] [])) t
          refine XS.iload X22.here hx rfl (hb hby at_109) rfl ?_
          exact k)
        have hm111 := own_m3 _ hx11
        have f32 : Keep h0 h22 [] := ((Keep.refl h0 []).trans K22 all0)
        obtain ⟨T31, h31, k31, X31, e31, E31, A31, st31⟩ := newP X22 hx hZ (hw _ (List.mem_of_getElem? (i := 0) rfl)) e22 (g := (mkF m 111 #[lv q1, sd, lv q2, sd, lv q3, sd, lv q4, sd, lv q5, sd, iv p6, iv v4, iv x6, iv (0 : Int32), iv x11, iv (0 : Int32), iv x16, iv (0 : Int32), .val r29, un, un, un, un, un, un, un, un, un, un, un, un] [(.int x11)])) rfl (hb hby at_111) rfl hm111.1 (cap := 3) hm111.2 (by decide) (by decide) (by decide)
        obtain ⟨b31, g31⟩ : ∃ z, z = h22.size := ⟨_, rfl⟩
        rw [← g31] at A31 st31
        have g_b31 : n0 ≤ b31 := Nat.le_trans Z22 (Nat.le_of_eq g31.symm)
        have sz_b31 : h0.size ≤ b31 := Nat.le_trans f32.1 (Nat.le_of_eq g31.symm)
        have V31 : Arv Z h31 b31 k31 .byte x11 [] (.int (0 : Int32)) := Arv.new A31 hm111.1
        have P33 : Rch p e below (s₁.setTop (entryFrame m #[(.long q1), (.long q2), (.long q3), (.long q4), (.long q5), (.int p6)] maxLocals)) (T31.setTop (mkF m 113 #[lv q1, sd, lv q2, sd, lv q3, sd, lv q4, sd, lv q5, sd, iv p6, iv v4, iv x6, iv (0 : Int32), iv x11, iv (0 : Int32), iv x16, iv (0 : Int32), .val r29, un, un, un, un, un, un, un, un, un, un, un, un] [(.ref b31)])) := fun t k => P30 t (st31 t k)
        have P34 : Rch p e below (s₁.setTop (entryFrame m #[(.long q1), (.long q2), (.long q3), (.long q4), (.long q5), (.int p6)] maxLocals)) (T31.setTop (mkF m 126 #[lv q1, sd, lv q2, sd, lv q3, sd, lv q4, sd, lv q5, sd, iv p6, iv v4, iv x6, iv (0 : Int32), iv x11, iv (0 : Int32), iv x16, iv (0 : Int32), .val r29, rv b31, un, un, un, un, un, un, un, un, un, un, un] [(.int x16)])) := fun t k => P33 t (by
          show Steps p.tables e below (T31.setTop (mkF m 113 #[lv q1, sd, lv q2, sd, lv q3, sd, lv q4, sd, lv q5, sd, iv p6, iv v4, iv x6, iv (0 : Int32), iv x11, iv (0 : Int32), iv x16, iv (0 : Int32), .val r29, un, un, un, un, un, un, un, un, un, un, un, un] [(.ref b31)])) t
          refine XS.astore X31.here hx rfl (hb hby at_113) rfl rfl (l' := #[lv q1, sd, lv q2, sd, lv q3, sd, lv q4, sd, lv q5, sd, iv p6, iv v4, iv x6, iv (0 : Int32), iv x11, iv (0 : Int32), iv x16, iv (0 : Int32), .val r29, rv b31, un, un, un, un, un, un, un, un, un, un, un]) rfl ?_
          refine XS.iload X31.here hx rfl (hb hby at_115) rfl ?_
          refine XS.ifYes X31.here hx rfl (pc0 := 117) (pc' := 124) rfl (hb hby at_117) rfl ((if0 _ _).trans (teq (by decide)).1) (by decide) (by decide) ?_
          show Steps p.tables e below (T31.setTop (mkF m 124 #[lv q1, sd, lv q2, sd, lv q3, sd, lv q4, sd, lv q5, sd, iv p6, iv v4, iv x6, iv (0 : Int32), iv x11, iv (0 : Int32), iv x16, iv (0 : Int32), .val r29, rv b31, un, un, un, un, un, un, un, un, un, un, un] [])) t
          refine XS.iload X31.here hx rfl (hb hby at_124) rfl ?_
          exact k)
        have hm126 := own_m3 _ hx16
        have f36 : n0 ≤ h31.size := (Nat.le_trans Z22 E31.1)
        have f37 : Keep h0 h31 [] := (f32.ext E31)
        obtain ⟨T35, h35, k35, X35, e35, E35, A35, st35⟩ := newP X31 hx hZ (hw _ (List.mem_of_getElem? (i := 0) rfl)) e31 (g := (mkF m 126 #[lv q1, sd, lv q2, sd, lv q3, sd, lv q4, sd, lv q5, sd, iv p6, iv v4, iv x6, iv (0 : Int32), iv x11, iv (0 : Int32), iv x16, iv (0 : Int32), .val r29, rv b31, un, un, un, un, un, un, un, un, un, un, un] [(.int x16)])) rfl (hb hby at_126) rfl hm126.1 (cap := 3) hm126.2 (by decide) (by decide) (by decide)
        obtain ⟨b35, g35⟩ : ∃ z, z = h31.size := ⟨_, rfl⟩
        rw [← g35] at A35 st35
        have g_b35 : n0 ≤ b35 := Nat.le_trans f36 (Nat.le_of_eq g35.symm)
        have sz_b35 : h0.size ≤ b35 := Nat.le_trans f37.1 (Nat.le_of_eq g35.symm)
        have ne_b31_b35 : b31 ≠ b35 := Nat.ne_of_lt (Nat.lt_of_lt_of_le V31.lt (Nat.le_of_eq g35.symm))
        have V35 : Arv Z h35 b35 k35 .byte x16 [] (.int (0 : Int32)) := Arv.new A35 hm126.1
        have P38 : Rch p e below (s₁.setTop (entryFrame m #[(.long q1), (.long q2), (.long q3), (.long q4), (.long q5), (.int p6)] maxLocals)) (T35.setTop (mkF m 128 #[lv q1, sd, lv q2, sd, lv q3, sd, lv q4, sd, lv q5, sd, iv p6, iv v4, iv x6, iv (0 : Int32), iv x11, iv (0 : Int32), iv x16, iv (0 : Int32), .val r29, rv b31, un, un, un, un, un, un, un, un, un, un, un] [(.ref b35)])) := fun t k => P34 t (st35 t k)
        have P39 : Rch p e below (s₁.setTop (entryFrame m #[(.long q1), (.long q2), (.long q3), (.long q4), (.long q5), (.int p6)] maxLocals)) (T35.setTop (mkF m 130 #[lv q1, sd, lv q2, sd, lv q3, sd, lv q4, sd, lv q5, sd, iv p6, iv v4, iv x6, iv (0 : Int32), iv x11, iv (0 : Int32), iv x16, iv (0 : Int32), .val r29, rv b31, rv b35, un, un, un, un, un, un, un, un, un, un] [])) := fun t k => P38 t (by
          show Steps p.tables e below (T35.setTop (mkF m 128 #[lv q1, sd, lv q2, sd, lv q3, sd, lv q4, sd, lv q5, sd, iv p6, iv v4, iv x6, iv (0 : Int32), iv x11, iv (0 : Int32), iv x16, iv (0 : Int32), .val r29, rv b31, un, un, un, un, un, un, un, un, un, un, un] [(.ref b35)])) t
          refine XS.astore X35.here hx rfl (hb hby at_128) rfl rfl (l' := #[lv q1, sd, lv q2, sd, lv q3, sd, lv q4, sd, lv q5, sd, iv p6, iv v4, iv x6, iv (0 : Int32), iv x11, iv (0 : Int32), iv x16, iv (0 : Int32), .val r29, rv b31, rv b35, un, un, un, un, un, un, un, un, un, un]) rfl ?_
          exact k)
        have f41 : n0 ≤ h35.size := (Nat.le_trans f36 E35.1)
        have f42 : Keep h0 h35 [] := (f37.ext E35)
        obtain ⟨T40, h40, X40, e40, E40, A40, D40, -, st40⟩ := newO X35 hx hZ hown (hw _ (List.mem_of_getElem? (i := 1) rfl)) (hw _ (List.mem_of_getElem? (i := 2) rfl)) (hw _ (List.mem_of_getElem? (i := 3) rfl)) e35 (g := (mkF m 130 #[lv q1, sd, lv q2, sd, lv q3, sd, lv q4, sd, lv q5, sd, iv p6, iv v4, iv x6, iv (0 : Int32), iv x11, iv (0 : Int32), iv x16, iv (0 : Int32), .val r29, rv b31, rv b35, un, un, un, un, un, un, un, un, un, un] [])) rfl (hb hby at_130) (by decide) (by decide)
        obtain ⟨b40, g40⟩ : ∃ z, z = h35.size := ⟨_, rfl⟩
        rw [← g40] at A40 D40 st40
        have g_b40 : n0 ≤ b40 := Nat.le_trans f41 (Nat.le_of_eq g40.symm)
        have sz_b40 : h0.size ≤ b40 := Nat.le_trans f42.1 (Nat.le_of_eq g40.symm)
        have ne_b31_b40 : b31 ≠ b40 := Nat.ne_of_lt (Nat.lt_of_lt_of_le (V31.ext E35).lt (Nat.le_of_eq g40.symm))
        have ne_b35_b40 : b35 ≠ b40 := Nat.ne_of_lt (Nat.lt_of_lt_of_le V35.lt (Nat.le_of_eq g40.symm))
        have F40_23 : Fld Z h40 b40 "java/util/AbstractList" "modCount" "I" (.int (0 : Int32)) := D40 (Or.inl (hw _ (List.mem_of_getElem? (i := 23) rfl))) (ty := .int) (by decide)
        have F40_26 : Fld Z h40 b40 "java/util/ArrayList" "elementData" "[Ljava/lang/Object;" .null := D40 (Or.inl (hw _ (List.mem_of_getElem? (i := 26) rfl))) (ty := (.array (.object "java/lang/Object"))) (by decide)
        have P43 : Rch p e below (s₁.setTop (entryFrame m #[(.long q1), (.long q2), (.long q3), (.long q4), (.long q5), (.int p6)] maxLocals)) (T40.setTop (mkF m 133 #[lv q1, sd, lv q2, sd, lv q3, sd, lv q4, sd, lv q5, sd, iv p6, iv v4, iv x6, iv (0 : Int32), iv x11, iv (0 : Int32), iv x16, iv (0 : Int32), .val r29, rv b31, rv b35, un, un, un, un, un, un, un, un, un, un] [(.ref b40)])) := fun t k => P39 t (st40 t k)
        have P44 : Rch p e below (s₁.setTop (entryFrame m #[(.long q1), (.long q2), (.long q3), (.long q4), (.long q5), (.int p6)] maxLocals)) (T40.setTop (mkF m 134 #[lv q1, sd, lv q2, sd, lv q3, sd, lv q4, sd, lv q5, sd, iv p6, iv v4, iv x6, iv (0 : Int32), iv x11, iv (0 : Int32), iv x16, iv (0 : Int32), .val r29, rv b31, rv b35, un, un, un, un, un, un, un, un, un, un] [(.ref b40), (.ref b40)])) := fun t k => P43 t (by
          show Steps p.tables e below (T40.setTop (mkF m 133 #[lv q1, sd, lv q2, sd, lv q3, sd, lv q4, sd, lv q5, sd, iv p6, iv v4, iv x6, iv (0 : Int32), iv x11, iv (0 : Int32), iv x16, iv (0 : Int32), .val r29, rv b31, rv b35, un, un, un, un, un, un, un, un, un, un] [(.ref b40)])) t
          refine XS.dup X40.here hx rfl (hb hby at_133) rfl rfl ?_
          exact k)
        have f46 : Old Z n0 h40 := ((((O0.keep K22 all0).ext E31).ext E35).ext E40)
        have f47 : n0 ≤ h40.size := (Nat.le_trans f41 E40.1)
        obtain ⟨_, _, ⟨T45, L45, k45, n45⟩, -, X45, ⟨Lc45, hQ45, l45, y45, z45⟩, st45⟩ := X40.specialBack hx (y := (⟨"java/util/ArrayList", "<init>", "()V"⟩ : MethodName)) rfl hown (mvT hZ (hw _ (List.mem_of_getElem? (i := 4) rfl))) (mvT hZ (hw _ (List.mem_of_getElem? (i := 5) rfl))) (mvT hZ (hw _ (List.mem_of_getElem? (i := 6) rfl))) (by decide) (backOf (W := 1) (rmAL l Z a0 hw [] b40 aD h40 n0 f47 f46 Sd A40 g_b40 F40_23 F40_26) hZ (hw _ (List.mem_of_getElem? (i := 6) rfl)) (hw _ (List.mem_of_getElem? (i := 3) rfl)) (by decide) (by decide)) (g := (mkF m 134 #[lv q1, sd, lv q2, sd, lv q3, sd, lv q4, sd, lv q5, sd, iv p6, iv v4, iv x6, iv (0 : Int32), iv x11, iv (0 : Int32), iv x16, iv (0 : Int32), .val r29, rv b31, rv b35, un, un, un, un, un, un, un, un, un, un] [(.ref b40), (.ref b40)])) rfl (by rw [hml]; rfl) (Steps.refl _) (a := b40) (argsL := []) (rest := [(.ref b40)]) (lenOf pd_0 rfl) rfl (by show 2 * 0 + _ ≤ _; exact Nat.le_of_eq rfl) (hb hby at_134) (fun _ _ => ⟨rfl, e40, (by decide : 4 + 0 ≤ _), (by decide : 12 + 0 ≤ _)⟩)
        dsimp only [Pt.U, Pt.locs, Pt.cells, Pt.slots] at X45 l45 y45 z45 st45 hQ45
        subst y45 z45
        obtain ⟨rfl, N45q, K45, E_45⟩ := hQ45
        have N45 : Fr n0 L45 := by rw [l45]; exact Fr.app N22 N45q
        have P48 : Rch p e below (s₁.setTop (entryFrame m #[(.long q1), (.long q2), (.long q3), (.long q4), (.long q5), (.int p6)] maxLocals)) (T45.setTop (mkF m 137 #[lv q1, sd, lv q2, sd, lv q3, sd, lv q4, sd, lv q5, sd, iv p6, iv v4, iv x6, iv (0 : Int32), iv x11, iv (0 : Int32), iv x16, iv (0 : Int32), .val r29, rv b31, rv b35, un, un, un, un, un, un, un, un, un, un] [(.ref b40)])) := fun t k => P44 t (st45.trans k)
        have P49 : Rch p e below (s₁.setTop (entryFrame m #[(.long q1), (.long q2), (.long q3), (.long q4), (.long q5), (.int p6)] maxLocals)) (T45.setTop (mkF m 139 #[lv q1, sd, lv q2, sd, lv q3, sd, lv q4, sd, lv q5, sd, iv p6, iv v4, iv x6, iv (0 : Int32), iv x11, iv (0 : Int32), iv x16, iv (0 : Int32), .val r29, rv b31, rv b35, rv b40, un, un, un, un, un, un, un, un, un] [])) := fun t k => P48 t (by
          show Steps p.tables e below (T45.setTop (mkF m 137 #[lv q1, sd, lv q2, sd, lv q3, sd, lv q4, sd, lv q5, sd, iv p6, iv v4, iv x6, iv (0 : Int32), iv x11, iv (0 : Int32), iv x16, iv (0 : Int32), .val r29, rv b31, rv b35, un, un, un, un, un, un, un, un, un, un] [(.ref b40)])) t
          refine XS.astore X45.here hx rfl (hb hby at_137) rfl rfl (l' := #[lv q1, sd, lv q2, sd, lv q3, sd, lv q4, sd, lv q5, sd, iv p6, iv v4, iv x6, iv (0 : Int32), iv x11, iv (0 : Int32), iv x16, iv (0 : Int32), .val r29, rv b31, rv b35, rv b40, un, un, un, un, un, un, un, un, un]) rfl ?_
          exact k)
        have f51 : n0 ≤ T45.heap.size := (Nat.le_trans f47 K45.1)
        have f52 : Keep h0 T45.heap [] := ((f42.ext E40).trans K45 (allS (P := fun x => x ∈ [] ∨ h0.size ≤ x) (Or.inr sz_b40) all0))
        obtain ⟨T50, h50, X50, e50, E50, A50, D50, -, st50⟩ := newO X45 hx hZ hown (hw _ (List.mem_of_getElem? (i := 27) rfl)) (hw _ (List.mem_of_getElem? (i := 28) rfl)) (hw _ (List.mem_of_getElem? (i := 29) rfl)) rfl (g := (mkF m 139 #[lv q1, sd, lv q2, sd, lv q3, sd, lv q4, sd, lv q5, sd, iv p6, iv v4, iv x6, iv (0 : Int32), iv x11, iv (0 : Int32), iv x16, iv (0 : Int32), .val r29, rv b31, rv b35, rv b40, un, un, un, un, un, un, un, un, un] [])) rfl (hb hby at_139) (by decide) (by decide)
        obtain ⟨b50, g50⟩ : ∃ z, z = T45.heap.size := ⟨_, rfl⟩
        rw [← g50] at A50 D50 st50
        have g_b50 : n0 ≤ b50 := Nat.le_trans f51 (Nat.le_of_eq g50.symm)
        have sz_b50 : h0.size ≤ b50 := Nat.le_trans f52.1 (Nat.le_of_eq g50.symm)
        have ne_b31_b50 : b31 ≠ b50 := Nat.ne_of_lt (Nat.lt_of_lt_of_le (((V31.ext E35).ext E40).keep K45 (ninS ne_b31_b40 nin0)).lt (Nat.le_of_eq g50.symm))
        have ne_b35_b50 : b35 ≠ b50 := Nat.ne_of_lt (Nat.lt_of_lt_of_le ((V35.ext E40).keep K45 (ninS ne_b35_b40 nin0)).lt (Nat.le_of_eq g50.symm))
        have ne_b40_b50 : b40 ≠ b50 := Nat.ne_of_lt (Nat.lt_of_lt_of_le (A40.keep K45).lt (Nat.le_of_eq g50.symm))
        have F50_68 : Fld Z h50 b50 "com/example/usher/usher/core/Node" "children" "Ljava/util/Set;" .null := D50 (Or.inr (hw _ (List.mem_of_getElem? (i := 68) rfl))) (ty := (.object "java/util/Set")) (by decide)
        have F50_70 : Fld Z h50 b50 "com/example/usher/usher/core/Node" "czxid" "J" (.long (0 : Int64)) := D50 (Or.inr (hw _ (List.mem_of_getElem? (i := 70) rfl))) (ty := .long) (by decide)
        have F50_72 : Fld Z h50 b50 "com/example/usher/usher/core/Node" "ctime" "J" (.long (0 : Int64)) := D50 (Or.inr (hw _ (List.mem_of_getElem? (i := 72) rfl))) (ty := .long) (by decide)
        have F50_74 : Fld Z h50 b50 "com/example/usher/usher/core/Node" "ephemeralOwner" "J" (.long (0 : Int64)) := D50 (Or.inr (hw _ (List.mem_of_getElem? (i := 74) rfl))) (ty := .long) (by decide)
        have F50_76 : Fld Z h50 b50 "com/example/usher/usher/core/Node" "data" "[B" .null := D50 (Or.inl (hw _ (List.mem_of_getElem? (i := 76) rfl))) (ty := (.array .byte)) (by decide)
        have F50_78 : Fld Z h50 b50 "com/example/usher/usher/core/Node" "acl" "Ljava/util/List;" .null := D50 (Or.inl (hw _ (List.mem_of_getElem? (i := 78) rfl))) (ty := (.object "java/util/List")) (by decide)
        have F50_80 : Fld Z h50 b50 "com/example/usher/usher/core/Node" "mzxid" "J" (.long (0 : Int64)) := D50 (Or.inl (hw _ (List.mem_of_getElem? (i := 80) rfl))) (ty := .long) (by decide)
        have F50_82 : Fld Z h50 b50 "com/example/usher/usher/core/Node" "mtime" "J" (.long (0 : Int64)) := D50 (Or.inl (hw _ (List.mem_of_getElem? (i := 82) rfl))) (ty := .long) (by decide)
        have F50_84 : Fld Z h50 b50 "com/example/usher/usher/core/Node" "pzxid" "J" (.long (0 : Int64)) := D50 (Or.inl (hw _ (List.mem_of_getElem? (i := 84) rfl))) (ty := .long) (by decide)
        have F50_91 : Fld Z h50 b50 "com/example/usher/usher/core/Node" "version" "I" (.int (0 : Int32)) := D50 (Or.inl (hw _ (List.mem_of_getElem? (i := 91) rfl))) (ty := .int) (by decide)
        have F50_101 : Fld Z h50 b50 "com/example/usher/usher/core/Node" "cversion" "I" (.int (0 : Int32)) := D50 (Or.inl (hw _ (List.mem_of_getElem? (i := 101) rfl))) (ty := .int) (by decide)
        have F50_103 : Fld Z h50 b50 "com/example/usher/usher/core/Node" "aversion" "I" (.int (0 : Int32)) := D50 (Or.inl (hw _ (List.mem_of_getElem? (i := 103) rfl))) (ty := .int) (by decide)
        have P53 : Rch p e below (s₁.setTop (entryFrame m #[(.long q1), (.long q2), (.long q3), (.long q4), (.long q5), (.int p6)] maxLocals)) (T50.setTop (mkF m 142 #[lv q1, sd, lv q2, sd, lv q3, sd, lv q4, sd, lv q5, sd, iv p6, iv v4, iv x6, iv (0 : Int32), iv x11, iv (0 : Int32), iv x16, iv (0 : Int32), .val r29, rv b31, rv b35, rv b40, un, un, un, un, un, un, un, un, un] [(.ref b50)])) := fun t k => P49 t (st50 t k)
        have P54 : Rch p e below (s₁.setTop (entryFrame m #[(.long q1), (.long q2), (.long q3), (.long q4), (.long q5), (.int p6)] maxLocals)) (T50.setTop (mkF m 150 #[lv q1, sd, lv q2, sd, lv q3, sd, lv q4, sd, lv q5, sd, iv p6, iv v4, iv x6, iv (0 : Int32), iv x11, iv (0 : Int32), iv x16, iv (0 : Int32), .val r29, rv b31, rv b35, rv b40, un, un, un, un, un, un, un, un, un] [(.long q2), (.long q1), (.long (0 : Int64)), (.ref b40), r29, (.ref b50), (.ref b50)])) := fun t k => P53 t (by
          show Steps p.tables e below (T50.setTop (mkF m 142 #[lv q1, sd, lv q2, sd, lv q3, sd, lv q4, sd, lv q5, sd, iv p6, iv v4, iv x6, iv (0 : Int32), iv x11, iv (0 : Int32), iv x16, iv (0 : Int32), .val r29, rv b31, rv b35, rv b40, un, un, un, un, un, un, un, un, un] [(.ref b50)])) t
          refine XS.dup X50.here hx rfl (hb hby at_142) rfl rfl ?_
          refine XS.aload X50.here hx rfl (hb hby at_143) rfl hr29 ?_
          refine XS.aload X50.here hx rfl (hb hby at_145) rfl rfl ?_
          show Steps p.tables e below (T50.setTop (mkF m 147 #[lv q1, sd, lv q2, sd, lv q3, sd, lv q4, sd, lv q5, sd, iv p6, iv v4, iv x6, iv (0 : Int32), iv x11, iv (0 : Int32), iv x16, iv (0 : Int32), .val r29, rv b31, rv b35, rv b40, un, un, un, un, un, un, un, un, un] [(.ref b40), r29, (.ref b50), (.ref b50)])) t
          refine XS.lconst X50.here hx rfl (hb hby at_147) ?_
          refine XS.lloadN X50.here hx rfl (hb hby at_148) rfl ?_
          refine XS.lloadN X50.here hx rfl (hb hby at_149) rfl ?_
          exact k)
        have f56 : n0 ≤ h50.size := (Nat.le_trans f51 E50.1)
        obtain ⟨_, _, ⟨T55, L55, k55, n55⟩, -, X55, ⟨Lc55, hQ55, l55, y55, z55⟩, st55⟩ := X50.specialBack hx (y := (⟨"com/example/usher/usher/core/Node", "<init>", "([BLjava/util/List;JJJ)V"⟩ : MethodName)) rfl hown (mvT hZ (hw _ (List.mem_of_getElem? (i := 30) rfl))) (mvT hZ (hw _ (List.mem_of_getElem? (i := 31) rfl))) (mvT hZ (hw _ (List.mem_of_getElem? (i := 32) rfl))) (by decide) (backOf (W := 1) (rmND l Z a0 hw [] b50 r29 b40 (0 : Int64) q1 q2 h50 n0 f56 hr29 A50 g_b50 F50_68 F50_70 F50_72 F50_74 F50_76 F50_78 F50_80 F50_82 F50_84 F50_91 F50_101 F50_103) hZ (hw _ (List.mem_of_getElem? (i := 32) rfl)) (hw _ (List.mem_of_getElem? (i := 29) rfl)) (by decide) (by decide)) (g := (mkF m 150 #[lv q1, sd, lv q2, sd, lv q3, sd, lv q4, sd, lv q5, sd, iv p6, iv v4, iv x6, iv (0 : Int32), iv x11, iv (0 : Int32), iv x16, iv (0 : Int32), .val r29, rv b31, rv b35, rv b40, un, un, un, un, un, un, un, un, un] [(.long q2), (.long q1), (.long (0 : Int64)), (.ref b40), r29, (.ref b50), (.ref b50)])) rfl (by rw [hml]; rfl) (Steps.refl _) (a := b50) (argsL := [r29, (.ref b40), (.long (0 : Int64)), (.long q1), (.long q2)]) (rest := [(.ref b50)]) (lenOf pd_3 rfl) rfl (by show 2 * 0 + _ ≤ _; exact Nat.le_of_eq rfl) (hb hby at_150) (fun _ _ => ⟨rfl, e50, (by decide : 5 + 2 ≤ _), (by decide : 25 + 9 ≤ _)⟩)
        dsimp only [Pt.U, Pt.locs, Pt.cells, Pt.slots] at X55 l55 y55 z55 st55 hQ55
        subst y55 z55
        have f57 : Arv Z h50 b31 k31 .byte x11 [] (.int (0 : Int32)) := ((((V31.ext E35).ext E40).keep K45 (ninS ne_b31_b40 nin0)).ext E50)
        have f58 : Keep h0 h50 [] := (f52.ext E50)
        obtain ⟨c__55, m__55, rfl, N55q, K55, Fc_55, Fm_55, E_55, G0_55, G1_55, G2_55, G3_55, G4_55, G5_55, G6_55, G7_55, G8_55, G9_55, G10_55, G11_55, Ec_55, Gc_55, Em_55, Gm_55⟩ := hQ55
        have N55 : Fr n0 L55 := by rw [l55]; exact Fr.app N45 N55q
        have g_c__55 : n0 ≤ c__55 := Nat.le_trans f56 Fc_55
        have sz_c__55 : h0.size ≤ c__55 := Nat.le_trans f58.1 Fc_55
        have ne_b31_c__55 : b31 ≠ c__55 := Nat.ne_of_lt (Nat.lt_of_lt_of_le f57.lt Fc_55)
        have ne_b35_c__55 : b35 ≠ c__55 := Nat.ne_of_lt (Nat.lt_of_lt_of_le (((V35.ext E40).keep K45 (ninS ne_b35_b40 nin0)).ext E50).lt Fc_55)
        have ne_b40_c__55 : b40 ≠ c__55 := Nat.ne_of_lt (Nat.lt_of_lt_of_le ((A40.keep K45).ext E50).lt Fc_55)
        have ne_b50_c__55 : b50 ≠ c__55 := Nat.ne_of_lt (Nat.lt_of_lt_of_le A50.lt Fc_55)
        have g_m__55 : n0 ≤ m__55 := Nat.le_trans f56 Fm_55
        have sz_m__55 : h0.size ≤ m__55 := Nat.le_trans f58.1 Fm_55
        have ne_b31_m__55 : b31 ≠ m__55 := Nat.ne_of_lt (Nat.lt_of_lt_of_le f57.lt Fm_55)
        have ne_b35_m__55 : b35 ≠ m__55 := Nat.ne_of_lt (Nat.lt_of_lt_of_le (((V35.ext E40).keep K45 (ninS ne_b35_b40 nin0)).ext E50).lt Fm_55)
        have ne_b40_m__55 : b40 ≠ m__55 := Nat.ne_of_lt (Nat.lt_of_lt_of_le ((A40.keep K45).ext E50).lt Fm_55)
        have ne_b50_m__55 : b50 ≠ m__55 := Nat.ne_of_lt (Nat.lt_of_lt_of_le A50.lt Fm_55)
        have P59 : Rch p e below (s₁.setTop (entryFrame m #[(.long q1), (.long q2), (.long q3), (.long q4), (.long q5), (.int p6)] maxLocals)) (T55.setTop (mkF m 153 #[lv q1, sd, lv q2, sd, lv q3, sd, lv q4, sd, lv q5, sd, iv p6, iv v4, iv x6, iv (0 : Int32), iv x11, iv (0 : Int32), iv x16, iv (0 : Int32), .val r29, rv b31, rv b35, rv b40, un, un, un, un, un, un, un, un, un] [(.ref b50)])) := fun t k => P54 t (st55.trans k)
        have P60 : Rch p e below (s₁.setTop (entryFrame m #[(.long q1), (.long q2), (.long q3), (.long q4), (.long q5), (.int p6)] maxLocals)) (T55.setTop (mkF m 163 #[lv q1, sd, lv q2, sd, lv q3, sd, lv q4, sd, lv q5, sd, iv p6, iv v4, iv x6, iv (0 : Int32), iv x11, iv (0 : Int32), iv x16, iv (0 : Int32), .val r29, rv b31, rv b35, rv b40, rv b50, un, un, un, un, un, un, un, un] [(.long q4), (.long q3), (.ref b31), (.ref b50)])) := fun t k => P59 t (by
          show Steps p.tables e below (T55.setTop (mkF m 153 #[lv q1, sd, lv q2, sd, lv q3, sd, lv q4, sd, lv q5, sd, iv p6, iv v4, iv x6, iv (0 : Int32), iv x11, iv (0 : Int32), iv x16, iv (0 : Int32), .val r29, rv b31, rv b35, rv b40, un, un, un, un, un, un, un, un, un] [(.ref b50)])) t
          refine XS.astore X55.here hx rfl (hb hby at_153) rfl rfl (l' := #[lv q1, sd, lv q2, sd, lv q3, sd, lv q4, sd, lv q5, sd, iv p6, iv v4, iv x6, iv (0 : Int32), iv x11, iv (0 : Int32), iv x16, iv (0 : Int32), .val r29, rv b31, rv b35, rv b40, rv b50, un, un, un, un, un, un, un, un]) rfl ?_
          refine XS.aload X55.here hx rfl (hb hby at_155) rfl rfl ?_
          refine XS.aload X55.here hx rfl (hb hby at_157) rfl rfl ?_
          show Steps p.tables e below (T55.setTop (mkF m 159 #[lv q1, sd, lv q2, sd, lv q3, sd, lv q4, sd, lv q5, sd, iv p6, iv v4, iv x6, iv (0 : Int32), iv x11, iv (0 : Int32), iv x16, iv (0 : Int32), .val r29, rv b31, rv b35, rv b40, rv b50, un, un, un, un, un, un, un, un] [(.ref b31), (.ref b50)])) t
          refine XS.lload X55.here hx rfl (hb hby at_159) rfl ?_
          refine XS.lload X55.here hx rfl (hb hby at_161) rfl ?_
          exact k)
        have f62 : n0 ≤ T55.heap.size := (Nat.le_trans f56 K55.1)
        obtain ⟨cq61, kq61, q61a, q61b, q61c⟩ := isOf hZ rfl E_55
        obtain ⟨_, _, ⟨T61, L61, k61, n61⟩, -, X61, ⟨Lc61, hQ61, l61, y61, z61⟩, st61⟩ := X55.virtualBack hx (y := (⟨"com/example/usher/usher/core/Node", "setData", "([BJJ)V"⟩ : MethodName)) (z := (⟨"com/example/usher/usher/core/Node", "setData", "([BJJ)V"⟩ : MethodName)) hown (mvT hZ (hw _ (List.mem_of_getElem? (i := 85) rfl))) (mvT hZ (hw _ (List.mem_of_getElem? (i := 86) rfl))) (notFace_of_selects (args := #[]) (mvT hZ (hw _ (List.mem_of_getElem? (i := 88) rfl)))) (mvT hZ (hw _ (List.mem_of_getElem? (i := 88) rfl))) (mvT hZ (hw _ (List.mem_of_getElem? (i := 87) rfl))) (by decide) (backOf (W := 0) (rmSD l Z a0 hw [] b50 (.ref b31) q3 q4 c__55 q1 q2 (0 : Int64) r29 b40 q1 q2 q1 (0 : Int32) (0 : Int32) (0 : Int32) T55.heap n0 f62 rfl E_55 g_b50 G0_55 G1_55 G2_55 G3_55 G4_55 G5_55 G6_55 G7_55 G8_55 G9_55 G10_55 G11_55) hZ (hw _ (List.mem_of_getElem? (i := 89) rfl)) (hw _ (List.mem_of_getElem? (i := 29) rfl)) (by decide) (by decide)) q61a q61c (g := (mkF m 163 #[lv q1, sd, lv q2, sd, lv q3, sd, lv q4, sd, lv q5, sd, iv p6, iv v4, iv x6, iv (0 : Int32), iv x11, iv (0 : Int32), iv x16, iv (0 : Int32), .val r29, rv b31, rv b35, rv b40, rv b50, un, un, un, un, un, un, un, un] [(.long q4), (.long q3), (.ref b31), (.ref b50)])) rfl (by rw [hml]; rfl) (Steps.refl _) (argsL := [(.ref b31), (.long q3), (.long q4)]) (rest := []) (lenOf pd_4 rfl) rfl (by show 2 * 0 + _ ≤ _; exact Nat.le_of_eq rfl) (hb hby at_163) (fun _ _ => ⟨rfl, rfl, (by decide : 7 + 0 ≤ _), (by decide : 34 + 0 ≤ _)⟩)
        dsimp only [Pt.U, Pt.locs, Pt.cells, Pt.slots] at X61 l61 y61 z61 st61 hQ61
        subst y61 z61
        obtain ⟨rfl, N61q, K61, E_61, G0_61, G1_61, G2_61, G3_61, G4_61, G5_61, G6_61, G7_61, G8_61, G9_61, G10_61, G11_61⟩ := hQ61
        have N61 : Fr n0 L61 := by rw [l61]; exact Fr.app N55 N61q
        have P63 : Rch p e below (s₁.setTop (entryFrame m #[(.long q1), (.long q2), (.long q3), (.long q4), (.long q5), (.int p6)] maxLocals)) (T61.setTop (mkF m 166 #[lv q1, sd, lv q2, sd, lv q3, sd, lv q4, sd, lv q5, sd, iv p6, iv v4, iv x6, iv (0 : Int32), iv x11, iv (0 : Int32), iv x16, iv (0 : Int32), .val r29, rv b31, rv b35, rv b40, rv b50, un, un, un, un, un, un, un, un] [])) := fun t k => P60 t (st61.trans k)
        have P64 : Rch p e below (s₁.setTop (entryFrame m #[(.long q1), (.long q2), (.long q3), (.long q4), (.long q5), (.int p6)] maxLocals)) (T61.setTop (mkF m 183 #[lv q1, sd, lv q2, sd, lv q3, sd, lv q4, sd, lv q5, sd, iv p6, iv v4, iv x6, iv (0 : Int32), iv x11, iv (0 : Int32), iv x16, iv (0 : Int32), .val r29, rv b31, rv b35, rv b40, rv b50, un, un, un, un, un, un, un, un] [(.ref b50)])) := fun t k => P63 t (by
          show Steps p.tables e below (T61.setTop (mkF m 166 #[lv q1, sd, lv q2, sd, lv q3, sd, lv q4, sd, lv q5, sd, iv p6, iv v4, iv x6, iv (0 : Int32), iv x11, iv (0 : Int32), iv x16, iv (0 : Int32), .val r29, rv b31, rv b35, rv b40, rv b50, un, un, un, un, un, un, un, un] [])) t
          refine XS.iload X61.here hx rfl (hb hby at_166) rfl ?_
          refine XS.ifYes X61.here hx rfl (pc0 := 168) (pc' := 181) rfl (hb hby at_168) rfl ((if0 _ _).trans (teq (by decide)).1) (by decide) (by decide) ?_
          refine XS.aload X61.here hx rfl (hb hby at_181) rfl rfl ?_
          exact k)
        have f66 : Arv Z T61.heap b31 k31 .byte x11 [] (.int (0 : Int32)) := ((f57.keep K55 (ninS ne_b31_b50 nin0)).keep K61 (ninS ne_b31_b50 nin0))
        have f67 : n0 ≤ T61.heap.size := (Nat.le_trans f62 K61.1)
        obtain ⟨cq65, kq65, q65a, q65b, q65c⟩ := isOf hZ rfl E_61
        obtain ⟨_, _, ⟨T65, L65, k65, n65⟩, -, X65, ⟨Lc65, hQ65, l65, y65, z65⟩, st65⟩ := X61.virtualBack hx (y := (⟨"com/example/usher/usher/core/Node", "stat", "()Lcom/example/usher/usher/protocol/Stat;"⟩ : MethodName)) (z := (⟨"com/example/usher/usher/core/Node", "stat", "()Lcom/example/usher/usher/protocol/Stat;"⟩ : MethodName)) hown (mvT hZ (hw _ (List.mem_of_getElem? (i := 92) rfl))) (mvT hZ (hw _ (List.mem_of_getElem? (i := 93) rfl))) (notFace_of_selects (args := #[]) (mvT hZ (hw _ (List.mem_of_getElem? (i := 95) rfl)))) (mvT hZ (hw _ (List.mem_of_getElem? (i := 95) rfl))) (mvT hZ (hw _ (List.mem_of_getElem? (i := 94) rfl))) (by decide) (backOf (W := 0) (rmS1 l Z a0 hw [] b50 c__55 q1 q2 (0 : Int64) b40 q3 q4 q1 ((0 : Int32) + (1 : Int32)) (0 : Int32) (0 : Int32) b31 k31 x11 [] m__55 T61.heap n0 f67 E_61 G0_61 G1_61 G2_61 G3_61 G4_61 G5_61 G6_61 G7_61 G8_61 G9_61 G10_61 G11_61 (Ec_55.keep K61) (Gc_55.keep K61 (ninS (Ne.symm ne_b50_c__55) nin0)) (Em_55.keep K61) (Gm_55.keep K61 (ninS (Ne.symm ne_b50_m__55) nin0)) f66) hZ (hw _ (List.mem_of_getElem? (i := 96) rfl)) (hw _ (List.mem_of_getElem? (i := 29) rfl)) (by decide) (by decide)) q65a q65c (g := (mkF m 183 #[lv q1, sd, lv q2, sd, lv q3, sd, lv q4, sd, lv q5, sd, iv p6, iv v4, iv x6, iv (0 : Int32), iv x11, iv (0 : Int32), iv x16, iv (0 : Int32), .val r29, rv b31, rv b35, rv b40, rv b50, un, un, un, un, un, un, un, un] [(.ref b50)])) rfl (by rw [hml]; rfl) (Steps.refl _) (argsL := []) (rest := []) (lenOf pd_5 rfl) rfl (by show 2 * 0 + _ ≤ _; exact Nat.le_of_eq rfl) (hb hby at_183) (fun _ _ => ⟨rfl, rfl, (by decide : 7 + 1 ≤ _), (by decide : 34 + 11 ≤ _)⟩)
        dsimp only [Pt.U, Pt.locs, Pt.cells, Pt.slots] at X65 l65 y65 z65 st65 hQ65
        subst y65 z65
        have f68 : Arv Z T61.heap b35 k35 .byte x16 [] (.int (0 : Int32)) := (((((V35.ext E40).keep K45 (ninS ne_b35_b40 nin0)).ext E50).keep K55 (ninS ne_b35_b50 nin0)).keep K61 (ninS ne_b35_b50 nin0))
        have f69 : Keep h0 T61.heap [] := ((f58.trans K55 (allS (P := fun x => x ∈ [] ∨ h0.size ≤ x) (Or.inr sz_b50) all0)).trans K61 (allS (P := fun x => x ∈ [] ∨ h0.size ≤ x) (Or.inr sz_b50) all0))
        obtain ⟨t__65, rfl, N65q, K65, Ft_65, Et_65, G_mzxid_65, G_ctime_65, G_mtime_65, G_version_65, G_dataLength_65, G_pzxid_65⟩ := hQ65
        have N65 : Fr n0 L65 := by rw [l65]; exact Fr.app N61 N65q
        have g_t__65 : n0 ≤ t__65 := Nat.le_trans f67 Ft_65
        have sz_t__65 : h0.size ≤ t__65 := Nat.le_trans f69.1 Ft_65
        have ne_b31_t__65 : b31 ≠ t__65 := Nat.ne_of_lt (Nat.lt_of_lt_of_le f66.lt Ft_65)
        have ne_b35_t__65 : b35 ≠ t__65 := Nat.ne_of_lt (Nat.lt_of_lt_of_le f68.lt Ft_65)
        have ne_b40_t__65 : b40 ≠ t__65 := Nat.ne_of_lt (Nat.lt_of_lt_of_le ((((A40.keep K45).ext E50).keep K55).keep K61).lt Ft_65)
        have ne_b50_t__65 : b50 ≠ t__65 := Nat.ne_of_lt (Nat.lt_of_lt_of_le ((A50.keep K55).keep K61).lt Ft_65)
        have ne_c__55_t__65 : c__55 ≠ t__65 := Nat.ne_of_lt (Nat.lt_of_lt_of_le (Ec_55.keep K61).lt Ft_65)
        have ne_m__55_t__65 : m__55 ≠ t__65 := Nat.ne_of_lt (Nat.lt_of_lt_of_le (Em_55.keep K61).lt Ft_65)
        have P70 : Rch p e below (s₁.setTop (entryFrame m #[(.long q1), (.long q2), (.long q3), (.long q4), (.long q5), (.int p6)] maxLocals)) (T65.setTop (mkF m 186 #[lv q1, sd, lv q2, sd, lv q3, sd, lv q4, sd, lv q5, sd, iv p6, iv v4, iv x6, iv (0 : Int32), iv x11, iv (0 : Int32), iv x16, iv (0 : Int32), .val r29, rv b31, rv b35, rv b40, rv b50, un, un, un, un, un, un, un, un] [(.ref t__65)])) := fun t k => P64 t (st65.trans k)
        have P71 : Rch p e below (s₁.setTop (entryFrame m #[(.long q1), (.long q2), (.long q3), (.long q4), (.long q5), (.int p6)] maxLocals)) (T65.setTop (mkF m 277 #[lv q1, sd, lv q2, sd, lv q3, sd, lv q4, sd, lv q5, sd, iv p6, iv v4, iv x6, iv (0 : Int32), iv x11, iv (0 : Int32), iv x16, iv (0 : Int32), .val r29, rv b31, rv b35, rv b40, rv b50, rv t__65, rv b31, lv q3, sd, lv q4, sd, iv (1 : Int32), iv x11] [(.ref b50)])) := fun t k => P70 t (by
          show Steps p.tables e below (T65.setTop (mkF m 186 #[lv q1, sd, lv q2, sd, lv q3, sd, lv q4, sd, lv q5, sd, iv p6, iv v4, iv x6, iv (0 : Int32), iv x11, iv (0 : Int32), iv x16, iv (0 : Int32), .val r29, rv b31, rv b35, rv b40, rv b50, un, un, un, un, un, un, un, un] [(.ref t__65)])) t
          refine XS.astore X65.here hx rfl (hb hby at_186) rfl rfl (l' := #[lv q1, sd, lv q2, sd, lv q3, sd, lv q4, sd, lv q5, sd, iv p6, iv v4, iv x6, iv (0 : Int32), iv x11, iv (0 : Int32), iv x16, iv (0 : Int32), .val r29, rv b31, rv b35, rv b40, rv b50, rv t__65, un, un, un, un, un, un, un]) rfl ?_
          refine XS.iload X65.here hx rfl (hb hby at_188) rfl ?_
          refine XS.ifYes X65.here hx rfl (pc0 := 190) (pc' := 198) rfl (hb hby at_190) rfl ((if0 _ _).trans (teq (by decide)).1) (by decide) (by decide) ?_
          show Steps p.tables e below (T65.setTop (mkF m 198 #[lv q1, sd, lv q2, sd, lv q3, sd, lv q4, sd, lv q5, sd, iv p6, iv v4, iv x6, iv (0 : Int32), iv x11, iv (0 : Int32), iv x16, iv (0 : Int32), .val r29, rv b31, rv b35, rv b40, rv b50, rv t__65, un, un, un, un, un, un, un] [])) t
          refine XS.aload X65.here hx rfl (hb hby at_198) rfl rfl ?_
          refine XS.astore X65.here hx rfl (hb hby at_200) rfl rfl (l' := #[lv q1, sd, lv q2, sd, lv q3, sd, lv q4, sd, lv q5, sd, iv p6, iv v4, iv x6, iv (0 : Int32), iv x11, iv (0 : Int32), iv x16, iv (0 : Int32), .val r29, rv b31, rv b35, rv b40, rv b50, rv t__65, rv b31, un, un, un, un, un, un]) rfl ?_
          refine XS.iload X65.here hx rfl (hb hby at_202) rfl ?_
          refine XS.ifYes X65.here hx rfl (pc0 := 204) (pc' := 212) rfl (hb hby at_204) rfl ((if0 _ _).trans (teq (by decide)).1) (by decide) (by decide) ?_
          show Steps p.tables e below (T65.setTop (mkF m 212 #[lv q1, sd, lv q2, sd, lv q3, sd, lv q4, sd, lv q5, sd, iv p6, iv v4, iv x6, iv (0 : Int32), iv x11, iv (0 : Int32), iv x16, iv (0 : Int32), .val r29, rv b31, rv b35, rv b40, rv b50, rv t__65, rv b31, un, un, un, un, un, un] [])) t
          refine XS.lload X65.here hx rfl (hb hby at_212) rfl ?_
          refine XS.lstore X65.here hx rfl (hb hby at_214) rfl (l' := #[lv q1, sd, lv q2, sd, lv q3, sd, lv q4, sd, lv q5, sd, iv p6, iv v4, iv x6, iv (0 : Int32), iv x11, iv (0 : Int32), iv x16, iv (0 : Int32), .val r29, rv b31, rv b35, rv b40, rv b50, rv t__65, rv b31, lv q3, sd, un, un, un, un]) rfl ?_
          refine XS.iload X65.here hx rfl (hb hby at_216) rfl ?_
          refine XS.ifYes X65.here hx rfl (pc0 := 218) (pc' := 225) rfl (hb hby at_218) rfl ((if0 _ _).trans (teq (by decide)).1) (by decide) (by decide) ?_
          show Steps p.tables e below (T65.setTop (mkF m 225 #[lv q1, sd, lv q2, sd, lv q3, sd, lv q4, sd, lv q5, sd, iv p6, iv v4, iv x6, iv (0 : Int32), iv x11, iv (0 : Int32), iv x16, iv (0 : Int32), .val r29, rv b31, rv b35, rv b40, rv b50, rv t__65, rv b31, lv q3, sd, un, un, un, un] [])) t
          refine XS.lload X65.here hx rfl (hb hby at_225) rfl ?_
          refine XS.lstore X65.here hx rfl (hb hby at_227) rfl (l' := #[lv q1, sd, lv q2, sd, lv q3, sd, lv q4, sd, lv q5, sd, iv p6, iv v4, iv x6, iv (0 : Int32), iv x11, iv (0 : Int32), iv x16, iv (0 : Int32), .val r29, rv b31, rv b35, rv b40, rv b50, rv t__65, rv b31, lv q3, sd, lv q4, sd, un, un]) rfl ?_
          refine XS.iload X65.here hx rfl (hb hby at_229) rfl ?_
          refine XS.ifYes X65.here hx rfl (pc0 := 231) (pc' := 238) rfl (hb hby at_231) rfl ((if0 _ _).trans (teq (by decide)).1) (by decide) (by decide) ?_
          show Steps p.tables e below (T65.setTop (mkF m 238 #[lv q1, sd, lv q2, sd, lv q3, sd, lv q4, sd, lv q5, sd, iv p6, iv v4, iv x6, iv (0 : Int32), iv x11, iv (0 : Int32), iv x16, iv (0 : Int32), .val r29, rv b31, rv b35, rv b40, rv b50, rv t__65, rv b31, lv q3, sd, lv q4, sd, un, un] [])) t
          refine XS.iconst X65.here hx rfl (hb hby at_238) ?_
          refine XS.istore X65.here hx rfl (hb hby at_239) rfl (l' := #[lv q1, sd, lv q2, sd, lv q3, sd, lv q4, sd, lv q5, sd, iv p6, iv v4, iv x6, iv (0 : Int32), iv x11, iv (0 : Int32), iv x16, iv (0 : Int32), .val r29, rv b31, rv b35, rv b40, rv b50, rv t__65, rv b31, lv q3, sd, lv q4, sd, iv (1 : Int32), un]) rfl ?_
          refine XS.iload X65.here hx rfl (hb hby at_241) rfl ?_
          refine XS.ifYes X65.here hx rfl (pc0 := 243) (pc' := 262) rfl (hb hby at_243) rfl ((if0 _ _).trans (teq (by decide)).1) (by decide) (by decide) ?_
          show Steps p.tables e below (T65.setTop (mkF m 262 #[lv q1, sd, lv q2, sd, lv q3, sd, lv q4, sd, lv q5, sd, iv p6, iv v4, iv x6, iv (0 : Int32), iv x11, iv (0 : Int32), iv x16, iv (0 : Int32), .val r29, rv b31, rv b35, rv b40, rv b50, rv t__65, rv b31, lv q3, sd, lv q4, sd, iv (1 : Int32), un] [])) t
          refine XS.iload X65.here hx rfl (hb hby at_262) rfl ?_
          refine XS.ifYes X65.here hx rfl (pc0 := 264) (pc' := 271) rfl (hb hby at_264) rfl ((if0 _ _).trans (teq (by decide)).1) (by decide) (by decide) ?_
          refine XS.iload X65.here hx rfl (hb hby at_271) rfl ?_
          refine XS.istore X65.here hx rfl (hb hby at_273) rfl (l' := #[lv q1, sd, lv q2, sd, lv q3, sd, lv q4, sd, lv q5, sd, iv p6, iv v4, iv x6, iv (0 : Int32), iv x11, iv (0 : Int32), iv x16, iv (0 : Int32), .val r29, rv b31, rv b35, rv b40, rv b50, rv t__65, rv b31, lv q3, sd, lv q4, sd, iv (1 : Int32), iv x11]) rfl ?_
          show Steps p.tables e below (T65.setTop (mkF m 275 #[lv q1, sd, lv q2, sd, lv q3, sd, lv q4, sd, lv q5, sd, iv p6, iv v4, iv x6, iv (0 : Int32), iv x11, iv (0 : Int32), iv x16, iv (0 : Int32), .val r29, rv b31, rv b35, rv b40, rv b50, rv t__65, rv b31, lv q3, sd, lv q4, sd, iv (1 : Int32), iv x11] [])) t
          refine XS.aload X65.here hx rfl (hb hby at_275) rfl rfl ?_
          exact k)
        have f73 : n0 ≤ T65.heap.size := (Nat.le_trans f67 K65.1)
        obtain ⟨cq72, kq72, q72a, q72b, q72c⟩ := isOf hZ rfl (E_61.keep K65)
        obtain ⟨_, _, ⟨T72, L72, k72, n72⟩, -, X72, ⟨Lc72, hQ72, l72, y72, z72⟩, st72⟩ := X65.virtualBack hx (y := (⟨"com/example/usher/usher/core/Node", "data", "()[B"⟩ : MethodName)) (z := (⟨"com/example/usher/usher/core/Node", "data", "()[B"⟩ : MethodName)) hown (mvT hZ (hw _ (List.mem_of_getElem? (i := 146) rfl))) (mvT hZ (hw _ (List.mem_of_getElem? (i := 147) rfl))) (notFace_of_selects (args := #[]) (mvT hZ (hw _ (List.mem_of_getElem? (i := 149) rfl)))) (mvT hZ (hw _ (List.mem_of_getElem? (i := 149) rfl))) (mvT hZ (hw _ (List.mem_of_getElem? (i := 148) rfl))) (by decide) (backOf (W := 0) (rmdt l Z a0 hw [] b50 (.ref b31) T65.heap n0 f73 (G4_61.keep K65 nin0) rfl) hZ (hw _ (List.mem_of_getElem? (i := 150) rfl)) (hw _ (List.mem_of_getElem? (i := 29) rfl)) (by decide) (by decide)) q72a q72c (g := (mkF m 277 #[lv q1, sd, lv q2, sd, lv q3, sd, lv q4, sd, lv q5, sd, iv p6, iv v4, iv x6, iv (0 : Int32), iv x11, iv (0 : Int32), iv x16, iv (0 : Int32), .val r29, rv b31, rv b35, rv b40, rv b50, rv t__65, rv b31, lv q3, sd, lv q4, sd, iv (1 : Int32), iv x11] [(.ref b50)])) rfl (by rw [hml]; rfl) (Steps.refl _) (argsL := []) (rest := []) (lenOf pd_6 rfl) rfl (by show 2 * 0 + _ ≤ _; exact Nat.le_of_eq rfl) (hb hby at_277) (fun _ _ => ⟨rfl, rfl, (by decide : 8 + 0 ≤ _), (by decide : 45 + 0 ≤ _)⟩)
        dsimp only [Pt.U, Pt.locs, Pt.cells, Pt.slots] at X72 l72 y72 z72 st72 hQ72
        subst y72 z72
        obtain ⟨rfl, N72q, e72⟩ := hQ72
        have N72 : Fr n0 L72 := by rw [l72]; exact Fr.app N65 N72q
        have P74 : Rch p e below (s₁.setTop (entryFrame m #[(.long q1), (.long q2), (.long q3), (.long q4), (.long q5), (.int p6)] maxLocals)) (T72.setTop (mkF m 280 #[lv q1, sd, lv q2, sd, lv q3, sd, lv q4, sd, lv q5, sd, iv p6, iv v4, iv x6, iv (0 : Int32), iv x11, iv (0 : Int32), iv x16, iv (0 : Int32), .val r29, rv b31, rv b35, rv b40, rv b50, rv t__65, rv b31, lv q3, sd, lv q4, sd, iv (1 : Int32), iv x11] [(.ref b31)])) := fun t k => P71 t (st72.trans k)
        have P75 : Rch p e below (s₁.setTop (entryFrame m #[(.long q1), (.long q2), (.long q3), (.long q4), (.long q5), (.int p6)] maxLocals)) (T72.setTop (mkF m 287 #[lv q1, sd, lv q2, sd, lv q3, sd, lv q4, sd, lv q5, sd, iv p6, iv v4, iv x6, iv (0 : Int32), iv x11, iv (0 : Int32), iv x16, iv (0 : Int32), .val r29, rv b31, rv b35, rv b40, rv b50, rv t__65, rv b31, lv q3, sd, lv q4, sd, iv (1 : Int32), iv x11] [(.ref t__65)])) := fun t k => P74 t (by
          show Steps p.tables e below (T72.setTop (mkF m 280 #[lv q1, sd, lv q2, sd, lv q3, sd, lv q4, sd, lv q5, sd, iv p6, iv v4, iv x6, iv (0 : Int32), iv x11, iv (0 : Int32), iv x16, iv (0 : Int32), .val r29, rv b31, rv b35, rv b40, rv b50, rv t__65, rv b31, lv q3, sd, lv q4, sd, iv (1 : Int32), iv x11] [(.ref b31)])) t
          refine XS.aload X72.here hx rfl (hb hby at_280) rfl rfl ?_
          refine Jvm.RoadKit.acmp (g := (mkF m 282 #[lv q1, sd, lv q2, sd, lv q3, sd, lv q4, sd, lv q5, sd, iv p6, iv v4, iv x6, iv (0 : Int32), iv x11, iv (0 : Int32), iv x16, iv (0 : Int32), .val r29, rv b31, rv b35, rv b40, rv b50, rv t__65, rv b31, lv q3, sd, lv q4, sd, iv (1 : Int32), iv x11] [(.ref b31), (.ref b31)])) X72 hx rfl rfl rfl (pc0 := 282) (pc' := 285) (same := true) rfl (hb hby at_282) rfl (decide_eq_true (congrArg Value.ref rfl)) (by decide) (by decide) ?_
          refine XS.aload X72.here hx rfl (hb hby at_285) rfl rfl ?_
          exact k)
        obtain ⟨cq76, kq76, q76a, q76b, q76c⟩ := isOf hZ e72 Et_65
        obtain ⟨_, _, ⟨T76, L76, k76, n76⟩, -, X76, ⟨Lc76, hQ76, l76, y76, z76⟩, st76⟩ := X72.virtualBack hx (y := (⟨"com/example/usher/usher/protocol/Stat", "mzxid", "()J"⟩ : MethodName)) (z := (⟨"com/example/usher/usher/protocol/Stat", "mzxid", "()J"⟩ : MethodName)) hown (mvT hZ (hw _ (List.mem_of_getElem? (i := 151) rfl))) (mvT hZ (hw _ (List.mem_of_getElem? (i := 152) rfl))) (notFace_of_selects (args := #[]) (mvT hZ (hw _ (List.mem_of_getElem? (i := 154) rfl)))) (mvT hZ (hw _ (List.mem_of_getElem? (i := 154) rfl))) (mvT hZ (hw _ (List.mem_of_getElem? (i := 153) rfl))) (by decide) (backOf (W := 0) (rmG_mzxid l Z a0 hw [] t__65 q3 T65.heap n0 f73 G_mzxid_65) hZ (hw _ (List.mem_of_getElem? (i := 155) rfl)) (hw _ (List.mem_of_getElem? (i := 99) rfl)) (by decide) (by decide)) q76a q76c (g := (mkF m 287 #[lv q1, sd, lv q2, sd, lv q3, sd, lv q4, sd, lv q5, sd, iv p6, iv v4, iv x6, iv (0 : Int32), iv x11, iv (0 : Int32), iv x16, iv (0 : Int32), .val r29, rv b31, rv b35, rv b40, rv b50, rv t__65, rv b31, lv q3, sd, lv q4, sd, iv (1 : Int32), iv x11] [(.ref t__65)])) rfl (by rw [hml]; rfl) (Steps.refl _) (argsL := []) (rest := []) (lenOf pd_7 rfl) rfl (by show 2 * 0 + _ ≤ _; exact Nat.le_of_eq rfl) (hb hby at_287) (fun _ _ => ⟨rfl, e72, (by decide : 8 + 0 ≤ _), (by decide : 45 + 0 ≤ _)⟩)
        dsimp only [Pt.U, Pt.locs, Pt.cells, Pt.slots] at X76 l76 y76 z76 st76 hQ76
        subst y76 z76
        obtain ⟨rfl, N76q, e76⟩ := hQ76
        have N76 : Fr n0 L76 := by rw [l76]; exact Fr.app N72 N76q
        have P77 : Rch p e below (s₁.setTop (entryFrame m #[(.long q1), (.long q2), (.long q3), (.long q4), (.long q5), (.int p6)] maxLocals)) (T76.setTop (mkF m 290 #[lv q1, sd, lv q2, sd, lv q3, sd, lv q4, sd, lv q5, sd, iv p6, iv v4, iv x6, iv (0 : Int32), iv x11, iv (0 : Int32), iv x16, iv (0 : Int32), .val r29, rv b31, rv b35, rv b40, rv b50, rv t__65, rv b31, lv q3, sd, lv q4, sd, iv (1 : Int32), iv x11] [(.long q3)])) := fun t k => P75 t (st76.trans k)
        have P78 : Rch p e below (s₁.setTop (entryFrame m #[(.long q1), (.long q2), (.long q3), (.long q4), (.long q5), (.int p6)] maxLocals)) (T76.setTop (mkF m 298 #[lv q1, sd, lv q2, sd, lv q3, sd, lv q4, sd, lv q5, sd, iv p6, iv v4, iv x6, iv (0 : Int32), iv x11, iv (0 : Int32), iv x16, iv (0 : Int32), .val r29, rv b31, rv b35, rv b40, rv b50, rv t__65, rv b31, lv q3, sd, lv q4, sd, iv (1 : Int32), iv x11] [(.ref t__65)])) := fun t k => P77 t (by
          show Steps p.tables e below (T76.setTop (mkF m 290 #[lv q1, sd, lv q2, sd, lv q3, sd, lv q4, sd, lv q5, sd, iv p6, iv v4, iv x6, iv (0 : Int32), iv x11, iv (0 : Int32), iv x16, iv (0 : Int32), .val r29, rv b31, rv b35, rv b40, rv b50, rv t__65, rv b31, lv q3, sd, lv q4, sd, iv (1 : Int32), iv x11] [(.long q3)])) t
          refine XS.lload X76.here hx rfl (hb hby at_290) rfl ?_
          refine XS.lcmp X76.here hx rfl (hb hby at_292) rfl ?_
          refine XS.ifNo X76.here hx rfl (hb hby at_293) rfl ((if0 _ _).trans (teq ((lw_eq q3 q3).mpr rfl)).2) ?_
          show Steps p.tables e below (T76.setTop (mkF m 296 #[lv q1, sd, lv q2, sd, lv q3, sd, lv q4, sd, lv q5, sd, iv p6, iv v4, iv x6, iv (0 : Int32), iv x11, iv (0 : Int32), iv x16, iv (0 : Int32), .val r29, rv b31, rv b35, rv b40, rv b50, rv t__65, rv b31, lv q3, sd, lv q4, sd, iv (1 : Int32), iv x11] [])) t
          refine XS.aload X76.here hx rfl (hb hby at_296) rfl rfl ?_
          exact k)
        obtain ⟨cq79, kq79, q79a, q79b, q79c⟩ := isOf hZ e76 Et_65
        obtain ⟨_, _, ⟨T79, L79, k79, n79⟩, -, X79, ⟨Lc79, hQ79, l79, y79, z79⟩, st79⟩ := X76.virtualBack hx (y := (⟨"com/example/usher/usher/protocol/Stat", "mtime", "()J"⟩ : MethodName)) (z := (⟨"com/example/usher/usher/protocol/Stat", "mtime", "()J"⟩ : MethodName)) hown (mvT hZ (hw _ (List.mem_of_getElem? (i := 156) rfl))) (mvT hZ (hw _ (List.mem_of_getElem? (i := 157) rfl))) (notFace_of_selects (args := #[]) (mvT hZ (hw _ (List.mem_of_getElem? (i := 159) rfl)))) (mvT hZ (hw _ (List.mem_of_getElem? (i := 159) rfl))) (mvT hZ (hw _ (List.mem_of_getElem? (i := 158) rfl))) (by decide) (backOf (W := 0) (rmG_mtime l Z a0 hw [] t__65 q4 T65.heap n0 f73 G_mtime_65) hZ (hw _ (List.mem_of_getElem? (i := 160) rfl)) (hw _ (List.mem_of_getElem? (i := 99) rfl)) (by decide) (by decide)) q79a q79c (g := (mkF m 298 #[lv q1, sd, lv q2, sd, lv q3, sd, lv q4, sd, lv q5, sd, iv p6, iv v4, iv x6, iv (0 : Int32), iv x11, iv (0 : Int32), iv x16, iv (0 : Int32), .val r29, rv b31, rv b35, rv b40, rv b50, rv t__65, rv b31, lv q3, sd, lv q4, sd, iv (1 : Int32), iv x11] [(.ref t__65)])) rfl (by rw [hml]; rfl) (Steps.refl _) (argsL := []) (rest := []) (lenOf pd_7 rfl) rfl (by show 2 * 0 + _ ≤ _; exact Nat.le_of_eq rfl) (hb hby at_298) (fun _ _ => ⟨rfl, e76, (by decide : 8 + 0 ≤ _), (by decide : 45 + 0 ≤ _)⟩)
        dsimp only [Pt.U, Pt.locs, Pt.cells, Pt.slots] at X79 l79 y79 z79 st79 hQ79
        subst y79 z79
        obtain ⟨rfl, N79q, e79⟩ := hQ79
        have N79 : Fr n0 L79 := by rw [l79]; exact Fr.app N76 N79q
        have P80 : Rch p e below (s₁.setTop (entryFrame m #[(.long q1), (.long q2), (.long q3), (.long q4), (.long q5), (.int p6)] maxLocals)) (T79.setTop (mkF m 301 #[lv q1, sd, lv q2, sd, lv q3, sd, lv q4, sd, lv q5, sd, iv p6, iv v4, iv x6, iv (0 : Int32), iv x11, iv (0 : Int32), iv x16, iv (0 : Int32), .val r29, rv b31, rv b35, rv b40, rv b50, rv t__65, rv b31, lv q3, sd, lv q4, sd, iv (1 : Int32), iv x11] [(.long q4)])) := fun t k => P78 t (st79.trans k)
        have P81 : Rch p e below (s₁.setTop (entryFrame m #[(.long q1), (.long q2), (.long q3), (.long q4), (.long q5), (.int p6)] maxLocals)) (T79.setTop (mkF m 309 #[lv q1, sd, lv q2, sd, lv q3, sd, lv q4, sd, lv q5, sd, iv p6, iv v4, iv x6, iv (0 : Int32), iv x11, iv (0 : Int32), iv x16, iv (0 : Int32), .val r29, rv b31, rv b35, rv b40, rv b50, rv t__65, rv b31, lv q3, sd, lv q4, sd, iv (1 : Int32), iv x11] [(.ref t__65)])) := fun t k => P80 t (by
          show Steps p.tables e below (T79.setTop (mkF m 301 #[lv q1, sd, lv q2, sd, lv q3, sd, lv q4, sd, lv q5, sd, iv p6, iv v4, iv x6, iv (0 : Int32), iv x11, iv (0 : Int32), iv x16, iv (0 : Int32), .val r29, rv b31, rv b35, rv b40, rv b50, rv t__65, rv b31, lv q3, sd, lv q4, sd, iv (1 : Int32), iv x11] [(.long q4)])) t
          refine XS.lload X79.here hx rfl (hb hby at_301) rfl ?_
          refine XS.lcmp X79.here hx rfl (hb hby at_303) rfl ?_
          refine XS.ifNo X79.here hx rfl (hb hby at_304) rfl ((if0 _ _).trans (teq ((lw_eq q4 q4).mpr rfl)).2) ?_
          show Steps p.tables e below (T79.setTop (mkF m 307 #[lv q1, sd, lv q2, sd, lv q3, sd, lv q4, sd, lv q5, sd, iv p6, iv v4, iv x6, iv (0 : Int32), iv x11, iv (0 : Int32), iv x16, iv (0 : Int32), .val r29, rv b31, rv b35, rv b40, rv b50, rv t__65, rv b31, lv q3, sd, lv q4, sd, iv (1 : Int32), iv x11] [])) t
          refine XS.aload X79.here hx rfl (hb hby at_307) rfl rfl ?_
          exact k)
        obtain ⟨cq82, kq82, q82a, q82b, q82c⟩ := isOf hZ e79 Et_65
        obtain ⟨_, _, ⟨T82, L82, k82, n82⟩, -, X82, ⟨Lc82, hQ82, l82, y82, z82⟩, st82⟩ := X79.virtualBack hx (y := (⟨"com/example/usher/usher/protocol/Stat", "version", "()I"⟩ : MethodName)) (z := (⟨"com/example/usher/usher/protocol/Stat", "version", "()I"⟩ : MethodName)) hown (mvT hZ (hw _ (List.mem_of_getElem? (i := 161) rfl))) (mvT hZ (hw _ (List.mem_of_getElem? (i := 162) rfl))) (notFace_of_selects (args := #[]) (mvT hZ (hw _ (List.mem_of_getElem? (i := 164) rfl)))) (mvT hZ (hw _ (List.mem_of_getElem? (i := 164) rfl))) (mvT hZ (hw _ (List.mem_of_getElem? (i := 163) rfl))) (by decide) (backOf (W := 0) (rmG_version l Z a0 hw [] t__65 ((0 : Int32) + (1 : Int32)) T65.heap n0 f73 G_version_65) hZ (hw _ (List.mem_of_getElem? (i := 165) rfl)) (hw _ (List.mem_of_getElem? (i := 99) rfl)) (by decide) (by decide)) q82a q82c (g := (mkF m 309 #[lv q1, sd, lv q2, sd, lv q3, sd, lv q4, sd, lv q5, sd, iv p6, iv v4, iv x6, iv (0 : Int32), iv x11, iv (0 : Int32), iv x16, iv (0 : Int32), .val r29, rv b31, rv b35, rv b40, rv b50, rv t__65, rv b31, lv q3, sd, lv q4, sd, iv (1 : Int32), iv x11] [(.ref t__65)])) rfl (by rw [hml]; rfl) (Steps.refl _) (argsL := []) (rest := []) (lenOf pd_1 rfl) rfl (by show 2 * 0 + _ ≤ _; exact Nat.le_of_eq rfl) (hb hby at_309) (fun _ _ => ⟨rfl, e79, (by decide : 8 + 0 ≤ _), (by decide : 45 + 0 ≤ _)⟩)
        dsimp only [Pt.U, Pt.locs, Pt.cells, Pt.slots] at X82 l82 y82 z82 st82 hQ82
        subst y82 z82
        obtain ⟨rfl, N82q, e82⟩ := hQ82
        have N82 : Fr n0 L82 := by rw [l82]; exact Fr.app N79 N82q
        have P83 : Rch p e below (s₁.setTop (entryFrame m #[(.long q1), (.long q2), (.long q3), (.long q4), (.long q5), (.int p6)] maxLocals)) (T82.setTop (mkF m 312 #[lv q1, sd, lv q2, sd, lv q3, sd, lv q4, sd, lv q5, sd, iv p6, iv v4, iv x6, iv (0 : Int32), iv x11, iv (0 : Int32), iv x16, iv (0 : Int32), .val r29, rv b31, rv b35, rv b40, rv b50, rv t__65, rv b31, lv q3, sd, lv q4, sd, iv (1 : Int32), iv x11] [(.int ((0 : Int32) + (1 : Int32)))])) := fun t k => P81 t (st82.trans k)
        obtain ⟨x84, hx84⟩ : ∃ z : Int32, z = ((0 : Int32) + (1 : Int32)) := ⟨_, rfl⟩
        rw [← hx84] at P83
        have P85 : Rch p e below (s₁.setTop (entryFrame m #[(.long q1), (.long q2), (.long q3), (.long q4), (.long q5), (.int p6)] maxLocals)) (T82.setTop (mkF m 314 #[lv q1, sd, lv q2, sd, lv q3, sd, lv q4, sd, lv q5, sd, iv p6, iv v4, iv x6, iv (0 : Int32), iv x11, iv (0 : Int32), iv x16, iv (0 : Int32), .val r29, rv b31, rv b35, rv b40, rv b50, rv t__65, rv b31, lv q3, sd, lv q4, sd, iv (1 : Int32), iv x11] [(.int (1 : Int32)), (.int x84)])) := fun t k => P83 t (by
          show Steps p.tables e below (T82.setTop (mkF m 312 #[lv q1, sd, lv q2, sd, lv q3, sd, lv q4, sd, lv q5, sd, iv p6, iv v4, iv x6, iv (0 : Int32), iv x11, iv (0 : Int32), iv x16, iv (0 : Int32), .val r29, rv b31, rv b35, rv b40, rv b50, rv t__65, rv b31, lv q3, sd, lv q4, sd, iv (1 : Int32), iv x11] [(.int x84)])) t
          refine XS.iload X82.here hx rfl (hb hby at_312) rfl ?_
          exact k)
        have hvq : x84 = (1 : Int32) := by rw [hx84]; decide
        have P86 : Rch p e below (s₁.setTop (entryFrame m #[(.long q1), (.long q2), (.long q3), (.long q4), (.long q5), (.int p6)] maxLocals)) (T82.setTop (mkF m 319 #[lv q1, sd, lv q2, sd, lv q3, sd, lv q4, sd, lv q5, sd, iv p6, iv v4, iv x6, iv (0 : Int32), iv x11, iv (0 : Int32), iv x16, iv (0 : Int32), .val r29, rv b31, rv b35, rv b40, rv b50, rv t__65, rv b31, lv q3, sd, lv q4, sd, iv (1 : Int32), iv x11] [(.ref t__65)])) := fun t k => P85 t (by
          show Steps p.tables e below (T82.setTop (mkF m 314 #[lv q1, sd, lv q2, sd, lv q3, sd, lv q4, sd, lv q5, sd, iv p6, iv v4, iv x6, iv (0 : Int32), iv x11, iv (0 : Int32), iv x16, iv (0 : Int32), .val r29, rv b31, rv b35, rv b40, rv b50, rv t__65, rv b31, lv q3, sd, lv q4, sd, iv (1 : Int32), iv x11] [(.int (1 : Int32)), (.int x84)])) t
          refine XS.icmpNo X82.here hx rfl (hb hby at_314) rfl (teq hvq).2 ?_
          refine XS.aload X82.here hx rfl (hb hby at_317) rfl rfl ?_
          exact k)
        obtain ⟨cq87, kq87, q87a, q87b, q87c⟩ := isOf hZ e82 Et_65
        obtain ⟨_, _, ⟨T87, L87, k87, n87⟩, -, X87, ⟨Lc87, hQ87, l87, y87, z87⟩, st87⟩ := X82.virtualBack hx (y := (⟨"com/example/usher/usher/protocol/Stat", "dataLength", "()I"⟩ : MethodName)) (z := (⟨"com/example/usher/usher/protocol/Stat", "dataLength", "()I"⟩ : MethodName)) hown (mvT hZ (hw _ (List.mem_of_getElem? (i := 166) rfl))) (mvT hZ (hw _ (List.mem_of_getElem? (i := 167) rfl))) (notFace_of_selects (args := #[]) (mvT hZ (hw _ (List.mem_of_getElem? (i := 169) rfl)))) (mvT hZ (hw _ (List.mem_of_getElem? (i := 169) rfl))) (mvT hZ (hw _ (List.mem_of_getElem? (i := 168) rfl))) (by decide) (backOf (W := 0) (rmG_dataLength l Z a0 hw [] t__65 x11 T65.heap n0 f73 G_dataLength_65) hZ (hw _ (List.mem_of_getElem? (i := 170) rfl)) (hw _ (List.mem_of_getElem? (i := 99) rfl)) (by decide) (by decide)) q87a q87c (g := (mkF m 319 #[lv q1, sd, lv q2, sd, lv q3, sd, lv q4, sd, lv q5, sd, iv p6, iv v4, iv x6, iv (0 : Int32), iv x11, iv (0 : Int32), iv x16, iv (0 : Int32), .val r29, rv b31, rv b35, rv b40, rv b50, rv t__65, rv b31, lv q3, sd, lv q4, sd, iv (1 : Int32), iv x11] [(.ref t__65)])) rfl (by rw [hml]; rfl) (Steps.refl _) (argsL := []) (rest := []) (lenOf pd_1 rfl) rfl (by show 2 * 0 + _ ≤ _; exact Nat.le_of_eq rfl) (hb hby at_319) (fun _ _ => ⟨rfl, e82, (by decide : 8 + 0 ≤ _), (by decide : 45 + 0 ≤ _)⟩)
        dsimp only [Pt.U, Pt.locs, Pt.cells, Pt.slots] at X87 l87 y87 z87 st87 hQ87
        subst y87 z87
        obtain ⟨rfl, N87q, e87⟩ := hQ87
        have N87 : Fr n0 L87 := by rw [l87]; exact Fr.app N82 N87q
        have P88 : Rch p e below (s₁.setTop (entryFrame m #[(.long q1), (.long q2), (.long q3), (.long q4), (.long q5), (.int p6)] maxLocals)) (T87.setTop (mkF m 322 #[lv q1, sd, lv q2, sd, lv q3, sd, lv q4, sd, lv q5, sd, iv p6, iv v4, iv x6, iv (0 : Int32), iv x11, iv (0 : Int32), iv x16, iv (0 : Int32), .val r29, rv b31, rv b35, rv b40, rv b50, rv t__65, rv b31, lv q3, sd, lv q4, sd, iv (1 : Int32), iv x11] [(.int x11)])) := fun t k => P86 t (st87.trans k)
        have P89 : Rch p e below (s₁.setTop (entryFrame m #[(.long q1), (.long q2), (.long q3), (.long q4), (.long q5), (.int p6)] maxLocals)) (T87.setTop (mkF m 329 #[lv q1, sd, lv q2, sd, lv q3, sd, lv q4, sd, lv q5, sd, iv p6, iv v4, iv x6, iv (0 : Int32), iv x11, iv (0 : Int32), iv x16, iv (0 : Int32), .val r29, rv b31, rv b35, rv b40, rv b50, rv t__65, rv b31, lv q3, sd, lv q4, sd, iv (1 : Int32), iv x11] [(.ref t__65)])) := fun t k => P88 t (by
          show Steps p.tables e below (T87.setTop (mkF m 322 #[lv q1, sd, lv q2, sd, lv q3, sd, lv q4, sd, lv q5, sd, iv p6, iv v4, iv x6, iv (0 : Int32), iv x11, iv (0 : Int32), iv x16, iv (0 : Int32), .val r29, rv b31, rv b35, rv b40, rv b50, rv t__65, rv b31, lv q3, sd, lv q4, sd, iv (1 : Int32), iv x11] [(.int x11)])) t
          refine XS.iload X87.here hx rfl (hb hby at_322) rfl ?_
          refine XS.icmpNo X87.here hx rfl (hb hby at_324) rfl (teq rfl).2 ?_
          refine XS.aload X87.here hx rfl (hb hby at_327) rfl rfl ?_
          exact k)
        obtain ⟨cq90, kq90, q90a, q90b, q90c⟩ := isOf hZ e87 Et_65
        obtain ⟨_, _, ⟨T90, L90, k90, n90⟩, -, X90, ⟨Lc90, hQ90, l90, y90, z90⟩, st90⟩ := X87.virtualBack hx (y := (⟨"com/example/usher/usher/protocol/Stat", "pzxid", "()J"⟩ : MethodName)) (z := (⟨"com/example/usher/usher/protocol/Stat", "pzxid", "()J"⟩ : MethodName)) hown (mvT hZ (hw _ (List.mem_of_getElem? (i := 171) rfl))) (mvT hZ (hw _ (List.mem_of_getElem? (i := 172) rfl))) (notFace_of_selects (args := #[]) (mvT hZ (hw _ (List.mem_of_getElem? (i := 174) rfl)))) (mvT hZ (hw _ (List.mem_of_getElem? (i := 174) rfl))) (mvT hZ (hw _ (List.mem_of_getElem? (i := 173) rfl))) (by decide) (backOf (W := 0) (rmG_pzxid l Z a0 hw [] t__65 q1 T65.heap n0 f73 G_pzxid_65) hZ (hw _ (List.mem_of_getElem? (i := 175) rfl)) (hw _ (List.mem_of_getElem? (i := 99) rfl)) (by decide) (by decide)) q90a q90c (g := (mkF m 329 #[lv q1, sd, lv q2, sd, lv q3, sd, lv q4, sd, lv q5, sd, iv p6, iv v4, iv x6, iv (0 : Int32), iv x11, iv (0 : Int32), iv x16, iv (0 : Int32), .val r29, rv b31, rv b35, rv b40, rv b50, rv t__65, rv b31, lv q3, sd, lv q4, sd, iv (1 : Int32), iv x11] [(.ref t__65)])) rfl (by rw [hml]; rfl) (Steps.refl _) (argsL := []) (rest := []) (lenOf pd_7 rfl) rfl (by show 2 * 0 + _ ≤ _; exact Nat.le_of_eq rfl) (hb hby at_329) (fun _ _ => ⟨rfl, e87, (by decide : 8 + 0 ≤ _), (by decide : 45 + 0 ≤ _)⟩)
        dsimp only [Pt.U, Pt.locs, Pt.cells, Pt.slots] at X90 l90 y90 z90 st90 hQ90
        subst y90 z90
        obtain ⟨rfl, N90q, e90⟩ := hQ90
        have N90 : Fr n0 L90 := by rw [l90]; exact Fr.app N87 N90q
        have P91 : Rch p e below (s₁.setTop (entryFrame m #[(.long q1), (.long q2), (.long q3), (.long q4), (.long q5), (.int p6)] maxLocals)) (T90.setTop (mkF m 332 #[lv q1, sd, lv q2, sd, lv q3, sd, lv q4, sd, lv q5, sd, iv p6, iv v4, iv x6, iv (0 : Int32), iv x11, iv (0 : Int32), iv x16, iv (0 : Int32), .val r29, rv b31, rv b35, rv b40, rv b50, rv t__65, rv b31, lv q3, sd, lv q4, sd, iv (1 : Int32), iv x11] [(.long q1)])) := fun t k => P89 t (st90.trans k)
        have P92 : Rch p e below (s₁.setTop (entryFrame m #[(.long q1), (.long q2), (.long q3), (.long q4), (.long q5), (.int p6)] maxLocals)) (T90.setTop (mkF m 339 #[lv q1, sd, lv q2, sd, lv q3, sd, lv q4, sd, lv q5, sd, iv p6, iv v4, iv x6, iv (0 : Int32), iv x11, iv (0 : Int32), iv x16, iv (0 : Int32), .val r29, rv b31, rv b35, rv b40, rv b50, rv t__65, rv b31, lv q3, sd, lv q4, sd, iv (1 : Int32), iv x11] [(.ref t__65)])) := fun t k => P91 t (by
          show Steps p.tables e below (T90.setTop (mkF m 332 #[lv q1, sd, lv q2, sd, lv q3, sd, lv q4, sd, lv q5, sd, iv p6, iv v4, iv x6, iv (0 : Int32), iv x11, iv (0 : Int32), iv x16, iv (0 : Int32), .val r29, rv b31, rv b35, rv b40, rv b50, rv t__65, rv b31, lv q3, sd, lv q4, sd, iv (1 : Int32), iv x11] [(.long q1)])) t
          refine XS.lloadN X90.here hx rfl (hb hby at_332) rfl ?_
          refine XS.lcmp X90.here hx rfl (hb hby at_333) rfl ?_
          refine XS.ifNo X90.here hx rfl (hb hby at_334) rfl ((if0 _ _).trans (teq ((lw_eq q1 q1).mpr rfl)).2) ?_
          show Steps p.tables e below (T90.setTop (mkF m 337 #[lv q1, sd, lv q2, sd, lv q3, sd, lv q4, sd, lv q5, sd, iv p6, iv v4, iv x6, iv (0 : Int32), iv x11, iv (0 : Int32), iv x16, iv (0 : Int32), .val r29, rv b31, rv b35, rv b40, rv b50, rv t__65, rv b31, lv q3, sd, lv q4, sd, iv (1 : Int32), iv x11] [])) t
          refine XS.aload X90.here hx rfl (hb hby at_337) rfl rfl ?_
          exact k)
        obtain ⟨cq93, kq93, q93a, q93b, q93c⟩ := isOf hZ e90 Et_65
        obtain ⟨_, _, ⟨T93, L93, k93, n93⟩, -, X93, ⟨Lc93, hQ93, l93, y93, z93⟩, st93⟩ := X90.virtualBack hx (y := (⟨"com/example/usher/usher/protocol/Stat", "ctime", "()J"⟩ : MethodName)) (z := (⟨"com/example/usher/usher/protocol/Stat", "ctime", "()J"⟩ : MethodName)) hown (mvT hZ (hw _ (List.mem_of_getElem? (i := 176) rfl))) (mvT hZ (hw _ (List.mem_of_getElem? (i := 177) rfl))) (notFace_of_selects (args := #[]) (mvT hZ (hw _ (List.mem_of_getElem? (i := 179) rfl)))) (mvT hZ (hw _ (List.mem_of_getElem? (i := 179) rfl))) (mvT hZ (hw _ (List.mem_of_getElem? (i := 178) rfl))) (by decide) (backOf (W := 0) (rmG_ctime l Z a0 hw [] t__65 q2 T65.heap n0 f73 G_ctime_65) hZ (hw _ (List.mem_of_getElem? (i := 180) rfl)) (hw _ (List.mem_of_getElem? (i := 99) rfl)) (by decide) (by decide)) q93a q93c (g := (mkF m 339 #[lv q1, sd, lv q2, sd, lv q3, sd, lv q4, sd, lv q5, sd, iv p6, iv v4, iv x6, iv (0 : Int32), iv x11, iv (0 : Int32), iv x16, iv (0 : Int32), .val r29, rv b31, rv b35, rv b40, rv b50, rv t__65, rv b31, lv q3, sd, lv q4, sd, iv (1 : Int32), iv x11] [(.ref t__65)])) rfl (by rw [hml]; rfl) (Steps.refl _) (argsL := []) (rest := []) (lenOf pd_7 rfl) rfl (by show 2 * 0 + _ ≤ _; exact Nat.le_of_eq rfl) (hb hby at_339) (fun _ _ => ⟨rfl, e90, (by decide : 8 + 0 ≤ _), (by decide : 45 + 0 ≤ _)⟩)
        dsimp only [Pt.U, Pt.locs, Pt.cells, Pt.slots] at X93 l93 y93 z93 st93 hQ93
        subst y93 z93
        obtain ⟨rfl, N93q, e93⟩ := hQ93
        have N93 : Fr n0 L93 := by rw [l93]; exact Fr.app N90 N93q
        have P94 : Rch p e below (s₁.setTop (entryFrame m #[(.long q1), (.long q2), (.long q3), (.long q4), (.long q5), (.int p6)] maxLocals)) (T93.setTop (mkF m 342 #[lv q1, sd, lv q2, sd, lv q3, sd, lv q4, sd, lv q5, sd, iv p6, iv v4, iv x6, iv (0 : Int32), iv x11, iv (0 : Int32), iv x16, iv (0 : Int32), .val r29, rv b31, rv b35, rv b40, rv b50, rv t__65, rv b31, lv q3, sd, lv q4, sd, iv (1 : Int32), iv x11] [(.long q2)])) := fun t k => P92 t (st93.trans k)
        have P95 : Rch p e below (s₁.setTop (entryFrame m #[(.long q1), (.long q2), (.long q3), (.long q4), (.long q5), (.int p6)] maxLocals)) (T93.setTop (mkF m 352 #[lv q1, sd, lv q2, sd, lv q3, sd, lv q4, sd, lv q5, sd, iv p6, iv v4, iv x6, iv (0 : Int32), iv x11, iv (0 : Int32), iv x16, iv (0 : Int32), .val r29, rv b31, rv b35, rv b40, rv b50, rv t__65, rv b31, lv q3, sd, lv q4, sd, iv (1 : Int32), iv x11] [(.int (1 : Int32))])) := fun t k => P94 t (by
          show Steps p.tables e below (T93.setTop (mkF m 342 #[lv q1, sd, lv q2, sd, lv q3, sd, lv q4, sd, lv q5, sd, iv p6, iv v4, iv x6, iv (0 : Int32), iv x11, iv (0 : Int32), iv x16, iv (0 : Int32), .val r29, rv b31, rv b35, rv b40, rv b50, rv t__65, rv b31, lv q3, sd, lv q4, sd, iv (1 : Int32), iv x11] [(.long q2)])) t
          refine XS.lloadN X93.here hx rfl (hb hby at_342) rfl ?_
          refine XS.lcmp X93.here hx rfl (hb hby at_343) rfl ?_
          refine XS.ifNo X93.here hx rfl (hb hby at_344) rfl ((if0 _ _).trans (teq ((lw_eq q2 q2).mpr rfl)).2) ?_
          show Steps p.tables e below (T93.setTop (mkF m 347 #[lv q1, sd, lv q2, sd, lv q3, sd, lv q4, sd, lv q5, sd, iv p6, iv v4, iv x6, iv (0 : Int32), iv x11, iv (0 : Int32), iv x16, iv (0 : Int32), .val r29, rv b31, rv b35, rv b40, rv b50, rv t__65, rv b31, lv q3, sd, lv q4, sd, iv (1 : Int32), iv x11] [])) t
          refine XS.iconst X93.here hx rfl (hb hby at_347) ?_
          refine XS.goto X93.here hx rfl (pc0 := 348) (pc' := 352) rfl (hb hby at_348) (by decide) (by decide) ?_
          exact k)
        obtain ⟨fs, hr, hrun, hended, hW, hsame⟩ := X93.leave (v := some (.int (1 : Int32))) (fun h => by rw [Bd.returns] at h; cases h)
        refine ⟨_, _, P95 _ ?_, hrun, hended, _, _, rfl, ?_, ⟨_, rfl⟩, hW, hsame.mono (by decide) (by decide)⟩
        · exact retN X93 hx (t := .boolean) Bd.returns (by simp) (hb hby at_352) hr
        · show Q_rm0 Z q1 q2 q3 q4 q5 p6 aD h0 n0 _ T93.heap _
          rw [e93]
          exact ⟨rfl, N93⟩
      · have P96 : Rch p e below (s₁.setTop (entryFrame m #[(.long q1), (.long q2), (.long q3), (.long q4), (.long q5), (.int p6)] maxLocals)) (s₁.setTop (mkF m 87 #[lv q1, sd, lv q2, sd, lv q3, sd, lv q4, sd, lv q5, sd, iv p6, iv v4, iv x6, iv (0 : Int32), iv x11, iv (0 : Int32), iv x16, iv (1 : Int32), un, un, un, un, un, un, un, un, un, un, un, un, un] [(.int v4)])) := fun t k => P19 t (by
          show Steps p.tables e below (s₁.setTop (mkF m 75 #[lv q1, sd, lv q2, sd, lv q3, sd, lv q4, sd, lv q5, sd, iv p6, iv v4, iv x6, iv (0 : Int32), iv x11, iv (0 : Int32), iv x16, un, un, un, un, un, un, un, un, un, un, un, un, un, un] [(.int x18)])) t
          refine XS.ifNo X0.here hx rfl (hb hby at_75) rfl ((if0 _ _).trans (feq c20).1) ?_
          refine XS.iconst X0.here hx rfl (hb hby at_78) ?_
          refine XS.goto X0.here hx rfl (pc0 := 79) (pc' := 83) rfl (hb hby at_79) (by decide) (by decide) ?_
          show Steps p.tables e below (s₁.setTop (mkF m 83 #[lv q1, sd, lv q2, sd, lv q3, sd, lv q4, sd, lv q5, sd, iv p6, iv v4, iv x6, iv (0 : Int32), iv x11, iv (0 : Int32), iv x16, un, un, un, un, un, un, un, un, un, un, un, un, un, un] [(.int (1 : Int32))])) t
          refine XS.istore X0.here hx rfl (hb hby at_83) rfl (l' := #[lv q1, sd, lv q2, sd, lv q3, sd, lv q4, sd, lv q5, sd, iv p6, iv v4, iv x6, iv (0 : Int32), iv x11, iv (0 : Int32), iv x16, iv (1 : Int32), un, un, un, un, un, un, un, un, un, un, un, un, un]) rfl ?_
          refine XS.iload X0.here hx rfl (hb hby at_85) rfl ?_
          exact k)
        obtain ⟨T97, L97, h97, r104, X97, e97, N97, Z97, K97, hr104, P97⟩ : ∃ (T97 : State) (L97 : List Loc) (h97 : Heap) (r104 : Value), Stand p l e room_1 s m #[(.long q1), (.long q2), (.long q3), (.long q4), (.long q5), (.int p6)] below meth c T97 L97 1 3 ∧ T97.heap = h97 ∧ Fr n0 L97 ∧ n0 ≤ h97.size ∧ Keep h0 h97 [] ∧ r104.isRef = true ∧ Rch p e below (s₁.setTop (entryFrame m #[(.long q1), (.long q2), (.long q3), (.long q4), (.long q5), (.int p6)] maxLocals)) (T97.setTop (mkF m 98 #[lv q1, sd, lv q2, sd, lv q3, sd, lv q4, sd, lv q5, sd, iv p6, iv v4, iv x6, iv (0 : Int32), iv x11, iv (0 : Int32), iv x16, iv (1 : Int32), un, un, un, un, un, un, un, un, un, un, un, un, un] [r104])) := by
          by_cases c98 : v4 = (0 : Int32)
          · have P99 : Rch p e below (s₁.setTop (entryFrame m #[(.long q1), (.long q2), (.long q3), (.long q4), (.long q5), (.int p6)] maxLocals)) (s₁.setTop (mkF m 96 #[lv q1, sd, lv q2, sd, lv q3, sd, lv q4, sd, lv q5, sd, iv p6, iv v4, iv x6, iv (0 : Int32), iv x11, iv (0 : Int32), iv x16, iv (1 : Int32), un, un, un, un, un, un, un, un, un, un, un, un, un] [(.int x6)])) := fun t k => P96 t (by
              show Steps p.tables e below (s₁.setTop (mkF m 87 #[lv q1, sd, lv q2, sd, lv q3, sd, lv q4, sd, lv q5, sd, iv p6, iv v4, iv x6, iv (0 : Int32), iv x11, iv (0 : Int32), iv x16, iv (1 : Int32), un, un, un, un, un, un, un, un, un, un, un, un, un] [(.int v4)])) t
              refine XS.ifYes X0.here hx rfl (pc0 := 87) (pc' := 94) rfl (hb hby at_87) rfl ((if0 _ _).trans (teq c98).1) (by decide) (by decide) ?_
              refine XS.iload X0.here hx rfl (hb hby at_94) rfl ?_
              exact k)
            have hm96 := own_m3 _ hx6
            obtain ⟨T100, h100, k100, X100, e100, E100, A100, st100⟩ := newP X0 hx hZ (hw _ (List.mem_of_getElem? (i := 0) rfl)) e0 (g := (mkF m 96 #[lv q1, sd, lv q2, sd, lv q3, sd, lv q4, sd, lv q5, sd, iv p6, iv v4, iv x6, iv (0 : Int32), iv x11, iv (0 : Int32), iv x16, iv (1 : Int32), un, un, un, un, un, un, un, un, un, un, un, un, un] [(.int x6)])) rfl (hb hby at_96) rfl hm96.1 (cap := 3) hm96.2 (by decide) (by decide) (by decide)
            obtain ⟨b100, g100⟩ : ∃ z, z = h0.size := ⟨_, rfl⟩
            rw [← g100] at A100 st100
            have g_b100 : n0 ≤ b100 := Nat.le_trans Z0 (Nat.le_of_eq g100.symm)
            have sz_b100 : h0.size ≤ b100 := Nat.le_trans (Keep.refl h0 []).1 (Nat.le_of_eq g100.symm)
            have szj_b100 : h0.size ≤ b100 := Nat.le_trans (Keep.refl h0 []).1 (Nat.le_of_eq g100.symm)
            have V100 : Arv Z h100 b100 k100 .byte x6 [] (.int (0 : Int32)) := Arv.new A100 hm96.1
            have P101 : Rch p e below (s₁.setTop (entryFrame m #[(.long q1), (.long q2), (.long q3), (.long q4), (.long q5), (.int p6)] maxLocals)) (T100.setTop (mkF m 98 #[lv q1, sd, lv q2, sd, lv q3, sd, lv q4, sd, lv q5, sd, iv p6, iv v4, iv x6, iv (0 : Int32), iv x11, iv (0 : Int32), iv x16, iv (1 : Int32), un, un, un, un, un, un, un, un, un, un, un, un, un] [(.ref b100)])) := fun t k => P99 t (st100 t k)
            have f102 : n0 ≤ h100.size := (Nat.le_trans Z0 E100.1)
            exact ⟨T100, _, h100, (.ref b100), X100, e100, N0, f102, ((Keep.refl h0 []).ext E100), rfl, P101⟩
          · have P103 : Rch p e below (s₁.setTop (entryFrame m #[(.long q1), (.long q2), (.long q3), (.long q4), (.long q5), (.int p6)] maxLocals)) (s₁.setTop (mkF m 98 #[lv q1, sd, lv q2, sd, lv q3, sd, lv q4, sd, lv q5, sd, iv p6, iv v4, iv x6, iv (0 : Int32), iv x11, iv (0 : Int32), iv x16, iv (1 : Int32), un, un, un, un, un, un, un, un, un, un, un, un, un] [.null])) := fun t k => P96 t (by
              show Steps p.tables e below (s₁.setTop (mkF m 87 #[lv q1, sd, lv q2, sd, lv q3, sd, lv q4, sd, lv q5, sd, iv p6, iv v4, iv x6, iv (0 : Int32), iv x11, iv (0 : Int32), iv x16, iv (1 : Int32), un, un, un, un, un, un, un, un, un, un, un, un, un] [(.int v4)])) t
              refine XS.ifNo X0.here hx rfl (hb hby at_87) rfl ((if0 _ _).trans (feq c98).1) ?_
              refine XS.aconstNull X0.here hx rfl (hb hby at_90) ?_
              refine XS.goto X0.here hx rfl (pc0 := 91) (pc' := 98) rfl (hb hby at_91) (by decide) (by decide) ?_
              exact k)
            exact ⟨s₁, _, h0, .null, (own_more X0 (by decide) (by decide)), e0, N0, Z0, (Keep.refl h0 []), rfl, P103⟩
        have P105 : Rch p e below (s₁.setTop (entryFrame m #[(.long q1), (.long q2), (.long q3), (.long q4), (.long q5), (.int p6)] maxLocals)) (T97.setTop (mkF m 111 #[lv q1, sd, lv q2, sd, lv q3, sd, lv q4, sd, lv q5, sd, iv p6, iv v4, iv x6, iv (0 : Int32), iv x11, iv (0 : Int32), iv x16, iv (1 : Int32), .val r104, un, un, un, un, un, un, un, un, un, un, un, un] [(.int x11)])) := fun t k => P97 t (by
          show Steps p.tables e below (T97.setTop (mkF m 98 #[lv q1, sd, lv q2, sd, lv q3, sd, lv q4, sd, lv q5, sd, iv p6, iv v4, iv x6, iv (0 : Int32), iv x11, iv (0 : Int32), iv x16, iv (1 : Int32), un, un, un, un, un, un, un, un, un, un, un, un, un] [r104])) t
          refine XS.astore X97.here hx rfl (hb hby at_98) rfl hr104 (l' := #[lv q1, sd, lv q2, sd, lv q3, sd, lv q4, sd, lv q5, sd, iv p6, iv v4, iv x6, iv (0 : Int32), iv x11, iv (0 : Int32), iv x16, iv (1 : Int32), .val r104, un, un, un, un, un, un, un, un, un, un, un, un]) (by rcases ref_cases hr104 with q_ | ⟨_, q_⟩ <;> rw [q_] <;> rfl) ?_
          refine XS.iload X97.here hx rfl (hb hby at_100) rfl ?_
          refine XS.ifYes X97.here hx rfl (pc0 := 102) (pc' := 109) rfl (hb hby at_102) rfl ((if0 _ _).trans (teq (by decide)).1) (by decide) (by decide) ?_
          show Steps p.tables e below (T97.setTop (mkF m 109 #[lv q1, sd, lv q2, sd, lv q3, sd, lv q4, sd, lv q5, sd, iv p6, iv v4, iv x6, iv (0 : Int32), iv x11, iv (0 : Int32), iv x16, iv (1 : Int32), .val r104, un, un, un, un, un, un, un, un, un, un, un, un] [])) t
          refine XS.iload X97.here hx rfl (hb hby at_109) rfl ?_
          exact k)
        have hm111 := own_m3 _ hx11
        have f107 : Keep h0 h97 [] := ((Keep.refl h0 []).trans K97 all0)
        obtain ⟨T106, h106, k106, X106, e106, E106, A106, st106⟩ := newP X97 hx hZ (hw _ (List.mem_of_getElem? (i := 0) rfl)) e97 (g := (mkF m 111 #[lv q1, sd, lv q2, sd, lv q3, sd, lv q4, sd, lv q5, sd, iv p6, iv v4, iv x6, iv (0 : Int32), iv x11, iv (0 : Int32), iv x16, iv (1 : Int32), .val r104, un, un, un, un, un, un, un, un, un, un, un, un] [(.int x11)])) rfl (hb hby at_111) rfl hm111.1 (cap := 3) hm111.2 (by decide) (by decide) (by decide)
        obtain ⟨b106, g106⟩ : ∃ z, z = h97.size := ⟨_, rfl⟩
        rw [← g106] at A106 st106
        have g_b106 : n0 ≤ b106 := Nat.le_trans Z97 (Nat.le_of_eq g106.symm)
        have sz_b106 : h0.size ≤ b106 := Nat.le_trans f107.1 (Nat.le_of_eq g106.symm)
        have V106 : Arv Z h106 b106 k106 .byte x11 [] (.int (0 : Int32)) := Arv.new A106 hm111.1
        have P108 : Rch p e below (s₁.setTop (entryFrame m #[(.long q1), (.long q2), (.long q3), (.long q4), (.long q5), (.int p6)] maxLocals)) (T106.setTop (mkF m 113 #[lv q1, sd, lv q2, sd, lv q3, sd, lv q4, sd, lv q5, sd, iv p6, iv v4, iv x6, iv (0 : Int32), iv x11, iv (0 : Int32), iv x16, iv (1 : Int32), .val r104, un, un, un, un, un, un, un, un, un, un, un, un] [(.ref b106)])) := fun t k => P105 t (st106 t k)
        have P109 : Rch p e below (s₁.setTop (entryFrame m #[(.long q1), (.long q2), (.long q3), (.long q4), (.long q5), (.int p6)] maxLocals)) (T106.setTop (mkF m 126 #[lv q1, sd, lv q2, sd, lv q3, sd, lv q4, sd, lv q5, sd, iv p6, iv v4, iv x6, iv (0 : Int32), iv x11, iv (0 : Int32), iv x16, iv (1 : Int32), .val r104, rv b106, un, un, un, un, un, un, un, un, un, un, un] [(.int x16)])) := fun t k => P108 t (by
          show Steps p.tables e below (T106.setTop (mkF m 113 #[lv q1, sd, lv q2, sd, lv q3, sd, lv q4, sd, lv q5, sd, iv p6, iv v4, iv x6, iv (0 : Int32), iv x11, iv (0 : Int32), iv x16, iv (1 : Int32), .val r104, un, un, un, un, un, un, un, un, un, un, un, un] [(.ref b106)])) t
          refine XS.astore X106.here hx rfl (hb hby at_113) rfl rfl (l' := #[lv q1, sd, lv q2, sd, lv q3, sd, lv q4, sd, lv q5, sd, iv p6, iv v4, iv x6, iv (0 : Int32), iv x11, iv (0 : Int32), iv x16, iv (1 : Int32), .val r104, rv b106, un, un, un, un, un, un, un, un, un, un, un]) rfl ?_
          refine XS.iload X106.here hx rfl (hb hby at_115) rfl ?_
          refine XS.ifYes X106.here hx rfl (pc0 := 117) (pc' := 124) rfl (hb hby at_117) rfl ((if0 _ _).trans (teq (by decide)).1) (by decide) (by decide) ?_
          show Steps p.tables e below (T106.setTop (mkF m 124 #[lv q1, sd, lv q2, sd, lv q3, sd, lv q4, sd, lv q5, sd, iv p6, iv v4, iv x6, iv (0 : Int32), iv x11, iv (0 : Int32), iv x16, iv (1 : Int32), .val r104, rv b106, un, un, un, un, un, un, un, un, un, un, un] [])) t
          refine XS.iload X106.here hx rfl (hb hby at_124) rfl ?_
          exact k)
        have hm126 := own_m3 _ hx16
        have f111 : n0 ≤ h106.size := (Nat.le_trans Z97 E106.1)
        have f112 : Keep h0 h106 [] := (f107.ext E106)
        obtain ⟨T110, h110, k110, X110, e110, E110, A110, st110⟩ := newP X106 hx hZ (hw _ (List.mem_of_getElem? (i := 0) rfl)) e106 (g := (mkF m 126 #[lv q1, sd, lv q2, sd, lv q3, sd, lv q4, sd, lv q5, sd, iv p6, iv v4, iv x6, iv (0 : Int32), iv x11, iv (0 : Int32), iv x16, iv (1 : Int32), .val r104, rv b106, un, un, un, un, un, un, un, un, un, un, un] [(.int x16)])) rfl (hb hby at_126) rfl hm126.1 (cap := 3) hm126.2 (by decide) (by decide) (by decide)
        obtain ⟨b110, g110⟩ : ∃ z, z = h106.size := ⟨_, rfl⟩
        rw [← g110] at A110 st110
        have g_b110 : n0 ≤ b110 := Nat.le_trans f111 (Nat.le_of_eq g110.symm)
        have sz_b110 : h0.size ≤ b110 := Nat.le_trans f112.1 (Nat.le_of_eq g110.symm)
        have ne_b106_b110 : b106 ≠ b110 := Nat.ne_of_lt (Nat.lt_of_lt_of_le V106.lt (Nat.le_of_eq g110.symm))
        have V110 : Arv Z h110 b110 k110 .byte x16 [] (.int (0 : Int32)) := Arv.new A110 hm126.1
        have P113 : Rch p e below (s₁.setTop (entryFrame m #[(.long q1), (.long q2), (.long q3), (.long q4), (.long q5), (.int p6)] maxLocals)) (T110.setTop (mkF m 128 #[lv q1, sd, lv q2, sd, lv q3, sd, lv q4, sd, lv q5, sd, iv p6, iv v4, iv x6, iv (0 : Int32), iv x11, iv (0 : Int32), iv x16, iv (1 : Int32), .val r104, rv b106, un, un, un, un, un, un, un, un, un, un, un] [(.ref b110)])) := fun t k => P109 t (st110 t k)
        have P114 : Rch p e below (s₁.setTop (entryFrame m #[(.long q1), (.long q2), (.long q3), (.long q4), (.long q5), (.int p6)] maxLocals)) (T110.setTop (mkF m 130 #[lv q1, sd, lv q2, sd, lv q3, sd, lv q4, sd, lv q5, sd, iv p6, iv v4, iv x6, iv (0 : Int32), iv x11, iv (0 : Int32), iv x16, iv (1 : Int32), .val r104, rv b106, rv b110, un, un, un, un, un, un, un, un, un, un] [])) := fun t k => P113 t (by
          show Steps p.tables e below (T110.setTop (mkF m 128 #[lv q1, sd, lv q2, sd, lv q3, sd, lv q4, sd, lv q5, sd, iv p6, iv v4, iv x6, iv (0 : Int32), iv x11, iv (0 : Int32), iv x16, iv (1 : Int32), .val r104, rv b106, un, un, un, un, un, un, un, un, un, un, un] [(.ref b110)])) t
          refine XS.astore X110.here hx rfl (hb hby at_128) rfl rfl (l' := #[lv q1, sd, lv q2, sd, lv q3, sd, lv q4, sd, lv q5, sd, iv p6, iv v4, iv x6, iv (0 : Int32), iv x11, iv (0 : Int32), iv x16, iv (1 : Int32), .val r104, rv b106, rv b110, un, un, un, un, un, un, un, un, un, un]) rfl ?_
          exact k)
        have f116 : n0 ≤ h110.size := (Nat.le_trans f111 E110.1)
        have f117 : Keep h0 h110 [] := (f112.ext E110)
        obtain ⟨T115, h115, X115, e115, E115, A115, D115, -, st115⟩ := newO X110 hx hZ hown (hw _ (List.mem_of_getElem? (i := 1) rfl)) (hw _ (List.mem_of_getElem? (i := 2) rfl)) (hw _ (List.mem_of_getElem? (i := 3) rfl)) e110 (g := (mkF m 130 #[lv q1, sd, lv q2, sd, lv q3, sd, lv q4, sd, lv q5, sd, iv p6, iv v4, iv x6, iv (0 : Int32), iv x11, iv (0 : Int32), iv x16, iv (1 : Int32), .val r104, rv b106, rv b110, un, un, un, un, un, un, un, un, un, un] [])) rfl (hb hby at_130) (by decide) (by decide)
        obtain ⟨b115, g115⟩ : ∃ z, z = h110.size := ⟨_, rfl⟩
        rw [← g115] at A115 D115 st115
        have g_b115 : n0 ≤ b115 := Nat.le_trans f116 (Nat.le_of_eq g115.symm)
        have sz_b115 : h0.size ≤ b115 := Nat.le_trans f117.1 (Nat.le_of_eq g115.symm)
        have ne_b106_b115 : b106 ≠ b115 := Nat.ne_of_lt (Nat.lt_of_lt_of_le (V106.ext E110).lt (Nat.le_of_eq g115.symm))
        have ne_b110_b115 : b110 ≠ b115 := Nat.ne_of_lt (Nat.lt_of_lt_of_le V110.lt (Nat.le_of_eq g115.symm))
        have F115_23 : Fld Z h115 b115 "java/util/AbstractList" "modCount" "I" (.int (0 : Int32)) := D115 (Or.inl (hw _ (List.mem_of_getElem? (i := 23) rfl))) (ty := .int) (by decide)
        have F115_26 : Fld Z h115 b115 "java/util/ArrayList" "elementData" "[Ljava/lang/Object;" .null := D115 (Or.inl (hw _ (List.mem_of_getElem? (i := 26) rfl))) (ty := (.array (.object "java/lang/Object"))) (by decide)
        have P118 : Rch p e below (s₁.setTop (entryFrame m #[(.long q1), (.long q2), (.long q3), (.long q4), (.long q5), (.int p6)] maxLocals)) (T115.setTop (mkF m 133 #[lv q1, sd, lv q2, sd, lv q3, sd, lv q4, sd, lv q5, sd, iv p6, iv v4, iv x6, iv (0 : Int32), iv x11, iv (0 : Int32), iv x16, iv (1 : Int32), .val r104, rv b106, rv b110, un, un, un, un, un, un, un, un, un, un] [(.ref b115)])) := fun t k => P114 t (st115 t k)
        have P119 : Rch p e below (s₁.setTop (entryFrame m #[(.long q1), (.long q2), (.long q3), (.long q4), (.long q5), (.int p6)] maxLocals)) (T115.setTop (mkF m 134 #[lv q1, sd, lv q2, sd, lv q3, sd, lv q4, sd, lv q5, sd, iv p6, iv v4, iv x6, iv (0 : Int32), iv x11, iv (0 : Int32), iv x16, iv (1 : Int32), .val r104, rv b106, rv b110, un, un, un, un, un, un, un, un, un, un] [(.ref b115), (.ref b115)])) := fun t k => P118 t (by
          show Steps p.tables e below (T115.setTop (mkF m 133 #[lv q1, sd, lv q2, sd, lv q3, sd, lv q4, sd, lv q5, sd, iv p6, iv v4, iv x6, iv (0 : Int32), iv x11, iv (0 : Int32), iv x16, iv (1 : Int32), .val r104, rv b106, rv b110, un, un, un, un, un, un, un, un, un, un] [(.ref b115)])) t
          refine XS.dup X115.here hx rfl (hb hby at_133) rfl rfl ?_
          exact k)
        have f121 : Old Z n0 h115 := ((((O0.keep K97 all0).ext E106).ext E110).ext E115)
        have f122 : n0 ≤ h115.size := (Nat.le_trans f116 E115.1)
        obtain ⟨_, _, ⟨T120, L120, k120, n120⟩, -, X120, ⟨Lc120, hQ120, l120, y120, z120⟩, st120⟩ := X115.specialBack hx (y := (⟨"java/util/ArrayList", "<init>", "()V"⟩ : MethodName)) rfl hown (mvT hZ (hw _ (List.mem_of_getElem? (i := 4) rfl))) (mvT hZ (hw _ (List.mem_of_getElem? (i := 5) rfl))) (mvT hZ (hw _ (List.mem_of_getElem? (i := 6) rfl))) (by decide) (backOf (W := 1) (rmAL l Z a0 hw [] b115 aD h115 n0 f122 f121 Sd A115 g_b115 F115_23 F115_26) hZ (hw _ (List.mem_of_getElem? (i := 6) rfl)) (hw _ (List.mem_of_getElem? (i := 3) rfl)) (by decide) (by decide)) (g := (mkF m 134 #[lv q1, sd, lv q2, sd, lv q3, sd, lv q4, sd, lv q5, sd, iv p6, iv v4, iv x6, iv (0 : Int32), iv x11, iv (0 : Int32), iv x16, iv (1 : Int32), .val r104, rv b106, rv b110, un, un, un, un, un, un, un, un, un, un] [(.ref b115), (.ref b115)])) rfl (by rw [hml]; rfl) (Steps.refl _) (a := b115) (argsL := []) (rest := [(.ref b115)]) (lenOf pd_0 rfl) rfl (by show 2 * 0 + _ ≤ _; exact Nat.le_of_eq rfl) (hb hby at_134) (fun _ _ => ⟨rfl, e115, (by decide : 4 + 0 ≤ _), (by decide : 12 + 0 ≤ _)⟩)
        dsimp only [Pt.U, Pt.locs, Pt.cells, Pt.slots] at X120 l120 y120 z120 st120 hQ120
        subst y120 z120
        obtain ⟨rfl, N120q, K120, E_120⟩ := hQ120
        have N120 : Fr n0 L120 := by rw [l120]; exact Fr.app N97 N120q
        have P123 : Rch p e below (s₁.setTop (entryFrame m #[(.long q1), (.long q2), (.long q3), (.long q4), (.long q5), (.int p6)] maxLocals)) (T120.setTop (mkF m 137 #[lv q1, sd, lv q2, sd, lv q3, sd, lv q4, sd, lv q5, sd, iv p6, iv v4, iv x6, iv (0 : Int32), iv x11, iv (0 : Int32), iv x16, iv (1 : Int32), .val r104, rv b106, rv b110, un, un, un, un, un, un, un, un, un, un] [(.ref b115)])) := fun t k => P119 t (st120.trans k)
        have P124 : Rch p e below (s₁.setTop (entryFrame m #[(.long q1), (.long q2), (.long q3), (.long q4), (.long q5), (.int p6)] maxLocals)) (T120.setTop (mkF m 139 #[lv q1, sd, lv q2, sd, lv q3, sd, lv q4, sd, lv q5, sd, iv p6, iv v4, iv x6, iv (0 : Int32), iv x11, iv (0 : Int32), iv x16, iv (1 : Int32), .val r104, rv b106, rv b110, rv b115, un, un, un, un, un, un, un, un, un] [])) := fun t k => P123 t (by
          show Steps p.tables e below (T120.setTop (mkF m 137 #[lv q1, sd, lv q2, sd, lv q3, sd, lv q4, sd, lv q5, sd, iv p6, iv v4, iv x6, iv (0 : Int32), iv x11, iv (0 : Int32), iv x16, iv (1 : Int32), .val r104, rv b106, rv b110, un, un, un, un, un, un, un, un, un, un] [(.ref b115)])) t
          refine XS.astore X120.here hx rfl (hb hby at_137) rfl rfl (l' := #[lv q1, sd, lv q2, sd, lv q3, sd, lv q4, sd, lv q5, sd, iv p6, iv v4, iv x6, iv (0 : Int32), iv x11, iv (0 : Int32), iv x16, iv (1 : Int32), .val r104, rv b106, rv b110, rv b115, un, un, un, un, un, un, un, un, un]) rfl ?_
          exact k)
        have f126 : Arv Z T120.heap b106 k106 .byte x11 [] (.int (0 : Int32)) := (((V106.ext E110).ext E115).keep K120 (ninS ne_b106_b115 nin0))
        have f127 : n0 ≤ T120.heap.size := (Nat.le_trans f122 K120.1)
        have f128 : Keep h0 T120.heap [] := ((f117.ext E115).trans K120 (allS (P := fun x => x ∈ [] ∨ h0.size ≤ x) (Or.inr sz_b115) all0))
        obtain ⟨T125, h125, X125, e125, E125, A125, D125, -, st125⟩ := newO X120 hx hZ hown (hw _ (List.mem_of_getElem? (i := 27) rfl)) (hw _ (List.mem_of_getElem? (i := 28) rfl)) (hw _ (List.mem_of_getElem? (i := 29) rfl)) rfl (g := (mkF m 139 #[lv q1, sd, lv q2, sd, lv q3, sd, lv q4, sd, lv q5, sd, iv p6, iv v4, iv x6, iv (0 : Int32), iv x11, iv (0 : Int32), iv x16, iv (1 : Int32), .val r104, rv b106, rv b110, rv b115, un, un, un, un, un, un, un, un, un] [])) rfl (hb hby at_139) (by decide) (by decide)
        obtain ⟨b125, g125⟩ : ∃ z, z = T120.heap.size := ⟨_, rfl⟩
        rw [← g125] at A125 D125 st125
        have g_b125 : n0 ≤ b125 := Nat.le_trans f127 (Nat.le_of_eq g125.symm)
        have sz_b125 : h0.size ≤ b125 := Nat.le_trans f128.1 (Nat.le_of_eq g125.symm)
        have ne_b106_b125 : b106 ≠ b125 := Nat.ne_of_lt (Nat.lt_of_lt_of_le f126.lt (Nat.le_of_eq g125.symm))
        have ne_b110_b125 : b110 ≠ b125 := Nat.ne_of_lt (Nat.lt_of_lt_of_le ((V110.ext E115).keep K120 (ninS ne_b110_b115 nin0)).lt (Nat.le_of_eq g125.symm))
        have ne_b115_b125 : b115 ≠ b125 := Nat.ne_of_lt (Nat.lt_of_lt_of_le (A115.keep K120).lt (Nat.le_of_eq g125.symm))
        have F125_68 : Fld Z h125 b125 "com/example/usher/usher/core/Node" "children" "Ljava/util/Set;" .null := D125 (Or.inr (hw _ (List.mem_of_getElem? (i := 68) rfl))) (ty := (.object "java/util/Set")) (by decide)
        have F125_70 : Fld Z h125 b125 "com/example/usher/usher/core/Node" "czxid" "J" (.long (0 : Int64)) := D125 (Or.inr (hw _ (List.mem_of_getElem? (i := 70) rfl))) (ty := .long) (by decide)
        have F125_72 : Fld Z h125 b125 "com/example/usher/usher/core/Node" "ctime" "J" (.long (0 : Int64)) := D125 (Or.inr (hw _ (List.mem_of_getElem? (i := 72) rfl))) (ty := .long) (by decide)
        have F125_74 : Fld Z h125 b125 "com/example/usher/usher/core/Node" "ephemeralOwner" "J" (.long (0 : Int64)) := D125 (Or.inr (hw _ (List.mem_of_getElem? (i := 74) rfl))) (ty := .long) (by decide)
        have F125_76 : Fld Z h125 b125 "com/example/usher/usher/core/Node" "data" "[B" .null := D125 (Or.inl (hw _ (List.mem_of_getElem? (i := 76) rfl))) (ty := (.array .byte)) (by decide)
        have F125_78 : Fld Z h125 b125 "com/example/usher/usher/core/Node" "acl" "Ljava/util/List;" .null := D125 (Or.inl (hw _ (List.mem_of_getElem? (i := 78) rfl))) (ty := (.object "java/util/List")) (by decide)
        have F125_80 : Fld Z h125 b125 "com/example/usher/usher/core/Node" "mzxid" "J" (.long (0 : Int64)) := D125 (Or.inl (hw _ (List.mem_of_getElem? (i := 80) rfl))) (ty := .long) (by decide)
        have F125_82 : Fld Z h125 b125 "com/example/usher/usher/core/Node" "mtime" "J" (.long (0 : Int64)) := D125 (Or.inl (hw _ (List.mem_of_getElem? (i := 82) rfl))) (ty := .long) (by decide)
        have F125_84 : Fld Z h125 b125 "com/example/usher/usher/core/Node" "pzxid" "J" (.long (0 : Int64)) := D125 (Or.inl (hw _ (List.mem_of_getElem? (i := 84) rfl))) (ty := .long) (by decide)
        have F125_91 : Fld Z h125 b125 "com/example/usher/usher/core/Node" "version" "I" (.int (0 : Int32)) := D125 (Or.inl (hw _ (List.mem_of_getElem? (i := 91) rfl))) (ty := .int) (by decide)
        have F125_101 : Fld Z h125 b125 "com/example/usher/usher/core/Node" "cversion" "I" (.int (0 : Int32)) := D125 (Or.inl (hw _ (List.mem_of_getElem? (i := 101) rfl))) (ty := .int) (by decide)
        have F125_103 : Fld Z h125 b125 "com/example/usher/usher/core/Node" "aversion" "I" (.int (0 : Int32)) := D125 (Or.inl (hw _ (List.mem_of_getElem? (i := 103) rfl))) (ty := .int) (by decide)
        have P129 : Rch p e below (s₁.setTop (entryFrame m #[(.long q1), (.long q2), (.long q3), (.long q4), (.long q5), (.int p6)] maxLocals)) (T125.setTop (mkF m 142 #[lv q1, sd, lv q2, sd, lv q3, sd, lv q4, sd, lv q5, sd, iv p6, iv v4, iv x6, iv (0 : Int32), iv x11, iv (0 : Int32), iv x16, iv (1 : Int32), .val r104, rv b106, rv b110, rv b115, un, un, un, un, un, un, un, un, un] [(.ref b125)])) := fun t k => P124 t (st125 t k)
        have P130 : Rch p e below (s₁.setTop (entryFrame m #[(.long q1), (.long q2), (.long q3), (.long q4), (.long q5), (.int p6)] maxLocals)) (T125.setTop (mkF m 150 #[lv q1, sd, lv q2, sd, lv q3, sd, lv q4, sd, lv q5, sd, iv p6, iv v4, iv x6, iv (0 : Int32), iv x11, iv (0 : Int32), iv x16, iv (1 : Int32), .val r104, rv b106, rv b110, rv b115, un, un, un, un, un, un, un, un, un] [(.long q2), (.long q1), (.long (0 : Int64)), (.ref b115), r104, (.ref b125), (.ref b125)])) := fun t k => P129 t (by
          show Steps p.tables e below (T125.setTop (mkF m 142 #[lv q1, sd, lv q2, sd, lv q3, sd, lv q4, sd, lv q5, sd, iv p6, iv v4, iv x6, iv (0 : Int32), iv x11, iv (0 : Int32), iv x16, iv (1 : Int32), .val r104, rv b106, rv b110, rv b115, un, un, un, un, un, un, un, un, un] [(.ref b125)])) t
          refine XS.dup X125.here hx rfl (hb hby at_142) rfl rfl ?_
          refine XS.aload X125.here hx rfl (hb hby at_143) rfl hr104 ?_
          refine XS.aload X125.here hx rfl (hb hby at_145) rfl rfl ?_
          show Steps p.tables e below (T125.setTop (mkF m 147 #[lv q1, sd, lv q2, sd, lv q3, sd, lv q4, sd, lv q5, sd, iv p6, iv v4, iv x6, iv (0 : Int32), iv x11, iv (0 : Int32), iv x16, iv (1 : Int32), .val r104, rv b106, rv b110, rv b115, un, un, un, un, un, un, un, un, un] [(.ref b115), r104, (.ref b125), (.ref b125)])) t
          refine XS.lconst X125.here hx rfl (hb hby at_147) ?_
          refine XS.lloadN X125.here hx rfl (hb hby at_148) rfl ?_
          refine XS.lloadN X125.here hx rfl (hb hby at_149) rfl ?_
          exact k)
        have f132 : n0 ≤ h125.size := (Nat.le_trans f127 E125.1)
        obtain ⟨_, _, ⟨T131, L131, k131, n131⟩, -, X131, ⟨Lc131, hQ131, l131, y131, z131⟩, st131⟩ := X125.specialBack hx (y := (⟨"com/example/usher/usher/core/Node", "<init>", "([BLjava/util/List;JJJ)V"⟩ : MethodName)) rfl hown (mvT hZ (hw _ (List.mem_of_getElem? (i := 30) rfl))) (mvT hZ (hw _ (List.mem_of_getElem? (i := 31) rfl))) (mvT hZ (hw _ (List.mem_of_getElem? (i := 32) rfl))) (by decide) (backOf (W := 1) (rmND l Z a0 hw [] b125 r104 b115 (0 : Int64) q1 q2 h125 n0 f132 hr104 A125 g_b125 F125_68 F125_70 F125_72 F125_74 F125_76 F125_78 F125_80 F125_82 F125_84 F125_91 F125_101 F125_103) hZ (hw _ (List.mem_of_getElem? (i := 32) rfl)) (hw _ (List.mem_of_getElem? (i := 29) rfl)) (by decide) (by decide)) (g := (mkF m 150 #[lv q1, sd, lv q2, sd, lv q3, sd, lv q4, sd, lv q5, sd, iv p6, iv v4, iv x6, iv (0 : Int32), iv x11, iv (0 : Int32), iv x16, iv (1 : Int32), .val r104, rv b106, rv b110, rv b115, un, un, un, un, un, un, un, un, un] [(.long q2), (.long q1), (.long (0 : Int64)), (.ref b115), r104, (.ref b125), (.ref b125)])) rfl (by rw [hml]; rfl) (Steps.refl _) (a := b125) (argsL := [r104, (.ref b115), (.long (0 : Int64)), (.long q1), (.long q2)]) (rest := [(.ref b125)]) (lenOf pd_3 rfl) rfl (by show 2 * 0 + _ ≤ _; exact Nat.le_of_eq rfl) (hb hby at_150) (fun _ _ => ⟨rfl, e125, (by decide : 5 + 2 ≤ _), (by decide : 25 + 9 ≤ _)⟩)
        dsimp only [Pt.U, Pt.locs, Pt.cells, Pt.slots] at X131 l131 y131 z131 st131 hQ131
        subst y131 z131
        have f133 : Arv Z h125 b110 k110 .byte x16 [] (.int (0 : Int32)) := (((V110.ext E115).keep K120 (ninS ne_b110_b115 nin0)).ext E125)
        have f134 : Keep h0 h125 [] := (f128.ext E125)
        obtain ⟨c__131, m__131, rfl, N131q, K131, Fc_131, Fm_131, E_131, G0_131, G1_131, G2_131, G3_131, G4_131, G5_131, G6_131, G7_131, G8_131, G9_131, G10_131, G11_131, Ec_131, Gc_131, Em_131, Gm_131⟩ := hQ131
        have N131 : Fr n0 L131 := by rw [l131]; exact Fr.app N120 N131q
        have g_c__131 : n0 ≤ c__131 := Nat.le_trans f132 Fc_131
        have sz_c__131 : h0.size ≤ c__131 := Nat.le_trans f134.1 Fc_131
        have ne_b106_c__131 : b106 ≠ c__131 := Nat.ne_of_lt (Nat.lt_of_lt_of_le (f126.ext E125).lt Fc_131)
        have ne_b110_c__131 : b110 ≠ c__131 := Nat.ne_of_lt (Nat.lt_of_lt_of_le f133.lt Fc_131)
        have ne_b115_c__131 : b115 ≠ c__131 := Nat.ne_of_lt (Nat.lt_of_lt_of_le ((A115.keep K120).ext E125).lt Fc_131)
        have ne_b125_c__131 : b125 ≠ c__131 := Nat.ne_of_lt (Nat.lt_of_lt_of_le A125.lt Fc_131)
        have g_m__131 : n0 ≤ m__131 := Nat.le_trans f132 Fm_131
        have sz_m__131 : h0.size ≤ m__131 := Nat.le_trans f134.1 Fm_131
        have ne_b106_m__131 : b106 ≠ m__131 := Nat.ne_of_lt (Nat.lt_of_lt_of_le (f126.ext E125).lt Fm_131)
        have ne_b110_m__131 : b110 ≠ m__131 := Nat.ne_of_lt (Nat.lt_of_lt_of_le f133.lt Fm_131)
        have ne_b115_m__131 : b115 ≠ m__131 := Nat.ne_of_lt (Nat.lt_of_lt_of_le ((A115.keep K120).ext E125).lt Fm_131)
        have ne_b125_m__131 : b125 ≠ m__131 := Nat.ne_of_lt (Nat.lt_of_lt_of_le A125.lt Fm_131)
        have P135 : Rch p e below (s₁.setTop (entryFrame m #[(.long q1), (.long q2), (.long q3), (.long q4), (.long q5), (.int p6)] maxLocals)) (T131.setTop (mkF m 153 #[lv q1, sd, lv q2, sd, lv q3, sd, lv q4, sd, lv q5, sd, iv p6, iv v4, iv x6, iv (0 : Int32), iv x11, iv (0 : Int32), iv x16, iv (1 : Int32), .val r104, rv b106, rv b110, rv b115, un, un, un, un, un, un, un, un, un] [(.ref b125)])) := fun t k => P130 t (st131.trans k)
        have P136 : Rch p e below (s₁.setTop (entryFrame m #[(.long q1), (.long q2), (.long q3), (.long q4), (.long q5), (.int p6)] maxLocals)) (T131.setTop (mkF m 163 #[lv q1, sd, lv q2, sd, lv q3, sd, lv q4, sd, lv q5, sd, iv p6, iv v4, iv x6, iv (0 : Int32), iv x11, iv (0 : Int32), iv x16, iv (1 : Int32), .val r104, rv b106, rv b110, rv b115, rv b125, un, un, un, un, un, un, un, un] [(.long q4), (.long q3), (.ref b106), (.ref b125)])) := fun t k => P135 t (by
          show Steps p.tables e below (T131.setTop (mkF m 153 #[lv q1, sd, lv q2, sd, lv q3, sd, lv q4, sd, lv q5, sd, iv p6, iv v4, iv x6, iv (0 : Int32), iv x11, iv (0 : Int32), iv x16, iv (1 : Int32), .val r104, rv b106, rv b110, rv b115, un, un, un, un, un, un, un, un, un] [(.ref b125)])) t
          refine XS.astore X131.here hx rfl (hb hby at_153) rfl rfl (l' := #[lv q1, sd, lv q2, sd, lv q3, sd, lv q4, sd, lv q5, sd, iv p6, iv v4, iv x6, iv (0 : Int32), iv x11, iv (0 : Int32), iv x16, iv (1 : Int32), .val r104, rv b106, rv b110, rv b115, rv b125, un, un, un, un, un, un, un, un]) rfl ?_
          refine XS.aload X131.here hx rfl (hb hby at_155) rfl rfl ?_
          refine XS.aload X131.here hx rfl (hb hby at_157) rfl rfl ?_
          show Steps p.tables e below (T131.setTop (mkF m 159 #[lv q1, sd, lv q2, sd, lv q3, sd, lv q4, sd, lv q5, sd, iv p6, iv v4, iv x6, iv (0 : Int32), iv x11, iv (0 : Int32), iv x16, iv (1 : Int32), .val r104, rv b106, rv b110, rv b115, rv b125, un, un, un, un, un, un, un, un] [(.ref b106), (.ref b125)])) t
          refine XS.lload X131.here hx rfl (hb hby at_159) rfl ?_
          refine XS.lload X131.here hx rfl (hb hby at_161) rfl ?_
          exact k)
        have f138 : n0 ≤ T131.heap.size := (Nat.le_trans f132 K131.1)
        obtain ⟨cq137, kq137, q137a, q137b, q137c⟩ := isOf hZ rfl E_131
        obtain ⟨_, _, ⟨T137, L137, k137, n137⟩, -, X137, ⟨Lc137, hQ137, l137, y137, z137⟩, st137⟩ := X131.virtualBack hx (y := (⟨"com/example/usher/usher/core/Node", "setData", "([BJJ)V"⟩ : MethodName)) (z := (⟨"com/example/usher/usher/core/Node", "setData", "([BJJ)V"⟩ : MethodName)) hown (mvT hZ (hw _ (List.mem_of_getElem? (i := 85) rfl))) (mvT hZ (hw _ (List.mem_of_getElem? (i := 86) rfl))) (notFace_of_selects (args := #[]) (mvT hZ (hw _ (List.mem_of_getElem? (i := 88) rfl)))) (mvT hZ (hw _ (List.mem_of_getElem? (i := 88) rfl))) (mvT hZ (hw _ (List.mem_of_getElem? (i := 87) rfl))) (by decide) (backOf (W := 0) (rmSD l Z a0 hw [] b125 (.ref b106) q3 q4 c__131 q1 q2 (0 : Int64) r104 b115 q1 q2 q1 (0 : Int32) (0 : Int32) (0 : Int32) T131.heap n0 f138 rfl E_131 g_b125 G0_131 G1_131 G2_131 G3_131 G4_131 G5_131 G6_131 G7_131 G8_131 G9_131 G10_131 G11_131) hZ (hw _ (List.mem_of_getElem? (i := 89) rfl)) (hw _ (List.mem_of_getElem? (i := 29) rfl)) (by decide) (by decide)) q137a q137c (g := (mkF m 163 #[lv q1, sd, lv q2, sd, lv q3, sd, lv q4, sd, lv q5, sd, iv p6, iv v4, iv x6, iv (0 : Int32), iv x11, iv (0 : Int32), iv x16, iv (1 : Int32), .val r104, rv b106, rv b110, rv b115, rv b125, un, un, un, un, un, un, un, un] [(.long q4), (.long q3), (.ref b106), (.ref b125)])) rfl (by rw [hml]; rfl) (Steps.refl _) (argsL := [(.ref b106), (.long q3), (.long q4)]) (rest := []) (lenOf pd_4 rfl) rfl (by show 2 * 0 + _ ≤ _; exact Nat.le_of_eq rfl) (hb hby at_163) (fun _ _ => ⟨rfl, rfl, (by decide : 7 + 0 ≤ _), (by decide : 34 + 0 ≤ _)⟩)
        dsimp only [Pt.U, Pt.locs, Pt.cells, Pt.slots] at X137 l137 y137 z137 st137 hQ137
        subst y137 z137
        obtain ⟨rfl, N137q, K137, E_137, G0_137, G1_137, G2_137, G3_137, G4_137, G5_137, G6_137, G7_137, G8_137, G9_137, G10_137, G11_137⟩ := hQ137
        have N137 : Fr n0 L137 := by rw [l137]; exact Fr.app N131 N137q
        have P139 : Rch p e below (s₁.setTop (entryFrame m #[(.long q1), (.long q2), (.long q3), (.long q4), (.long q5), (.int p6)] maxLocals)) (T137.setTop (mkF m 166 #[lv q1, sd, lv q2, sd, lv q3, sd, lv q4, sd, lv q5, sd, iv p6, iv v4, iv x6, iv (0 : Int32), iv x11, iv (0 : Int32), iv x16, iv (1 : Int32), .val r104, rv b106, rv b110, rv b115, rv b125, un, un, un, un, un, un, un, un] [])) := fun t k => P136 t (st137.trans k)
        have P140 : Rch p e below (s₁.setTop (entryFrame m #[(.long q1), (.long q2), (.long q3), (.long q4), (.long q5), (.int p6)] maxLocals)) (T137.setTop (mkF m 178 #[lv q1, sd, lv q2, sd, lv q3, sd, lv q4, sd, lv q5, sd, iv p6, iv v4, iv x6, iv (0 : Int32), iv x11, iv (0 : Int32), iv x16, iv (1 : Int32), .val r104, rv b106, rv b110, rv b115, rv b125, un, un, un, un, un, un, un, un] [(.long q2), (.long q5), (.ref b110), (.ref b125)])) := fun t k => P139 t (by
          show Steps p.tables e below (T137.setTop (mkF m 166 #[lv q1, sd, lv q2, sd, lv q3, sd, lv q4, sd, lv q5, sd, iv p6, iv v4, iv x6, iv (0 : Int32), iv x11, iv (0 : Int32), iv x16, iv (1 : Int32), .val r104, rv b106, rv b110, rv b115, rv b125, un, un, un, un, un, un, un, un] [])) t
          refine XS.iload X137.here hx rfl (hb hby at_166) rfl ?_
          refine XS.ifNo X137.here hx rfl (hb hby at_168) rfl ((if0 _ _).trans (feq (by decide)).1) ?_
          refine XS.aload X137.here hx rfl (hb hby at_171) rfl rfl ?_
          show Steps p.tables e below (T137.setTop (mkF m 173 #[lv q1, sd, lv q2, sd, lv q3, sd, lv q4, sd, lv q5, sd, iv p6, iv v4, iv x6, iv (0 : Int32), iv x11, iv (0 : Int32), iv x16, iv (1 : Int32), .val r104, rv b106, rv b110, rv b115, rv b125, un, un, un, un, un, un, un, un] [(.ref b125)])) t
          refine XS.aload X137.here hx rfl (hb hby at_173) rfl rfl ?_
          refine XS.lload X137.here hx rfl (hb hby at_175) rfl ?_
          refine XS.lloadN X137.here hx rfl (hb hby at_177) rfl ?_
          exact k)
        have f142 : n0 ≤ T137.heap.size := (Nat.le_trans f138 K137.1)
        obtain ⟨cq141, kq141, q141a, q141b, q141c⟩ := isOf hZ rfl E_137
        obtain ⟨_, _, ⟨T141, L141, k141, n141⟩, -, X141, ⟨Lc141, hQ141, l141, y141, z141⟩, st141⟩ := X137.virtualBack hx (y := (⟨"com/example/usher/usher/core/Node", "setData", "([BJJ)V"⟩ : MethodName)) (z := (⟨"com/example/usher/usher/core/Node", "setData", "([BJJ)V"⟩ : MethodName)) hown (mvT hZ (hw _ (List.mem_of_getElem? (i := 85) rfl))) (mvT hZ (hw _ (List.mem_of_getElem? (i := 86) rfl))) (notFace_of_selects (args := #[]) (mvT hZ (hw _ (List.mem_of_getElem? (i := 88) rfl)))) (mvT hZ (hw _ (List.mem_of_getElem? (i := 88) rfl))) (mvT hZ (hw _ (List.mem_of_getElem? (i := 87) rfl))) (by decide) (backOf (W := 0) (rmSD l Z a0 hw [] b125 (.ref b110) q5 q2 c__131 q1 q2 (0 : Int64) (.ref b106) b115 q3 q4 q1 ((0 : Int32) + (1 : Int32)) (0 : Int32) (0 : Int32) T137.heap n0 f142 rfl E_137 g_b125 G0_137 G1_137 G2_137 G3_137 G4_137 G5_137 G6_137 G7_137 G8_137 G9_137 G10_137 G11_137) hZ (hw _ (List.mem_of_getElem? (i := 89) rfl)) (hw _ (List.mem_of_getElem? (i := 29) rfl)) (by decide) (by decide)) q141a q141c (g := (mkF m 178 #[lv q1, sd, lv q2, sd, lv q3, sd, lv q4, sd, lv q5, sd, iv p6, iv v4, iv x6, iv (0 : Int32), iv x11, iv (0 : Int32), iv x16, iv (1 : Int32), .val r104, rv b106, rv b110, rv b115, rv b125, un, un, un, un, un, un, un, un] [(.long q2), (.long q5), (.ref b110), (.ref b125)])) rfl (by rw [hml]; rfl) (Steps.refl _) (argsL := [(.ref b110), (.long q5), (.long q2)]) (rest := []) (lenOf pd_4 rfl) rfl (by show 2 * 0 + _ ≤ _; exact Nat.le_of_eq rfl) (hb hby at_178) (fun _ _ => ⟨rfl, rfl, (by decide : 7 + 0 ≤ _), (by decide : 34 + 0 ≤ _)⟩)
        dsimp only [Pt.U, Pt.locs, Pt.cells, Pt.slots] at X141 l141 y141 z141 st141 hQ141
        subst y141 z141
        obtain ⟨rfl, N141q, K141, E_141, G0_141, G1_141, G2_141, G3_141, G4_141, G5_141, G6_141, G7_141, G8_141, G9_141, G10_141, G11_141⟩ := hQ141
        have N141 : Fr n0 L141 := by rw [l141]; exact Fr.app N137 N141q
        have P143 : Rch p e below (s₁.setTop (entryFrame m #[(.long q1), (.long q2), (.long q3), (.long q4), (.long q5), (.int p6)] maxLocals)) (T141.setTop (mkF m 181 #[lv q1, sd, lv q2, sd, lv q3, sd, lv q4, sd, lv q5, sd, iv p6, iv v4, iv x6, iv (0 : Int32), iv x11, iv (0 : Int32), iv x16, iv (1 : Int32), .val r104, rv b106, rv b110, rv b115, rv b125, un, un, un, un, un, un, un, un] [])) := fun t k => P140 t (st141.trans k)
        have P144 : Rch p e below (s₁.setTop (entryFrame m #[(.long q1), (.long q2), (.long q3), (.long q4), (.long q5), (.int p6)] maxLocals)) (T141.setTop (mkF m 183 #[lv q1, sd, lv q2, sd, lv q3, sd, lv q4, sd, lv q5, sd, iv p6, iv v4, iv x6, iv (0 : Int32), iv x11, iv (0 : Int32), iv x16, iv (1 : Int32), .val r104, rv b106, rv b110, rv b115, rv b125, un, un, un, un, un, un, un, un] [(.ref b125)])) := fun t k => P143 t (by
          show Steps p.tables e below (T141.setTop (mkF m 181 #[lv q1, sd, lv q2, sd, lv q3, sd, lv q4, sd, lv q5, sd, iv p6, iv v4, iv x6, iv (0 : Int32), iv x11, iv (0 : Int32), iv x16, iv (1 : Int32), .val r104, rv b106, rv b110, rv b115, rv b125, un, un, un, un, un, un, un, un] [])) t
          refine XS.aload X141.here hx rfl (hb hby at_181) rfl rfl ?_
          exact k)
        have f146 : Fld Z T141.heap c__131 "java/util/HashSet" "map" "Ljava/util/HashMap;" (.ref m__131) := ((Gc_131.keep K137 (ninS (Ne.symm ne_b125_c__131) nin0)).keep K141 (ninS (Ne.symm ne_b125_c__131) nin0))
        have f147 : Fld Z T141.heap m__131 "java/util/HashMap" "size" "I" (.int (0 : Int32)) := ((Gm_131.keep K137 (ninS (Ne.symm ne_b125_m__131) nin0)).keep K141 (ninS (Ne.symm ne_b125_m__131) nin0))
        have f148 : Arv Z T141.heap b110 k110 .byte x16 [] (.int (0 : Int32)) := (((f133.keep K131 (ninS ne_b110_b125 nin0)).keep K137 (ninS ne_b110_b125 nin0)).keep K141 (ninS ne_b110_b125 nin0))
        have f149 : n0 ≤ T141.heap.size := (Nat.le_trans f142 K141.1)
        obtain ⟨cq145, kq145, q145a, q145b, q145c⟩ := isOf hZ rfl E_141
        obtain ⟨_, _, ⟨T145, L145, k145, n145⟩, -, X145, ⟨Lc145, hQ145, l145, y145, z145⟩, st145⟩ := X141.virtualBack hx (y := (⟨"com/example/usher/usher/core/Node", "stat", "()Lcom/example/usher/usher/protocol/Stat;"⟩ : MethodName)) (z := (⟨"com/example/usher/usher/core/Node", "stat", "()Lcom/example/usher/usher/protocol/Stat;"⟩ : MethodName)) hown (mvT hZ (hw _ (List.mem_of_getElem? (i := 92) rfl))) (mvT hZ (hw _ (List.mem_of_getElem? (i := 93) rfl))) (notFace_of_selects (args := #[]) (mvT hZ (hw _ (List.mem_of_getElem? (i := 95) rfl)))) (mvT hZ (hw _ (List.mem_of_getElem? (i := 95) rfl))) (mvT hZ (hw _ (List.mem_of_getElem? (i := 94) rfl))) (by decide) (backOf (W := 0) (rmS1 l Z a0 hw [] b125 c__131 q1 q2 (0 : Int64) b115 q5 q2 q1 (((0 : Int32) + (1 : Int32)) + (1 : Int32)) (0 : Int32) (0 : Int32) b110 k110 x16 [] m__131 T141.heap n0 f149 E_141 G0_141 G1_141 G2_141 G3_141 G4_141 G5_141 G6_141 G7_141 G8_141 G9_141 G10_141 G11_141 ((Ec_131.keep K137).keep K141) f146 ((Em_131.keep K137).keep K141) f147 f148) hZ (hw _ (List.mem_of_getElem? (i := 96) rfl)) (hw _ (List.mem_of_getElem? (i := 29) rfl)) (by decide) (by decide)) q145a q145c (g := (mkF m 183 #[lv q1, sd, lv q2, sd, lv q3, sd, lv q4, sd, lv q5, sd, iv p6, iv v4, iv x6, iv (0 : Int32), iv x11, iv (0 : Int32), iv x16, iv (1 : Int32), .val r104, rv b106, rv b110, rv b115, rv b125, un, un, un, un, un, un, un, un] [(.ref b125)])) rfl (by rw [hml]; rfl) (Steps.refl _) (argsL := []) (rest := []) (lenOf pd_5 rfl) rfl (by show 2 * 0 + _ ≤ _; exact Nat.le_of_eq rfl) (hb hby at_183) (fun _ _ => ⟨rfl, rfl, (by decide : 7 + 1 ≤ _), (by decide : 34 + 11 ≤ _)⟩)
        dsimp only [Pt.U, Pt.locs, Pt.cells, Pt.slots] at X145 l145 y145 z145 st145 hQ145
        subst y145 z145
        have f150 : Arv Z T141.heap b106 k106 .byte x11 [] (.int (0 : Int32)) := ((((f126.ext E125).keep K131 (ninS ne_b106_b125 nin0)).keep K137 (ninS ne_b106_b125 nin0)).keep K141 (ninS ne_b106_b125 nin0))
        have f151 : Exa Z T141.heap b115 "java/util/ArrayList" := (((((A115.keep K120).ext E125).keep K131).keep K137).keep K141)
        have f152 : Keep h0 T141.heap [] := (((f134.trans K131 (allS (P := fun x => x ∈ [] ∨ h0.size ≤ x) (Or.inr sz_b125) all0)).trans K137 (allS (P := fun x => x ∈ [] ∨ h0.size ≤ x) (Or.inr sz_b125) all0)).trans K141 (allS (P := fun x => x ∈ [] ∨ h0.size ≤ x) (Or.inr sz_b125) all0))
        obtain ⟨t__145, rfl, N145q, K145, Ft_145, Et_145, G_mzxid_145, G_ctime_145, G_mtime_145, G_version_145, G_dataLength_145, G_pzxid_145⟩ := hQ145
        have N145 : Fr n0 L145 := by rw [l145]; exact Fr.app N141 N145q
        have g_t__145 : n0 ≤ t__145 := Nat.le_trans f149 Ft_145
        have sz_t__145 : h0.size ≤ t__145 := Nat.le_trans f152.1 Ft_145
        have ne_b106_t__145 : b106 ≠ t__145 := Nat.ne_of_lt (Nat.lt_of_lt_of_le f150.lt Ft_145)
        have ne_b110_t__145 : b110 ≠ t__145 := Nat.ne_of_lt (Nat.lt_of_lt_of_le f148.lt Ft_145)
        have ne_b115_t__145 : b115 ≠ t__145 := Nat.ne_of_lt (Nat.lt_of_lt_of_le f151.lt Ft_145)
        have ne_b125_t__145 : b125 ≠ t__145 := Nat.ne_of_lt (Nat.lt_of_lt_of_le (((A125.keep K131).keep K137).keep K141).lt Ft_145)
        have ne_c__131_t__145 : c__131 ≠ t__145 := Nat.ne_of_lt (Nat.lt_of_lt_of_le ((Ec_131.keep K137).keep K141).lt Ft_145)
        have ne_m__131_t__145 : m__131 ≠ t__145 := Nat.ne_of_lt (Nat.lt_of_lt_of_le ((Em_131.keep K137).keep K141).lt Ft_145)
        have P153 : Rch p e below (s₁.setTop (entryFrame m #[(.long q1), (.long q2), (.long q3), (.long q4), (.long q5), (.int p6)] maxLocals)) (T145.setTop (mkF m 186 #[lv q1, sd, lv q2, sd, lv q3, sd, lv q4, sd, lv q5, sd, iv p6, iv v4, iv x6, iv (0 : Int32), iv x11, iv (0 : Int32), iv x16, iv (1 : Int32), .val r104, rv b106, rv b110, rv b115, rv b125, un, un, un, un, un, un, un, un] [(.ref t__145)])) := fun t k => P144 t (st145.trans k)
        have P154 : Rch p e below (s₁.setTop (entryFrame m #[(.long q1), (.long q2), (.long q3), (.long q4), (.long q5), (.int p6)] maxLocals)) (T145.setTop (mkF m 277 #[lv q1, sd, lv q2, sd, lv q3, sd, lv q4, sd, lv q5, sd, iv p6, iv v4, iv x6, iv (0 : Int32), iv x11, iv (0 : Int32), iv x16, iv (1 : Int32), .val r104, rv b106, rv b110, rv b115, rv b125, rv t__145, rv b110, lv q5, sd, lv q2, sd, iv (2 : Int32), iv x16] [(.ref b125)])) := fun t k => P153 t (by
          show Steps p.tables e below (T145.setTop (mkF m 186 #[lv q1, sd, lv q2, sd, lv q3, sd, lv q4, sd, lv q5, sd, iv p6, iv v4, iv x6, iv (0 : Int32), iv x11, iv (0 : Int32), iv x16, iv (1 : Int32), .val r104, rv b106, rv b110, rv b115, rv b125, un, un, un, un, un, un, un, un] [(.ref t__145)])) t
          refine XS.astore X145.here hx rfl (hb hby at_186) rfl rfl (l' := #[lv q1, sd, lv q2, sd, lv q3, sd, lv q4, sd, lv q5, sd, iv p6, iv v4, iv x6, iv (0 : Int32), iv x11, iv (0 : Int32), iv x16, iv (1 : Int32), .val r104, rv b106, rv b110, rv b115, rv b125, rv t__145, un, un, un, un, un, un, un]) rfl ?_
          refine XS.iload X145.here hx rfl (hb hby at_188) rfl ?_
          refine XS.ifNo X145.here hx rfl (hb hby at_190) rfl ((if0 _ _).trans (feq (by decide)).1) ?_
          show Steps p.tables e below (T145.setTop (mkF m 193 #[lv q1, sd, lv q2, sd, lv q3, sd, lv q4, sd, lv q5, sd, iv p6, iv v4, iv x6, iv (0 : Int32), iv x11, iv (0 : Int32), iv x16, iv (1 : Int32), .val r104, rv b106, rv b110, rv b115, rv b125, rv t__145, un, un, un, un, un, un, un] [])) t
          refine XS.aload X145.here hx rfl (hb hby at_193) rfl rfl ?_
          refine XS.goto X145.here hx rfl (pc0 := 195) (pc' := 200) rfl (hb hby at_195) (by decide) (by decide) ?_
          refine XS.astore X145.here hx rfl (hb hby at_200) rfl rfl (l' := #[lv q1, sd, lv q2, sd, lv q3, sd, lv q4, sd, lv q5, sd, iv p6, iv v4, iv x6, iv (0 : Int32), iv x11, iv (0 : Int32), iv x16, iv (1 : Int32), .val r104, rv b106, rv b110, rv b115, rv b125, rv t__145, rv b110, un, un, un, un, un, un]) rfl ?_
          refine XS.iload X145.here hx rfl (hb hby at_202) rfl ?_
          show Steps p.tables e below (T145.setTop (mkF m 204 #[lv q1, sd, lv q2, sd, lv q3, sd, lv q4, sd, lv q5, sd, iv p6, iv v4, iv x6, iv (0 : Int32), iv x11, iv (0 : Int32), iv x16, iv (1 : Int32), .val r104, rv b106, rv b110, rv b115, rv b125, rv t__145, rv b110, un, un, un, un, un, un] [(.int (1 : Int32))])) t
          refine XS.ifNo X145.here hx rfl (hb hby at_204) rfl ((if0 _ _).trans (feq (by decide)).1) ?_
          refine XS.lload X145.here hx rfl (hb hby at_207) rfl ?_
          refine XS.goto X145.here hx rfl (pc0 := 209) (pc' := 214) rfl (hb hby at_209) (by decide) (by decide) ?_
          refine XS.lstore X145.here hx rfl (hb hby at_214) rfl (l' := #[lv q1, sd, lv q2, sd, lv q3, sd, lv q4, sd, lv q5, sd, iv p6, iv v4, iv x6, iv (0 : Int32), iv x11, iv (0 : Int32), iv x16, iv (1 : Int32), .val r104, rv b106, rv b110, rv b115, rv b125, rv t__145, rv b110, lv q5, sd, un, un, un, un]) rfl ?_
          show Steps p.tables e below (T145.setTop (mkF m 216 #[lv q1, sd, lv q2, sd, lv q3, sd, lv q4, sd, lv q5, sd, iv p6, iv v4, iv x6, iv (0 : Int32), iv x11, iv (0 : Int32), iv x16, iv (1 : Int32), .val r104, rv b106, rv b110, rv b115, rv b125, rv t__145, rv b110, lv q5, sd, un, un, un, un] [])) t
          refine XS.iload X145.here hx rfl (hb hby at_216) rfl ?_
          refine XS.ifNo X145.here hx rfl (hb hby at_218) rfl ((if0 _ _).trans (feq (by decide)).1) ?_
          refine XS.lloadN X145.here hx rfl (hb hby at_221) rfl ?_
          refine XS.goto X145.here hx rfl (pc0 := 222) (pc' := 227) rfl (hb hby at_222) (by decide) (by decide) ?_
          show Steps p.tables e below (T145.setTop (mkF m 227 #[lv q1, sd, lv q2, sd, lv q3, sd, lv q4, sd, lv q5, sd, iv p6, iv v4, iv x6, iv (0 : Int32), iv x11, iv (0 : Int32), iv x16, iv (1 : Int32), .val r104, rv b106, rv b110, rv b115, rv b125, rv t__145, rv b110, lv q5, sd, un, un, un, un] [(.long q2)])) t
          refine XS.lstore X145.here hx rfl (hb hby at_227) rfl (l' := #[lv q1, sd, lv q2, sd, lv q3, sd, lv q4, sd, lv q5, sd, iv p6, iv v4, iv x6, iv (0 : Int32), iv x11, iv (0 : Int32), iv x16, iv (1 : Int32), .val r104, rv b106, rv b110, rv b115, rv b125, rv t__145, rv b110, lv q5, sd, lv q2, sd, un, un]) rfl ?_
          refine XS.iload X145.here hx rfl (hb hby at_229) rfl ?_
          refine XS.ifNo X145.here hx rfl (hb hby at_231) rfl ((if0 _ _).trans (feq (by decide)).1) ?_
          refine XS.iconst X145.here hx rfl (hb hby at_234) ?_
          show Steps p.tables e below (T145.setTop (mkF m 235 #[lv q1, sd, lv q2, sd, lv q3, sd, lv q4, sd, lv q5, sd, iv p6, iv v4, iv x6, iv (0 : Int32), iv x11, iv (0 : Int32), iv x16, iv (1 : Int32), .val r104, rv b106, rv b110, rv b115, rv b125, rv t__145, rv b110, lv q5, sd, lv q2, sd, un, un] [(.int (2 : Int32))])) t
          refine XS.goto X145.here hx rfl (pc0 := 235) (pc' := 239) rfl (hb hby at_235) (by decide) (by decide) ?_
          refine XS.istore X145.here hx rfl (hb hby at_239) rfl (l' := #[lv q1, sd, lv q2, sd, lv q3, sd, lv q4, sd, lv q5, sd, iv p6, iv v4, iv x6, iv (0 : Int32), iv x11, iv (0 : Int32), iv x16, iv (1 : Int32), .val r104, rv b106, rv b110, rv b115, rv b125, rv t__145, rv b110, lv q5, sd, lv q2, sd, iv (2 : Int32), un]) rfl ?_
          refine XS.iload X145.here hx rfl (hb hby at_241) rfl ?_
          refine XS.ifNo X145.here hx rfl (hb hby at_243) rfl ((if0 _ _).trans (feq (by decide)).1) ?_
          show Steps p.tables e below (T145.setTop (mkF m 246 #[lv q1, sd, lv q2, sd, lv q3, sd, lv q4, sd, lv q5, sd, iv p6, iv v4, iv x6, iv (0 : Int32), iv x11, iv (0 : Int32), iv x16, iv (1 : Int32), .val r104, rv b106, rv b110, rv b115, rv b125, rv t__145, rv b110, lv q5, sd, lv q2, sd, iv (2 : Int32), un] [])) t
          refine XS.iload X145.here hx rfl (hb hby at_246) rfl ?_
          refine XS.ifYes X145.here hx rfl (pc0 := 248) (pc' := 255) rfl (hb hby at_248) rfl ((if0 _ _).trans (teq (by decide)).1) (by decide) (by decide) ?_
          refine XS.iload X145.here hx rfl (hb hby at_255) rfl ?_
          refine XS.istore X145.here hx rfl (hb hby at_257) rfl (l' := #[lv q1, sd, lv q2, sd, lv q3, sd, lv q4, sd, lv q5, sd, iv p6, iv v4, iv x6, iv (0 : Int32), iv x11, iv (0 : Int32), iv x16, iv (1 : Int32), .val r104, rv b106, rv b110, rv b115, rv b125, rv t__145, rv b110, lv q5, sd, lv q2, sd, iv (2 : Int32), iv x16]) rfl ?_
          show Steps p.tables e below (T145.setTop (mkF m 259 #[lv q1, sd, lv q2, sd, lv q3, sd, lv q4, sd, lv q5, sd, iv p6, iv v4, iv x6, iv (0 : Int32), iv x11, iv (0 : Int32), iv x16, iv (1 : Int32), .val r104, rv b106, rv b110, rv b115, rv b125, rv t__145, rv b110, lv q5, sd, lv q2, sd, iv (2 : Int32), iv x16] [])) t
          refine XS.goto X145.here hx rfl (pc0 := 259) (pc' := 275) rfl (hb hby at_259) (by decide) (by decide) ?_
          refine XS.aload X145.here hx rfl (hb hby at_275) rfl rfl ?_
          exact k)
        have f156 : n0 ≤ T145.heap.size := (Nat.le_trans f149 K145.1)
        obtain ⟨cq155, kq155, q155a, q155b, q155c⟩ := isOf hZ rfl (E_141.keep K145)
        obtain ⟨_, _, ⟨T155, L155, k155, n155⟩, -, X155, ⟨Lc155, hQ155, l155, y155, z155⟩, st155⟩ := X145.virtualBack hx (y := (⟨"com/example/usher/usher/core/Node", "data", "()[B"⟩ : MethodName)) (z := (⟨"com/example/usher/usher/core/Node", "data", "()[B"⟩ : MethodName)) hown (mvT hZ (hw _ (List.mem_of_getElem? (i := 146) rfl))) (mvT hZ (hw _ (List.mem_of_getElem? (i := 147) rfl))) (notFace_of_selects (args := #[]) (mvT hZ (hw _ (List.mem_of_getElem? (i := 149) rfl)))) (mvT hZ (hw _ (List.mem_of_getElem? (i := 149) rfl))) (mvT hZ (hw _ (List.mem_of_getElem? (i := 148) rfl))) (by decide) (backOf (W := 0) (rmdt l Z a0 hw [] b125 (.ref b110) T145.heap n0 f156 (G4_141.keep K145 nin0) rfl) hZ (hw _ (List.mem_of_getElem? (i := 150) rfl)) (hw _ (List.mem_of_getElem? (i := 29) rfl)) (by decide) (by decide)) q155a q155c (g := (mkF m 277 #[lv q1, sd, lv q2, sd, lv q3, sd, lv q4, sd, lv q5, sd, iv p6, iv v4, iv x6, iv (0 : Int32), iv x11, iv (0 : Int32), iv x16, iv (1 : Int32), .val r104, rv b106, rv b110, rv b115, rv b125, rv t__145, rv b110, lv q5, sd, lv q2, sd, iv (2 : Int32), iv x16] [(.ref b125)])) rfl (by rw [hml]; rfl) (Steps.refl _) (argsL := []) (rest := []) (lenOf pd_6 rfl) rfl (by show 2 * 0 + _ ≤ _; exact Nat.le_of_eq rfl) (hb hby at_277) (fun _ _ => ⟨rfl, rfl, (by decide : 8 + 0 ≤ _), (by decide : 45 + 0 ≤ _)⟩)
        dsimp only [Pt.U, Pt.locs, Pt.cells, Pt.slots] at X155 l155 y155 z155 st155 hQ155
        subst y155 z155
        obtain ⟨rfl, N155q, e155⟩ := hQ155
        have N155 : Fr n0 L155 := by rw [l155]; exact Fr.app N145 N155q
        have P157 : Rch p e below (s₁.setTop (entryFrame m #[(.long q1), (.long q2), (.long q3), (.long q4), (.long q5), (.int p6)] maxLocals)) (T155.setTop (mkF m 280 #[lv q1, sd, lv q2, sd, lv q3, sd, lv q4, sd, lv q5, sd, iv p6, iv v4, iv x6, iv (0 : Int32), iv x11, iv (0 : Int32), iv x16, iv (1 : Int32), .val r104, rv b106, rv b110, rv b115, rv b125, rv t__145, rv b110, lv q5, sd, lv q2, sd, iv (2 : Int32), iv x16] [(.ref b110)])) := fun t k => P154 t (st155.trans k)
        have P158 : Rch p e below (s₁.setTop (entryFrame m #[(.long q1), (.long q2), (.long q3), (.long q4), (.long q5), (.int p6)] maxLocals)) (T155.setTop (mkF m 287 #[lv q1, sd, lv q2, sd, lv q3, sd, lv q4, sd, lv q5, sd, iv p6, iv v4, iv x6, iv (0 : Int32), iv x11, iv (0 : Int32), iv x16, iv (1 : Int32), .val r104, rv b106, rv b110, rv b115, rv b125, rv t__145, rv b110, lv q5, sd, lv q2, sd, iv (2 : Int32), iv x16] [(.ref t__145)])) := fun t k => P157 t (by
          show Steps p.tables e below (T155.setTop (mkF m 280 #[lv q1, sd, lv q2, sd, lv q3, sd, lv q4, sd, lv q5, sd, iv p6, iv v4, iv x6, iv (0 : Int32), iv x11, iv (0 : Int32), iv x16, iv (1 : Int32), .val r104, rv b106, rv b110, rv b115, rv b125, rv t__145, rv b110, lv q5, sd, lv q2, sd, iv (2 : Int32), iv x16] [(.ref b110)])) t
          refine XS.aload X155.here hx rfl (hb hby at_280) rfl rfl ?_
          refine Jvm.RoadKit.acmp (g := (mkF m 282 #[lv q1, sd, lv q2, sd, lv q3, sd, lv q4, sd, lv q5, sd, iv p6, iv v4, iv x6, iv (0 : Int32), iv x11, iv (0 : Int32), iv x16, iv (1 : Int32), .val r104, rv b106, rv b110, rv b115, rv b125, rv t__145, rv b110, lv q5, sd, lv q2, sd, iv (2 : Int32), iv x16] [(.ref b110), (.ref b110)])) X155 hx rfl rfl rfl (pc0 := 282) (pc' := 285) (same := true) rfl (hb hby at_282) rfl (decide_eq_true (congrArg Value.ref rfl)) (by decide) (by decide) ?_
          refine XS.aload X155.here hx rfl (hb hby at_285) rfl rfl ?_
          exact k)
        obtain ⟨cq159, kq159, q159a, q159b, q159c⟩ := isOf hZ e155 Et_145
        obtain ⟨_, _, ⟨T159, L159, k159, n159⟩, -, X159, ⟨Lc159, hQ159, l159, y159, z159⟩, st159⟩ := X155.virtualBack hx (y := (⟨"com/example/usher/usher/protocol/Stat", "mzxid", "()J"⟩ : MethodName)) (z := (⟨"com/example/usher/usher/protocol/Stat", "mzxid", "()J"⟩ : MethodName)) hown (mvT hZ (hw _ (List.mem_of_getElem? (i := 151) rfl))) (mvT hZ (hw _ (List.mem_of_getElem? (i := 152) rfl))) (notFace_of_selects (args := #[]) (mvT hZ (hw _ (List.mem_of_getElem? (i := 154) rfl)))) (mvT hZ (hw _ (List.mem_of_getElem? (i := 154) rfl))) (mvT hZ (hw _ (List.mem_of_getElem? (i := 153) rfl))) (by decide) (backOf (W := 0) (rmG_mzxid l Z a0 hw [] t__145 q5 T145.heap n0 f156 G_mzxid_145) hZ (hw _ (List.mem_of_getElem? (i := 155) rfl)) (hw _ (List.mem_of_getElem? (i := 99) rfl)) (by decide) (by decide)) q159a q159c (g := (mkF m 287 #[lv q1, sd, lv q2, sd, lv q3, sd, lv q4, sd, lv q5, sd, iv p6, iv v4, iv x6, iv (0 : Int32), iv x11, iv (0 : Int32), iv x16, iv (1 : Int32), .val r104, rv b106, rv b110, rv b115, rv b125, rv t__145, rv b110, lv q5, sd, lv q2, sd, iv (2 : Int32), iv x16] [(.ref t__145)])) rfl (by rw [hml]; rfl) (Steps.refl _) (argsL := []) (rest := []) (lenOf pd_7 rfl) rfl (by show 2 * 0 + _ ≤ _; exact Nat.le_of_eq rfl) (hb hby at_287) (fun _ _ => ⟨rfl, e155, (by decide : 8 + 0 ≤ _), (by decide : 45 + 0 ≤ _)⟩)
        dsimp only [Pt.U, Pt.locs, Pt.cells, Pt.slots] at X159 l159 y159 z159 st159 hQ159
        subst y159 z159
        obtain ⟨rfl, N159q, e159⟩ := hQ159
        have N159 : Fr n0 L159 := by rw [l159]; exact Fr.app N155 N159q
        have P160 : Rch p e below (s₁.setTop (entryFrame m #[(.long q1), (.long q2), (.long q3), (.long q4), (.long q5), (.int p6)] maxLocals)) (T159.setTop (mkF m 290 #[lv q1, sd, lv q2, sd, lv q3, sd, lv q4, sd, lv q5, sd, iv p6, iv v4, iv x6, iv (0 : Int32), iv x11, iv (0 : Int32), iv x16, iv (1 : Int32), .val r104, rv b106, rv b110, rv b115, rv b125, rv t__145, rv b110, lv q5, sd, lv q2, sd, iv (2 : Int32), iv x16] [(.long q5)])) := fun t k => P158 t (st159.trans k)
        have P161 : Rch p e below (s₁.setTop (entryFrame m #[(.long q1), (.long q2), (.long q3), (.long q4), (.long q5), (.int p6)] maxLocals)) (T159.setTop (mkF m 298 #[lv q1, sd, lv q2, sd, lv q3, sd, lv q4, sd, lv q5, sd, iv p6, iv v4, iv x6, iv (0 : Int32), iv x11, iv (0 : Int32), iv x16, iv (1 : Int32), .val r104, rv b106, rv b110, rv b115, rv b125, rv t__145, rv b110, lv q5, sd, lv q2, sd, iv (2 : Int32), iv x16] [(.ref t__145)])) := fun t k => P160 t (by
          show Steps p.tables e below (T159.setTop (mkF m 290 #[lv q1, sd, lv q2, sd, lv q3, sd, lv q4, sd, lv q5, sd, iv p6, iv v4, iv x6, iv (0 : Int32), iv x11, iv (0 : Int32), iv x16, iv (1 : Int32), .val r104, rv b106, rv b110, rv b115, rv b125, rv t__145, rv b110, lv q5, sd, lv q2, sd, iv (2 : Int32), iv x16] [(.long q5)])) t
          refine XS.lload X159.here hx rfl (hb hby at_290) rfl ?_
          refine XS.lcmp X159.here hx rfl (hb hby at_292) rfl ?_
          refine XS.ifNo X159.here hx rfl (hb hby at_293) rfl ((if0 _ _).trans (teq ((lw_eq q5 q5).mpr rfl)).2) ?_
          show Steps p.tables e below (T159.setTop (mkF m 296 #[lv q1, sd, lv q2, sd, lv q3, sd, lv q4, sd, lv q5, sd, iv p6, iv v4, iv x6, iv (0 : Int32), iv x11, iv (0 : Int32), iv x16, iv (1 : Int32), .val r104, rv b106, rv b110, rv b115, rv b125, rv t__145, rv b110, lv q5, sd, lv q2, sd, iv (2 : Int32), iv x16] [])) t
          refine XS.aload X159.here hx rfl (hb hby at_296) rfl rfl ?_
          exact k)
        obtain ⟨cq162, kq162, q162a, q162b, q162c⟩ := isOf hZ e159 Et_145
        obtain ⟨_, _, ⟨T162, L162, k162, n162⟩, -, X162, ⟨Lc162, hQ162, l162, y162, z162⟩, st162⟩ := X159.virtualBack hx (y := (⟨"com/example/usher/usher/protocol/Stat", "mtime", "()J"⟩ : MethodName)) (z := (⟨"com/example/usher/usher/protocol/Stat", "mtime", "()J"⟩ : MethodName)) hown (mvT hZ (hw _ (List.mem_of_getElem? (i := 156) rfl))) (mvT hZ (hw _ (List.mem_of_getElem? (i := 157) rfl))) (notFace_of_selects (args := #[]) (mvT hZ (hw _ (List.mem_of_getElem? (i := 159) rfl)))) (mvT hZ (hw _ (List.mem_of_getElem? (i := 159) rfl))) (mvT hZ (hw _ (List.mem_of_getElem? (i := 158) rfl))) (by decide) (backOf (W := 0) (rmG_mtime l Z a0 hw [] t__145 q2 T145.heap n0 f156 G_mtime_145) hZ (hw _ (List.mem_of_getElem? (i := 160) rfl)) (hw _ (List.mem_of_getElem? (i := 99) rfl)) (by decide) (by decide)) q162a q162c (g := (mkF m 298 #[lv q1, sd, lv q2, sd, lv q3, sd, lv q4, sd, lv q5, sd, iv p6, iv v4, iv x6, iv (0 : Int32), iv x11, iv (0 : Int32), iv x16, iv (1 : Int32), .val r104, rv b106, rv b110, rv b115, rv b125, rv t__145, rv b110, lv q5, sd, lv q2, sd, iv (2 : Int32), iv x16] [(.ref t__145)])) rfl (by rw [hml]; rfl) (Steps.refl _) (argsL := []) (rest := []) (lenOf pd_7 rfl) rfl (by show 2 * 0 + _ ≤ _; exact Nat.le_of_eq rfl) (hb hby at_298) (fun _ _ => ⟨rfl, e159, (by decide : 8 + 0 ≤ _), (by decide : 45 + 0 ≤ _)⟩)
        dsimp only [Pt.U, Pt.locs, Pt.cells, Pt.slots] at X162 l162 y162 z162 st162 hQ162
        subst y162 z162
        obtain ⟨rfl, N162q, e162⟩ := hQ162
        have N162 : Fr n0 L162 := by rw [l162]; exact Fr.app N159 N162q
        have P163 : Rch p e below (s₁.setTop (entryFrame m #[(.long q1), (.long q2), (.long q3), (.long q4), (.long q5), (.int p6)] maxLocals)) (T162.setTop (mkF m 301 #[lv q1, sd, lv q2, sd, lv q3, sd, lv q4, sd, lv q5, sd, iv p6, iv v4, iv x6, iv (0 : Int32), iv x11, iv (0 : Int32), iv x16, iv (1 : Int32), .val r104, rv b106, rv b110, rv b115, rv b125, rv t__145, rv b110, lv q5, sd, lv q2, sd, iv (2 : Int32), iv x16] [(.long q2)])) := fun t k => P161 t (st162.trans k)
        have P164 : Rch p e below (s₁.setTop (entryFrame m #[(.long q1), (.long q2), (.long q3), (.long q4), (.long q5), (.int p6)] maxLocals)) (T162.setTop (mkF m 309 #[lv q1, sd, lv q2, sd, lv q3, sd, lv q4, sd, lv q5, sd, iv p6, iv v4, iv x6, iv (0 : Int32), iv x11, iv (0 : Int32), iv x16, iv (1 : Int32), .val r104, rv b106, rv b110, rv b115, rv b125, rv t__145, rv b110, lv q5, sd, lv q2, sd, iv (2 : Int32), iv x16] [(.ref t__145)])) := fun t k => P163 t (by
          show Steps p.tables e below (T162.setTop (mkF m 301 #[lv q1, sd, lv q2, sd, lv q3, sd, lv q4, sd, lv q5, sd, iv p6, iv v4, iv x6, iv (0 : Int32), iv x11, iv (0 : Int32), iv x16, iv (1 : Int32), .val r104, rv b106, rv b110, rv b115, rv b125, rv t__145, rv b110, lv q5, sd, lv q2, sd, iv (2 : Int32), iv x16] [(.long q2)])) t
          refine XS.lload X162.here hx rfl (hb hby at_301) rfl ?_
          refine XS.lcmp X162.here hx rfl (hb hby at_303) rfl ?_
          refine XS.ifNo X162.here hx rfl (hb hby at_304) rfl ((if0 _ _).trans (teq ((lw_eq q2 q2).mpr rfl)).2) ?_
          show Steps p.tables e below (T162.setTop (mkF m 307 #[lv q1, sd, lv q2, sd, lv q3, sd, lv q4, sd, lv q5, sd, iv p6, iv v4, iv x6, iv (0 : Int32), iv x11, iv (0 : Int32), iv x16, iv (1 : Int32), .val r104, rv b106, rv b110, rv b115, rv b125, rv t__145, rv b110, lv q5, sd, lv q2, sd, iv (2 : Int32), iv x16] [])) t
          refine XS.aload X162.here hx rfl (hb hby at_307) rfl rfl ?_
          exact k)
        obtain ⟨cq165, kq165, q165a, q165b, q165c⟩ := isOf hZ e162 Et_145
        obtain ⟨_, _, ⟨T165, L165, k165, n165⟩, -, X165, ⟨Lc165, hQ165, l165, y165, z165⟩, st165⟩ := X162.virtualBack hx (y := (⟨"com/example/usher/usher/protocol/Stat", "version", "()I"⟩ : MethodName)) (z := (⟨"com/example/usher/usher/protocol/Stat", "version", "()I"⟩ : MethodName)) hown (mvT hZ (hw _ (List.mem_of_getElem? (i := 161) rfl))) (mvT hZ (hw _ (List.mem_of_getElem? (i := 162) rfl))) (notFace_of_selects (args := #[]) (mvT hZ (hw _ (List.mem_of_getElem? (i := 164) rfl)))) (mvT hZ (hw _ (List.mem_of_getElem? (i := 164) rfl))) (mvT hZ (hw _ (List.mem_of_getElem? (i := 163) rfl))) (by decide) (backOf (W := 0) (rmG_version l Z a0 hw [] t__145 (((0 : Int32) + (1 : Int32)) + (1 : Int32)) T145.heap n0 f156 G_version_145) hZ (hw _ (List.mem_of_getElem? (i := 165) rfl)) (hw _ (List.mem_of_getElem? (i := 99) rfl)) (by decide) (by decide)) q165a q165c (g := (mkF m 309 #[lv q1, sd, lv q2, sd, lv q3, sd, lv q4, sd, lv q5, sd, iv p6, iv v4, iv x6, iv (0 : Int32), iv x11, iv (0 : Int32), iv x16, iv (1 : Int32), .val r104, rv b106, rv b110, rv b115, rv b125, rv t__145, rv b110, lv q5, sd, lv q2, sd, iv (2 : Int32), iv x16] [(.ref t__145)])) rfl (by rw [hml]; rfl) (Steps.refl _) (argsL := []) (rest := []) (lenOf pd_1 rfl) rfl (by show 2 * 0 + _ ≤ _; exact Nat.le_of_eq rfl) (hb hby at_309) (fun _ _ => ⟨rfl, e162, (by decide : 8 + 0 ≤ _), (by decide : 45 + 0 ≤ _)⟩)
        dsimp only [Pt.U, Pt.locs, Pt.cells, Pt.slots] at X165 l165 y165 z165 st165 hQ165
        subst y165 z165
        obtain ⟨rfl, N165q, e165⟩ := hQ165
        have N165 : Fr n0 L165 := by rw [l165]; exact Fr.app N162 N165q
        have P166 : Rch p e below (s₁.setTop (entryFrame m #[(.long q1), (.long q2), (.long q3), (.long q4), (.long q5), (.int p6)] maxLocals)) (T165.setTop (mkF m 312 #[lv q1, sd, lv q2, sd, lv q3, sd, lv q4, sd, lv q5, sd, iv p6, iv v4, iv x6, iv (0 : Int32), iv x11, iv (0 : Int32), iv x16, iv (1 : Int32), .val r104, rv b106, rv b110, rv b115, rv b125, rv t__145, rv b110, lv q5, sd, lv q2, sd, iv (2 : Int32), iv x16] [(.int (((0 : Int32) + (1 : Int32)) + (1 : Int32)))])) := fun t k => P164 t (st165.trans k)
        obtain ⟨x167, hx167⟩ : ∃ z : Int32, z = (((0 : Int32) + (1 : Int32)) + (1 : Int32)) := ⟨_, rfl⟩
        rw [← hx167] at P166
        have P168 : Rch p e below (s₁.setTop (entryFrame m #[(.long q1), (.long q2), (.long q3), (.long q4), (.long q5), (.int p6)] maxLocals)) (T165.setTop (mkF m 314 #[lv q1, sd, lv q2, sd, lv q3, sd, lv q4, sd, lv q5, sd, iv p6, iv v4, iv x6, iv (0 : Int32), iv x11, iv (0 : Int32), iv x16, iv (1 : Int32), .val r104, rv b106, rv b110, rv b115, rv b125, rv t__145, rv b110, lv q5, sd, lv q2, sd, iv (2 : Int32), iv x16] [(.int (2 : Int32)), (.int x167)])) := fun t k => P166 t (by
          show Steps p.tables e below (T165.setTop (mkF m 312 #[lv q1, sd, lv q2, sd, lv q3, sd, lv q4, sd, lv q5, sd, iv p6, iv v4, iv x6, iv (0 : Int32), iv x11, iv (0 : Int32), iv x16, iv (1 : Int32), .val r104, rv b106, rv b110, rv b115, rv b125, rv t__145, rv b110, lv q5, sd, lv q2, sd, iv (2 : Int32), iv x16] [(.int x167)])) t
          refine XS.iload X165.here hx rfl (hb hby at_312) rfl ?_
          exact k)
        have hvq : x167 = (2 : Int32) := by rw [hx167]; decide
        have P169 : Rch p e below (s₁.setTop (entryFrame m #[(.long q1), (.long q2), (.long q3), (.long q4), (.long q5), (.int p6)] maxLocals)) (T165.setTop (mkF m 319 #[lv q1, sd, lv q2, sd, lv q3, sd, lv q4, sd, lv q5, sd, iv p6, iv v4, iv x6, iv (0 : Int32), iv x11, iv (0 : Int32), iv x16, iv (1 : Int32), .val r104, rv b106, rv b110, rv b115, rv b125, rv t__145, rv b110, lv q5, sd, lv q2, sd, iv (2 : Int32), iv x16] [(.ref t__145)])) := fun t k => P168 t (by
          show Steps p.tables e below (T165.setTop (mkF m 314 #[lv q1, sd, lv q2, sd, lv q3, sd, lv q4, sd, lv q5, sd, iv p6, iv v4, iv x6, iv (0 : Int32), iv x11, iv (0 : Int32), iv x16, iv (1 : Int32), .val r104, rv b106, rv b110, rv b115, rv b125, rv t__145, rv b110, lv q5, sd, lv q2, sd, iv (2 : Int32), iv x16] [(.int (2 : Int32)), (.int x167)])) t
          refine XS.icmpNo X165.here hx rfl (hb hby at_314) rfl (teq hvq).2 ?_
          refine XS.aload X165.here hx rfl (hb hby at_317) rfl rfl ?_
          exact k)
        obtain ⟨cq170, kq170, q170a, q170b, q170c⟩ := isOf hZ e165 Et_145
        obtain ⟨_, _, ⟨T170, L170, k170, n170⟩, -, X170, ⟨Lc170, hQ170, l170, y170, z170⟩, st170⟩ := X165.virtualBack hx (y := (⟨"com/example/usher/usher/protocol/Stat", "dataLength", "()I"⟩ : MethodName)) (z := (⟨"com/example/usher/usher/protocol/Stat", "dataLength", "()I"⟩ : MethodName)) hown (mvT hZ (hw _ (List.mem_of_getElem? (i := 166) rfl))) (mvT hZ (hw _ (List.mem_of_getElem? (i := 167) rfl))) (notFace_of_selects (args := #[]) (mvT hZ (hw _ (List.mem_of_getElem? (i := 169) rfl)))) (mvT hZ (hw _ (List.mem_of_getElem? (i := 169) rfl))) (mvT hZ (hw _ (List.mem_of_getElem? (i := 168) rfl))) (by decide) (backOf (W := 0) (rmG_dataLength l Z a0 hw [] t__145 x16 T145.heap n0 f156 G_dataLength_145) hZ (hw _ (List.mem_of_getElem? (i := 170) rfl)) (hw _ (List.mem_of_getElem? (i := 99) rfl)) (by decide) (by decide)) q170a q170c (g := (mkF m 319 #[lv q1, sd, lv q2, sd, lv q3, sd, lv q4, sd, lv q5, sd, iv p6, iv v4, iv x6, iv (0 : Int32), iv x11, iv (0 : Int32), iv x16, iv (1 : Int32), .val r104, rv b106, rv b110, rv b115, rv b125, rv t__145, rv b110, lv q5, sd, lv q2, sd, iv (2 : Int32), iv x16] [(.ref t__145)])) rfl (by rw [hml]; rfl) (Steps.refl _) (argsL := []) (rest := []) (lenOf pd_1 rfl) rfl (by show 2 * 0 + _ ≤ _; exact Nat.le_of_eq rfl) (hb hby at_319) (fun _ _ => ⟨rfl, e165, (by decide : 8 + 0 ≤ _), (by decide : 45 + 0 ≤ _)⟩)
        dsimp only [Pt.U, Pt.locs, Pt.cells, Pt.slots] at X170 l170 y170 z170 st170 hQ170
        subst y170 z170
        obtain ⟨rfl, N170q, e170⟩ := hQ170
        have N170 : Fr n0 L170 := by rw [l170]; exact Fr.app N165 N170q
        have P171 : Rch p e below (s₁.setTop (entryFrame m #[(.long q1), (.long q2), (.long q3), (.long q4), (.long q5), (.int p6)] maxLocals)) (T170.setTop (mkF m 322 #[lv q1, sd, lv q2, sd, lv q3, sd, lv q4, sd, lv q5, sd, iv p6, iv v4, iv x6, iv (0 : Int32), iv x11, iv (0 : Int32), iv x16, iv (1 : Int32), .val r104, rv b106, rv b110, rv b115, rv b125, rv t__145, rv b110, lv q5, sd, lv q2, sd, iv (2 : Int32), iv x16] [(.int x16)])) := fun t k => P169 t (st170.trans k)
        have P172 : Rch p e below (s₁.setTop (entryFrame m #[(.long q1), (.long q2), (.long q3), (.long q4), (.long q5), (.int p6)] maxLocals)) (T170.setTop (mkF m 329 #[lv q1, sd, lv q2, sd, lv q3, sd, lv q4, sd, lv q5, sd, iv p6, iv v4, iv x6, iv (0 : Int32), iv x11, iv (0 : Int32), iv x16, iv (1 : Int32), .val r104, rv b106, rv b110, rv b115, rv b125, rv t__145, rv b110, lv q5, sd, lv q2, sd, iv (2 : Int32), iv x16] [(.ref t__145)])) := fun t k => P171 t (by
          show Steps p.tables e below (T170.setTop (mkF m 322 #[lv q1, sd, lv q2, sd, lv q3, sd, lv q4, sd, lv q5, sd, iv p6, iv v4, iv x6, iv (0 : Int32), iv x11, iv (0 : Int32), iv x16, iv (1 : Int32), .val r104, rv b106, rv b110, rv b115, rv b125, rv t__145, rv b110, lv q5, sd, lv q2, sd, iv (2 : Int32), iv x16] [(.int x16)])) t
          refine XS.iload X170.here hx rfl (hb hby at_322) rfl ?_
          refine XS.icmpNo X170.here hx rfl (hb hby at_324) rfl (teq rfl).2 ?_
          refine XS.aload X170.here hx rfl (hb hby at_327) rfl rfl ?_
          exact k)
        obtain ⟨cq173, kq173, q173a, q173b, q173c⟩ := isOf hZ e170 Et_145
        obtain ⟨_, _, ⟨T173, L173, k173, n173⟩, -, X173, ⟨Lc173, hQ173, l173, y173, z173⟩, st173⟩ := X170.virtualBack hx (y := (⟨"com/example/usher/usher/protocol/Stat", "pzxid", "()J"⟩ : MethodName)) (z := (⟨"com/example/usher/usher/protocol/Stat", "pzxid", "()J"⟩ : MethodName)) hown (mvT hZ (hw _ (List.mem_of_getElem? (i := 171) rfl))) (mvT hZ (hw _ (List.mem_of_getElem? (i := 172) rfl))) (notFace_of_selects (args := #[]) (mvT hZ (hw _ (List.mem_of_getElem? (i := 174) rfl)))) (mvT hZ (hw _ (List.mem_of_getElem? (i := 174) rfl))) (mvT hZ (hw _ (List.mem_of_getElem? (i := 173) rfl))) (by decide) (backOf (W := 0) (rmG_pzxid l Z a0 hw [] t__145 q1 T145.heap n0 f156 G_pzxid_145) hZ (hw _ (List.mem_of_getElem? (i := 175) rfl)) (hw _ (List.mem_of_getElem? (i := 99) rfl)) (by decide) (by decide)) q173a q173c (g := (mkF m 329 #[lv q1, sd, lv q2, sd, lv q3, sd, lv q4, sd, lv q5, sd, iv p6, iv v4, iv x6, iv (0 : Int32), iv x11, iv (0 : Int32), iv x16, iv (1 : Int32), .val r104, rv b106, rv b110, rv b115, rv b125, rv t__145, rv b110, lv q5, sd, lv q2, sd, iv (2 : Int32), iv x16] [(.ref t__145)])) rfl (by rw [hml]; rfl) (Steps.refl _) (argsL := []) (rest := []) (lenOf pd_7 rfl) rfl (by show 2 * 0 + _ ≤ _; exact Nat.le_of_eq rfl) (hb hby at_329) (fun _ _ => ⟨rfl, e170, (by decide : 8 + 0 ≤ _), (by decide : 45 + 0 ≤ _)⟩)
        dsimp only [Pt.U, Pt.locs, Pt.cells, Pt.slots] at X173 l173 y173 z173 st173 hQ173
        subst y173 z173
        obtain ⟨rfl, N173q, e173⟩ := hQ173
        have N173 : Fr n0 L173 := by rw [l173]; exact Fr.app N170 N173q
        have P174 : Rch p e below (s₁.setTop (entryFrame m #[(.long q1), (.long q2), (.long q3), (.long q4), (.long q5), (.int p6)] maxLocals)) (T173.setTop (mkF m 332 #[lv q1, sd, lv q2, sd, lv q3, sd, lv q4, sd, lv q5, sd, iv p6, iv v4, iv x6, iv (0 : Int32), iv x11, iv (0 : Int32), iv x16, iv (1 : Int32), .val r104, rv b106, rv b110, rv b115, rv b125, rv t__145, rv b110, lv q5, sd, lv q2, sd, iv (2 : Int32), iv x16] [(.long q1)])) := fun t k => P172 t (st173.trans k)
        have P175 : Rch p e below (s₁.setTop (entryFrame m #[(.long q1), (.long q2), (.long q3), (.long q4), (.long q5), (.int p6)] maxLocals)) (T173.setTop (mkF m 339 #[lv q1, sd, lv q2, sd, lv q3, sd, lv q4, sd, lv q5, sd, iv p6, iv v4, iv x6, iv (0 : Int32), iv x11, iv (0 : Int32), iv x16, iv (1 : Int32), .val r104, rv b106, rv b110, rv b115, rv b125, rv t__145, rv b110, lv q5, sd, lv q2, sd, iv (2 : Int32), iv x16] [(.ref t__145)])) := fun t k => P174 t (by
          show Steps p.tables e below (T173.setTop (mkF m 332 #[lv q1, sd, lv q2, sd, lv q3, sd, lv q4, sd, lv q5, sd, iv p6, iv v4, iv x6, iv (0 : Int32), iv x11, iv (0 : Int32), iv x16, iv (1 : Int32), .val r104, rv b106, rv b110, rv b115, rv b125, rv t__145, rv b110, lv q5, sd, lv q2, sd, iv (2 : Int32), iv x16] [(.long q1)])) t
          refine XS.lloadN X173.here hx rfl (hb hby at_332) rfl ?_
          refine XS.lcmp X173.here hx rfl (hb hby at_333) rfl ?_
          refine XS.ifNo X173.here hx rfl (hb hby at_334) rfl ((if0 _ _).trans (teq ((lw_eq q1 q1).mpr rfl)).2) ?_
          show Steps p.tables e below (T173.setTop (mkF m 337 #[lv q1, sd, lv q2, sd, lv q3, sd, lv q4, sd, lv q5, sd, iv p6, iv v4, iv x6, iv (0 : Int32), iv x11, iv (0 : Int32), iv x16, iv (1 : Int32), .val r104, rv b106, rv b110, rv b115, rv b125, rv t__145, rv b110, lv q5, sd, lv q2, sd, iv (2 : Int32), iv x16] [])) t
          refine XS.aload X173.here hx rfl (hb hby at_337) rfl rfl ?_
          exact k)
        obtain ⟨cq176, kq176, q176a, q176b, q176c⟩ := isOf hZ e173 Et_145
        obtain ⟨_, _, ⟨T176, L176, k176, n176⟩, -, X176, ⟨Lc176, hQ176, l176, y176, z176⟩, st176⟩ := X173.virtualBack hx (y := (⟨"com/example/usher/usher/protocol/Stat", "ctime", "()J"⟩ : MethodName)) (z := (⟨"com/example/usher/usher/protocol/Stat", "ctime", "()J"⟩ : MethodName)) hown (mvT hZ (hw _ (List.mem_of_getElem? (i := 176) rfl))) (mvT hZ (hw _ (List.mem_of_getElem? (i := 177) rfl))) (notFace_of_selects (args := #[]) (mvT hZ (hw _ (List.mem_of_getElem? (i := 179) rfl)))) (mvT hZ (hw _ (List.mem_of_getElem? (i := 179) rfl))) (mvT hZ (hw _ (List.mem_of_getElem? (i := 178) rfl))) (by decide) (backOf (W := 0) (rmG_ctime l Z a0 hw [] t__145 q2 T145.heap n0 f156 G_ctime_145) hZ (hw _ (List.mem_of_getElem? (i := 180) rfl)) (hw _ (List.mem_of_getElem? (i := 99) rfl)) (by decide) (by decide)) q176a q176c (g := (mkF m 339 #[lv q1, sd, lv q2, sd, lv q3, sd, lv q4, sd, lv q5, sd, iv p6, iv v4, iv x6, iv (0 : Int32), iv x11, iv (0 : Int32), iv x16, iv (1 : Int32), .val r104, rv b106, rv b110, rv b115, rv b125, rv t__145, rv b110, lv q5, sd, lv q2, sd, iv (2 : Int32), iv x16] [(.ref t__145)])) rfl (by rw [hml]; rfl) (Steps.refl _) (argsL := []) (rest := []) (lenOf pd_7 rfl) rfl (by show 2 * 0 + _ ≤ _; exact Nat.le_of_eq rfl) (hb hby at_339) (fun _ _ => ⟨rfl, e173, (by decide : 8 + 0 ≤ _), (by decide : 45 + 0 ≤ _)⟩)
        dsimp only [Pt.U, Pt.locs, Pt.cells, Pt.slots] at X176 l176 y176 z176 st176 hQ176
        subst y176 z176
        obtain ⟨rfl, N176q, e176⟩ := hQ176
        have N176 : Fr n0 L176 := by rw [l176]; exact Fr.app N173 N176q
        have P177 : Rch p e below (s₁.setTop (entryFrame m #[(.long q1), (.long q2), (.long q3), (.long q4), (.long q5), (.int p6)] maxLocals)) (T176.setTop (mkF m 342 #[lv q1, sd, lv q2, sd, lv q3, sd, lv q4, sd, lv q5, sd, iv p6, iv v4, iv x6, iv (0 : Int32), iv x11, iv (0 : Int32), iv x16, iv (1 : Int32), .val r104, rv b106, rv b110, rv b115, rv b125, rv t__145, rv b110, lv q5, sd, lv q2, sd, iv (2 : Int32), iv x16] [(.long q2)])) := fun t k => P175 t (st176.trans k)
        have P178 : Rch p e below (s₁.setTop (entryFrame m #[(.long q1), (.long q2), (.long q3), (.long q4), (.long q5), (.int p6)] maxLocals)) (T176.setTop (mkF m 352 #[lv q1, sd, lv q2, sd, lv q3, sd, lv q4, sd, lv q5, sd, iv p6, iv v4, iv x6, iv (0 : Int32), iv x11, iv (0 : Int32), iv x16, iv (1 : Int32), .val r104, rv b106, rv b110, rv b115, rv b125, rv t__145, rv b110, lv q5, sd, lv q2, sd, iv (2 : Int32), iv x16] [(.int (1 : Int32))])) := fun t k => P177 t (by
          show Steps p.tables e below (T176.setTop (mkF m 342 #[lv q1, sd, lv q2, sd, lv q3, sd, lv q4, sd, lv q5, sd, iv p6, iv v4, iv x6, iv (0 : Int32), iv x11, iv (0 : Int32), iv x16, iv (1 : Int32), .val r104, rv b106, rv b110, rv b115, rv b125, rv t__145, rv b110, lv q5, sd, lv q2, sd, iv (2 : Int32), iv x16] [(.long q2)])) t
          refine XS.lloadN X176.here hx rfl (hb hby at_342) rfl ?_
          refine XS.lcmp X176.here hx rfl (hb hby at_343) rfl ?_
          refine XS.ifNo X176.here hx rfl (hb hby at_344) rfl ((if0 _ _).trans (teq ((lw_eq q2 q2).mpr rfl)).2) ?_
          show Steps p.tables e below (T176.setTop (mkF m 347 #[lv q1, sd, lv q2, sd, lv q3, sd, lv q4, sd, lv q5, sd, iv p6, iv v4, iv x6, iv (0 : Int32), iv x11, iv (0 : Int32), iv x16, iv (1 : Int32), .val r104, rv b106, rv b110, rv b115, rv b125, rv t__145, rv b110, lv q5, sd, lv q2, sd, iv (2 : Int32), iv x16] [])) t
          refine XS.iconst X176.here hx rfl (hb hby at_347) ?_
          refine XS.goto X176.here hx rfl (pc0 := 348) (pc' := 352) rfl (hb hby at_348) (by decide) (by decide) ?_
          exact k)
        obtain ⟨fs, hr, hrun, hended, hW, hsame⟩ := X176.leave (v := some (.int (1 : Int32))) (fun h => by rw [Bd.returns] at h; cases h)
        refine ⟨_, _, P178 _ ?_, hrun, hended, _, _, rfl, ?_, ⟨_, rfl⟩, hW, hsame.mono (by decide) (by decide)⟩
        · exact retN X176 hx (t := .boolean) Bd.returns (by simp) (hb hby at_352) hr
        · show Q_rm0 Z q1 q2 q3 q4 q5 p6 aD h0 n0 _ T176.heap _
          rw [e176]
          exact ⟨rfl, N176⟩
    · obtain ⟨x179, hx179⟩ : ∃ z : Int32, z = (((p6.toUInt32 >>> ((7 : Int32) &&& 31).toUInt32).toInt32) &&& (3 : Int32)) := ⟨_, rfl⟩
      have P180 : Rch p e below (s₁.setTop (entryFrame m #[(.long q1), (.long q2), (.long q3), (.long q4), (.long q5), (.int p6)] maxLocals)) (s₁.setTop (mkF m 69 #[lv q1, sd, lv q2, sd, lv q3, sd, lv q4, sd, lv q5, sd, iv p6, iv v4, iv x6, iv (0 : Int32), iv x11, iv (1 : Int32), iv x179, un, un, un, un, un, un, un, un, un, un, un, un, un, un] [])) := fun t k => P14 t (by
        subst hx179
        show Steps p.tables e below (s₁.setTop (mkF m 50 #[lv q1, sd, lv q2, sd, lv q3, sd, lv q4, sd, lv q5, sd, iv p6, iv v4, iv x6, iv (0 : Int32), iv x11, un, un, un, un, un, un, un, un, un, un, un, un, un, un, un, un] [(.int x13)])) t
        refine XS.ifNo X0.here hx rfl (hb hby at_50) rfl ((if0 _ _).trans (feq c15).1) ?_
        refine XS.iconst X0.here hx rfl (hb hby at_53) ?_
        refine XS.goto X0.here hx rfl (pc0 := 54) (pc' := 58) rfl (hb hby at_54) (by decide) (by decide) ?_
        show Steps p.tables e below (s₁.setTop (mkF m 58 #[lv q1, sd, lv q2, sd, lv q3, sd, lv q4, sd, lv q5, sd, iv p6, iv v4, iv x6, iv (0 : Int32), iv x11, un, un, un, un, un, un, un, un, un, un, un, un, un, un, un, un] [(.int (1 : Int32))])) t
        refine XS.istore X0.here hx rfl (hb hby at_58) rfl (l' := #[lv q1, sd, lv q2, sd, lv q3, sd, lv q4, sd, lv q5, sd, iv p6, iv v4, iv x6, iv (0 : Int32), iv x11, iv (1 : Int32), un, un, un, un, un, un, un, un, un, un, un, un, un, un, un]) rfl ?_
        refine XS.iload X0.here hx rfl (hb hby at_60) rfl ?_
        refine XS.bipush X0.here hx rfl (hb hby at_62) ?_
        refine XS.iushr X0.here hx rfl (hb hby at_64) rfl ?_
        show Steps p.tables e below (s₁.setTop (mkF m 65 #[lv q1, sd, lv q2, sd, lv q3, sd, lv q4, sd, lv q5, sd, iv p6, iv v4, iv x6, iv (0 : Int32), iv x11, iv (1 : Int32), un, un, un, un, un, un, un, un, un, un, un, un, un, un, un] [(.int ((p6.toUInt32 >>> ((7 : Int32) &&& 31).toUInt32).toInt32))])) t
        refine XS.iconst X0.here hx rfl (hb hby at_65) ?_
        refine XS.iand X0.here hx rfl (hb hby at_66) rfl ?_
        refine XS.istore X0.here hx rfl (hb hby at_67) rfl (l' := #[lv q1, sd, lv q2, sd, lv q3, sd, lv q4, sd, lv q5, sd, iv p6, iv v4, iv x6, iv (0 : Int32), iv x11, iv (1 : Int32), iv (((p6.toUInt32 >>> ((7 : Int32) &&& 31).toUInt32).toInt32) &&& (3 : Int32)), un, un, un, un, un, un, un, un, un, un, un, un, un, un]) rfl ?_
        exact k)
      obtain ⟨x181, hx181⟩ : ∃ z : Int32, z = (p6 &&& (512 : Int32)) := ⟨_, rfl⟩
      have P182 : Rch p e below (s₁.setTop (entryFrame m #[(.long q1), (.long q2), (.long q3), (.long q4), (.long q5), (.int p6)] maxLocals)) (s₁.setTop (mkF m 75 #[lv q1, sd, lv q2, sd, lv q3, sd, lv q4, sd, lv q5, sd, iv p6, iv v4, iv x6, iv (0 : Int32), iv x11, iv (1 : Int32), iv x179, un, un, un, un, un, un, un, un, un, un, un, un, un, un] [(.int x181)])) := fun t k => P180 t (by
        subst hx181
        show Steps p.tables e below (s₁.setTop (mkF m 69 #[lv q1, sd, lv q2, sd, lv q3, sd, lv q4, sd, lv q5, sd, iv p6, iv v4, iv x6, iv (0 : Int32), iv x11, iv (1 : Int32), iv x179, un, un, un, un, un, un, un, un, un, un, un, un, un, un] [])) t
        refine XS.iload X0.here hx rfl (hb hby at_69) rfl ?_
        refine XS.sipush X0.here hx rfl (hb hby at_71) ?_
        refine XS.iand X0.here hx rfl (hb hby at_74) rfl ?_
        exact k)
      by_cases c183 : x181 = (0 : Int32)
      · have P184 : Rch p e below (s₁.setTop (entryFrame m #[(.long q1), (.long q2), (.long q3), (.long q4), (.long q5), (.int p6)] maxLocals)) (s₁.setTop (mkF m 87 #[lv q1, sd, lv q2, sd, lv q3, sd, lv q4, sd, lv q5, sd, iv p6, iv v4, iv x6, iv (0 : Int32), iv x11, iv (1 : Int32), iv x179, iv (0 : Int32), un, un, un, un, un, un, un, un, un, un, un, un, un] [(.int v4)])) := fun t k => P182 t (by
          show Steps p.tables e below (s₁.setTop (mkF m 75 #[lv q1, sd, lv q2, sd, lv q3, sd, lv q4, sd, lv q5, sd, iv p6, iv v4, iv x6, iv (0 : Int32), iv x11, iv (1 : Int32), iv x179, un, un, un, un, un, un, un, un, un, un, un, un, un, un] [(.int x181)])) t
          refine XS.ifYes X0.here hx rfl (pc0 := 75) (pc' := 82) rfl (hb hby at_75) rfl ((if0 _ _).trans (teq c183).1) (by decide) (by decide) ?_
          refine XS.iconst X0.here hx rfl (hb hby at_82) ?_
          refine XS.istore X0.here hx rfl (hb hby at_83) rfl (l' := #[lv q1, sd, lv q2, sd, lv q3, sd, lv q4, sd, lv q5, sd, iv p6, iv v4, iv x6, iv (0 : Int32), iv x11, iv (1 : Int32), iv x179, iv (0 : Int32), un, un, un, un, un, un, un, un, un, un, un, un, un]) rfl ?_
          show Steps p.tables e below (s₁.setTop (mkF m 85 #[lv q1, sd, lv q2, sd, lv q3, sd, lv q4, sd, lv q5, sd, iv p6, iv v4, iv x6, iv (0 : Int32), iv x11, iv (1 : Int32), iv x179, iv (0 : Int32), un, un, un, un, un, un, un, un, un, un, un, un, un] [])) t
          refine XS.iload X0.here hx rfl (hb hby at_85) rfl ?_
          exact k)
        obtain ⟨T185, L185, h185, r192, X185, e185, N185, Z185, K185, hr192, P185⟩ : ∃ (T185 : State) (L185 : List Loc) (h185 : Heap) (r192 : Value), Stand p l e room_1 s m #[(.long q1), (.long q2), (.long q3), (.long q4), (.long q5), (.int p6)] below meth c T185 L185 1 3 ∧ T185.heap = h185 ∧ Fr n0 L185 ∧ n0 ≤ h185.size ∧ Keep h0 h185 [] ∧ r192.isRef = true ∧ Rch p e below (s₁.setTop (entryFrame m #[(.long q1), (.long q2), (.long q3), (.long q4), (.long q5), (.int p6)] maxLocals)) (T185.setTop (mkF m 98 #[lv q1, sd, lv q2, sd, lv q3, sd, lv q4, sd, lv q5, sd, iv p6, iv v4, iv x6, iv (0 : Int32), iv x11, iv (1 : Int32), iv x179, iv (0 : Int32), un, un, un, un, un, un, un, un, un, un, un, un, un] [r192])) := by
          by_cases c186 : v4 = (0 : Int32)
          · have P187 : Rch p e below (s₁.setTop (entryFrame m #[(.long q1), (.long q2), (.long q3), (.long q4), (.long q5), (.int p6)] maxLocals)) (s₁.setTop (mkF m 96 #[lv q1, sd, lv q2, sd, lv q3, sd, lv q4, sd, lv q5, sd, iv p6, iv v4, iv x6, iv (0 : Int32), iv x11, iv (1 : Int32), iv x179, iv (0 : Int32), un, un, un, un, un, un, un, un, un, un, un, un, un] [(.int x6)])) := fun t k => P184 t (by
              show Steps p.tables e below (s₁.setTop (mkF m 87 #[lv q1, sd, lv q2, sd, lv q3, sd, lv q4, sd, lv q5, sd, iv p6, iv v4, iv x6, iv (0 : Int32), iv x11, iv (1 : Int32), iv x179, iv (0 : Int32), un, un, un, un, un, un, un, un, un, un, un, un, un] [(.int v4)])) t
              refine XS.ifYes X0.here hx rfl (pc0 := 87) (pc' := 94) rfl (hb hby at_87) rfl ((if0 _ _).trans (teq c186).1) (by decide) (by decide) ?_
              refine XS.iload X0.here hx rfl (hb hby at_94) rfl ?_
              exact k)
            have hm96 := own_m3 _ hx6
            obtain ⟨T188, h188, k188, X188, e188, E188, A188, st188⟩ := newP X0 hx hZ (hw _ (List.mem_of_getElem? (i := 0) rfl)) e0 (g := (mkF m 96 #[lv q1, sd, lv q2, sd, lv q3, sd, lv q4, sd, lv q5, sd, iv p6, iv v4, iv x6, iv (0 : Int32), iv x11, iv (1 : Int32), iv x179, iv (0 : Int32), un, un, un, un, un, un, un, un, un, un, un, un, un] [(.int x6)])) rfl (hb hby at_96) rfl hm96.1 (cap := 3) hm96.2 (by decide) (by decide) (by decide)
            obtain ⟨b188, g188⟩ : ∃ z, z = h0.size := ⟨_, rfl⟩
            rw [← g188] at A188 st188
            have g_b188 : n0 ≤ b188 := Nat.le_trans Z0 (Nat.le_of_eq g188.symm)
            have sz_b188 : h0.size ≤ b188 := Nat.le_trans (Keep.refl h0 []).1 (Nat.le_of_eq g188.symm)
            have szj_b188 : h0.size ≤ b188 := Nat.le_trans (Keep.refl h0 []).1 (Nat.le_of_eq g188.symm)
            have V188 : Arv Z h188 b188 k188 .byte x6 [] (.int (0 : Int32)) := Arv.new A188 hm96.1
            have P189 : Rch p e below (s₁.setTop (entryFrame m #[(.long q1), (.long q2), (.long q3), (.long q4), (.long q5), (.int p6)] maxLocals)) (T188.setTop (mkF m 98 #[lv q1, sd, lv q2, sd, lv q3, sd, lv q4, sd, lv q5, sd, iv p6, iv v4, iv x6, iv (0 : Int32), iv x11, iv (1 : Int32), iv x179, iv (0 : Int32), un, un, un, un, un, un, un, un, un, un, un, un, un] [(.ref b188)])) := fun t k => P187 t (st188 t k)
            have f190 : n0 ≤ h188.size := (Nat.le_trans Z0 E188.1)
            exact ⟨T188, _, h188, (.ref b188), X188, e188, N0, f190, ((Keep.refl h0 []).ext E188), rfl, P189⟩
          · have P191 : Rch p e below (s₁.setTop (entryFrame m #[(.long q1), (.long q2), (.long q3), (.long q4), (.long q5), (.int p6)] maxLocals)) (s₁.setTop (mkF m 98 #[lv q1, sd, lv q2, sd, lv q3, sd, lv q4, sd, lv q5, sd, iv p6, iv v4, iv x6, iv (0 : Int32), iv x11, iv (1 : Int32), iv x179, iv (0 : Int32), un, un, un, un, un, un, un, un, un, un, un, un, un] [.null])) := fun t k => P184 t (by
              show Steps p.tables e below (s₁.setTop (mkF m 87 #[lv q1, sd, lv q2, sd, lv q3, sd, lv q4, sd, lv q5, sd, iv p6, iv v4, iv x6, iv (0 : Int32), iv x11, iv (1 : Int32), iv x179, iv (0 : Int32), un, un, un, un, un, un, un, un, un, un, un, un, un] [(.int v4)])) t
              refine XS.ifNo X0.here hx rfl (hb hby at_87) rfl ((if0 _ _).trans (feq c186).1) ?_
              refine XS.aconstNull X0.here hx rfl (hb hby at_90) ?_
              refine XS.goto X0.here hx rfl (pc0 := 91) (pc' := 98) rfl (hb hby at_91) (by decide) (by decide) ?_
              exact k)
            exact ⟨s₁, _, h0, .null, (own_more X0 (by decide) (by decide)), e0, N0, Z0, (Keep.refl h0 []), rfl, P191⟩
        have P193 : Rch p e below (s₁.setTop (entryFrame m #[(.long q1), (.long q2), (.long q3), (.long q4), (.long q5), (.int p6)] maxLocals)) (T185.setTop (mkF m 111 #[lv q1, sd, lv q2, sd, lv q3, sd, lv q4, sd, lv q5, sd, iv p6, iv v4, iv x6, iv (0 : Int32), iv x11, iv (1 : Int32), iv x179, iv (0 : Int32), .val r192, un, un, un, un, un, un, un, un, un, un, un, un] [(.int x11)])) := fun t k => P185 t (by
          show Steps p.tables e below (T185.setTop (mkF m 98 #[lv q1, sd, lv q2, sd, lv q3, sd, lv q4, sd, lv q5, sd, iv p6, iv v4, iv x6, iv (0 : Int32), iv x11, iv (1 : Int32), iv x179, iv (0 : Int32), un, un, un, un, un, un, un, un, un, un, un, un, un] [r192])) t
          refine XS.astore X185.here hx rfl (hb hby at_98) rfl hr192 (l' := #[lv q1, sd, lv q2, sd, lv q3, sd, lv q4, sd, lv q5, sd, iv p6, iv v4, iv x6, iv (0 : Int32), iv x11, iv (1 : Int32), iv x179, iv (0 : Int32), .val r192, un, un, un, un, un, un, un, un, un, un, un, un]) (by rcases ref_cases hr192 with q_ | ⟨_, q_⟩ <;> rw [q_] <;> rfl) ?_
          refine XS.iload X185.here hx rfl (hb hby at_100) rfl ?_
          refine XS.ifYes X185.here hx rfl (pc0 := 102) (pc' := 109) rfl (hb hby at_102) rfl ((if0 _ _).trans (teq (by decide)).1) (by decide) (by decide) ?_
          show Steps p.tables e below (T185.setTop (mkF m 109 #[lv q1, sd, lv q2, sd, lv q3, sd, lv q4, sd, lv q5, sd, iv p6, iv v4, iv x6, iv (0 : Int32), iv x11, iv (1 : Int32), iv x179, iv (0 : Int32), .val r192, un, un, un, un, un, un, un, un, un, un, un, un] [])) t
          refine XS.iload X185.here hx rfl (hb hby at_109) rfl ?_
          exact k)
        have hm111 := own_m3 _ hx11
        have f195 : Keep h0 h185 [] := ((Keep.refl h0 []).trans K185 all0)
        obtain ⟨T194, h194, k194, X194, e194, E194, A194, st194⟩ := newP X185 hx hZ (hw _ (List.mem_of_getElem? (i := 0) rfl)) e185 (g := (mkF m 111 #[lv q1, sd, lv q2, sd, lv q3, sd, lv q4, sd, lv q5, sd, iv p6, iv v4, iv x6, iv (0 : Int32), iv x11, iv (1 : Int32), iv x179, iv (0 : Int32), .val r192, un, un, un, un, un, un, un, un, un, un, un, un] [(.int x11)])) rfl (hb hby at_111) rfl hm111.1 (cap := 3) hm111.2 (by decide) (by decide) (by decide)
        obtain ⟨b194, g194⟩ : ∃ z, z = h185.size := ⟨_, rfl⟩
        rw [← g194] at A194 st194
        have g_b194 : n0 ≤ b194 := Nat.le_trans Z185 (Nat.le_of_eq g194.symm)
        have sz_b194 : h0.size ≤ b194 := Nat.le_trans f195.1 (Nat.le_of_eq g194.symm)
        have V194 : Arv Z h194 b194 k194 .byte x11 [] (.int (0 : Int32)) := Arv.new A194 hm111.1
        have P196 : Rch p e below (s₁.setTop (entryFrame m #[(.long q1), (.long q2), (.long q3), (.long q4), (.long q5), (.int p6)] maxLocals)) (T194.setTop (mkF m 113 #[lv q1, sd, lv q2, sd, lv q3, sd, lv q4, sd, lv q5, sd, iv p6, iv v4, iv x6, iv (0 : Int32), iv x11, iv (1 : Int32), iv x179, iv (0 : Int32), .val r192, un, un, un, un, un, un, un, un, un, un, un, un] [(.ref b194)])) := fun t k => P193 t (st194 t k)
        have P197 : Rch p e below (s₁.setTop (entryFrame m #[(.long q1), (.long q2), (.long q3), (.long q4), (.long q5), (.int p6)] maxLocals)) (T194.setTop (mkF m 130 #[lv q1, sd, lv q2, sd, lv q3, sd, lv q4, sd, lv q5, sd, iv p6, iv v4, iv x6, iv (0 : Int32), iv x11, iv (1 : Int32), iv x179, iv (0 : Int32), .val r192, rv b194, .val .null, un, un, un, un, un, un, un, un, un, un] [])) := fun t k => P196 t (by
          show Steps p.tables e below (T194.setTop (mkF m 113 #[lv q1, sd, lv q2, sd, lv q3, sd, lv q4, sd, lv q5, sd, iv p6, iv v4, iv x6, iv (0 : Int32), iv x11, iv (1 : Int32), iv x179, iv (0 : Int32), .val r192, un, un, un, un, un, un, un, un, un, un, un, un] [(.ref b194)])) t
          refine XS.astore X194.here hx rfl (hb hby at_113) rfl rfl (l' := #[lv q1, sd, lv q2, sd, lv q3, sd, lv q4, sd, lv q5, sd, iv p6, iv v4, iv x6, iv (0 : Int32), iv x11, iv (1 : Int32), iv x179, iv (0 : Int32), .val r192, rv b194, un, un, un, un, un, un, un, un, un, un, un]) rfl ?_
          refine XS.iload X194.here hx rfl (hb hby at_115) rfl ?_
          refine XS.ifNo X194.here hx rfl (hb hby at_117) rfl ((if0 _ _).trans (feq (by decide)).1) ?_
          show Steps p.tables e below (T194.setTop (mkF m 120 #[lv q1, sd, lv q2, sd, lv q3, sd, lv q4, sd, lv q5, sd, iv p6, iv v4, iv x6, iv (0 : Int32), iv x11, iv (1 : Int32), iv x179, iv (0 : Int32), .val r192, rv b194, un, un, un, un, un, un, un, un, un, un, un] [])) t
          refine XS.aconstNull X194.here hx rfl (hb hby at_120) ?_
          refine XS.goto X194.here hx rfl (pc0 := 121) (pc' := 128) rfl (hb hby at_121) (by decide) (by decide) ?_
          refine XS.astore X194.here hx rfl (hb hby at_128) rfl rfl (l' := #[lv q1, sd, lv q2, sd, lv q3, sd, lv q4, sd, lv q5, sd, iv p6, iv v4, iv x6, iv (0 : Int32), iv x11, iv (1 : Int32), iv x179, iv (0 : Int32), .val r192, rv b194, .val .null, un, un, un, un, un, un, un, un, un, un]) rfl ?_
          exact k)
        have f199 : n0 ≤ h194.size := (Nat.le_trans Z185 E194.1)
        have f200 : Keep h0 h194 [] := (f195.ext E194)
        obtain ⟨T198, h198, X198, e198, E198, A198, D198, -, st198⟩ := newO X194 hx hZ hown (hw _ (List.mem_of_getElem? (i := 1) rfl)) (hw _ (List.mem_of_getElem? (i := 2) rfl)) (hw _ (List.mem_of_getElem? (i := 3) rfl)) e194 (g := (mkF m 130 #[lv q1, sd, lv q2, sd, lv q3, sd, lv q4, sd, lv q5, sd, iv p6, iv v4, iv x6, iv (0 : Int32), iv x11, iv (1 : Int32), iv x179, iv (0 : Int32), .val r192, rv b194, .val .null, un, un, un, un, un, un, un, un, un, un] [])) rfl (hb hby at_130) (by decide) (by decide)
        obtain ⟨b198, g198⟩ : ∃ z, z = h194.size := ⟨_, rfl⟩
        rw [← g198] at A198 D198 st198
        have g_b198 : n0 ≤ b198 := Nat.le_trans f199 (Nat.le_of_eq g198.symm)
        have sz_b198 : h0.size ≤ b198 := Nat.le_trans f200.1 (Nat.le_of_eq g198.symm)
        have ne_b194_b198 : b194 ≠ b198 := Nat.ne_of_lt (Nat.lt_of_lt_of_le V194.lt (Nat.le_of_eq g198.symm))
        have F198_23 : Fld Z h198 b198 "java/util/AbstractList" "modCount" "I" (.int (0 : Int32)) := D198 (Or.inl (hw _ (List.mem_of_getElem? (i := 23) rfl))) (ty := .int) (by decide)
        have F198_26 : Fld Z h198 b198 "java/util/ArrayList" "elementData" "[Ljava/lang/Object;" .null := D198 (Or.inl (hw _ (List.mem_of_getElem? (i := 26) rfl))) (ty := (.array (.object "java/lang/Object"))) (by decide)
        have P201 : Rch p e below (s₁.setTop (entryFrame m #[(.long q1), (.long q2), (.long q3), (.long q4), (.long q5), (.int p6)] maxLocals)) (T198.setTop (mkF m 133 #[lv q1, sd, lv q2, sd, lv q3, sd, lv q4, sd, lv q5, sd, iv p6, iv v4, iv x6, iv (0 : Int32), iv x11, iv (1 : Int32), iv x179, iv (0 : Int32), .val r192, rv b194, .val .null, un, un, un, un, un, un, un, un, un, un] [(.ref b198)])) := fun t k => P197 t (st198 t k)
        have P202 : Rch p e below (s₁.setTop (entryFrame m #[(.long q1), (.long q2), (.long q3), (.long q4), (.long q5), (.int p6)] maxLocals)) (T198.setTop (mkF m 134 #[lv q1, sd, lv q2, sd, lv q3, sd, lv q4, sd, lv q5, sd, iv p6, iv v4, iv x6, iv (0 : Int32), iv x11, iv (1 : Int32), iv x179, iv (0 : Int32), .val r192, rv b194, .val .null, un, un, un, un, un, un, un, un, un, un] [(.ref b198), (.ref b198)])) := fun t k => P201 t (by
          show Steps p.tables e below (T198.setTop (mkF m 133 #[lv q1, sd, lv q2, sd, lv q3, sd, lv q4, sd, lv q5, sd, iv p6, iv v4, iv x6, iv (0 : Int32), iv x11, iv (1 : Int32), iv x179, iv (0 : Int32), .val r192, rv b194, .val .null, un, un, un, un, un, un, un, un, un, un] [(.ref b198)])) t
          refine XS.dup X198.here hx rfl (hb hby at_133) rfl rfl ?_
          exact k)
        have f204 : Old Z n0 h198 := (((O0.keep K185 all0).ext E194).ext E198)
        have f205 : n0 ≤ h198.size := (Nat.le_trans f199 E198.1)
        obtain ⟨_, _, ⟨T203, L203, k203, n203⟩, -, X203, ⟨Lc203, hQ203, l203, y203, z203⟩, st203⟩ := X198.specialBack hx (y := (⟨"java/util/ArrayList", "<init>", "()V"⟩ : MethodName)) rfl hown (mvT hZ (hw _ (List.mem_of_getElem? (i := 4) rfl))) (mvT hZ (hw _ (List.mem_of_getElem? (i := 5) rfl))) (mvT hZ (hw _ (List.mem_of_getElem? (i := 6) rfl))) (by decide) (backOf (W := 1) (rmAL l Z a0 hw [] b198 aD h198 n0 f205 f204 Sd A198 g_b198 F198_23 F198_26) hZ (hw _ (List.mem_of_getElem? (i := 6) rfl)) (hw _ (List.mem_of_getElem? (i := 3) rfl)) (by decide) (by decide)) (g := (mkF m 134 #[lv q1, sd, lv q2, sd, lv q3, sd, lv q4, sd, lv q5, sd, iv p6, iv v4, iv x6, iv (0 : Int32), iv x11, iv (1 : Int32), iv x179, iv (0 : Int32), .val r192, rv b194, .val .null, un, un, un, un, un, un, un, un, un, un] [(.ref b198), (.ref b198)])) rfl (by rw [hml]; rfl) (Steps.refl _) (a := b198) (argsL := []) (rest := [(.ref b198)]) (lenOf pd_0 rfl) rfl (by show 2 * 0 + _ ≤ _; exact Nat.le_of_eq rfl) (hb hby at_134) (fun _ _ => ⟨rfl, e198, (by decide : 3 + 0 ≤ _), (by decide : 9 + 0 ≤ _)⟩)
        dsimp only [Pt.U, Pt.locs, Pt.cells, Pt.slots] at X203 l203 y203 z203 st203 hQ203
        subst y203 z203
        obtain ⟨rfl, N203q, K203, E_203⟩ := hQ203
        have N203 : Fr n0 L203 := by rw [l203]; exact Fr.app N185 N203q
        have P206 : Rch p e below (s₁.setTop (entryFrame m #[(.long q1), (.long q2), (.long q3), (.long q4), (.long q5), (.int p6)] maxLocals)) (T203.setTop (mkF m 137 #[lv q1, sd, lv q2, sd, lv q3, sd, lv q4, sd, lv q5, sd, iv p6, iv v4, iv x6, iv (0 : Int32), iv x11, iv (1 : Int32), iv x179, iv (0 : Int32), .val r192, rv b194, .val .null, un, un, un, un, un, un, un, un, un, un] [(.ref b198)])) := fun t k => P202 t (st203.trans k)
        have P207 : Rch p e below (s₁.setTop (entryFrame m #[(.long q1), (.long q2), (.long q3), (.long q4), (.long q5), (.int p6)] maxLocals)) (T203.setTop (mkF m 139 #[lv q1, sd, lv q2, sd, lv q3, sd, lv q4, sd, lv q5, sd, iv p6, iv v4, iv x6, iv (0 : Int32), iv x11, iv (1 : Int32), iv x179, iv (0 : Int32), .val r192, rv b194, .val .null, rv b198, un, un, un, un, un, un, un, un, un] [])) := fun t k => P206 t (by
          show Steps p.tables e below (T203.setTop (mkF m 137 #[lv q1, sd, lv q2, sd, lv q3, sd, lv q4, sd, lv q5, sd, iv p6, iv v4, iv x6, iv (0 : Int32), iv x11, iv (1 : Int32), iv x179, iv (0 : Int32), .val r192, rv b194, .val .null, un, un, un, un, un, un, un, un, un, un] [(.ref b198)])) t
          refine XS.astore X203.here hx rfl (hb hby at_137) rfl rfl (l' := #[lv q1, sd, lv q2, sd, lv q3, sd, lv q4, sd, lv q5, sd, iv p6, iv v4, iv x6, iv (0 : Int32), iv x11, iv (1 : Int32), iv x179, iv (0 : Int32), .val r192, rv b194, .val .null, rv b198, un, un, un, un, un, un, un, un, un]) rfl ?_
          exact k)
        have f209 : n0 ≤ T203.heap.size := (Nat.le_trans f205 K203.1)
        have f210 : Keep h0 T203.heap [] := ((f200.ext E198).trans K203 (allS (P := fun x => x ∈ [] ∨ h0.size ≤ x) (Or.inr sz_b198) all0))
        obtain ⟨T208, h208, X208, e208, E208, A208, D208, -, st208⟩ := newO X203 hx hZ hown (hw _ (List.mem_of_getElem? (i := 27) rfl)) (hw _ (List.mem_of_getElem? (i := 28) rfl)) (hw _ (List.mem_of_getElem? (i := 29) rfl)) rfl (g := (mkF m 139 #[lv q1, sd, lv q2, sd, lv q3, sd, lv q4, sd, lv q5, sd, iv p6, iv v4, iv x6, iv (0 : Int32), iv x11, iv (1 : Int32), iv x179, iv (0 : Int32), .val r192, rv b194, .val .null, rv b198, un, un, un, un, un, un, un, un, un] [])) rfl (hb hby at_139) (by decide) (by decide)
        obtain ⟨b208, g208⟩ : ∃ z, z = T203.heap.size := ⟨_, rfl⟩
        rw [← g208] at A208 D208 st208
        have g_b208 : n0 ≤ b208 := Nat.le_trans f209 (Nat.le_of_eq g208.symm)
        have sz_b208 : h0.size ≤ b208 := Nat.le_trans f210.1 (Nat.le_of_eq g208.symm)
        have ne_b194_b208 : b194 ≠ b208 := Nat.ne_of_lt (Nat.lt_of_lt_of_le ((V194.ext E198).keep K203 (ninS ne_b194_b198 nin0)).lt (Nat.le_of_eq g208.symm))
        have ne_b198_b208 : b198 ≠ b208 := Nat.ne_of_lt (Nat.lt_of_lt_of_le (A198.keep K203).lt (Nat.le_of_eq g208.symm))
        have F208_68 : Fld Z h208 b208 "com/example/usher/usher/core/Node" "children" "Ljava/util/Set;" .null := D208 (Or.inr (hw _ (List.mem_of_getElem? (i := 68) rfl))) (ty := (.object "java/util/Set")) (by decide)
        have F208_70 : Fld Z h208 b208 "com/example/usher/usher/core/Node" "czxid" "J" (.long (0 : Int64)) := D208 (Or.inr (hw _ (List.mem_of_getElem? (i := 70) rfl))) (ty := .long) (by decide)
        have F208_72 : Fld Z h208 b208 "com/example/usher/usher/core/Node" "ctime" "J" (.long (0 : Int64)) := D208 (Or.inr (hw _ (List.mem_of_getElem? (i := 72) rfl))) (ty := .long) (by decide)
        have F208_74 : Fld Z h208 b208 "com/example/usher/usher/core/Node" "ephemeralOwner" "J" (.long (0 : Int64)) := D208 (Or.inr (hw _ (List.mem_of_getElem? (i := 74) rfl))) (ty := .long) (by decide)
        have F208_76 : Fld Z h208 b208 "com/example/usher/usher/core/Node" "data" "[B" .null := D208 (Or.inl (hw _ (List.mem_of_getElem? (i := 76) rfl))) (ty := (.array .byte)) (by decide)
        have F208_78 : Fld Z h208 b208 "com/example/usher/usher/core/Node" "acl" "Ljava/util/List;" .null := D208 (Or.inl (hw _ (List.mem_of_getElem? (i := 78) rfl))) (ty := (.object "java/util/List")) (by decide)
        have F208_80 : Fld Z h208 b208 "com/example/usher/usher/core/Node" "mzxid" "J" (.long (0 : Int64)) := D208 (Or.inl (hw _ (List.mem_of_getElem? (i := 80) rfl))) (ty := .long) (by decide)
        have F208_82 : Fld Z h208 b208 "com/example/usher/usher/core/Node" "mtime" "J" (.long (0 : Int64)) := D208 (Or.inl (hw _ (List.mem_of_getElem? (i := 82) rfl))) (ty := .long) (by decide)
        have F208_84 : Fld Z h208 b208 "com/example/usher/usher/core/Node" "pzxid" "J" (.long (0 : Int64)) := D208 (Or.inl (hw _ (List.mem_of_getElem? (i := 84) rfl))) (ty := .long) (by decide)
        have F208_91 : Fld Z h208 b208 "com/example/usher/usher/core/Node" "version" "I" (.int (0 : Int32)) := D208 (Or.inl (hw _ (List.mem_of_getElem? (i := 91) rfl))) (ty := .int) (by decide)
        have F208_101 : Fld Z h208 b208 "com/example/usher/usher/core/Node" "cversion" "I" (.int (0 : Int32)) := D208 (Or.inl (hw _ (List.mem_of_getElem? (i := 101) rfl))) (ty := .int) (by decide)
        have F208_103 : Fld Z h208 b208 "com/example/usher/usher/core/Node" "aversion" "I" (.int (0 : Int32)) := D208 (Or.inl (hw _ (List.mem_of_getElem? (i := 103) rfl))) (ty := .int) (by decide)
        have P211 : Rch p e below (s₁.setTop (entryFrame m #[(.long q1), (.long q2), (.long q3), (.long q4), (.long q5), (.int p6)] maxLocals)) (T208.setTop (mkF m 142 #[lv q1, sd, lv q2, sd, lv q3, sd, lv q4, sd, lv q5, sd, iv p6, iv v4, iv x6, iv (0 : Int32), iv x11, iv (1 : Int32), iv x179, iv (0 : Int32), .val r192, rv b194, .val .null, rv b198, un, un, un, un, un, un, un, un, un] [(.ref b208)])) := fun t k => P207 t (st208 t k)
        have P212 : Rch p e below (s₁.setTop (entryFrame m #[(.long q1), (.long q2), (.long q3), (.long q4), (.long q5), (.int p6)] maxLocals)) (T208.setTop (mkF m 150 #[lv q1, sd, lv q2, sd, lv q3, sd, lv q4, sd, lv q5, sd, iv p6, iv v4, iv x6, iv (0 : Int32), iv x11, iv (1 : Int32), iv x179, iv (0 : Int32), .val r192, rv b194, .val .null, rv b198, un, un, un, un, un, un, un, un, un] [(.long q2), (.long q1), (.long (0 : Int64)), (.ref b198), r192, (.ref b208), (.ref b208)])) := fun t k => P211 t (by
          show Steps p.tables e below (T208.setTop (mkF m 142 #[lv q1, sd, lv q2, sd, lv q3, sd, lv q4, sd, lv q5, sd, iv p6, iv v4, iv x6, iv (0 : Int32), iv x11, iv (1 : Int32), iv x179, iv (0 : Int32), .val r192, rv b194, .val .null, rv b198, un, un, un, un, un, un, un, un, un] [(.ref b208)])) t
          refine XS.dup X208.here hx rfl (hb hby at_142) rfl rfl ?_
          refine XS.aload X208.here hx rfl (hb hby at_143) rfl hr192 ?_
          refine XS.aload X208.here hx rfl (hb hby at_145) rfl rfl ?_
          show Steps p.tables e below (T208.setTop (mkF m 147 #[lv q1, sd, lv q2, sd, lv q3, sd, lv q4, sd, lv q5, sd, iv p6, iv v4, iv x6, iv (0 : Int32), iv x11, iv (1 : Int32), iv x179, iv (0 : Int32), .val r192, rv b194, .val .null, rv b198, un, un, un, un, un, un, un, un, un] [(.ref b198), r192, (.ref b208), (.ref b208)])) t
          refine XS.lconst X208.here hx rfl (hb hby at_147) ?_
          refine XS.lloadN X208.here hx rfl (hb hby at_148) rfl ?_
          refine XS.lloadN X208.here hx rfl (hb hby at_149) rfl ?_
          exact k)
        have f214 : n0 ≤ h208.size := (Nat.le_trans f209 E208.1)
        obtain ⟨_, _, ⟨T213, L213, k213, n213⟩, -, X213, ⟨Lc213, hQ213, l213, y213, z213⟩, st213⟩ := X208.specialBack hx (y := (⟨"com/example/usher/usher/core/Node", "<init>", "([BLjava/util/List;JJJ)V"⟩ : MethodName)) rfl hown (mvT hZ (hw _ (List.mem_of_getElem? (i := 30) rfl))) (mvT hZ (hw _ (List.mem_of_getElem? (i := 31) rfl))) (mvT hZ (hw _ (List.mem_of_getElem? (i := 32) rfl))) (by decide) (backOf (W := 1) (rmND l Z a0 hw [] b208 r192 b198 (0 : Int64) q1 q2 h208 n0 f214 hr192 A208 g_b208 F208_68 F208_70 F208_72 F208_74 F208_76 F208_78 F208_80 F208_82 F208_84 F208_91 F208_101 F208_103) hZ (hw _ (List.mem_of_getElem? (i := 32) rfl)) (hw _ (List.mem_of_getElem? (i := 29) rfl)) (by decide) (by decide)) (g := (mkF m 150 #[lv q1, sd, lv q2, sd, lv q3, sd, lv q4, sd, lv q5, sd, iv p6, iv v4, iv x6, iv (0 : Int32), iv x11, iv (1 : Int32), iv x179, iv (0 : Int32), .val r192, rv b194, .val .null, rv b198, un, un, un, un, un, un, un, un, un] [(.long q2), (.long q1), (.long (0 : Int64)), (.ref b198), r192, (.ref b208), (.ref b208)])) rfl (by rw [hml]; rfl) (Steps.refl _) (a := b208) (argsL := [r192, (.ref b198), (.long (0 : Int64)), (.long q1), (.long q2)]) (rest := [(.ref b208)]) (lenOf pd_3 rfl) rfl (by show 2 * 0 + _ ≤ _; exact Nat.le_of_eq rfl) (hb hby at_150) (fun _ _ => ⟨rfl, e208, (by decide : 4 + 2 ≤ _), (by decide : 22 + 9 ≤ _)⟩)
        dsimp only [Pt.U, Pt.locs, Pt.cells, Pt.slots] at X213 l213 y213 z213 st213 hQ213
        subst y213 z213
        have f215 : Arv Z h208 b194 k194 .byte x11 [] (.int (0 : Int32)) := (((V194.ext E198).keep K203 (ninS ne_b194_b198 nin0)).ext E208)
        have f216 : Keep h0 h208 [] := (f210.ext E208)
        obtain ⟨c__213, m__213, rfl, N213q, K213, Fc_213, Fm_213, E_213, G0_213, G1_213, G2_213, G3_213, G4_213, G5_213, G6_213, G7_213, G8_213, G9_213, G10_213, G11_213, Ec_213, Gc_213, Em_213, Gm_213⟩ := hQ213
        have N213 : Fr n0 L213 := by rw [l213]; exact Fr.app N203 N213q
        have g_c__213 : n0 ≤ c__213 := Nat.le_trans f214 Fc_213
        have sz_c__213 : h0.size ≤ c__213 := Nat.le_trans f216.1 Fc_213
        have ne_b194_c__213 : b194 ≠ c__213 := Nat.ne_of_lt (Nat.lt_of_lt_of_le f215.lt Fc_213)
        have ne_b198_c__213 : b198 ≠ c__213 := Nat.ne_of_lt (Nat.lt_of_lt_of_le ((A198.keep K203).ext E208).lt Fc_213)
        have ne_b208_c__213 : b208 ≠ c__213 := Nat.ne_of_lt (Nat.lt_of_lt_of_le A208.lt Fc_213)
        have g_m__213 : n0 ≤ m__213 := Nat.le_trans f214 Fm_213
        have sz_m__213 : h0.size ≤ m__213 := Nat.le_trans f216.1 Fm_213
        have ne_b194_m__213 : b194 ≠ m__213 := Nat.ne_of_lt (Nat.lt_of_lt_of_le f215.lt Fm_213)
        have ne_b198_m__213 : b198 ≠ m__213 := Nat.ne_of_lt (Nat.lt_of_lt_of_le ((A198.keep K203).ext E208).lt Fm_213)
        have ne_b208_m__213 : b208 ≠ m__213 := Nat.ne_of_lt (Nat.lt_of_lt_of_le A208.lt Fm_213)
        have P217 : Rch p e below (s₁.setTop (entryFrame m #[(.long q1), (.long q2), (.long q3), (.long q4), (.long q5), (.int p6)] maxLocals)) (T213.setTop (mkF m 153 #[lv q1, sd, lv q2, sd, lv q3, sd, lv q4, sd, lv q5, sd, iv p6, iv v4, iv x6, iv (0 : Int32), iv x11, iv (1 : Int32), iv x179, iv (0 : Int32), .val r192, rv b194, .val .null, rv b198, un, un, un, un, un, un, un, un, un] [(.ref b208)])) := fun t k => P212 t (st213.trans k)
        have P218 : Rch p e below (s₁.setTop (entryFrame m #[(.long q1), (.long q2), (.long q3), (.long q4), (.long q5), (.int p6)] maxLocals)) (T213.setTop (mkF m 163 #[lv q1, sd, lv q2, sd, lv q3, sd, lv q4, sd, lv q5, sd, iv p6, iv v4, iv x6, iv (0 : Int32), iv x11, iv (1 : Int32), iv x179, iv (0 : Int32), .val r192, rv b194, .val .null, rv b198, rv b208, un, un, un, un, un, un, un, un] [(.long q4), (.long q3), (.ref b194), (.ref b208)])) := fun t k => P217 t (by
          show Steps p.tables e below (T213.setTop (mkF m 153 #[lv q1, sd, lv q2, sd, lv q3, sd, lv q4, sd, lv q5, sd, iv p6, iv v4, iv x6, iv (0 : Int32), iv x11, iv (1 : Int32), iv x179, iv (0 : Int32), .val r192, rv b194, .val .null, rv b198, un, un, un, un, un, un, un, un, un] [(.ref b208)])) t
          refine XS.astore X213.here hx rfl (hb hby at_153) rfl rfl (l' := #[lv q1, sd, lv q2, sd, lv q3, sd, lv q4, sd, lv q5, sd, iv p6, iv v4, iv x6, iv (0 : Int32), iv x11, iv (1 : Int32), iv x179, iv (0 : Int32), .val r192, rv b194, .val .null, rv b198, rv b208, un, un, un, un, un, un, un, un]) rfl ?_
          refine XS.aload X213.here hx rfl (hb hby at_155) rfl rfl ?_
          refine XS.aload X213.here hx rfl (hb hby at_157) rfl rfl ?_
          show Steps p.tables e below (T213.setTop (mkF m 159 #[lv q1, sd, lv q2, sd, lv q3, sd, lv q4, sd, lv q5, sd, iv p6, iv v4, iv x6, iv (0 : Int32), iv x11, iv (1 : Int32), iv x179, iv (0 : Int32), .val r192, rv b194, .val .null, rv b198, rv b208, un, un, un, un, un, un, un, un] [(.ref b194), (.ref b208)])) t
          refine XS.lload X213.here hx rfl (hb hby at_159) rfl ?_
          refine XS.lload X213.here hx rfl (hb hby at_161) rfl ?_
          exact k)
        have f220 : n0 ≤ T213.heap.size := (Nat.le_trans f214 K213.1)
        obtain ⟨cq219, kq219, q219a, q219b, q219c⟩ := isOf hZ rfl E_213
        obtain ⟨_, _, ⟨T219, L219, k219, n219⟩, -, X219, ⟨Lc219, hQ219, l219, y219, z219⟩, st219⟩ := X213.virtualBack hx (y := (⟨"com/example/usher/usher/core/Node", "setData", "([BJJ)V"⟩ : MethodName)) (z := (⟨"com/example/usher/usher/core/Node", "setData", "([BJJ)V"⟩ : MethodName)) hown (mvT hZ (hw _ (List.mem_of_getElem? (i := 85) rfl))) (mvT hZ (hw _ (List.mem_of_getElem? (i := 86) rfl))) (notFace_of_selects (args := #[]) (mvT hZ (hw _ (List.mem_of_getElem? (i := 88) rfl)))) (mvT hZ (hw _ (List.mem_of_getElem? (i := 88) rfl))) (mvT hZ (hw _ (List.mem_of_getElem? (i := 87) rfl))) (by decide) (backOf (W := 0) (rmSD l Z a0 hw [] b208 (.ref b194) q3 q4 c__213 q1 q2 (0 : Int64) r192 b198 q1 q2 q1 (0 : Int32) (0 : Int32) (0 : Int32) T213.heap n0 f220 rfl E_213 g_b208 G0_213 G1_213 G2_213 G3_213 G4_213 G5_213 G6_213 G7_213 G8_213 G9_213 G10_213 G11_213) hZ (hw _ (List.mem_of_getElem? (i := 89) rfl)) (hw _ (List.mem_of_getElem? (i := 29) rfl)) (by decide) (by decide)) q219a q219c (g := (mkF m 163 #[lv q1, sd, lv q2, sd, lv q3, sd, lv q4, sd, lv q5, sd, iv p6, iv v4, iv x6, iv (0 : Int32), iv x11, iv (1 : Int32), iv x179, iv (0 : Int32), .val r192, rv b194, .val .null, rv b198, rv b208, un, un, un, un, un, un, un, un] [(.long q4), (.long q3), (.ref b194), (.ref b208)])) rfl (by rw [hml]; rfl) (Steps.refl _) (argsL := [(.ref b194), (.long q3), (.long q4)]) (rest := []) (lenOf pd_4 rfl) rfl (by show 2 * 0 + _ ≤ _; exact Nat.le_of_eq rfl) (hb hby at_163) (fun _ _ => ⟨rfl, rfl, (by decide : 6 + 0 ≤ _), (by decide : 31 + 0 ≤ _)⟩)
        dsimp only [Pt.U, Pt.locs, Pt.cells, Pt.slots] at X219 l219 y219 z219 st219 hQ219
        subst y219 z219
        obtain ⟨rfl, N219q, K219, E_219, G0_219, G1_219, G2_219, G3_219, G4_219, G5_219, G6_219, G7_219, G8_219, G9_219, G10_219, G11_219⟩ := hQ219
        have N219 : Fr n0 L219 := by rw [l219]; exact Fr.app N213 N219q
        have P221 : Rch p e below (s₁.setTop (entryFrame m #[(.long q1), (.long q2), (.long q3), (.long q4), (.long q5), (.int p6)] maxLocals)) (T219.setTop (mkF m 166 #[lv q1, sd, lv q2, sd, lv q3, sd, lv q4, sd, lv q5, sd, iv p6, iv v4, iv x6, iv (0 : Int32), iv x11, iv (1 : Int32), iv x179, iv (0 : Int32), .val r192, rv b194, .val .null, rv b198, rv b208, un, un, un, un, un, un, un, un] [])) := fun t k => P218 t (st219.trans k)
        have P222 : Rch p e below (s₁.setTop (entryFrame m #[(.long q1), (.long q2), (.long q3), (.long q4), (.long q5), (.int p6)] maxLocals)) (T219.setTop (mkF m 183 #[lv q1, sd, lv q2, sd, lv q3, sd, lv q4, sd, lv q5, sd, iv p6, iv v4, iv x6, iv (0 : Int32), iv x11, iv (1 : Int32), iv x179, iv (0 : Int32), .val r192, rv b194, .val .null, rv b198, rv b208, un, un, un, un, un, un, un, un] [(.ref b208)])) := fun t k => P221 t (by
          show Steps p.tables e below (T219.setTop (mkF m 166 #[lv q1, sd, lv q2, sd, lv q3, sd, lv q4, sd, lv q5, sd, iv p6, iv v4, iv x6, iv (0 : Int32), iv x11, iv (1 : Int32), iv x179, iv (0 : Int32), .val r192, rv b194, .val .null, rv b198, rv b208, un, un, un, un, un, un, un, un] [])) t
          refine XS.iload X219.here hx rfl (hb hby at_166) rfl ?_
          refine XS.ifYes X219.here hx rfl (pc0 := 168) (pc' := 181) rfl (hb hby at_168) rfl ((if0 _ _).trans (teq (by decide)).1) (by decide) (by decide) ?_
          refine XS.aload X219.here hx rfl (hb hby at_181) rfl rfl ?_
          exact k)
        have f224 : Arv Z T219.heap b194 k194 .byte x11 [] (.int (0 : Int32)) := ((f215.keep K213 (ninS ne_b194_b208 nin0)).keep K219 (ninS ne_b194_b208 nin0))
        have f225 : n0 ≤ T219.heap.size := (Nat.le_trans f220 K219.1)
        obtain ⟨cq223, kq223, q223a, q223b, q223c⟩ := isOf hZ rfl E_219
        obtain ⟨_, _, ⟨T223, L223, k223, n223⟩, -, X223, ⟨Lc223, hQ223, l223, y223, z223⟩, st223⟩ := X219.virtualBack hx (y := (⟨"com/example/usher/usher/core/Node", "stat", "()Lcom/example/usher/usher/protocol/Stat;"⟩ : MethodName)) (z := (⟨"com/example/usher/usher/core/Node", "stat", "()Lcom/example/usher/usher/protocol/Stat;"⟩ : MethodName)) hown (mvT hZ (hw _ (List.mem_of_getElem? (i := 92) rfl))) (mvT hZ (hw _ (List.mem_of_getElem? (i := 93) rfl))) (notFace_of_selects (args := #[]) (mvT hZ (hw _ (List.mem_of_getElem? (i := 95) rfl)))) (mvT hZ (hw _ (List.mem_of_getElem? (i := 95) rfl))) (mvT hZ (hw _ (List.mem_of_getElem? (i := 94) rfl))) (by decide) (backOf (W := 0) (rmS1 l Z a0 hw [] b208 c__213 q1 q2 (0 : Int64) b198 q3 q4 q1 ((0 : Int32) + (1 : Int32)) (0 : Int32) (0 : Int32) b194 k194 x11 [] m__213 T219.heap n0 f225 E_219 G0_219 G1_219 G2_219 G3_219 G4_219 G5_219 G6_219 G7_219 G8_219 G9_219 G10_219 G11_219 (Ec_213.keep K219) (Gc_213.keep K219 (ninS (Ne.symm ne_b208_c__213) nin0)) (Em_213.keep K219) (Gm_213.keep K219 (ninS (Ne.symm ne_b208_m__213) nin0)) f224) hZ (hw _ (List.mem_of_getElem? (i := 96) rfl)) (hw _ (List.mem_of_getElem? (i := 29) rfl)) (by decide) (by decide)) q223a q223c (g := (mkF m 183 #[lv q1, sd, lv q2, sd, lv q3, sd, lv q4, sd, lv q5, sd, iv p6, iv v4, iv x6, iv (0 : Int32), iv x11, iv (1 : Int32), iv x179, iv (0 : Int32), .val r192, rv b194, .val .null, rv b198, rv b208, un, un, un, un, un, un, un, un] [(.ref b208)])) rfl (by rw [hml]; rfl) (Steps.refl _) (argsL := []) (rest := []) (lenOf pd_5 rfl) rfl (by show 2 * 0 + _ ≤ _; exact Nat.le_of_eq rfl) (hb hby at_183) (fun _ _ => ⟨rfl, rfl, (by decide : 6 + 1 ≤ _), (by decide : 31 + 11 ≤ _)⟩)
        dsimp only [Pt.U, Pt.locs, Pt.cells, Pt.slots] at X223 l223 y223 z223 st223 hQ223
        subst y223 z223
        have f226 : Keep h0 T219.heap [] := ((f216.trans K213 (allS (P := fun x => x ∈ [] ∨ h0.size ≤ x) (Or.inr sz_b208) all0)).trans K219 (allS (P := fun x => x ∈ [] ∨ h0.size ≤ x) (Or.inr sz_b208) all0))
        obtain ⟨t__223, rfl, N223q, K223, Ft_223, Et_223, G_mzxid_223, G_ctime_223, G_mtime_223, G_version_223, G_dataLength_223, G_pzxid_223⟩ := hQ223
        have N223 : Fr n0 L223 := by rw [l223]; exact Fr.app N219 N223q
        have g_t__223 : n0 ≤ t__223 := Nat.le_trans f225 Ft_223
        have sz_t__223 : h0.size ≤ t__223 := Nat.le_trans f226.1 Ft_223
        have ne_b194_t__223 : b194 ≠ t__223 := Nat.ne_of_lt (Nat.lt_of_lt_of_le f224.lt Ft_223)
        have ne_b198_t__223 : b198 ≠ t__223 := Nat.ne_of_lt (Nat.lt_of_lt_of_le ((((A198.keep K203).ext E208).keep K213).keep K219).lt Ft_223)
        have ne_b208_t__223 : b208 ≠ t__223 := Nat.ne_of_lt (Nat.lt_of_lt_of_le ((A208.keep K213).keep K219).lt Ft_223)
        have ne_c__213_t__223 : c__213 ≠ t__223 := Nat.ne_of_lt (Nat.lt_of_lt_of_le (Ec_213.keep K219).lt Ft_223)
        have ne_m__213_t__223 : m__213 ≠ t__223 := Nat.ne_of_lt (Nat.lt_of_lt_of_le (Em_213.keep K219).lt Ft_223)
        have P227 : Rch p e below (s₁.setTop (entryFrame m #[(.long q1), (.long q2), (.long q3), (.long q4), (.long q5), (.int p6)] maxLocals)) (T223.setTop (mkF m 186 #[lv q1, sd, lv q2, sd, lv q3, sd, lv q4, sd, lv q5, sd, iv p6, iv v4, iv x6, iv (0 : Int32), iv x11, iv (1 : Int32), iv x179, iv (0 : Int32), .val r192, rv b194, .val .null, rv b198, rv b208, un, un, un, un, un, un, un, un] [(.ref t__223)])) := fun t k => P222 t (st223.trans k)
        have P228 : Rch p e below (s₁.setTop (entryFrame m #[(.long q1), (.long q2), (.long q3), (.long q4), (.long q5), (.int p6)] maxLocals)) (T223.setTop (mkF m 277 #[lv q1, sd, lv q2, sd, lv q3, sd, lv q4, sd, lv q5, sd, iv p6, iv v4, iv x6, iv (0 : Int32), iv x11, iv (1 : Int32), iv x179, iv (0 : Int32), .val r192, rv b194, .val .null, rv b198, rv b208, rv t__223, rv b194, lv q3, sd, lv q4, sd, iv (1 : Int32), iv x11] [(.ref b208)])) := fun t k => P227 t (by
          show Steps p.tables e below (T223.setTop (mkF m 186 #[lv q1, sd, lv q2, sd, lv q3, sd, lv q4, sd, lv q5, sd, iv p6, iv v4, iv x6, iv (0 : Int32), iv x11, iv (1 : Int32), iv x179, iv (0 : Int32), .val r192, rv b194, .val .null, rv b198, rv b208, un, un, un, un, un, un, un, un] [(.ref t__223)])) t
          refine XS.astore X223.here hx rfl (hb hby at_186) rfl rfl (l' := #[lv q1, sd, lv q2, sd, lv q3, sd, lv q4, sd, lv q5, sd, iv p6, iv v4, iv x6, iv (0 : Int32), iv x11, iv (1 : Int32), iv x179, iv (0 : Int32), .val r192, rv b194, .val .null, rv b198, rv b208, rv t__223, un, un, un, un, un, un, un]) rfl ?_
          refine XS.iload X223.here hx rfl (hb hby at_188) rfl ?_
          refine XS.ifYes X223.here hx rfl (pc0 := 190) (pc' := 198) rfl (hb hby at_190) rfl ((if0 _ _).trans (teq (by decide)).1) (by decide) (by decide) ?_
          show Steps p.tables e below (T223.setTop (mkF m 198 #[lv q1, sd, lv q2, sd, lv q3, sd, lv q4, sd, lv q5, sd, iv p6, iv v4, iv x6, iv (0 : Int32), iv x11, iv (1 : Int32), iv x179, iv (0 : Int32), .val r192, rv b194, .val .null, rv b198, rv b208, rv t__223, un, un, un, un, un, un, un] [])) t
          refine XS.aload X223.here hx rfl (hb hby at_198) rfl rfl ?_
          refine XS.astore X223.here hx rfl (hb hby at_200) rfl rfl (l' := #[lv q1, sd, lv q2, sd, lv q3, sd, lv q4, sd, lv q5, sd, iv p6, iv v4, iv x6, iv (0 : Int32), iv x11, iv (1 : Int32), iv x179, iv (0 : Int32), .val r192, rv b194, .val .null, rv b198, rv b208, rv t__223, rv b194, un, un, un, un, un, un]) rfl ?_
          refine XS.iload X223.here hx rfl (hb hby at_202) rfl ?_
          refine XS.ifYes X223.here hx rfl (pc0 := 204) (pc' := 212) rfl (hb hby at_204) rfl ((if0 _ _).trans (teq (by decide)).1) (by decide) (by decide) ?_
          show Steps p.tables e below (T223.setTop (mkF m 212 #[lv q1, sd, lv q2, sd, lv q3, sd, lv q4, sd, lv q5, sd, iv p6, iv v4, iv x6, iv (0 : Int32), iv x11, iv (1 : Int32), iv x179, iv (0 : Int32), .val r192, rv b194, .val .null, rv b198, rv b208, rv t__223, rv b194, un, un, un, un, un, un] [])) t
          refine XS.lload X223.here hx rfl (hb hby at_212) rfl ?_
          refine XS.lstore X223.here hx rfl (hb hby at_214) rfl (l' := #[lv q1, sd, lv q2, sd, lv q3, sd, lv q4, sd, lv q5, sd, iv p6, iv v4, iv x6, iv (0 : Int32), iv x11, iv (1 : Int32), iv x179, iv (0 : Int32), .val r192, rv b194, .val .null, rv b198, rv b208, rv t__223, rv b194, lv q3, sd, un, un, un, un]) rfl ?_
          refine XS.iload X223.here hx rfl (hb hby at_216) rfl ?_
          refine XS.ifYes X223.here hx rfl (pc0 := 218) (pc' := 225) rfl (hb hby at_218) rfl ((if0 _ _).trans (teq (by decide)).1) (by decide) (by decide) ?_
          show Steps p.tables e below (T223.setTop (mkF m 225 #[lv q1, sd, lv q2, sd, lv q3, sd, lv q4, sd, lv q5, sd, iv p6, iv v4, iv x6, iv (0 : Int32), iv x11, iv (1 : Int32), iv x179, iv (0 : Int32), .val r192, rv b194, .val .null, rv b198, rv b208, rv t__223, rv b194, lv q3, sd, un, un, un, un] [])) t
          refine XS.lload X223.here hx rfl (hb hby at_225) rfl ?_
          refine XS.lstore X223.here hx rfl (hb hby at_227) rfl (l' := #[lv q1, sd, lv q2, sd, lv q3, sd, lv q4, sd, lv q5, sd, iv p6, iv v4, iv x6, iv (0 : Int32), iv x11, iv (1 : Int32), iv x179, iv (0 : Int32), .val r192, rv b194, .val .null, rv b198, rv b208, rv t__223, rv b194, lv q3, sd, lv q4, sd, un, un]) rfl ?_
          refine XS.iload X223.here hx rfl (hb hby at_229) rfl ?_
          refine XS.ifYes X223.here hx rfl (pc0 := 231) (pc' := 238) rfl (hb hby at_231) rfl ((if0 _ _).trans (teq (by decide)).1) (by decide) (by decide) ?_
          show Steps p.tables e below (T223.setTop (mkF m 238 #[lv q1, sd, lv q2, sd, lv q3, sd, lv q4, sd, lv q5, sd, iv p6, iv v4, iv x6, iv (0 : Int32), iv x11, iv (1 : Int32), iv x179, iv (0 : Int32), .val r192, rv b194, .val .null, rv b198, rv b208, rv t__223, rv b194, lv q3, sd, lv q4, sd, un, un] [])) t
          refine XS.iconst X223.here hx rfl (hb hby at_238) ?_
          refine XS.istore X223.here hx rfl (hb hby at_239) rfl (l' := #[lv q1, sd, lv q2, sd, lv q3, sd, lv q4, sd, lv q5, sd, iv p6, iv v4, iv x6, iv (0 : Int32), iv x11, iv (1 : Int32), iv x179, iv (0 : Int32), .val r192, rv b194, .val .null, rv b198, rv b208, rv t__223, rv b194, lv q3, sd, lv q4, sd, iv (1 : Int32), un]) rfl ?_
          refine XS.iload X223.here hx rfl (hb hby at_241) rfl ?_
          refine XS.ifYes X223.here hx rfl (pc0 := 243) (pc' := 262) rfl (hb hby at_243) rfl ((if0 _ _).trans (teq (by decide)).1) (by decide) (by decide) ?_
          show Steps p.tables e below (T223.setTop (mkF m 262 #[lv q1, sd, lv q2, sd, lv q3, sd, lv q4, sd, lv q5, sd, iv p6, iv v4, iv x6, iv (0 : Int32), iv x11, iv (1 : Int32), iv x179, iv (0 : Int32), .val r192, rv b194, .val .null, rv b198, rv b208, rv t__223, rv b194, lv q3, sd, lv q4, sd, iv (1 : Int32), un] [])) t
          refine XS.iload X223.here hx rfl (hb hby at_262) rfl ?_
          refine XS.ifYes X223.here hx rfl (pc0 := 264) (pc' := 271) rfl (hb hby at_264) rfl ((if0 _ _).trans (teq (by decide)).1) (by decide) (by decide) ?_
          refine XS.iload X223.here hx rfl (hb hby at_271) rfl ?_
          refine XS.istore X223.here hx rfl (hb hby at_273) rfl (l' := #[lv q1, sd, lv q2, sd, lv q3, sd, lv q4, sd, lv q5, sd, iv p6, iv v4, iv x6, iv (0 : Int32), iv x11, iv (1 : Int32), iv x179, iv (0 : Int32), .val r192, rv b194, .val .null, rv b198, rv b208, rv t__223, rv b194, lv q3, sd, lv q4, sd, iv (1 : Int32), iv x11]) rfl ?_
          show Steps p.tables e below (T223.setTop (mkF m 275 #[lv q1, sd, lv q2, sd, lv q3, sd, lv q4, sd, lv q5, sd, iv p6, iv v4, iv x6, iv (0 : Int32), iv x11, iv (1 : Int32), iv x179, iv (0 : Int32), .val r192, rv b194, .val .null, rv b198, rv b208, rv t__223, rv b194, lv q3, sd, lv q4, sd, iv (1 : Int32), iv x11] [])) t
          refine XS.aload X223.here hx rfl (hb hby at_275) rfl rfl ?_
          exact k)
        have f230 : n0 ≤ T223.heap.size := (Nat.le_trans f225 K223.1)
        obtain ⟨cq229, kq229, q229a, q229b, q229c⟩ := isOf hZ rfl (E_219.keep K223)
        obtain ⟨_, _, ⟨T229, L229, k229, n229⟩, -, X229, ⟨Lc229, hQ229, l229, y229, z229⟩, st229⟩ := X223.virtualBack hx (y := (⟨"com/example/usher/usher/core/Node", "data", "()[B"⟩ : MethodName)) (z := (⟨"com/example/usher/usher/core/Node", "data", "()[B"⟩ : MethodName)) hown (mvT hZ (hw _ (List.mem_of_getElem? (i := 146) rfl))) (mvT hZ (hw _ (List.mem_of_getElem? (i := 147) rfl))) (notFace_of_selects (args := #[]) (mvT hZ (hw _ (List.mem_of_getElem? (i := 149) rfl)))) (mvT hZ (hw _ (List.mem_of_getElem? (i := 149) rfl))) (mvT hZ (hw _ (List.mem_of_getElem? (i := 148) rfl))) (by decide) (backOf (W := 0) (rmdt l Z a0 hw [] b208 (.ref b194) T223.heap n0 f230 (G4_219.keep K223 nin0) rfl) hZ (hw _ (List.mem_of_getElem? (i := 150) rfl)) (hw _ (List.mem_of_getElem? (i := 29) rfl)) (by decide) (by decide)) q229a q229c (g := (mkF m 277 #[lv q1, sd, lv q2, sd, lv q3, sd, lv q4, sd, lv q5, sd, iv p6, iv v4, iv x6, iv (0 : Int32), iv x11, iv (1 : Int32), iv x179, iv (0 : Int32), .val r192, rv b194, .val .null, rv b198, rv b208, rv t__223, rv b194, lv q3, sd, lv q4, sd, iv (1 : Int32), iv x11] [(.ref b208)])) rfl (by rw [hml]; rfl) (Steps.refl _) (argsL := []) (rest := []) (lenOf pd_6 rfl) rfl (by show 2 * 0 + _ ≤ _; exact Nat.le_of_eq rfl) (hb hby at_277) (fun _ _ => ⟨rfl, rfl, (by decide : 7 + 0 ≤ _), (by decide : 42 + 0 ≤ _)⟩)
        dsimp only [Pt.U, Pt.locs, Pt.cells, Pt.slots] at X229 l229 y229 z229 st229 hQ229
        subst y229 z229
        obtain ⟨rfl, N229q, e229⟩ := hQ229
        have N229 : Fr n0 L229 := by rw [l229]; exact Fr.app N223 N229q
        have P231 : Rch p e below (s₁.setTop (entryFrame m #[(.long q1), (.long q2), (.long q3), (.long q4), (.long q5), (.int p6)] maxLocals)) (T229.setTop (mkF m 280 #[lv q1, sd, lv q2, sd, lv q3, sd, lv q4, sd, lv q5, sd, iv p6, iv v4, iv x6, iv (0 : Int32), iv x11, iv (1 : Int32), iv x179, iv (0 : Int32), .val r192, rv b194, .val .null, rv b198, rv b208, rv t__223, rv b194, lv q3, sd, lv q4, sd, iv (1 : Int32), iv x11] [(.ref b194)])) := fun t k => P228 t (st229.trans k)
        have P232 : Rch p e below (s₁.setTop (entryFrame m #[(.long q1), (.long q2), (.long q3), (.long q4), (.long q5), (.int p6)] maxLocals)) (T229.setTop (mkF m 287 #[lv q1, sd, lv q2, sd, lv q3, sd, lv q4, sd, lv q5, sd, iv p6, iv v4, iv x6, iv (0 : Int32), iv x11, iv (1 : Int32), iv x179, iv (0 : Int32), .val r192, rv b194, .val .null, rv b198, rv b208, rv t__223, rv b194, lv q3, sd, lv q4, sd, iv (1 : Int32), iv x11] [(.ref t__223)])) := fun t k => P231 t (by
          show Steps p.tables e below (T229.setTop (mkF m 280 #[lv q1, sd, lv q2, sd, lv q3, sd, lv q4, sd, lv q5, sd, iv p6, iv v4, iv x6, iv (0 : Int32), iv x11, iv (1 : Int32), iv x179, iv (0 : Int32), .val r192, rv b194, .val .null, rv b198, rv b208, rv t__223, rv b194, lv q3, sd, lv q4, sd, iv (1 : Int32), iv x11] [(.ref b194)])) t
          refine XS.aload X229.here hx rfl (hb hby at_280) rfl rfl ?_
          refine Jvm.RoadKit.acmp (g := (mkF m 282 #[lv q1, sd, lv q2, sd, lv q3, sd, lv q4, sd, lv q5, sd, iv p6, iv v4, iv x6, iv (0 : Int32), iv x11, iv (1 : Int32), iv x179, iv (0 : Int32), .val r192, rv b194, .val .null, rv b198, rv b208, rv t__223, rv b194, lv q3, sd, lv q4, sd, iv (1 : Int32), iv x11] [(.ref b194), (.ref b194)])) X229 hx rfl rfl rfl (pc0 := 282) (pc' := 285) (same := true) rfl (hb hby at_282) rfl (decide_eq_true (congrArg Value.ref rfl)) (by decide) (by decide) ?_
          refine XS.aload X229.here hx rfl (hb hby at_285) rfl rfl ?_
          exact k)
        obtain ⟨cq233, kq233, q233a, q233b, q233c⟩ := isOf hZ e229 Et_223
        obtain ⟨_, _, ⟨T233, L233, k233, n233⟩, -, X233, ⟨Lc233, hQ233, l233, y233, z233⟩, st233⟩ := X229.virtualBack hx (y := (⟨"com/example/usher/usher/protocol/Stat", "mzxid", "()J"⟩ : MethodName)) (z := (⟨"com/example/usher/usher/protocol/Stat", "mzxid", "()J"⟩ : MethodName)) hown (mvT hZ (hw _ (List.mem_of_getElem? (i := 151) rfl))) (mvT hZ (hw _ (List.mem_of_getElem? (i := 152) rfl))) (notFace_of_selects (args := #[]) (mvT hZ (hw _ (List.mem_of_getElem? (i := 154) rfl)))) (mvT hZ (hw _ (List.mem_of_getElem? (i := 154) rfl))) (mvT hZ (hw _ (List.mem_of_getElem? (i := 153) rfl))) (by decide) (backOf (W := 0) (rmG_mzxid l Z a0 hw [] t__223 q3 T223.heap n0 f230 G_mzxid_223) hZ (hw _ (List.mem_of_getElem? (i := 155) rfl)) (hw _ (List.mem_of_getElem? (i := 99) rfl)) (by decide) (by decide)) q233a q233c (g := (mkF m 287 #[lv q1, sd, lv q2, sd, lv q3, sd, lv q4, sd, lv q5, sd, iv p6, iv v4, iv x6, iv (0 : Int32), iv x11, iv (1 : Int32), iv x179, iv (0 : Int32), .val r192, rv b194, .val .null, rv b198, rv b208, rv t__223, rv b194, lv q3, sd, lv q4, sd, iv (1 : Int32), iv x11] [(.ref t__223)])) rfl (by rw [hml]; rfl) (Steps.refl _) (argsL := []) (rest := []) (lenOf pd_7 rfl) rfl (by show 2 * 0 + _ ≤ _; exact Nat.le_of_eq rfl) (hb hby at_287) (fun _ _ => ⟨rfl, e229, (by decide : 7 + 0 ≤ _), (by decide : 42 + 0 ≤ _)⟩)
        dsimp only [Pt.U, Pt.locs, Pt.cells, Pt.slots] at X233 l233 y233 z233 st233 hQ233
        subst y233 z233
        obtain ⟨rfl, N233q, e233⟩ := hQ233
        have N233 : Fr n0 L233 := by rw [l233]; exact Fr.app N229 N233q
        have P234 : Rch p e below (s₁.setTop (entryFrame m #[(.long q1), (.long q2), (.long q3), (.long q4), (.long q5), (.int p6)] maxLocals)) (T233.setTop (mkF m 290 #[lv q1, sd, lv q2, sd, lv q3, sd, lv q4, sd, lv q5, sd, iv p6, iv v4, iv x6, iv (0 : Int32), iv x11, iv (1 : Int32), iv x179, iv (0 : Int32), .val r192, rv b194, .val .null, rv b198, rv b208, rv t__223, rv b194, lv q3, sd, lv q4, sd, iv (1 : Int32), iv x11] [(.long q3)])) := fun t k => P232 t (st233.trans k)
        have P235 : Rch p e below (s₁.setTop (entryFrame m #[(.long q1), (.long q2), (.long q3), (.long q4), (.long q5), (.int p6)] maxLocals)) (T233.setTop (mkF m 298 #[lv q1, sd, lv q2, sd, lv q3, sd, lv q4, sd, lv q5, sd, iv p6, iv v4, iv x6, iv (0 : Int32), iv x11, iv (1 : Int32), iv x179, iv (0 : Int32), .val r192, rv b194, .val .null, rv b198, rv b208, rv t__223, rv b194, lv q3, sd, lv q4, sd, iv (1 : Int32), iv x11] [(.ref t__223)])) := fun t k => P234 t (by
          show Steps p.tables e below (T233.setTop (mkF m 290 #[lv q1, sd, lv q2, sd, lv q3, sd, lv q4, sd, lv q5, sd, iv p6, iv v4, iv x6, iv (0 : Int32), iv x11, iv (1 : Int32), iv x179, iv (0 : Int32), .val r192, rv b194, .val .null, rv b198, rv b208, rv t__223, rv b194, lv q3, sd, lv q4, sd, iv (1 : Int32), iv x11] [(.long q3)])) t
          refine XS.lload X233.here hx rfl (hb hby at_290) rfl ?_
          refine XS.lcmp X233.here hx rfl (hb hby at_292) rfl ?_
          refine XS.ifNo X233.here hx rfl (hb hby at_293) rfl ((if0 _ _).trans (teq ((lw_eq q3 q3).mpr rfl)).2) ?_
          show Steps p.tables e below (T233.setTop (mkF m 296 #[lv q1, sd, lv q2, sd, lv q3, sd, lv q4, sd, lv q5, sd, iv p6, iv v4, iv x6, iv (0 : Int32), iv x11, iv (1 : Int32), iv x179, iv (0 : Int32), .val r192, rv b194, .val .null, rv b198, rv b208, rv t__223, rv b194, lv q3, sd, lv q4, sd, iv (1 : Int32), iv x11] [])) t
          refine XS.aload X233.here hx rfl (hb hby at_296) rfl rfl ?_
          exact k)
        obtain ⟨cq236, kq236, q236a, q236b, q236c⟩ := isOf hZ e233 Et_223
        obtain ⟨_, _, ⟨T236, L236, k236, n236⟩, -, X236, ⟨Lc236, hQ236, l236, y236, z236⟩, st236⟩ := X233.virtualBack hx (y := (⟨"com/example/usher/usher/protocol/Stat", "mtime", "()J"⟩ : MethodName)) (z := (⟨"com/example/usher/usher/protocol/Stat", "mtime", "()J"⟩ : MethodName)) hown (mvT hZ (hw _ (List.mem_of_getElem? (i := 156) rfl))) (mvT hZ (hw _ (List.mem_of_getElem? (i := 157) rfl))) (notFace_of_selects (args := #[]) (mvT hZ (hw _ (List.mem_of_getElem? (i := 159) rfl)))) (mvT hZ (hw _ (List.mem_of_getElem? (i := 159) rfl))) (mvT hZ (hw _ (List.mem_of_getElem? (i := 158) rfl))) (by decide) (backOf (W := 0) (rmG_mtime l Z a0 hw [] t__223 q4 T223.heap n0 f230 G_mtime_223) hZ (hw _ (List.mem_of_getElem? (i := 160) rfl)) (hw _ (List.mem_of_getElem? (i := 99) rfl)) (by decide) (by decide)) q236a q236c (g := (mkF m 298 #[lv q1, sd, lv q2, sd, lv q3, sd, lv q4, sd, lv q5, sd, iv p6, iv v4, iv x6, iv (0 : Int32), iv x11, iv (1 : Int32), iv x179, iv (0 : Int32), .val r192, rv b194, .val .null, rv b198, rv b208, rv t__223, rv b194, lv q3, sd, lv q4, sd, iv (1 : Int32), iv x11] [(.ref t__223)])) rfl (by rw [hml]; rfl) (Steps.refl _) (argsL := []) (rest := []) (lenOf pd_7 rfl) rfl (by show 2 * 0 + _ ≤ _; exact Nat.le_of_eq rfl) (hb hby at_298) (fun _ _ => ⟨rfl, e233, (by decide : 7 + 0 ≤ _), (by decide : 42 + 0 ≤ _)⟩)
        dsimp only [Pt.U, Pt.locs, Pt.cells, Pt.slots] at X236 l236 y236 z236 st236 hQ236
        subst y236 z236
        obtain ⟨rfl, N236q, e236⟩ := hQ236
        have N236 : Fr n0 L236 := by rw [l236]; exact Fr.app N233 N236q
        have P237 : Rch p e below (s₁.setTop (entryFrame m #[(.long q1), (.long q2), (.long q3), (.long q4), (.long q5), (.int p6)] maxLocals)) (T236.setTop (mkF m 301 #[lv q1, sd, lv q2, sd, lv q3, sd, lv q4, sd, lv q5, sd, iv p6, iv v4, iv x6, iv (0 : Int32), iv x11, iv (1 : Int32), iv x179, iv (0 : Int32), .val r192, rv b194, .val .null, rv b198, rv b208, rv t__223, rv b194, lv q3, sd, lv q4, sd, iv (1 : Int32), iv x11] [(.long q4)])) := fun t k => P235 t (st236.trans k)
        have P238 : Rch p e below (s₁.setTop (entryFrame m #[(.long q1), (.long q2), (.long q3), (.long q4), (.long q5), (.int p6)] maxLocals)) (T236.setTop (mkF m 309 #[lv q1, sd, lv q2, sd, lv q3, sd, lv q4, sd, lv q5, sd, iv p6, iv v4, iv x6, iv (0 : Int32), iv x11, iv (1 : Int32), iv x179, iv (0 : Int32), .val r192, rv b194, .val .null, rv b198, rv b208, rv t__223, rv b194, lv q3, sd, lv q4, sd, iv (1 : Int32), iv x11] [(.ref t__223)])) := fun t k => P237 t (by
          show Steps p.tables e below (T236.setTop (mkF m 301 #[lv q1, sd, lv q2, sd, lv q3, sd, lv q4, sd, lv q5, sd, iv p6, iv v4, iv x6, iv (0 : Int32), iv x11, iv (1 : Int32), iv x179, iv (0 : Int32), .val r192, rv b194, .val .null, rv b198, rv b208, rv t__223, rv b194, lv q3, sd, lv q4, sd, iv (1 : Int32), iv x11] [(.long q4)])) t
          refine XS.lload X236.here hx rfl (hb hby at_301) rfl ?_
          refine XS.lcmp X236.here hx rfl (hb hby at_303) rfl ?_
          refine XS.ifNo X236.here hx rfl (hb hby at_304) rfl ((if0 _ _).trans (teq ((lw_eq q4 q4).mpr rfl)).2) ?_
          show Steps p.tables e below (T236.setTop (mkF m 307 #[lv q1, sd, lv q2, sd, lv q3, sd, lv q4, sd, lv q5, sd, iv p6, iv v4, iv x6, iv (0 : Int32), iv x11, iv (1 : Int32), iv x179, iv (0 : Int32), .val r192, rv b194, .val .null, rv b198, rv b208, rv t__223, rv b194, lv q3, sd, lv q4, sd, iv (1 : Int32), iv x11] [])) t
          refine XS.aload X236.here hx rfl (hb hby at_307) rfl rfl ?_
          exact k)
        obtain ⟨cq239, kq239, q239a, q239b, q239c⟩ := isOf hZ e236 Et_223
        obtain ⟨_, _, ⟨T239, L239, k239, n239⟩, -, X239, ⟨Lc239, hQ239, l239, y239, z239⟩, st239⟩ := X236.virtualBack hx (y := (⟨"com/example/usher/usher/protocol/Stat", "version", "()I"⟩ : MethodName)) (z := (⟨"com/example/usher/usher/protocol/Stat", "version", "()I"⟩ : MethodName)) hown (mvT hZ (hw _ (List.mem_of_getElem? (i := 161) rfl))) (mvT hZ (hw _ (List.mem_of_getElem? (i := 162) rfl))) (notFace_of_selects (args := #[]) (mvT hZ (hw _ (List.mem_of_getElem? (i := 164) rfl)))) (mvT hZ (hw _ (List.mem_of_getElem? (i := 164) rfl))) (mvT hZ (hw _ (List.mem_of_getElem? (i := 163) rfl))) (by decide) (backOf (W := 0) (rmG_version l Z a0 hw [] t__223 ((0 : Int32) + (1 : Int32)) T223.heap n0 f230 G_version_223) hZ (hw _ (List.mem_of_getElem? (i := 165) rfl)) (hw _ (List.mem_of_getElem? (i := 99) rfl)) (by decide) (by decide)) q239a q239c (g := (mkF m 309 #[lv q1, sd, lv q2, sd, lv q3, sd, lv q4, sd, lv q5, sd, iv p6, iv v4, iv x6, iv (0 : Int32), iv x11, iv (1 : Int32), iv x179, iv (0 : Int32), .val r192, rv b194, .val .null, rv b198, rv b208, rv t__223, rv b194, lv q3, sd, lv q4, sd, iv (1 : Int32), iv x11] [(.ref t__223)])) rfl (by rw [hml]; rfl) (Steps.refl _) (argsL := []) (rest := []) (lenOf pd_1 rfl) rfl (by show 2 * 0 + _ ≤ _; exact Nat.le_of_eq rfl) (hb hby at_309) (fun _ _ => ⟨rfl, e236, (by decide : 7 + 0 ≤ _), (by decide : 42 + 0 ≤ _)⟩)
        dsimp only [Pt.U, Pt.locs, Pt.cells, Pt.slots] at X239 l239 y239 z239 st239 hQ239
        subst y239 z239
        obtain ⟨rfl, N239q, e239⟩ := hQ239
        have N239 : Fr n0 L239 := by rw [l239]; exact Fr.app N236 N239q
        have P240 : Rch p e below (s₁.setTop (entryFrame m #[(.long q1), (.long q2), (.long q3), (.long q4), (.long q5), (.int p6)] maxLocals)) (T239.setTop (mkF m 312 #[lv q1, sd, lv q2, sd, lv q3, sd, lv q4, sd, lv q5, sd, iv p6, iv v4, iv x6, iv (0 : Int32), iv x11, iv (1 : Int32), iv x179, iv (0 : Int32), .val r192, rv b194, .val .null, rv b198, rv b208, rv t__223, rv b194, lv q3, sd, lv q4, sd, iv (1 : Int32), iv x11] [(.int ((0 : Int32) + (1 : Int32)))])) := fun t k => P238 t (st239.trans k)
        obtain ⟨x241, hx241⟩ : ∃ z : Int32, z = ((0 : Int32) + (1 : Int32)) := ⟨_, rfl⟩
        rw [← hx241] at P240
        have P242 : Rch p e below (s₁.setTop (entryFrame m #[(.long q1), (.long q2), (.long q3), (.long q4), (.long q5), (.int p6)] maxLocals)) (T239.setTop (mkF m 314 #[lv q1, sd, lv q2, sd, lv q3, sd, lv q4, sd, lv q5, sd, iv p6, iv v4, iv x6, iv (0 : Int32), iv x11, iv (1 : Int32), iv x179, iv (0 : Int32), .val r192, rv b194, .val .null, rv b198, rv b208, rv t__223, rv b194, lv q3, sd, lv q4, sd, iv (1 : Int32), iv x11] [(.int (1 : Int32)), (.int x241)])) := fun t k => P240 t (by
          show Steps p.tables e below (T239.setTop (mkF m 312 #[lv q1, sd, lv q2, sd, lv q3, sd, lv q4, sd, lv q5, sd, iv p6, iv v4, iv x6, iv (0 : Int32), iv x11, iv (1 : Int32), iv x179, iv (0 : Int32), .val r192, rv b194, .val .null, rv b198, rv b208, rv t__223, rv b194, lv q3, sd, lv q4, sd, iv (1 : Int32), iv x11] [(.int x241)])) t
          refine XS.iload X239.here hx rfl (hb hby at_312) rfl ?_
          exact k)
        have hvq : x241 = (1 : Int32) := by rw [hx241]; decide
        have P243 : Rch p e below (s₁.setTop (entryFrame m #[(.long q1), (.long q2), (.long q3), (.long q4), (.long q5), (.int p6)] maxLocals)) (T239.setTop (mkF m 319 #[lv q1, sd, lv q2, sd, lv q3, sd, lv q4, sd, lv q5, sd, iv p6, iv v4, iv x6, iv (0 : Int32), iv x11, iv (1 : Int32), iv x179, iv (0 : Int32), .val r192, rv b194, .val .null, rv b198, rv b208, rv t__223, rv b194, lv q3, sd, lv q4, sd, iv (1 : Int32), iv x11] [(.ref t__223)])) := fun t k => P242 t (by
          show Steps p.tables e below (T239.setTop (mkF m 314 #[lv q1, sd, lv q2, sd, lv q3, sd, lv q4, sd, lv q5, sd, iv p6, iv v4, iv x6, iv (0 : Int32), iv x11, iv (1 : Int32), iv x179, iv (0 : Int32), .val r192, rv b194, .val .null, rv b198, rv b208, rv t__223, rv b194, lv q3, sd, lv q4, sd, iv (1 : Int32), iv x11] [(.int (1 : Int32)), (.int x241)])) t
          refine XS.icmpNo X239.here hx rfl (hb hby at_314) rfl (teq hvq).2 ?_
          refine XS.aload X239.here hx rfl (hb hby at_317) rfl rfl ?_
          exact k)
        obtain ⟨cq244, kq244, q244a, q244b, q244c⟩ := isOf hZ e239 Et_223
        obtain ⟨_, _, ⟨T244, L244, k244, n244⟩, -, X244, ⟨Lc244, hQ244, l244, y244, z244⟩, st244⟩ := X239.virtualBack hx (y := (⟨"com/example/usher/usher/protocol/Stat", "dataLength", "()I"⟩ : MethodName)) (z := (⟨"com/example/usher/usher/protocol/Stat", "dataLength", "()I"⟩ : MethodName)) hown (mvT hZ (hw _ (List.mem_of_getElem? (i := 166) rfl))) (mvT hZ (hw _ (List.mem_of_getElem? (i := 167) rfl))) (notFace_of_selects (args := #[]) (mvT hZ (hw _ (List.mem_of_getElem? (i := 169) rfl)))) (mvT hZ (hw _ (List.mem_of_getElem? (i := 169) rfl))) (mvT hZ (hw _ (List.mem_of_getElem? (i := 168) rfl))) (by decide) (backOf (W := 0) (rmG_dataLength l Z a0 hw [] t__223 x11 T223.heap n0 f230 G_dataLength_223) hZ (hw _ (List.mem_of_getElem? (i := 170) rfl)) (hw _ (List.mem_of_getElem? (i := 99) rfl)) (by decide) (by decide)) q244a q244c (g := (mkF m 319 #[lv q1, sd, lv q2, sd, lv q3, sd, lv q4, sd, lv q5, sd, iv p6, iv v4, iv x6, iv (0 : Int32), iv x11, iv (1 : Int32), iv x179, iv (0 : Int32), .val r192, rv b194, .val .null, rv b198, rv b208, rv t__223, rv b194, lv q3, sd, lv q4, sd, iv (1 : Int32), iv x11] [(.ref t__223)])) rfl (by rw [hml]; rfl) (Steps.refl _) (argsL := []) (rest := []) (lenOf pd_1 rfl) rfl (by show 2 * 0 + _ ≤ _; exact Nat.le_of_eq rfl) (hb hby at_319) (fun _ _ => ⟨rfl, e239, (by decide : 7 + 0 ≤ _), (by decide : 42 + 0 ≤ _)⟩)
        dsimp only [Pt.U, Pt.locs, Pt.cells, Pt.slots] at X244 l244 y244 z244 st244 hQ244
        subst y244 z244
        obtain ⟨rfl, N244q, e244⟩ := hQ244
        have N244 : Fr n0 L244 := by rw [l244]; exact Fr.app N239 N244q
        have P245 : Rch p e below (s₁.setTop (entryFrame m #[(.long q1), (.long q2), (.long q3), (.long q4), (.long q5), (.int p6)] maxLocals)) (T244.setTop (mkF m 322 #[lv q1, sd, lv q2, sd, lv q3, sd, lv q4, sd, lv q5, sd, iv p6, iv v4, iv x6, iv (0 : Int32), iv x11, iv (1 : Int32), iv x179, iv (0 : Int32), .val r192, rv b194, .val .null, rv b198, rv b208, rv t__223, rv b194, lv q3, sd, lv q4, sd, iv (1 : Int32), iv x11] [(.int x11)])) := fun t k => P243 t (st244.trans k)
        have P246 : Rch p e below (s₁.setTop (entryFrame m #[(.long q1), (.long q2), (.long q3), (.long q4), (.long q5), (.int p6)] maxLocals)) (T244.setTop (mkF m 329 #[lv q1, sd, lv q2, sd, lv q3, sd, lv q4, sd, lv q5, sd, iv p6, iv v4, iv x6, iv (0 : Int32), iv x11, iv (1 : Int32), iv x179, iv (0 : Int32), .val r192, rv b194, .val .null, rv b198, rv b208, rv t__223, rv b194, lv q3, sd, lv q4, sd, iv (1 : Int32), iv x11] [(.ref t__223)])) := fun t k => P245 t (by
          show Steps p.tables e below (T244.setTop (mkF m 322 #[lv q1, sd, lv q2, sd, lv q3, sd, lv q4, sd, lv q5, sd, iv p6, iv v4, iv x6, iv (0 : Int32), iv x11, iv (1 : Int32), iv x179, iv (0 : Int32), .val r192, rv b194, .val .null, rv b198, rv b208, rv t__223, rv b194, lv q3, sd, lv q4, sd, iv (1 : Int32), iv x11] [(.int x11)])) t
          refine XS.iload X244.here hx rfl (hb hby at_322) rfl ?_
          refine XS.icmpNo X244.here hx rfl (hb hby at_324) rfl (teq rfl).2 ?_
          refine XS.aload X244.here hx rfl (hb hby at_327) rfl rfl ?_
          exact k)
        obtain ⟨cq247, kq247, q247a, q247b, q247c⟩ := isOf hZ e244 Et_223
        obtain ⟨_, _, ⟨T247, L247, k247, n247⟩, -, X247, ⟨Lc247, hQ247, l247, y247, z247⟩, st247⟩ := X244.virtualBack hx (y := (⟨"com/example/usher/usher/protocol/Stat", "pzxid", "()J"⟩ : MethodName)) (z := (⟨"com/example/usher/usher/protocol/Stat", "pzxid", "()J"⟩ : MethodName)) hown (mvT hZ (hw _ (List.mem_of_getElem? (i := 171) rfl))) (mvT hZ (hw _ (List.mem_of_getElem? (i := 172) rfl))) (notFace_of_selects (args := #[]) (mvT hZ (hw _ (List.mem_of_getElem? (i := 174) rfl)))) (mvT hZ (hw _ (List.mem_of_getElem? (i := 174) rfl))) (mvT hZ (hw _ (List.mem_of_getElem? (i := 173) rfl))) (by decide) (backOf (W := 0) (rmG_pzxid l Z a0 hw [] t__223 q1 T223.heap n0 f230 G_pzxid_223) hZ (hw _ (List.mem_of_getElem? (i := 175) rfl)) (hw _ (List.mem_of_getElem? (i := 99) rfl)) (by decide) (by decide)) q247a q247c (g := (mkF m 329 #[lv q1, sd, lv q2, sd, lv q3, sd, lv q4, sd, lv q5, sd, iv p6, iv v4, iv x6, iv (0 : Int32), iv x11, iv (1 : Int32), iv x179, iv (0 : Int32), .val r192, rv b194, .val .null, rv b198, rv b208, rv t__223, rv b194, lv q3, sd, lv q4, sd, iv (1 : Int32), iv x11] [(.ref t__223)])) rfl (by rw [hml]; rfl) (Steps.refl _) (argsL := []) (rest := []) (lenOf pd_7 rfl) rfl (by show 2 * 0 + _ ≤ _; exact Nat.le_of_eq rfl) (hb hby at_329) (fun _ _ => ⟨rfl, e244, (by decide : 7 + 0 ≤ _), (by decide : 42 + 0 ≤ _)⟩)
        dsimp only [Pt.U, Pt.locs, Pt.cells, Pt.slots] at X247 l247 y247 z247 st247 hQ247
        subst y247 z247
        obtain ⟨rfl, N247q, e247⟩ := hQ247
        have N247 : Fr n0 L247 := by rw [l247]; exact Fr.app N244 N247q
        have P248 : Rch p e below (s₁.setTop (entryFrame m #[(.long q1), (.long q2), (.long q3), (.long q4), (.long q5), (.int p6)] maxLocals)) (T247.setTop (mkF m 332 #[lv q1, sd, lv q2, sd, lv q3, sd, lv q4, sd, lv q5, sd, iv p6, iv v4, iv x6, iv (0 : Int32), iv x11, iv (1 : Int32), iv x179, iv (0 : Int32), .val r192, rv b194, .val .null, rv b198, rv b208, rv t__223, rv b194, lv q3, sd, lv q4, sd, iv (1 : Int32), iv x11] [(.long q1)])) := fun t k => P246 t (st247.trans k)
        have P249 : Rch p e below (s₁.setTop (entryFrame m #[(.long q1), (.long q2), (.long q3), (.long q4), (.long q5), (.int p6)] maxLocals)) (T247.setTop (mkF m 339 #[lv q1, sd, lv q2, sd, lv q3, sd, lv q4, sd, lv q5, sd, iv p6, iv v4, iv x6, iv (0 : Int32), iv x11, iv (1 : Int32), iv x179, iv (0 : Int32), .val r192, rv b194, .val .null, rv b198, rv b208, rv t__223, rv b194, lv q3, sd, lv q4, sd, iv (1 : Int32), iv x11] [(.ref t__223)])) := fun t k => P248 t (by
          show Steps p.tables e below (T247.setTop (mkF m 332 #[lv q1, sd, lv q2, sd, lv q3, sd, lv q4, sd, lv q5, sd, iv p6, iv v4, iv x6, iv (0 : Int32), iv x11, iv (1 : Int32), iv x179, iv (0 : Int32), .val r192, rv b194, .val .null, rv b198, rv b208, rv t__223, rv b194, lv q3, sd, lv q4, sd, iv (1 : Int32), iv x11] [(.long q1)])) t
          refine XS.lloadN X247.here hx rfl (hb hby at_332) rfl ?_
          refine XS.lcmp X247.here hx rfl (hb hby at_333) rfl ?_
          refine XS.ifNo X247.here hx rfl (hb hby at_334) rfl ((if0 _ _).trans (teq ((lw_eq q1 q1).mpr rfl)).2) ?_
          show Steps p.tables e below (T247.setTop (mkF m 337 #[lv q1, sd, lv q2, sd, lv q3, sd, lv q4, sd, lv q5, sd, iv p6, iv v4, iv x6, iv (0 : Int32), iv x11, iv (1 : Int32), iv x179, iv (0 : Int32), .val r192, rv b194, .val .null, rv b198, rv b208, rv t__223, rv b194, lv q3, sd, lv q4, sd, iv (1 : Int32), iv x11] [])) t
          refine XS.aload X247.here hx rfl (hb hby at_337) rfl rfl ?_
          exact k)
        obtain ⟨cq250, kq250, q250a, q250b, q250c⟩ := isOf hZ e247 Et_223
        obtain ⟨_, _, ⟨T250, L250, k250, n250⟩, -, X250, ⟨Lc250, hQ250, l250, y250, z250⟩, st250⟩ := X247.virtualBack hx (y := (⟨"com/example/usher/usher/protocol/Stat", "ctime", "()J"⟩ : MethodName)) (z := (⟨"com/example/usher/usher/protocol/Stat", "ctime", "()J"⟩ : MethodName)) hown (mvT hZ (hw _ (List.mem_of_getElem? (i := 176) rfl))) (mvT hZ (hw _ (List.mem_of_getElem? (i := 177) rfl))) (notFace_of_selects (args := #[]) (mvT hZ (hw _ (List.mem_of_getElem? (i := 179) rfl)))) (mvT hZ (hw _ (List.mem_of_getElem? (i := 179) rfl))) (mvT hZ (hw _ (List.mem_of_getElem? (i := 178) rfl))) (by decide) (backOf (W := 0) (rmG_ctime l Z a0 hw [] t__223 q2 T223.heap n0 f230 G_ctime_223) hZ (hw _ (List.mem_of_getElem? (i := 180) rfl)) (hw _ (List.mem_of_getElem? (i := 99) rfl)) (by decide) (by decide)) q250a q250c (g := (mkF m 339 #[lv q1, sd, lv q2, sd, lv q3, sd, lv q4, sd, lv q5, sd, iv p6, iv v4, iv x6, iv (0 : Int32), iv x11, iv (1 : Int32), iv x179, iv (0 : Int32), .val r192, rv b194, .val .null, rv b198, rv b208, rv t__223, rv b194, lv q3, sd, lv q4, sd, iv (1 : Int32), iv x11] [(.ref t__223)])) rfl (by rw [hml]; rfl) (Steps.refl _) (argsL := []) (rest := []) (lenOf pd_7 rfl) rfl (by show 2 * 0 + _ ≤ _; exact Nat.le_of_eq rfl) (hb hby at_339) (fun _ _ => ⟨rfl, e247, (by decide : 7 + 0 ≤ _), (by decide : 42 + 0 ≤ _)⟩)
        dsimp only [Pt.U, Pt.locs, Pt.cells, Pt.slots] at X250 l250 y250 z250 st250 hQ250
        subst y250 z250
        obtain ⟨rfl, N250q, e250⟩ := hQ250
        have N250 : Fr n0 L250 := by rw [l250]; exact Fr.app N247 N250q
        have P251 : Rch p e below (s₁.setTop (entryFrame m #[(.long q1), (.long q2), (.long q3), (.long q4), (.long q5), (.int p6)] maxLocals)) (T250.setTop (mkF m 342 #[lv q1, sd, lv q2, sd, lv q3, sd, lv q4, sd, lv q5, sd, iv p6, iv v4, iv x6, iv (0 : Int32), iv x11, iv (1 : Int32), iv x179, iv (0 : Int32), .val r192, rv b194, .val .null, rv b198, rv b208, rv t__223, rv b194, lv q3, sd, lv q4, sd, iv (1 : Int32), iv x11] [(.long q2)])) := fun t k => P249 t (st250.trans k)
        have P252 : Rch p e below (s₁.setTop (entryFrame m #[(.long q1), (.long q2), (.long q3), (.long q4), (.long q5), (.int p6)] maxLocals)) (T250.setTop (mkF m 352 #[lv q1, sd, lv q2, sd, lv q3, sd, lv q4, sd, lv q5, sd, iv p6, iv v4, iv x6, iv (0 : Int32), iv x11, iv (1 : Int32), iv x179, iv (0 : Int32), .val r192, rv b194, .val .null, rv b198, rv b208, rv t__223, rv b194, lv q3, sd, lv q4, sd, iv (1 : Int32), iv x11] [(.int (1 : Int32))])) := fun t k => P251 t (by
          show Steps p.tables e below (T250.setTop (mkF m 342 #[lv q1, sd, lv q2, sd, lv q3, sd, lv q4, sd, lv q5, sd, iv p6, iv v4, iv x6, iv (0 : Int32), iv x11, iv (1 : Int32), iv x179, iv (0 : Int32), .val r192, rv b194, .val .null, rv b198, rv b208, rv t__223, rv b194, lv q3, sd, lv q4, sd, iv (1 : Int32), iv x11] [(.long q2)])) t
          refine XS.lloadN X250.here hx rfl (hb hby at_342) rfl ?_
          refine XS.lcmp X250.here hx rfl (hb hby at_343) rfl ?_
          refine XS.ifNo X250.here hx rfl (hb hby at_344) rfl ((if0 _ _).trans (teq ((lw_eq q2 q2).mpr rfl)).2) ?_
          show Steps p.tables e below (T250.setTop (mkF m 347 #[lv q1, sd, lv q2, sd, lv q3, sd, lv q4, sd, lv q5, sd, iv p6, iv v4, iv x6, iv (0 : Int32), iv x11, iv (1 : Int32), iv x179, iv (0 : Int32), .val r192, rv b194, .val .null, rv b198, rv b208, rv t__223, rv b194, lv q3, sd, lv q4, sd, iv (1 : Int32), iv x11] [])) t
          refine XS.iconst X250.here hx rfl (hb hby at_347) ?_
          refine XS.goto X250.here hx rfl (pc0 := 348) (pc' := 352) rfl (hb hby at_348) (by decide) (by decide) ?_
          exact k)
        obtain ⟨fs, hr, hrun, hended, hW, hsame⟩ := X250.leave (v := some (.int (1 : Int32))) (fun h => by rw [Bd.returns] at h; cases h)
        refine ⟨_, _, P252 _ ?_, hrun, hended, _, _, rfl, ?_, ⟨_, rfl⟩, hW, hsame.mono (by decide) (by decide)⟩
        · exact retN X250 hx (t := .boolean) Bd.returns (by simp) (hb hby at_352) hr
        · show Q_rm0 Z q1 q2 q3 q4 q5 p6 aD h0 n0 _ T250.heap _
          rw [e250]
          exact ⟨rfl, N250⟩
      · have P253 : Rch p e below (s₁.setTop (entryFrame m #[(.long q1), (.long q2), (.long q3), (.long q4), (.long q5), (.int p6)] maxLocals)) (s₁.setTop (mkF m 87 #[lv q1, sd, lv q2, sd, lv q3, sd, lv q4, sd, lv q5, sd, iv p6, iv v4, iv x6, iv (0 : Int32), iv x11, iv (1 : Int32), iv x179, iv (1 : Int32), un, un, un, un, un, un, un, un, un, un, un, un, un] [(.int v4)])) := fun t k => P182 t (by
          show Steps p.tables e below (s₁.setTop (mkF m 75 #[lv q1, sd, lv q2, sd, lv q3, sd, lv q4, sd, lv q5, sd, iv p6, iv v4, iv x6, iv (0 : Int32), iv x11, iv (1 : Int32), iv x179, un, un, un, un, un, un, un, un, un, un, un, un, un, un] [(.int x181)])) t
          refine XS.ifNo X0.here hx rfl (hb hby at_75) rfl ((if0 _ _).trans (feq c183).1) ?_
          refine XS.iconst X0.here hx rfl (hb hby at_78) ?_
          refine XS.goto X0.here hx rfl (pc0 := 79) (pc' := 83) rfl (hb hby at_79) (by decide) (by decide) ?_
          show Steps p.tables e below (s₁.setTop (mkF m 83 #[lv q1, sd, lv q2, sd, lv q3, sd, lv q4, sd, lv q5, sd, iv p6, iv v4, iv x6, iv (0 : Int32), iv x11, iv (1 : Int32), iv x179, un, un, un, un, un, un, un, un, un, un, un, un, un, un] [(.int (1 : Int32))])) t
          refine XS.istore X0.here hx rfl (hb hby at_83) rfl (l' := #[lv q1, sd, lv q2, sd, lv q3, sd, lv q4, sd, lv q5, sd, iv p6, iv v4, iv x6, iv (0 : Int32), iv x11, iv (1 : Int32), iv x179, iv (1 : Int32), un, un, un, un, un, un, un, un, un, un, un, un, un]) rfl ?_
          refine XS.iload X0.here hx rfl (hb hby at_85) rfl ?_
          exact k)
        obtain ⟨T254, L254, h254, r261, X254, e254, N254, Z254, K254, hr261, P254⟩ : ∃ (T254 : State) (L254 : List Loc) (h254 : Heap) (r261 : Value), Stand p l e room_1 s m #[(.long q1), (.long q2), (.long q3), (.long q4), (.long q5), (.int p6)] below meth c T254 L254 1 3 ∧ T254.heap = h254 ∧ Fr n0 L254 ∧ n0 ≤ h254.size ∧ Keep h0 h254 [] ∧ r261.isRef = true ∧ Rch p e below (s₁.setTop (entryFrame m #[(.long q1), (.long q2), (.long q3), (.long q4), (.long q5), (.int p6)] maxLocals)) (T254.setTop (mkF m 98 #[lv q1, sd, lv q2, sd, lv q3, sd, lv q4, sd, lv q5, sd, iv p6, iv v4, iv x6, iv (0 : Int32), iv x11, iv (1 : Int32), iv x179, iv (1 : Int32), un, un, un, un, un, un, un, un, un, un, un, un, un] [r261])) := by
          by_cases c255 : v4 = (0 : Int32)
          · have P256 : Rch p e below (s₁.setTop (entryFrame m #[(.long q1), (.long q2), (.long q3), (.long q4), (.long q5), (.int p6)] maxLocals)) (s₁.setTop (mkF m 96 #[lv q1, sd, lv q2, sd, lv q3, sd, lv q4, sd, lv q5, sd, iv p6, iv v4, iv x6, iv (0 : Int32), iv x11, iv (1 : Int32), iv x179, iv (1 : Int32), un, un, un, un, un, un, un, un, un, un, un, un, un] [(.int x6)])) := fun t k => P253 t (by
              show Steps p.tables e below (s₁.setTop (mkF m 87 #[lv q1, sd, lv q2, sd, lv q3, sd, lv q4, sd, lv q5, sd, iv p6, iv v4, iv x6, iv (0 : Int32), iv x11, iv (1 : Int32), iv x179, iv (1 : Int32), un, un, un, un, un, un, un, un, un, un, un, un, un] [(.int v4)])) t
              refine XS.ifYes X0.here hx rfl (pc0 := 87) (pc' := 94) rfl (hb hby at_87) rfl ((if0 _ _).trans (teq c255).1) (by decide) (by decide) ?_
              refine XS.iload X0.here hx rfl (hb hby at_94) rfl ?_
              exact k)
            have hm96 := own_m3 _ hx6
            obtain ⟨T257, h257, k257, X257, e257, E257, A257, st257⟩ := newP X0 hx hZ (hw _ (List.mem_of_getElem? (i := 0) rfl)) e0 (g := (mkF m 96 #[lv q1, sd, lv q2, sd, lv q3, sd, lv q4, sd, lv q5, sd, iv p6, iv v4, iv x6, iv (0 : Int32), iv x11, iv (1 : Int32), iv x179, iv (1 : Int32), un, un, un, un, un, un, un, un, un, un, un, un, un] [(.int x6)])) rfl (hb hby at_96) rfl hm96.1 (cap := 3) hm96.2 (by decide) (by decide) (by decide)
            obtain ⟨b257, g257⟩ : ∃ z, z = h0.size := ⟨_, rfl⟩
            rw [← g257] at A257 st257
            have g_b257 : n0 ≤ b257 := Nat.le_trans Z0 (Nat.le_of_eq g257.symm)
            have sz_b257 : h0.size ≤ b257 := Nat.le_trans (Keep.refl h0 []).1 (Nat.le_of_eq g257.symm)
            have szj_b257 : h0.size ≤ b257 := Nat.le_trans (Keep.refl h0 []).1 (Nat.le_of_eq g257.symm)
            have V257 : Arv Z h257 b257 k257 .byte x6 [] (.int (0 : Int32)) := Arv.new A257 hm96.1
            have P258 : Rch p e below (s₁.setTop (entryFrame m #[(.long q1), (.long q2), (.long q3), (.long q4), (.long q5), (.int p6)] maxLocals)) (T257.setTop (mkF m 98 #[lv q1, sd, lv q2, sd, lv q3, sd, lv q4, sd, lv q5, sd, iv p6, iv v4, iv x6, iv (0 : Int32), iv x11, iv (1 : Int32), iv x179, iv (1 : Int32), un, un, un, un, un, un, un, un, un, un, un, un, un] [(.ref b257)])) := fun t k => P256 t (st257 t k)
            have f259 : n0 ≤ h257.size := (Nat.le_trans Z0 E257.1)
            exact ⟨T257, _, h257, (.ref b257), X257, e257, N0, f259, ((Keep.refl h0 []).ext E257), rfl, P258⟩
          · have P260 : Rch p e below (s₁.setTop (entryFrame m #[(.long q1), (.long q2), (.long q3), (.long q4), (.long q5), (.int p6)] maxLocals)) (s₁.setTop (mkF m 98 #[lv q1, sd, lv q2, sd, lv q3, sd, lv q4, sd, lv q5, sd, iv p6, iv v4, iv x6, iv (0 : Int32), iv x11, iv (1 : Int32), iv x179, iv (1 : Int32), un, un, un, un, un, un, un, un, un, un, un, un, un] [.null])) := fun t k => P253 t (by
              show Steps p.tables e below (s₁.setTop (mkF m 87 #[lv q1, sd, lv q2, sd, lv q3, sd, lv q4, sd, lv q5, sd, iv p6, iv v4, iv x6, iv (0 : Int32), iv x11, iv (1 : Int32), iv x179, iv (1 : Int32), un, un, un, un, un, un, un, un, un, un, un, un, un] [(.int v4)])) t
              refine XS.ifNo X0.here hx rfl (hb hby at_87) rfl ((if0 _ _).trans (feq c255).1) ?_
              refine XS.aconstNull X0.here hx rfl (hb hby at_90) ?_
              refine XS.goto X0.here hx rfl (pc0 := 91) (pc' := 98) rfl (hb hby at_91) (by decide) (by decide) ?_
              exact k)
            exact ⟨s₁, _, h0, .null, (own_more X0 (by decide) (by decide)), e0, N0, Z0, (Keep.refl h0 []), rfl, P260⟩
        have P262 : Rch p e below (s₁.setTop (entryFrame m #[(.long q1), (.long q2), (.long q3), (.long q4), (.long q5), (.int p6)] maxLocals)) (T254.setTop (mkF m 111 #[lv q1, sd, lv q2, sd, lv q3, sd, lv q4, sd, lv q5, sd, iv p6, iv v4, iv x6, iv (0 : Int32), iv x11, iv (1 : Int32), iv x179, iv (1 : Int32), .val r261, un, un, un, un, un, un, un, un, un, un, un, un] [(.int x11)])) := fun t k => P254 t (by
          show Steps p.tables e below (T254.setTop (mkF m 98 #[lv q1, sd, lv q2, sd, lv q3, sd, lv q4, sd, lv q5, sd, iv p6, iv v4, iv x6, iv (0 : Int32), iv x11, iv (1 : Int32), iv x179, iv (1 : Int32), un, un, un, un, un, un, un, un, un, un, un, un, un] [r261])) t
          refine XS.astore X254.here hx rfl (hb hby at_98) rfl hr261 (l' := #[lv q1, sd, lv q2, sd, lv q3, sd, lv q4, sd, lv q5, sd, iv p6, iv v4, iv x6, iv (0 : Int32), iv x11, iv (1 : Int32), iv x179, iv (1 : Int32), .val r261, un, un, un, un, un, un, un, un, un, un, un, un]) (by rcases ref_cases hr261 with q_ | ⟨_, q_⟩ <;> rw [q_] <;> rfl) ?_
          refine XS.iload X254.here hx rfl (hb hby at_100) rfl ?_
          refine XS.ifYes X254.here hx rfl (pc0 := 102) (pc' := 109) rfl (hb hby at_102) rfl ((if0 _ _).trans (teq (by decide)).1) (by decide) (by decide) ?_
          show Steps p.tables e below (T254.setTop (mkF m 109 #[lv q1, sd, lv q2, sd, lv q3, sd, lv q4, sd, lv q5, sd, iv p6, iv v4, iv x6, iv (0 : Int32), iv x11, iv (1 : Int32), iv x179, iv (1 : Int32), .val r261, un, un, un, un, un, un, un, un, un, un, un, un] [])) t
          refine XS.iload X254.here hx rfl (hb hby at_109) rfl ?_
          exact k)
        have hm111 := own_m3 _ hx11
        have f264 : Keep h0 h254 [] := ((Keep.refl h0 []).trans K254 all0)
        obtain ⟨T263, h263, k263, X263, e263, E263, A263, st263⟩ := newP X254 hx hZ (hw _ (List.mem_of_getElem? (i := 0) rfl)) e254 (g := (mkF m 111 #[lv q1, sd, lv q2, sd, lv q3, sd, lv q4, sd, lv q5, sd, iv p6, iv v4, iv x6, iv (0 : Int32), iv x11, iv (1 : Int32), iv x179, iv (1 : Int32), .val r261, un, un, un, un, un, un, un, un, un, un, un, un] [(.int x11)])) rfl (hb hby at_111) rfl hm111.1 (cap := 3) hm111.2 (by decide) (by decide) (by decide)
        obtain ⟨b263, g263⟩ : ∃ z, z = h254.size := ⟨_, rfl⟩
        rw [← g263] at A263 st263
        have g_b263 : n0 ≤ b263 := Nat.le_trans Z254 (Nat.le_of_eq g263.symm)
        have sz_b263 : h0.size ≤ b263 := Nat.le_trans f264.1 (Nat.le_of_eq g263.symm)
        have V263 : Arv Z h263 b263 k263 .byte x11 [] (.int (0 : Int32)) := Arv.new A263 hm111.1
        have P265 : Rch p e below (s₁.setTop (entryFrame m #[(.long q1), (.long q2), (.long q3), (.long q4), (.long q5), (.int p6)] maxLocals)) (T263.setTop (mkF m 113 #[lv q1, sd, lv q2, sd, lv q3, sd, lv q4, sd, lv q5, sd, iv p6, iv v4, iv x6, iv (0 : Int32), iv x11, iv (1 : Int32), iv x179, iv (1 : Int32), .val r261, un, un, un, un, un, un, un, un, un, un, un, un] [(.ref b263)])) := fun t k => P262 t (st263 t k)
        have P266 : Rch p e below (s₁.setTop (entryFrame m #[(.long q1), (.long q2), (.long q3), (.long q4), (.long q5), (.int p6)] maxLocals)) (T263.setTop (mkF m 130 #[lv q1, sd, lv q2, sd, lv q3, sd, lv q4, sd, lv q5, sd, iv p6, iv v4, iv x6, iv (0 : Int32), iv x11, iv (1 : Int32), iv x179, iv (1 : Int32), .val r261, rv b263, .val .null, un, un, un, un, un, un, un, un, un, un] [])) := fun t k => P265 t (by
          show Steps p.tables e below (T263.setTop (mkF m 113 #[lv q1, sd, lv q2, sd, lv q3, sd, lv q4, sd, lv q5, sd, iv p6, iv v4, iv x6, iv (0 : Int32), iv x11, iv (1 : Int32), iv x179, iv (1 : Int32), .val r261, un, un, un, un, un, un, un, un, un, un, un, un] [(.ref b263)])) t
          refine XS.astore X263.here hx rfl (hb hby at_113) rfl rfl (l' := #[lv q1, sd, lv q2, sd, lv q3, sd, lv q4, sd, lv q5, sd, iv p6, iv v4, iv x6, iv (0 : Int32), iv x11, iv (1 : Int32), iv x179, iv (1 : Int32), .val r261, rv b263, un, un, un, un, un, un, un, un, un, un, un]) rfl ?_
          refine XS.iload X263.here hx rfl (hb hby at_115) rfl ?_
          refine XS.ifNo X263.here hx rfl (hb hby at_117) rfl ((if0 _ _).trans (feq (by decide)).1) ?_
          show Steps p.tables e below (T263.setTop (mkF m 120 #[lv q1, sd, lv q2, sd, lv q3, sd, lv q4, sd, lv q5, sd, iv p6, iv v4, iv x6, iv (0 : Int32), iv x11, iv (1 : Int32), iv x179, iv (1 : Int32), .val r261, rv b263, un, un, un, un, un, un, un, un, un, un, un] [])) t
          refine XS.aconstNull X263.here hx rfl (hb hby at_120) ?_
          refine XS.goto X263.here hx rfl (pc0 := 121) (pc' := 128) rfl (hb hby at_121) (by decide) (by decide) ?_
          refine XS.astore X263.here hx rfl (hb hby at_128) rfl rfl (l' := #[lv q1, sd, lv q2, sd, lv q3, sd, lv q4, sd, lv q5, sd, iv p6, iv v4, iv x6, iv (0 : Int32), iv x11, iv (1 : Int32), iv x179, iv (1 : Int32), .val r261, rv b263, .val .null, un, un, un, un, un, un, un, un, un, un]) rfl ?_
          exact k)
        have f268 : n0 ≤ h263.size := (Nat.le_trans Z254 E263.1)
        have f269 : Keep h0 h263 [] := (f264.ext E263)
        obtain ⟨T267, h267, X267, e267, E267, A267, D267, -, st267⟩ := newO X263 hx hZ hown (hw _ (List.mem_of_getElem? (i := 1) rfl)) (hw _ (List.mem_of_getElem? (i := 2) rfl)) (hw _ (List.mem_of_getElem? (i := 3) rfl)) e263 (g := (mkF m 130 #[lv q1, sd, lv q2, sd, lv q3, sd, lv q4, sd, lv q5, sd, iv p6, iv v4, iv x6, iv (0 : Int32), iv x11, iv (1 : Int32), iv x179, iv (1 : Int32), .val r261, rv b263, .val .null, un, un, un, un, un, un, un, un, un, un] [])) rfl (hb hby at_130) (by decide) (by decide)
        obtain ⟨b267, g267⟩ : ∃ z, z = h263.size := ⟨_, rfl⟩
        rw [← g267] at A267 D267 st267
        have g_b267 : n0 ≤ b267 := Nat.le_trans f268 (Nat.le_of_eq g267.symm)
        have sz_b267 : h0.size ≤ b267 := Nat.le_trans f269.1 (Nat.le_of_eq g267.symm)
        have ne_b263_b267 : b263 ≠ b267 := Nat.ne_of_lt (Nat.lt_of_lt_of_le V263.lt (Nat.le_of_eq g267.symm))
        have F267_23 : Fld Z h267 b267 "java/util/AbstractList" "modCount" "I" (.int (0 : Int32)) := D267 (Or.inl (hw _ (List.mem_of_getElem? (i := 23) rfl))) (ty := .int) (by decide)
        have F267_26 : Fld Z h267 b267 "java/util/ArrayList" "elementData" "[Ljava/lang/Object;" .null := D267 (Or.inl (hw _ (List.mem_of_getElem? (i := 26) rfl))) (ty := (.array (.object "java/lang/Object"))) (by decide)
        have P270 : Rch p e below (s₁.setTop (entryFrame m #[(.long q1), (.long q2), (.long q3), (.long q4), (.long q5), (.int p6)] maxLocals)) (T267.setTop (mkF m 133 #[lv q1, sd, lv q2, sd, lv q3, sd, lv q4, sd, lv q5, sd, iv p6, iv v4, iv x6, iv (0 : Int32), iv x11, iv (1 : Int32), iv x179, iv (1 : Int32), .val r261, rv b263, .val .null, un, un, un, un, un, un, un, un, un, un] [(.ref b267)])) := fun t k => P266 t (st267 t k)
        have P271 : Rch p e below (s₁.setTop (entryFrame m #[(.long q1), (.long q2), (.long q3), (.long q4), (.long q5), (.int p6)] maxLocals)) (T267.setTop (mkF m 134 #[lv q1, sd, lv q2, sd, lv q3, sd, lv q4, sd, lv q5, sd, iv p6, iv v4, iv x6, iv (0 : Int32), iv x11, iv (1 : Int32), iv x179, iv (1 : Int32), .val r261, rv b263, .val .null, un, un, un, un, un, un, un, un, un, un] [(.ref b267), (.ref b267)])) := fun t k => P270 t (by
          show Steps p.tables e below (T267.setTop (mkF m 133 #[lv q1, sd, lv q2, sd, lv q3, sd, lv q4, sd, lv q5, sd, iv p6, iv v4, iv x6, iv (0 : Int32), iv x11, iv (1 : Int32), iv x179, iv (1 : Int32), .val r261, rv b263, .val .null, un, un, un, un, un, un, un, un, un, un] [(.ref b267)])) t
          refine XS.dup X267.here hx rfl (hb hby at_133) rfl rfl ?_
          exact k)
        have f273 : Old Z n0 h267 := (((O0.keep K254 all0).ext E263).ext E267)
        have f274 : n0 ≤ h267.size := (Nat.le_trans f268 E267.1)
        obtain ⟨_, _, ⟨T272, L272, k272, n272⟩, -, X272, ⟨Lc272, hQ272, l272, y272, z272⟩, st272⟩ := X267.specialBack hx (y := (⟨"java/util/ArrayList", "<init>", "()V"⟩ : MethodName)) rfl hown (mvT hZ (hw _ (List.mem_of_getElem? (i := 4) rfl))) (mvT hZ (hw _ (List.mem_of_getElem? (i := 5) rfl))) (mvT hZ (hw _ (List.mem_of_getElem? (i := 6) rfl))) (by decide) (backOf (W := 1) (rmAL l Z a0 hw [] b267 aD h267 n0 f274 f273 Sd A267 g_b267 F267_23 F267_26) hZ (hw _ (List.mem_of_getElem? (i := 6) rfl)) (hw _ (List.mem_of_getElem? (i := 3) rfl)) (by decide) (by decide)) (g := (mkF m 134 #[lv q1, sd, lv q2, sd, lv q3, sd, lv q4, sd, lv q5, sd, iv p6, iv v4, iv x6, iv (0 : Int32), iv x11, iv (1 : Int32), iv x179, iv (1 : Int32), .val r261, rv b263, .val .null, un, un, un, un, un, un, un, un, un, un] [(.ref b267), (.ref b267)])) rfl (by rw [hml]; rfl) (Steps.refl _) (a := b267) (argsL := []) (rest := [(.ref b267)]) (lenOf pd_0 rfl) rfl (by show 2 * 0 + _ ≤ _; exact Nat.le_of_eq rfl) (hb hby at_134) (fun _ _ => ⟨rfl, e267, (by decide : 3 + 0 ≤ _), (by decide : 9 + 0 ≤ _)⟩)
        dsimp only [Pt.U, Pt.locs, Pt.cells, Pt.slots] at X272 l272 y272 z272 st272 hQ272
        subst y272 z272
        obtain ⟨rfl, N272q, K272, E_272⟩ := hQ272
        have N272 : Fr n0 L272 := by rw [l272]; exact Fr.app N254 N272q
        have P275 : Rch p e below (s₁.setTop (entryFrame m #[(.long q1), (.long q2), (.long q3), (.long q4), (.long q5), (.int p6)] maxLocals)) (T272.setTop (mkF m 137 #[lv q1, sd, lv q2, sd, lv q3, sd, lv q4, sd, lv q5, sd, iv p6, iv v4, iv x6, iv (0 : Int32), iv x11, iv (1 : Int32), iv x179, iv (1 : Int32), .val r261, rv b263, .val .null, un, un, un, un, un, un, un, un, un, un] [(.ref b267)])) := fun t k => P271 t (st272.trans k)
        have P276 : Rch p e below (s₁.setTop (entryFrame m #[(.long q1), (.long q2), (.long q3), (.long q4), (.long q5), (.int p6)] maxLocals)) (T272.setTop (mkF m 139 #[lv q1, sd, lv q2, sd, lv q3, sd, lv q4, sd, lv q5, sd, iv p6, iv v4, iv x6, iv (0 : Int32), iv x11, iv (1 : Int32), iv x179, iv (1 : Int32), .val r261, rv b263, .val .null, rv b267, un, un, un, un, un, un, un, un, un] [])) := fun t k => P275 t (by
          show Steps p.tables e below (T272.setTop (mkF m 137 #[lv q1, sd, lv q2, sd, lv q3, sd, lv q4, sd, lv q5, sd, iv p6, iv v4, iv x6, iv (0 : Int32), iv x11, iv (1 : Int32), iv x179, iv (1 : Int32), .val r261, rv b263, .val .null, un, un, un, un, un, un, un, un, un, un] [(.ref b267)])) t
          refine XS.astore X272.here hx rfl (hb hby at_137) rfl rfl (l' := #[lv q1, sd, lv q2, sd, lv q3, sd, lv q4, sd, lv q5, sd, iv p6, iv v4, iv x6, iv (0 : Int32), iv x11, iv (1 : Int32), iv x179, iv (1 : Int32), .val r261, rv b263, .val .null, rv b267, un, un, un, un, un, un, un, un, un]) rfl ?_
          exact k)
        have f278 : n0 ≤ T272.heap.size := (Nat.le_trans f274 K272.1)
        have f279 : Keep h0 T272.heap [] := ((f269.ext E267).trans K272 (allS (P := fun x => x ∈ [] ∨ h0.size ≤ x) (Or.inr sz_b267) all0))
        obtain ⟨T277, h277, X277, e277, E277, A277, D277, -, st277⟩ := newO X272 hx hZ hown (hw _ (List.mem_of_getElem? (i := 27) rfl)) (hw _ (List.mem_of_getElem? (i := 28) rfl)) (hw _ (List.mem_of_getElem? (i := 29) rfl)) rfl (g := (mkF m 139 #[lv q1, sd, lv q2, sd, lv q3, sd, lv q4, sd, lv q5, sd, iv p6, iv v4, iv x6, iv (0 : Int32), iv x11, iv (1 : Int32), iv x179, iv (1 : Int32), .val r261, rv b263, .val .null, rv b267, un, un, un, un, un, un, un, un, un] [])) rfl (hb hby at_139) (by decide) (by decide)
        obtain ⟨b277, g277⟩ : ∃ z, z = T272.heap.size := ⟨_, rfl⟩
        rw [← g277] at A277 D277 st277
        have g_b277 : n0 ≤ b277 := Nat.le_trans f278 (Nat.le_of_eq g277.symm)
        have sz_b277 : h0.size ≤ b277 := Nat.le_trans f279.1 (Nat.le_of_eq g277.symm)
        have ne_b263_b277 : b263 ≠ b277 := Nat.ne_of_lt (Nat.lt_of_lt_of_le ((V263.ext E267).keep K272 (ninS ne_b263_b267 nin0)).lt (Nat.le_of_eq g277.symm))
        have ne_b267_b277 : b267 ≠ b277 := Nat.ne_of_lt (Nat.lt_of_lt_of_le (A267.keep K272).lt (Nat.le_of_eq g277.symm))
        have F277_68 : Fld Z h277 b277 "com/example/usher/usher/core/Node" "children" "Ljava/util/Set;" .null := D277 (Or.inr (hw _ (List.mem_of_getElem? (i := 68) rfl))) (ty := (.object "java/util/Set")) (by decide)
        have F277_70 : Fld Z h277 b277 "com/example/usher/usher/core/Node" "czxid" "J" (.long (0 : Int64)) := D277 (Or.inr (hw _ (List.mem_of_getElem? (i := 70) rfl))) (ty := .long) (by decide)
        have F277_72 : Fld Z h277 b277 "com/example/usher/usher/core/Node" "ctime" "J" (.long (0 : Int64)) := D277 (Or.inr (hw _ (List.mem_of_getElem? (i := 72) rfl))) (ty := .long) (by decide)
        have F277_74 : Fld Z h277 b277 "com/example/usher/usher/core/Node" "ephemeralOwner" "J" (.long (0 : Int64)) := D277 (Or.inr (hw _ (List.mem_of_getElem? (i := 74) rfl))) (ty := .long) (by decide)
        have F277_76 : Fld Z h277 b277 "com/example/usher/usher/core/Node" "data" "[B" .null := D277 (Or.inl (hw _ (List.mem_of_getElem? (i := 76) rfl))) (ty := (.array .byte)) (by decide)
        have F277_78 : Fld Z h277 b277 "com/example/usher/usher/core/Node" "acl" "Ljava/util/List;" .null := D277 (Or.inl (hw _ (List.mem_of_getElem? (i := 78) rfl))) (ty := (.object "java/util/List")) (by decide)
        have F277_80 : Fld Z h277 b277 "com/example/usher/usher/core/Node" "mzxid" "J" (.long (0 : Int64)) := D277 (Or.inl (hw _ (List.mem_of_getElem? (i := 80) rfl))) (ty := .long) (by decide)
        have F277_82 : Fld Z h277 b277 "com/example/usher/usher/core/Node" "mtime" "J" (.long (0 : Int64)) := D277 (Or.inl (hw _ (List.mem_of_getElem? (i := 82) rfl))) (ty := .long) (by decide)
        have F277_84 : Fld Z h277 b277 "com/example/usher/usher/core/Node" "pzxid" "J" (.long (0 : Int64)) := D277 (Or.inl (hw _ (List.mem_of_getElem? (i := 84) rfl))) (ty := .long) (by decide)
        have F277_91 : Fld Z h277 b277 "com/example/usher/usher/core/Node" "version" "I" (.int (0 : Int32)) := D277 (Or.inl (hw _ (List.mem_of_getElem? (i := 91) rfl))) (ty := .int) (by decide)
        have F277_101 : Fld Z h277 b277 "com/example/usher/usher/core/Node" "cversion" "I" (.int (0 : Int32)) := D277 (Or.inl (hw _ (List.mem_of_getElem? (i := 101) rfl))) (ty := .int) (by decide)
        have F277_103 : Fld Z h277 b277 "com/example/usher/usher/core/Node" "aversion" "I" (.int (0 : Int32)) := D277 (Or.inl (hw _ (List.mem_of_getElem? (i := 103) rfl))) (ty := .int) (by decide)
        have P280 : Rch p e below (s₁.setTop (entryFrame m #[(.long q1), (.long q2), (.long q3), (.long q4), (.long q5), (.int p6)] maxLocals)) (T277.setTop (mkF m 142 #[lv q1, sd, lv q2, sd, lv q3, sd, lv q4, sd, lv q5, sd, iv p6, iv v4, iv x6, iv (0 : Int32), iv x11, iv (1 : Int32), iv x179, iv (1 : Int32), .val r261, rv b263, .val .null, rv b267, un, un, un, un, un, un, un, un, un] [(.ref b277)])) := fun t k => P276 t (st277 t k)
        have P281 : Rch p e below (s₁.setTop (entryFrame m #[(.long q1), (.long q2), (.long q3), (.long q4), (.long q5), (.int p6)] maxLocals)) (T277.setTop (mkF m 150 #[lv q1, sd, lv q2, sd, lv q3, sd, lv q4, sd, lv q5, sd, iv p6, iv v4, iv x6, iv (0 : Int32), iv x11, iv (1 : Int32), iv x179, iv (1 : Int32), .val r261, rv b263, .val .null, rv b267, un, un, un, un, un, un, un, un, un] [(.long q2), (.long q1), (.long (0 : Int64)), (.ref b267), r261, (.ref b277), (.ref b277)])) := fun t k => P280 t (by
          show Steps p.tables e below (T277.setTop (mkF m 142 #[lv q1, sd, lv q2, sd, lv q3, sd, lv q4, sd, lv q5, sd, iv p6, iv v4, iv x6, iv (0 : Int32), iv x11, iv (1 : Int32), iv x179, iv (1 : Int32), .val r261, rv b263, .val .null, rv b267, un, un, un, un, un, un, un, un, un] [(.ref b277)])) t
          refine XS.dup X277.here hx rfl (hb hby at_142) rfl rfl ?_
          refine XS.aload X277.here hx rfl (hb hby at_143) rfl hr261 ?_
          refine XS.aload X277.here hx rfl (hb hby at_145) rfl rfl ?_
          show Steps p.tables e below (T277.setTop (mkF m 147 #[lv q1, sd, lv q2, sd, lv q3, sd, lv q4, sd, lv q5, sd, iv p6, iv v4, iv x6, iv (0 : Int32), iv x11, iv (1 : Int32), iv x179, iv (1 : Int32), .val r261, rv b263, .val .null, rv b267, un, un, un, un, un, un, un, un, un] [(.ref b267), r261, (.ref b277), (.ref b277)])) t
          refine XS.lconst X277.here hx rfl (hb hby at_147) ?_
          refine XS.lloadN X277.here hx rfl (hb hby at_148) rfl ?_
          refine XS.lloadN X277.here hx rfl (hb hby at_149) rfl ?_
          exact k)
        have f283 : n0 ≤ h277.size := (Nat.le_trans f278 E277.1)
        obtain ⟨_, _, ⟨T282, L282, k282, n282⟩, -, X282, ⟨Lc282, hQ282, l282, y282, z282⟩, st282⟩ := X277.specialBack hx (y := (⟨"com/example/usher/usher/core/Node", "<init>", "([BLjava/util/List;JJJ)V"⟩ : MethodName)) rfl hown (mvT hZ (hw _ (List.mem_of_getElem? (i := 30) rfl))) (mvT hZ (hw _ (List.mem_of_getElem? (i := 31) rfl))) (mvT hZ (hw _ (List.mem_of_getElem? (i := 32) rfl))) (by decide) (backOf (W := 1) (rmND l Z a0 hw [] b277 r261 b267 (0 : Int64) q1 q2 h277 n0 f283 hr261 A277 g_b277 F277_68 F277_70 F277_72 F277_74 F277_76 F277_78 F277_80 F277_82 F277_84 F277_91 F277_101 F277_103) hZ (hw _ (List.mem_of_getElem? (i := 32) rfl)) (hw _ (List.mem_of_getElem? (i := 29) rfl)) (by decide) (by decide)) (g := (mkF m 150 #[lv q1, sd, lv q2, sd, lv q3, sd, lv q4, sd, lv q5, sd, iv p6, iv v4, iv x6, iv (0 : Int32), iv x11, iv (1 : Int32), iv x179, iv (1 : Int32), .val r261, rv b263, .val .null, rv b267, un, un, un, un, un, un, un, un, un] [(.long q2), (.long q1), (.long (0 : Int64)), (.ref b267), r261, (.ref b277), (.ref b277)])) rfl (by rw [hml]; rfl) (Steps.refl _) (a := b277) (argsL := [r261, (.ref b267), (.long (0 : Int64)), (.long q1), (.long q2)]) (rest := [(.ref b277)]) (lenOf pd_3 rfl) rfl (by show 2 * 0 + _ ≤ _; exact Nat.le_of_eq rfl) (hb hby at_150) (fun _ _ => ⟨rfl, e277, (by decide : 4 + 2 ≤ _), (by decide : 22 + 9 ≤ _)⟩)
        dsimp only [Pt.U, Pt.locs, Pt.cells, Pt.slots] at X282 l282 y282 z282 st282 hQ282
        subst y282 z282
        have f284 : Arv Z h277 b263 k263 .byte x11 [] (.int (0 : Int32)) := (((V263.ext E267).keep K272 (ninS ne_b263_b267 nin0)).ext E277)
        have f285 : Keep h0 h277 [] := (f279.ext E277)
        obtain ⟨c__282, m__282, rfl, N282q, K282, Fc_282, Fm_282, E_282, G0_282, G1_282, G2_282, G3_282, G4_282, G5_282, G6_282, G7_282, G8_282, G9_282, G10_282, G11_282, Ec_282, Gc_282, Em_282, Gm_282⟩ := hQ282
        have N282 : Fr n0 L282 := by rw [l282]; exact Fr.app N272 N282q
        have g_c__282 : n0 ≤ c__282 := Nat.le_trans f283 Fc_282
        have sz_c__282 : h0.size ≤ c__282 := Nat.le_trans f285.1 Fc_282
        have ne_b263_c__282 : b263 ≠ c__282 := Nat.ne_of_lt (Nat.lt_of_lt_of_le f284.lt Fc_282)
        have ne_b267_c__282 : b267 ≠ c__282 := Nat.ne_of_lt (Nat.lt_of_lt_of_le ((A267.keep K272).ext E277).lt Fc_282)
        have ne_b277_c__282 : b277 ≠ c__282 := Nat.ne_of_lt (Nat.lt_of_lt_of_le A277.lt Fc_282)
        have g_m__282 : n0 ≤ m__282 := Nat.le_trans f283 Fm_282
        have sz_m__282 : h0.size ≤ m__282 := Nat.le_trans f285.1 Fm_282
        have ne_b263_m__282 : b263 ≠ m__282 := Nat.ne_of_lt (Nat.lt_of_lt_of_le f284.lt Fm_282)
        have ne_b267_m__282 : b267 ≠ m__282 := Nat.ne_of_lt (Nat.lt_of_lt_of_le ((A267.keep K272).ext E277).lt Fm_282)
        have ne_b277_m__282 : b277 ≠ m__282 := Nat.ne_of_lt (Nat.lt_of_lt_of_le A277.lt Fm_282)
        have P286 : Rch p e below (s₁.setTop (entryFrame m #[(.long q1), (.long q2), (.long q3), (.long q4), (.long q5), (.int p6)] maxLocals)) (T282.setTop (mkF m 153 #[lv q1, sd, lv q2, sd, lv q3, sd, lv q4, sd, lv q5, sd, iv p6, iv v4, iv x6, iv (0 : Int32), iv x11, iv (1 : Int32), iv x179, iv (1 : Int32), .val r261, rv b263, .val .null, rv b267, un, un, un, un, un, un, un, un, un] [(.ref b277)])) := fun t k => P281 t (st282.trans k)
        have P287 : Rch p e below (s₁.setTop (entryFrame m #[(.long q1), (.long q2), (.long q3), (.long q4), (.long q5), (.int p6)] maxLocals)) (T282.setTop (mkF m 163 #[lv q1, sd, lv q2, sd, lv q3, sd, lv q4, sd, lv q5, sd, iv p6, iv v4, iv x6, iv (0 : Int32), iv x11, iv (1 : Int32), iv x179, iv (1 : Int32), .val r261, rv b263, .val .null, rv b267, rv b277, un, un, un, un, un, un, un, un] [(.long q4), (.long q3), (.ref b263), (.ref b277)])) := fun t k => P286 t (by
          show Steps p.tables e below (T282.setTop (mkF m 153 #[lv q1, sd, lv q2, sd, lv q3, sd, lv q4, sd, lv q5, sd, iv p6, iv v4, iv x6, iv (0 : Int32), iv x11, iv (1 : Int32), iv x179, iv (1 : Int32), .val r261, rv b263, .val .null, rv b267, un, un, un, un, un, un, un, un, un] [(.ref b277)])) t
          refine XS.astore X282.here hx rfl (hb hby at_153) rfl rfl (l' := #[lv q1, sd, lv q2, sd, lv q3, sd, lv q4, sd, lv q5, sd, iv p6, iv v4, iv x6, iv (0 : Int32), iv x11, iv (1 : Int32), iv x179, iv (1 : Int32), .val r261, rv b263, .val .null, rv b267, rv b277, un, un, un, un, un, un, un, un]) rfl ?_
          refine XS.aload X282.here hx rfl (hb hby at_155) rfl rfl ?_
          refine XS.aload X282.here hx rfl (hb hby at_157) rfl rfl ?_
          show Steps p.tables e below (T282.setTop (mkF m 159 #[lv q1, sd, lv q2, sd, lv q3, sd, lv q4, sd, lv q5, sd, iv p6, iv v4, iv x6, iv (0 : Int32), iv x11, iv (1 : Int32), iv x179, iv (1 : Int32), .val r261, rv b263, .val .null, rv b267, rv b277, un, un, un, un, un, un, un, un] [(.ref b263), (.ref b277)])) t
          refine XS.lload X282.here hx rfl (hb hby at_159) rfl ?_
          refine XS.lload X282.here hx rfl (hb hby at_161) rfl ?_
          exact k)
        have f289 : n0 ≤ T282.heap.size := (Nat.le_trans f283 K282.1)
        obtain ⟨cq288, kq288, q288a, q288b, q288c⟩ := isOf hZ rfl E_282
        obtain ⟨_, _, ⟨T288, L288, k288, n288⟩, -, X288, ⟨Lc288, hQ288, l288, y288, z288⟩, st288⟩ := X282.virtualBack hx (y := (⟨"com/example/usher/usher/core/Node", "setData", "([BJJ)V"⟩ : MethodName)) (z := (⟨"com/example/usher/usher/core/Node", "setData", "([BJJ)V"⟩ : MethodName)) hown (mvT hZ (hw _ (List.mem_of_getElem? (i := 85) rfl))) (mvT hZ (hw _ (List.mem_of_getElem? (i := 86) rfl))) (notFace_of_selects (args := #[]) (mvT hZ (hw _ (List.mem_of_getElem? (i := 88) rfl)))) (mvT hZ (hw _ (List.mem_of_getElem? (i := 88) rfl))) (mvT hZ (hw _ (List.mem_of_getElem? (i := 87) rfl))) (by decide) (backOf (W := 0) (rmSD l Z a0 hw [] b277 (.ref b263) q3 q4 c__282 q1 q2 (0 : Int64) r261 b267 q1 q2 q1 (0 : Int32) (0 : Int32) (0 : Int32) T282.heap n0 f289 rfl E_282 g_b277 G0_282 G1_282 G2_282 G3_282 G4_282 G5_282 G6_282 G7_282 G8_282 G9_282 G10_282 G11_282) hZ (hw _ (List.mem_of_getElem? (i := 89) rfl)) (hw _ (List.mem_of_getElem? (i := 29) rfl)) (by decide) (by decide)) q288a q288c (g := (mkF m 163 #[lv q1, sd, lv q2, sd, lv q3, sd, lv q4, sd, lv q5, sd, iv p6, iv v4, iv x6, iv (0 : Int32), iv x11, iv (1 : Int32), iv x179, iv (1 : Int32), .val r261, rv b263, .val .null, rv b267, rv b277, un, un, un, un, un, un, un, un] [(.long q4), (.long q3), (.ref b263), (.ref b277)])) rfl (by rw [hml]; rfl) (Steps.refl _) (argsL := [(.ref b263), (.long q3), (.long q4)]) (rest := []) (lenOf pd_4 rfl) rfl (by show 2 * 0 + _ ≤ _; exact Nat.le_of_eq rfl) (hb hby at_163) (fun _ _ => ⟨rfl, rfl, (by decide : 6 + 0 ≤ _), (by decide : 31 + 0 ≤ _)⟩)
        dsimp only [Pt.U, Pt.locs, Pt.cells, Pt.slots] at X288 l288 y288 z288 st288 hQ288
        subst y288 z288
        obtain ⟨rfl, N288q, K288, E_288, G0_288, G1_288, G2_288, G3_288, G4_288, G5_288, G6_288, G7_288, G8_288, G9_288, G10_288, G11_288⟩ := hQ288
        have N288 : Fr n0 L288 := by rw [l288]; exact Fr.app N282 N288q
        have P290 : Rch p e below (s₁.setTop (entryFrame m #[(.long q1), (.long q2), (.long q3), (.long q4), (.long q5), (.int p6)] maxLocals)) (T288.setTop (mkF m 166 #[lv q1, sd, lv q2, sd, lv q3, sd, lv q4, sd, lv q5, sd, iv p6, iv v4, iv x6, iv (0 : Int32), iv x11, iv (1 : Int32), iv x179, iv (1 : Int32), .val r261, rv b263, .val .null, rv b267, rv b277, un, un, un, un, un, un, un, un] [])) := fun t k => P287 t (st288.trans k)
        have P291 : Rch p e below (s₁.setTop (entryFrame m #[(.long q1), (.long q2), (.long q3), (.long q4), (.long q5), (.int p6)] maxLocals)) (T288.setTop (mkF m 178 #[lv q1, sd, lv q2, sd, lv q3, sd, lv q4, sd, lv q5, sd, iv p6, iv v4, iv x6, iv (0 : Int32), iv x11, iv (1 : Int32), iv x179, iv (1 : Int32), .val r261, rv b263, .val .null, rv b267, rv b277, un, un, un, un, un, un, un, un] [(.long q2), (.long q5), .null, (.ref b277)])) := fun t k => P290 t (by
          show Steps p.tables e below (T288.setTop (mkF m 166 #[lv q1, sd, lv q2, sd, lv q3, sd, lv q4, sd, lv q5, sd, iv p6, iv v4, iv x6, iv (0 : Int32), iv x11, iv (1 : Int32), iv x179, iv (1 : Int32), .val r261, rv b263, .val .null, rv b267, rv b277, un, un, un, un, un, un, un, un] [])) t
          refine XS.iload X288.here hx rfl (hb hby at_166) rfl ?_
          refine XS.ifNo X288.here hx rfl (hb hby at_168) rfl ((if0 _ _).trans (feq (by decide)).1) ?_
          refine XS.aload X288.here hx rfl (hb hby at_171) rfl rfl ?_
          show Steps p.tables e below (T288.setTop (mkF m 173 #[lv q1, sd, lv q2, sd, lv q3, sd, lv q4, sd, lv q5, sd, iv p6, iv v4, iv x6, iv (0 : Int32), iv x11, iv (1 : Int32), iv x179, iv (1 : Int32), .val r261, rv b263, .val .null, rv b267, rv b277, un, un, un, un, un, un, un, un] [(.ref b277)])) t
          refine XS.aload X288.here hx rfl (hb hby at_173) rfl rfl ?_
          refine XS.lload X288.here hx rfl (hb hby at_175) rfl ?_
          refine XS.lloadN X288.here hx rfl (hb hby at_177) rfl ?_
          exact k)
        have f293 : n0 ≤ T288.heap.size := (Nat.le_trans f289 K288.1)
        obtain ⟨cq292, kq292, q292a, q292b, q292c⟩ := isOf hZ rfl E_288
        obtain ⟨_, _, ⟨T292, L292, k292, n292⟩, -, X292, ⟨Lc292, hQ292, l292, y292, z292⟩, st292⟩ := X288.virtualBack hx (y := (⟨"com/example/usher/usher/core/Node", "setData", "([BJJ)V"⟩ : MethodName)) (z := (⟨"com/example/usher/usher/core/Node", "setData", "([BJJ)V"⟩ : MethodName)) hown (mvT hZ (hw _ (List.mem_of_getElem? (i := 85) rfl))) (mvT hZ (hw _ (List.mem_of_getElem? (i := 86) rfl))) (notFace_of_selects (args := #[]) (mvT hZ (hw _ (List.mem_of_getElem? (i := 88) rfl)))) (mvT hZ (hw _ (List.mem_of_getElem? (i := 88) rfl))) (mvT hZ (hw _ (List.mem_of_getElem? (i := 87) rfl))) (by decide) (backOf (W := 0) (rmSD l Z a0 hw [] b277 .null q5 q2 c__282 q1 q2 (0 : Int64) (.ref b263) b267 q3 q4 q1 ((0 : Int32) + (1 : Int32)) (0 : Int32) (0 : Int32) T288.heap n0 f293 rfl E_288 g_b277 G0_288 G1_288 G2_288 G3_288 G4_288 G5_288 G6_288 G7_288 G8_288 G9_288 G10_288 G11_288) hZ (hw _ (List.mem_of_getElem? (i := 89) rfl)) (hw _ (List.mem_of_getElem? (i := 29) rfl)) (by decide) (by decide)) q292a q292c (g := (mkF m 178 #[lv q1, sd, lv q2, sd, lv q3, sd, lv q4, sd, lv q5, sd, iv p6, iv v4, iv x6, iv (0 : Int32), iv x11, iv (1 : Int32), iv x179, iv (1 : Int32), .val r261, rv b263, .val .null, rv b267, rv b277, un, un, un, un, un, un, un, un] [(.long q2), (.long q5), .null, (.ref b277)])) rfl (by rw [hml]; rfl) (Steps.refl _) (argsL := [.null, (.long q5), (.long q2)]) (rest := []) (lenOf pd_4 rfl) rfl (by show 2 * 0 + _ ≤ _; exact Nat.le_of_eq rfl) (hb hby at_178) (fun _ _ => ⟨rfl, rfl, (by decide : 6 + 0 ≤ _), (by decide : 31 + 0 ≤ _)⟩)
        dsimp only [Pt.U, Pt.locs, Pt.cells, Pt.slots] at X292 l292 y292 z292 st292 hQ292
        subst y292 z292
        obtain ⟨rfl, N292q, K292, E_292, G0_292, G1_292, G2_292, G3_292, G4_292, G5_292, G6_292, G7_292, G8_292, G9_292, G10_292, G11_292⟩ := hQ292
        have N292 : Fr n0 L292 := by rw [l292]; exact Fr.app N288 N292q
        have P294 : Rch p e below (s₁.setTop (entryFrame m #[(.long q1), (.long q2), (.long q3), (.long q4), (.long q5), (.int p6)] maxLocals)) (T292.setTop (mkF m 181 #[lv q1, sd, lv q2, sd, lv q3, sd, lv q4, sd, lv q5, sd, iv p6, iv v4, iv x6, iv (0 : Int32), iv x11, iv (1 : Int32), iv x179, iv (1 : Int32), .val r261, rv b263, .val .null, rv b267, rv b277, un, un, un, un, un, un, un, un] [])) := fun t k => P291 t (st292.trans k)
        have P295 : Rch p e below (s₁.setTop (entryFrame m #[(.long q1), (.long q2), (.long q3), (.long q4), (.long q5), (.int p6)] maxLocals)) (T292.setTop (mkF m 183 #[lv q1, sd, lv q2, sd, lv q3, sd, lv q4, sd, lv q5, sd, iv p6, iv v4, iv x6, iv (0 : Int32), iv x11, iv (1 : Int32), iv x179, iv (1 : Int32), .val r261, rv b263, .val .null, rv b267, rv b277, un, un, un, un, un, un, un, un] [(.ref b277)])) := fun t k => P294 t (by
          show Steps p.tables e below (T292.setTop (mkF m 181 #[lv q1, sd, lv q2, sd, lv q3, sd, lv q4, sd, lv q5, sd, iv p6, iv v4, iv x6, iv (0 : Int32), iv x11, iv (1 : Int32), iv x179, iv (1 : Int32), .val r261, rv b263, .val .null, rv b267, rv b277, un, un, un, un, un, un, un, un] [])) t
          refine XS.aload X292.here hx rfl (hb hby at_181) rfl rfl ?_
          exact k)
        have f297 : Fld Z T292.heap c__282 "java/util/HashSet" "map" "Ljava/util/HashMap;" (.ref m__282) := ((Gc_282.keep K288 (ninS (Ne.symm ne_b277_c__282) nin0)).keep K292 (ninS (Ne.symm ne_b277_c__282) nin0))
        have f298 : Fld Z T292.heap m__282 "java/util/HashMap" "size" "I" (.int (0 : Int32)) := ((Gm_282.keep K288 (ninS (Ne.symm ne_b277_m__282) nin0)).keep K292 (ninS (Ne.symm ne_b277_m__282) nin0))
        have f299 : n0 ≤ T292.heap.size := (Nat.le_trans f293 K292.1)
        obtain ⟨cq296, kq296, q296a, q296b, q296c⟩ := isOf hZ rfl E_292
        obtain ⟨_, _, ⟨T296, L296, k296, n296⟩, -, X296, ⟨Lc296, hQ296, l296, y296, z296⟩, st296⟩ := X292.virtualBack hx (y := (⟨"com/example/usher/usher/core/Node", "stat", "()Lcom/example/usher/usher/protocol/Stat;"⟩ : MethodName)) (z := (⟨"com/example/usher/usher/core/Node", "stat", "()Lcom/example/usher/usher/protocol/Stat;"⟩ : MethodName)) hown (mvT hZ (hw _ (List.mem_of_getElem? (i := 92) rfl))) (mvT hZ (hw _ (List.mem_of_getElem? (i := 93) rfl))) (notFace_of_selects (args := #[]) (mvT hZ (hw _ (List.mem_of_getElem? (i := 95) rfl)))) (mvT hZ (hw _ (List.mem_of_getElem? (i := 95) rfl))) (mvT hZ (hw _ (List.mem_of_getElem? (i := 94) rfl))) (by decide) (backOf (W := 0) (rmS0 l Z a0 hw [] b277 c__282 q1 q2 (0 : Int64) b267 q5 q2 q1 (((0 : Int32) + (1 : Int32)) + (1 : Int32)) (0 : Int32) (0 : Int32) m__282 T292.heap n0 f299 E_292 G0_292 G1_292 G2_292 G3_292 G4_292 G5_292 G6_292 G7_292 G8_292 G9_292 G10_292 G11_292 ((Ec_282.keep K288).keep K292) f297 ((Em_282.keep K288).keep K292) f298) hZ (hw _ (List.mem_of_getElem? (i := 96) rfl)) (hw _ (List.mem_of_getElem? (i := 29) rfl)) (by decide) (by decide)) q296a q296c (g := (mkF m 183 #[lv q1, sd, lv q2, sd, lv q3, sd, lv q4, sd, lv q5, sd, iv p6, iv v4, iv x6, iv (0 : Int32), iv x11, iv (1 : Int32), iv x179, iv (1 : Int32), .val r261, rv b263, .val .null, rv b267, rv b277, un, un, un, un, un, un, un, un] [(.ref b277)])) rfl (by rw [hml]; rfl) (Steps.refl _) (argsL := []) (rest := []) (lenOf pd_5 rfl) rfl (by show 2 * 0 + _ ≤ _; exact Nat.le_of_eq rfl) (hb hby at_183) (fun _ _ => ⟨rfl, rfl, (by decide : 6 + 1 ≤ _), (by decide : 31 + 11 ≤ _)⟩)
        dsimp only [Pt.U, Pt.locs, Pt.cells, Pt.slots] at X296 l296 y296 z296 st296 hQ296
        subst y296 z296
        have f300 : Arv Z T292.heap b263 k263 .byte x11 [] (.int (0 : Int32)) := (((f284.keep K282 (ninS ne_b263_b277 nin0)).keep K288 (ninS ne_b263_b277 nin0)).keep K292 (ninS ne_b263_b277 nin0))
        have f301 : Exa Z T292.heap b267 "java/util/ArrayList" := (((((A267.keep K272).ext E277).keep K282).keep K288).keep K292)
        have f302 : Keep h0 T292.heap [] := (((f285.trans K282 (allS (P := fun x => x ∈ [] ∨ h0.size ≤ x) (Or.inr sz_b277) all0)).trans K288 (allS (P := fun x => x ∈ [] ∨ h0.size ≤ x) (Or.inr sz_b277) all0)).trans K292 (allS (P := fun x => x ∈ [] ∨ h0.size ≤ x) (Or.inr sz_b277) all0))
        obtain ⟨t__296, rfl, N296q, K296, Ft_296, Et_296, G_mzxid_296, G_ctime_296, G_mtime_296, G_version_296, G_dataLength_296, G_pzxid_296⟩ := hQ296
        have N296 : Fr n0 L296 := by rw [l296]; exact Fr.app N292 N296q
        have g_t__296 : n0 ≤ t__296 := Nat.le_trans f299 Ft_296
        have sz_t__296 : h0.size ≤ t__296 := Nat.le_trans f302.1 Ft_296
        have ne_b263_t__296 : b263 ≠ t__296 := Nat.ne_of_lt (Nat.lt_of_lt_of_le f300.lt Ft_296)
        have ne_b267_t__296 : b267 ≠ t__296 := Nat.ne_of_lt (Nat.lt_of_lt_of_le f301.lt Ft_296)
        have ne_b277_t__296 : b277 ≠ t__296 := Nat.ne_of_lt (Nat.lt_of_lt_of_le (((A277.keep K282).keep K288).keep K292).lt Ft_296)
        have ne_c__282_t__296 : c__282 ≠ t__296 := Nat.ne_of_lt (Nat.lt_of_lt_of_le ((Ec_282.keep K288).keep K292).lt Ft_296)
        have ne_m__282_t__296 : m__282 ≠ t__296 := Nat.ne_of_lt (Nat.lt_of_lt_of_le ((Em_282.keep K288).keep K292).lt Ft_296)
        have P303 : Rch p e below (s₁.setTop (entryFrame m #[(.long q1), (.long q2), (.long q3), (.long q4), (.long q5), (.int p6)] maxLocals)) (T296.setTop (mkF m 186 #[lv q1, sd, lv q2, sd, lv q3, sd, lv q4, sd, lv q5, sd, iv p6, iv v4, iv x6, iv (0 : Int32), iv x11, iv (1 : Int32), iv x179, iv (1 : Int32), .val r261, rv b263, .val .null, rv b267, rv b277, un, un, un, un, un, un, un, un] [(.ref t__296)])) := fun t k => P295 t (st296.trans k)
        have P304 : Rch p e below (s₁.setTop (entryFrame m #[(.long q1), (.long q2), (.long q3), (.long q4), (.long q5), (.int p6)] maxLocals)) (T296.setTop (mkF m 277 #[lv q1, sd, lv q2, sd, lv q3, sd, lv q4, sd, lv q5, sd, iv p6, iv v4, iv x6, iv (0 : Int32), iv x11, iv (1 : Int32), iv x179, iv (1 : Int32), .val r261, rv b263, .val .null, rv b267, rv b277, rv t__296, .val .null, lv q5, sd, lv q2, sd, iv (2 : Int32), iv (0 : Int32)] [(.ref b277)])) := fun t k => P303 t (by
          show Steps p.tables e below (T296.setTop (mkF m 186 #[lv q1, sd, lv q2, sd, lv q3, sd, lv q4, sd, lv q5, sd, iv p6, iv v4, iv x6, iv (0 : Int32), iv x11, iv (1 : Int32), iv x179, iv (1 : Int32), .val r261, rv b263, .val .null, rv b267, rv b277, un, un, un, un, un, un, un, un] [(.ref t__296)])) t
          refine XS.astore X296.here hx rfl (hb hby at_186) rfl rfl (l' := #[lv q1, sd, lv q2, sd, lv q3, sd, lv q4, sd, lv q5, sd, iv p6, iv v4, iv x6, iv (0 : Int32), iv x11, iv (1 : Int32), iv x179, iv (1 : Int32), .val r261, rv b263, .val .null, rv b267, rv b277, rv t__296, un, un, un, un, un, un, un]) rfl ?_
          refine XS.iload X296.here hx rfl (hb hby at_188) rfl ?_
          refine XS.ifNo X296.here hx rfl (hb hby at_190) rfl ((if0 _ _).trans (feq (by decide)).1) ?_
          show Steps p.tables e below (T296.setTop (mkF m 193 #[lv q1, sd, lv q2, sd, lv q3, sd, lv q4, sd, lv q5, sd, iv p6, iv v4, iv x6, iv (0 : Int32), iv x11, iv (1 : Int32), iv x179, iv (1 : Int32), .val r261, rv b263, .val .null, rv b267, rv b277, rv t__296, un, un, un, un, un, un, un] [])) t
          refine XS.aload X296.here hx rfl (hb hby at_193) rfl rfl ?_
          refine XS.goto X296.here hx rfl (pc0 := 195) (pc' := 200) rfl (hb hby at_195) (by decide) (by decide) ?_
          refine XS.astore X296.here hx rfl (hb hby at_200) rfl rfl (l' := #[lv q1, sd, lv q2, sd, lv q3, sd, lv q4, sd, lv q5, sd, iv p6, iv v4, iv x6, iv (0 : Int32), iv x11, iv (1 : Int32), iv x179, iv (1 : Int32), .val r261, rv b263, .val .null, rv b267, rv b277, rv t__296, .val .null, un, un, un, un, un, un]) rfl ?_
          refine XS.iload X296.here hx rfl (hb hby at_202) rfl ?_
          show Steps p.tables e below (T296.setTop (mkF m 204 #[lv q1, sd, lv q2, sd, lv q3, sd, lv q4, sd, lv q5, sd, iv p6, iv v4, iv x6, iv (0 : Int32), iv x11, iv (1 : Int32), iv x179, iv (1 : Int32), .val r261, rv b263, .val .null, rv b267, rv b277, rv t__296, .val .null, un, un, un, un, un, un] [(.int (1 : Int32))])) t
          refine XS.ifNo X296.here hx rfl (hb hby at_204) rfl ((if0 _ _).trans (feq (by decide)).1) ?_
          refine XS.lload X296.here hx rfl (hb hby at_207) rfl ?_
          refine XS.goto X296.here hx rfl (pc0 := 209) (pc' := 214) rfl (hb hby at_209) (by decide) (by decide) ?_
          refine XS.lstore X296.here hx rfl (hb hby at_214) rfl (l' := #[lv q1, sd, lv q2, sd, lv q3, sd, lv q4, sd, lv q5, sd, iv p6, iv v4, iv x6, iv (0 : Int32), iv x11, iv (1 : Int32), iv x179, iv (1 : Int32), .val r261, rv b263, .val .null, rv b267, rv b277, rv t__296, .val .null, lv q5, sd, un, un, un, un]) rfl ?_
          show Steps p.tables e below (T296.setTop (mkF m 216 #[lv q1, sd, lv q2, sd, lv q3, sd, lv q4, sd, lv q5, sd, iv p6, iv v4, iv x6, iv (0 : Int32), iv x11, iv (1 : Int32), iv x179, iv (1 : Int32), .val r261, rv b263, .val .null, rv b267, rv b277, rv t__296, .val .null, lv q5, sd, un, un, un, un] [])) t
          refine XS.iload X296.here hx rfl (hb hby at_216) rfl ?_
          refine XS.ifNo X296.here hx rfl (hb hby at_218) rfl ((if0 _ _).trans (feq (by decide)).1) ?_
          refine XS.lloadN X296.here hx rfl (hb hby at_221) rfl ?_
          refine XS.goto X296.here hx rfl (pc0 := 222) (pc' := 227) rfl (hb hby at_222) (by decide) (by decide) ?_
          show Steps p.tables e below (T296.setTop (mkF m 227 #[lv q1, sd, lv q2, sd, lv q3, sd, lv q4, sd, lv q5, sd, iv p6, iv v4, iv x6, iv (0 : Int32), iv x11, iv (1 : Int32), iv x179, iv (1 : Int32), .val r261, rv b263, .val .null, rv b267, rv b277, rv t__296, .val .null, lv q5, sd, un, un, un, un] [(.long q2)])) t
          refine XS.lstore X296.here hx rfl (hb hby at_227) rfl (l' := #[lv q1, sd, lv q2, sd, lv q3, sd, lv q4, sd, lv q5, sd, iv p6, iv v4, iv x6, iv (0 : Int32), iv x11, iv (1 : Int32), iv x179, iv (1 : Int32), .val r261, rv b263, .val .null, rv b267, rv b277, rv t__296, .val .null, lv q5, sd, lv q2, sd, un, un]) rfl ?_
          refine XS.iload X296.here hx rfl (hb hby at_229) rfl ?_
          refine XS.ifNo X296.here hx rfl (hb hby at_231) rfl ((if0 _ _).trans (feq (by decide)).1) ?_
          refine XS.iconst X296.here hx rfl (hb hby at_234) ?_
          show Steps p.tables e below (T296.setTop (mkF m 235 #[lv q1, sd, lv q2, sd, lv q3, sd, lv q4, sd, lv q5, sd, iv p6, iv v4, iv x6, iv (0 : Int32), iv x11, iv (1 : Int32), iv x179, iv (1 : Int32), .val r261, rv b263, .val .null, rv b267, rv b277, rv t__296, .val .null, lv q5, sd, lv q2, sd, un, un] [(.int (2 : Int32))])) t
          refine XS.goto X296.here hx rfl (pc0 := 235) (pc' := 239) rfl (hb hby at_235) (by decide) (by decide) ?_
          refine XS.istore X296.here hx rfl (hb hby at_239) rfl (l' := #[lv q1, sd, lv q2, sd, lv q3, sd, lv q4, sd, lv q5, sd, iv p6, iv v4, iv x6, iv (0 : Int32), iv x11, iv (1 : Int32), iv x179, iv (1 : Int32), .val r261, rv b263, .val .null, rv b267, rv b277, rv t__296, .val .null, lv q5, sd, lv q2, sd, iv (2 : Int32), un]) rfl ?_
          refine XS.iload X296.here hx rfl (hb hby at_241) rfl ?_
          refine XS.ifNo X296.here hx rfl (hb hby at_243) rfl ((if0 _ _).trans (feq (by decide)).1) ?_
          show Steps p.tables e below (T296.setTop (mkF m 246 #[lv q1, sd, lv q2, sd, lv q3, sd, lv q4, sd, lv q5, sd, iv p6, iv v4, iv x6, iv (0 : Int32), iv x11, iv (1 : Int32), iv x179, iv (1 : Int32), .val r261, rv b263, .val .null, rv b267, rv b277, rv t__296, .val .null, lv q5, sd, lv q2, sd, iv (2 : Int32), un] [])) t
          refine XS.iload X296.here hx rfl (hb hby at_246) rfl ?_
          refine XS.ifNo X296.here hx rfl (hb hby at_248) rfl ((if0 _ _).trans (feq (by decide)).1) ?_
          refine XS.iconst X296.here hx rfl (hb hby at_251) ?_
          refine XS.goto X296.here hx rfl (pc0 := 252) (pc' := 257) rfl (hb hby at_252) (by decide) (by decide) ?_
          show Steps p.tables e below (T296.setTop (mkF m 257 #[lv q1, sd, lv q2, sd, lv q3, sd, lv q4, sd, lv q5, sd, iv p6, iv v4, iv x6, iv (0 : Int32), iv x11, iv (1 : Int32), iv x179, iv (1 : Int32), .val r261, rv b263, .val .null, rv b267, rv b277, rv t__296, .val .null, lv q5, sd, lv q2, sd, iv (2 : Int32), un] [(.int (0 : Int32))])) t
          refine XS.istore X296.here hx rfl (hb hby at_257) rfl (l' := #[lv q1, sd, lv q2, sd, lv q3, sd, lv q4, sd, lv q5, sd, iv p6, iv v4, iv x6, iv (0 : Int32), iv x11, iv (1 : Int32), iv x179, iv (1 : Int32), .val r261, rv b263, .val .null, rv b267, rv b277, rv t__296, .val .null, lv q5, sd, lv q2, sd, iv (2 : Int32), iv (0 : Int32)]) rfl ?_
          refine XS.goto X296.here hx rfl (pc0 := 259) (pc' := 275) rfl (hb hby at_259) (by decide) (by decide) ?_
          refine XS.aload X296.here hx rfl (hb hby at_275) rfl rfl ?_
          exact k)
        have f306 : n0 ≤ T296.heap.size := (Nat.le_trans f299 K296.1)
        obtain ⟨cq305, kq305, q305a, q305b, q305c⟩ := isOf hZ rfl (E_292.keep K296)
        obtain ⟨_, _, ⟨T305, L305, k305, n305⟩, -, X305, ⟨Lc305, hQ305, l305, y305, z305⟩, st305⟩ := X296.virtualBack hx (y := (⟨"com/example/usher/usher/core/Node", "data", "()[B"⟩ : MethodName)) (z := (⟨"com/example/usher/usher/core/Node", "data", "()[B"⟩ : MethodName)) hown (mvT hZ (hw _ (List.mem_of_getElem? (i := 146) rfl))) (mvT hZ (hw _ (List.mem_of_getElem? (i := 147) rfl))) (notFace_of_selects (args := #[]) (mvT hZ (hw _ (List.mem_of_getElem? (i := 149) rfl)))) (mvT hZ (hw _ (List.mem_of_getElem? (i := 149) rfl))) (mvT hZ (hw _ (List.mem_of_getElem? (i := 148) rfl))) (by decide) (backOf (W := 0) (rmdt l Z a0 hw [] b277 .null T296.heap n0 f306 (G4_292.keep K296 nin0) rfl) hZ (hw _ (List.mem_of_getElem? (i := 150) rfl)) (hw _ (List.mem_of_getElem? (i := 29) rfl)) (by decide) (by decide)) q305a q305c (g := (mkF m 277 #[lv q1, sd, lv q2, sd, lv q3, sd, lv q4, sd, lv q5, sd, iv p6, iv v4, iv x6, iv (0 : Int32), iv x11, iv (1 : Int32), iv x179, iv (1 : Int32), .val r261, rv b263, .val .null, rv b267, rv b277, rv t__296, .val .null, lv q5, sd, lv q2, sd, iv (2 : Int32), iv (0 : Int32)] [(.ref b277)])) rfl (by rw [hml]; rfl) (Steps.refl _) (argsL := []) (rest := []) (lenOf pd_6 rfl) rfl (by show 2 * 0 + _ ≤ _; exact Nat.le_of_eq rfl) (hb hby at_277) (fun _ _ => ⟨rfl, rfl, (by decide : 7 + 0 ≤ _), (by decide : 42 + 0 ≤ _)⟩)
        dsimp only [Pt.U, Pt.locs, Pt.cells, Pt.slots] at X305 l305 y305 z305 st305 hQ305
        subst y305 z305
        obtain ⟨rfl, N305q, e305⟩ := hQ305
        have N305 : Fr n0 L305 := by rw [l305]; exact Fr.app N296 N305q
        have P307 : Rch p e below (s₁.setTop (entryFrame m #[(.long q1), (.long q2), (.long q3), (.long q4), (.long q5), (.int p6)] maxLocals)) (T305.setTop (mkF m 280 #[lv q1, sd, lv q2, sd, lv q3, sd, lv q4, sd, lv q5, sd, iv p6, iv v4, iv x6, iv (0 : Int32), iv x11, iv (1 : Int32), iv x179, iv (1 : Int32), .val r261, rv b263, .val .null, rv b267, rv b277, rv t__296, .val .null, lv q5, sd, lv q2, sd, iv (2 : Int32), iv (0 : Int32)] [.null])) := fun t k => P304 t (st305.trans k)
        have P308 : Rch p e below (s₁.setTop (entryFrame m #[(.long q1), (.long q2), (.long q3), (.long q4), (.long q5), (.int p6)] maxLocals)) (T305.setTop (mkF m 287 #[lv q1, sd, lv q2, sd, lv q3, sd, lv q4, sd, lv q5, sd, iv p6, iv v4, iv x6, iv (0 : Int32), iv x11, iv (1 : Int32), iv x179, iv (1 : Int32), .val r261, rv b263, .val .null, rv b267, rv b277, rv t__296, .val .null, lv q5, sd, lv q2, sd, iv (2 : Int32), iv (0 : Int32)] [(.ref t__296)])) := fun t k => P307 t (by
          show Steps p.tables e below (T305.setTop (mkF m 280 #[lv q1, sd, lv q2, sd, lv q3, sd, lv q4, sd, lv q5, sd, iv p6, iv v4, iv x6, iv (0 : Int32), iv x11, iv (1 : Int32), iv x179, iv (1 : Int32), .val r261, rv b263, .val .null, rv b267, rv b277, rv t__296, .val .null, lv q5, sd, lv q2, sd, iv (2 : Int32), iv (0 : Int32)] [.null])) t
          refine XS.aload X305.here hx rfl (hb hby at_280) rfl rfl ?_
          refine Jvm.RoadKit.acmp (g := (mkF m 282 #[lv q1, sd, lv q2, sd, lv q3, sd, lv q4, sd, lv q5, sd, iv p6, iv v4, iv x6, iv (0 : Int32), iv x11, iv (1 : Int32), iv x179, iv (1 : Int32), .val r261, rv b263, .val .null, rv b267, rv b277, rv t__296, .val .null, lv q5, sd, lv q2, sd, iv (2 : Int32), iv (0 : Int32)] [.null, .null])) X305 hx rfl rfl rfl (pc0 := 282) (pc' := 285) (same := true) rfl (hb hby at_282) rfl (decide_eq_true rfl) (by decide) (by decide) ?_
          refine XS.aload X305.here hx rfl (hb hby at_285) rfl rfl ?_
          exact k)
        obtain ⟨cq309, kq309, q309a, q309b, q309c⟩ := isOf hZ e305 Et_296
        obtain ⟨_, _, ⟨T309, L309, k309, n309⟩, -, X309, ⟨Lc309, hQ309, l309, y309, z309⟩, st309⟩ := X305.virtualBack hx (y := (⟨"com/example/usher/usher/protocol/Stat", "mzxid", "()J"⟩ : MethodName)) (z := (⟨"com/example/usher/usher/protocol/Stat", "mzxid", "()J"⟩ : MethodName)) hown (mvT hZ (hw _ (List.mem_of_getElem? (i := 151) rfl))) (mvT hZ (hw _ (List.mem_of_getElem? (i := 152) rfl))) (notFace_of_selects (args := #[]) (mvT hZ (hw _ (List.mem_of_getElem? (i := 154) rfl)))) (mvT hZ (hw _ (List.mem_of_getElem? (i := 154) rfl))) (mvT hZ (hw _ (List.mem_of_getElem? (i := 153) rfl))) (by decide) (backOf (W := 0) (rmG_mzxid l Z a0 hw [] t__296 q5 T296.heap n0 f306 G_mzxid_296) hZ (hw _ (List.mem_of_getElem? (i := 155) rfl)) (hw _ (List.mem_of_getElem? (i := 99) rfl)) (by decide) (by decide)) q309a q309c (g := (mkF m 287 #[lv q1, sd, lv q2, sd, lv q3, sd, lv q4, sd, lv q5, sd, iv p6, iv v4, iv x6, iv (0 : Int32), iv x11, iv (1 : Int32), iv x179, iv (1 : Int32), .val r261, rv b263, .val .null, rv b267, rv b277, rv t__296, .val .null, lv q5, sd, lv q2, sd, iv (2 : Int32), iv (0 : Int32)] [(.ref t__296)])) rfl (by rw [hml]; rfl) (Steps.refl _) (argsL := []) (rest := []) (lenOf pd_7 rfl) rfl (by show 2 * 0 + _ ≤ _; exact Nat.le_of_eq rfl) (hb hby at_287) (fun _ _ => ⟨rfl, e305, (by decide : 7 + 0 ≤ _), (by decide : 42 + 0 ≤ _)⟩)
        dsimp only [Pt.U, Pt.locs, Pt.cells, Pt.slots] at X309 l309 y309 z309 st309 hQ309
        subst y309 z309
        obtain ⟨rfl, N309q, e309⟩ := hQ309
        have N309 : Fr n0 L309 := by rw [l309]; exact Fr.app N305 N309q
        have P310 : Rch p e below (s₁.setTop (entryFrame m #[(.long q1), (.long q2), (.long q3), (.long q4), (.long q5), (.int p6)] maxLocals)) (T309.setTop (mkF m 290 #[lv q1, sd, lv q2, sd, lv q3, sd, lv q4, sd, lv q5, sd, iv p6, iv v4, iv x6, iv (0 : Int32), iv x11, iv (1 : Int32), iv x179, iv (1 : Int32), .val r261, rv b263, .val .null, rv b267, rv b277, rv t__296, .val .null, lv q5, sd, lv q2, sd, iv (2 : Int32), iv (0 : Int32)] [(.long q5)])) := fun t k => P308 t (st309.trans k)
        have P311 : Rch p e below (s₁.setTop (entryFrame m #[(.long q1), (.long q2), (.long q3), (.long q4), (.long q5), (.int p6)] maxLocals)) (T309.setTop (mkF m 298 #[lv q1, sd, lv q2, sd, lv q3, sd, lv q4, sd, lv q5, sd, iv p6, iv v4, iv x6, iv (0 : Int32), iv x11, iv (1 : Int32), iv x179, iv (1 : Int32), .val r261, rv b263, .val .null, rv b267, rv b277, rv t__296, .val .null, lv q5, sd, lv q2, sd, iv (2 : Int32), iv (0 : Int32)] [(.ref t__296)])) := fun t k => P310 t (by
          show Steps p.tables e below (T309.setTop (mkF m 290 #[lv q1, sd, lv q2, sd, lv q3, sd, lv q4, sd, lv q5, sd, iv p6, iv v4, iv x6, iv (0 : Int32), iv x11, iv (1 : Int32), iv x179, iv (1 : Int32), .val r261, rv b263, .val .null, rv b267, rv b277, rv t__296, .val .null, lv q5, sd, lv q2, sd, iv (2 : Int32), iv (0 : Int32)] [(.long q5)])) t
          refine XS.lload X309.here hx rfl (hb hby at_290) rfl ?_
          refine XS.lcmp X309.here hx rfl (hb hby at_292) rfl ?_
          refine XS.ifNo X309.here hx rfl (hb hby at_293) rfl ((if0 _ _).trans (teq ((lw_eq q5 q5).mpr rfl)).2) ?_
          show Steps p.tables e below (T309.setTop (mkF m 296 #[lv q1, sd, lv q2, sd, lv q3, sd, lv q4, sd, lv q5, sd, iv p6, iv v4, iv x6, iv (0 : Int32), iv x11, iv (1 : Int32), iv x179, iv (1 : Int32), .val r261, rv b263, .val .null, rv b267, rv b277, rv t__296, .val .null, lv q5, sd, lv q2, sd, iv (2 : Int32), iv (0 : Int32)] [])) t
          refine XS.aload X309.here hx rfl (hb hby at_296) rfl rfl ?_
          exact k)
        obtain ⟨cq312, kq312, q312a, q312b, q312c⟩ := isOf hZ e309 Et_296
        obtain ⟨_, _, ⟨T312, L312, k312, n312⟩, -, X312, ⟨Lc312, hQ312, l312, y312, z312⟩, st312⟩ := X309.virtualBack hx (y := (⟨"com/example/usher/usher/protocol/Stat", "mtime", "()J"⟩ : MethodName)) (z := (⟨"com/example/usher/usher/protocol/Stat", "mtime", "()J"⟩ : MethodName)) hown (mvT hZ (hw _ (List.mem_of_getElem? (i := 156) rfl))) (mvT hZ (hw _ (List.mem_of_getElem? (i := 157) rfl))) (notFace_of_selects (args := #[]) (mvT hZ (hw _ (List.mem_of_getElem? (i := 159) rfl)))) (mvT hZ (hw _ (List.mem_of_getElem? (i := 159) rfl))) (mvT hZ (hw _ (List.mem_of_getElem? (i := 158) rfl))) (by decide) (backOf (W := 0) (rmG_mtime l Z a0 hw [] t__296 q2 T296.heap n0 f306 G_mtime_296) hZ (hw _ (List.mem_of_getElem? (i := 160) rfl)) (hw _ (List.mem_of_getElem? (i := 99) rfl)) (by decide) (by decide)) q312a q312c (g := (mkF m 298 #[lv q1, sd, lv q2, sd, lv q3, sd, lv q4, sd, lv q5, sd, iv p6, iv v4, iv x6, iv (0 : Int32), iv x11, iv (1 : Int32), iv x179, iv (1 : Int32), .val r261, rv b263, .val .null, rv b267, rv b277, rv t__296, .val .null, lv q5, sd, lv q2, sd, iv (2 : Int32), iv (0 : Int32)] [(.ref t__296)])) rfl (by rw [hml]; rfl) (Steps.refl _) (argsL := []) (rest := []) (lenOf pd_7 rfl) rfl (by show 2 * 0 + _ ≤ _; exact Nat.le_of_eq rfl) (hb hby at_298) (fun _ _ => ⟨rfl, e309, (by decide : 7 + 0 ≤ _), (by decide : 42 + 0 ≤ _)⟩)
        dsimp only [Pt.U, Pt.locs, Pt.cells, Pt.slots] at X312 l312 y312 z312 st312 hQ312
        subst y312 z312
        obtain ⟨rfl, N312q, e312⟩ := hQ312
        have N312 : Fr n0 L312 := by rw [l312]; exact Fr.app N309 N312q
        have P313 : Rch p e below (s₁.setTop (entryFrame m #[(.long q1), (.long q2), (.long q3), (.long q4), (.long q5), (.int p6)] maxLocals)) (T312.setTop (mkF m 301 #[lv q1, sd, lv q2, sd, lv q3, sd, lv q4, sd, lv q5, sd, iv p6, iv v4, iv x6, iv (0 : Int32), iv x11, iv (1 : Int32), iv x179, iv (1 : Int32), .val r261, rv b263, .val .null, rv b267, rv b277, rv t__296, .val .null, lv q5, sd, lv q2, sd, iv (2 : Int32), iv (0 : Int32)] [(.long q2)])) := fun t k => P311 t (st312.trans k)
        have P314 : Rch p e below (s₁.setTop (entryFrame m #[(.long q1), (.long q2), (.long q3), (.long q4), (.long q5), (.int p6)] maxLocals)) (T312.setTop (mkF m 309 #[lv q1, sd, lv q2, sd, lv q3, sd, lv q4, sd, lv q5, sd, iv p6, iv v4, iv x6, iv (0 : Int32), iv x11, iv (1 : Int32), iv x179, iv (1 : Int32), .val r261, rv b263, .val .null, rv b267, rv b277, rv t__296, .val .null, lv q5, sd, lv q2, sd, iv (2 : Int32), iv (0 : Int32)] [(.ref t__296)])) := fun t k => P313 t (by
          show Steps p.tables e below (T312.setTop (mkF m 301 #[lv q1, sd, lv q2, sd, lv q3, sd, lv q4, sd, lv q5, sd, iv p6, iv v4, iv x6, iv (0 : Int32), iv x11, iv (1 : Int32), iv x179, iv (1 : Int32), .val r261, rv b263, .val .null, rv b267, rv b277, rv t__296, .val .null, lv q5, sd, lv q2, sd, iv (2 : Int32), iv (0 : Int32)] [(.long q2)])) t
          refine XS.lload X312.here hx rfl (hb hby at_301) rfl ?_
          refine XS.lcmp X312.here hx rfl (hb hby at_303) rfl ?_
          refine XS.ifNo X312.here hx rfl (hb hby at_304) rfl ((if0 _ _).trans (teq ((lw_eq q2 q2).mpr rfl)).2) ?_
          show Steps p.tables e below (T312.setTop (mkF m 307 #[lv q1, sd, lv q2, sd, lv q3, sd, lv q4, sd, lv q5, sd, iv p6, iv v4, iv x6, iv (0 : Int32), iv x11, iv (1 : Int32), iv x179, iv (1 : Int32), .val r261, rv b263, .val .null, rv b267, rv b277, rv t__296, .val .null, lv q5, sd, lv q2, sd, iv (2 : Int32), iv (0 : Int32)] [])) t
          refine XS.aload X312.here hx rfl (hb hby at_307) rfl rfl ?_
          exact k)
        obtain ⟨cq315, kq315, q315a, q315b, q315c⟩ := isOf hZ e312 Et_296
        obtain ⟨_, _, ⟨T315, L315, k315, n315⟩, -, X315, ⟨Lc315, hQ315, l315, y315, z315⟩, st315⟩ := X312.virtualBack hx (y := (⟨"com/example/usher/usher/protocol/Stat", "version", "()I"⟩ : MethodName)) (z := (⟨"com/example/usher/usher/protocol/Stat", "version", "()I"⟩ : MethodName)) hown (mvT hZ (hw _ (List.mem_of_getElem? (i := 161) rfl))) (mvT hZ (hw _ (List.mem_of_getElem? (i := 162) rfl))) (notFace_of_selects (args := #[]) (mvT hZ (hw _ (List.mem_of_getElem? (i := 164) rfl)))) (mvT hZ (hw _ (List.mem_of_getElem? (i := 164) rfl))) (mvT hZ (hw _ (List.mem_of_getElem? (i := 163) rfl))) (by decide) (backOf (W := 0) (rmG_version l Z a0 hw [] t__296 (((0 : Int32) + (1 : Int32)) + (1 : Int32)) T296.heap n0 f306 G_version_296) hZ (hw _ (List.mem_of_getElem? (i := 165) rfl)) (hw _ (List.mem_of_getElem? (i := 99) rfl)) (by decide) (by decide)) q315a q315c (g := (mkF m 309 #[lv q1, sd, lv q2, sd, lv q3, sd, lv q4, sd, lv q5, sd, iv p6, iv v4, iv x6, iv (0 : Int32), iv x11, iv (1 : Int32), iv x179, iv (1 : Int32), .val r261, rv b263, .val .null, rv b267, rv b277, rv t__296, .val .null, lv q5, sd, lv q2, sd, iv (2 : Int32), iv (0 : Int32)] [(.ref t__296)])) rfl (by rw [hml]; rfl) (Steps.refl _) (argsL := []) (rest := []) (lenOf pd_1 rfl) rfl (by show 2 * 0 + _ ≤ _; exact Nat.le_of_eq rfl) (hb hby at_309) (fun _ _ => ⟨rfl, e312, (by decide : 7 + 0 ≤ _), (by decide : 42 + 0 ≤ _)⟩)
        dsimp only [Pt.U, Pt.locs, Pt.cells, Pt.slots] at X315 l315 y315 z315 st315 hQ315
        subst y315 z315
        obtain ⟨rfl, N315q, e315⟩ := hQ315
        have N315 : Fr n0 L315 := by rw [l315]; exact Fr.app N312 N315q
        have P316 : Rch p e below (s₁.setTop (entryFrame m #[(.long q1), (.long q2), (.long q3), (.long q4), (.long q5), (.int p6)] maxLocals)) (T315.setTop (mkF m 312 #[lv q1, sd, lv q2, sd, lv q3, sd, lv q4, sd, lv q5, sd, iv p6, iv v4, iv x6, iv (0 : Int32), iv x11, iv (1 : Int32), iv x179, iv (1 : Int32), .val r261, rv b263, .val .null, rv b267, rv b277, rv t__296, .val .null, lv q5, sd, lv q2, sd, iv (2 : Int32), iv (0 : Int32)] [(.int (((0 : Int32) + (1 : Int32)) + (1 : Int32)))])) := fun t k => P314 t (st315.trans k)
        obtain ⟨x317, hx317⟩ : ∃ z : Int32, z = (((0 : Int32) + (1 : Int32)) + (1 : Int32)) := ⟨_, rfl⟩
        rw [← hx317] at P316
        have P318 : Rch p e below (s₁.setTop (entryFrame m #[(.long q1), (.long q2), (.long q3), (.long q4), (.long q5), (.int p6)] maxLocals)) (T315.setTop (mkF m 314 #[lv q1, sd, lv q2, sd, lv q3, sd, lv q4, sd, lv q5, sd, iv p6, iv v4, iv x6, iv (0 : Int32), iv x11, iv (1 : Int32), iv x179, iv (1 : Int32), .val r261, rv b263, .val .null, rv b267, rv b277, rv t__296, .val .null, lv q5, sd, lv q2, sd, iv (2 : Int32), iv (0 : Int32)] [(.int (2 : Int32)), (.int x317)])) := fun t k => P316 t (by
          show Steps p.tables e below (T315.setTop (mkF m 312 #[lv q1, sd, lv q2, sd, lv q3, sd, lv q4, sd, lv q5, sd, iv p6, iv v4, iv x6, iv (0 : Int32), iv x11, iv (1 : Int32), iv x179, iv (1 : Int32), .val r261, rv b263, .val .null, rv b267, rv b277, rv t__296, .val .null, lv q5, sd, lv q2, sd, iv (2 : Int32), iv (0 : Int32)] [(.int x317)])) t
          refine XS.iload X315.here hx rfl (hb hby at_312) rfl ?_
          exact k)
        have hvq : x317 = (2 : Int32) := by rw [hx317]; decide
        have P319 : Rch p e below (s₁.setTop (entryFrame m #[(.long q1), (.long q2), (.long q3), (.long q4), (.long q5), (.int p6)] maxLocals)) (T315.setTop (mkF m 319 #[lv q1, sd, lv q2, sd, lv q3, sd, lv q4, sd, lv q5, sd, iv p6, iv v4, iv x6, iv (0 : Int32), iv x11, iv (1 : Int32), iv x179, iv (1 : Int32), .val r261, rv b263, .val .null, rv b267, rv b277, rv t__296, .val .null, lv q5, sd, lv q2, sd, iv (2 : Int32), iv (0 : Int32)] [(.ref t__296)])) := fun t k => P318 t (by
          show Steps p.tables e below (T315.setTop (mkF m 314 #[lv q1, sd, lv q2, sd, lv q3, sd, lv q4, sd, lv q5, sd, iv p6, iv v4, iv x6, iv (0 : Int32), iv x11, iv (1 : Int32), iv x179, iv (1 : Int32), .val r261, rv b263, .val .null, rv b267, rv b277, rv t__296, .val .null, lv q5, sd, lv q2, sd, iv (2 : Int32), iv (0 : Int32)] [(.int (2 : Int32)), (.int x317)])) t
          refine XS.icmpNo X315.here hx rfl (hb hby at_314) rfl (teq hvq).2 ?_
          refine XS.aload X315.here hx rfl (hb hby at_317) rfl rfl ?_
          exact k)
        obtain ⟨cq320, kq320, q320a, q320b, q320c⟩ := isOf hZ e315 Et_296
        obtain ⟨_, _, ⟨T320, L320, k320, n320⟩, -, X320, ⟨Lc320, hQ320, l320, y320, z320⟩, st320⟩ := X315.virtualBack hx (y := (⟨"com/example/usher/usher/protocol/Stat", "dataLength", "()I"⟩ : MethodName)) (z := (⟨"com/example/usher/usher/protocol/Stat", "dataLength", "()I"⟩ : MethodName)) hown (mvT hZ (hw _ (List.mem_of_getElem? (i := 166) rfl))) (mvT hZ (hw _ (List.mem_of_getElem? (i := 167) rfl))) (notFace_of_selects (args := #[]) (mvT hZ (hw _ (List.mem_of_getElem? (i := 169) rfl)))) (mvT hZ (hw _ (List.mem_of_getElem? (i := 169) rfl))) (mvT hZ (hw _ (List.mem_of_getElem? (i := 168) rfl))) (by decide) (backOf (W := 0) (rmG_dataLength l Z a0 hw [] t__296 (0 : Int32) T296.heap n0 f306 G_dataLength_296) hZ (hw _ (List.mem_of_getElem? (i := 170) rfl)) (hw _ (List.mem_of_getElem? (i := 99) rfl)) (by decide) (by decide)) q320a q320c (g := (mkF m 319 #[lv q1, sd, lv q2, sd, lv q3, sd, lv q4, sd, lv q5, sd, iv p6, iv v4, iv x6, iv (0 : Int32), iv x11, iv (1 : Int32), iv x179, iv (1 : Int32), .val r261, rv b263, .val .null, rv b267, rv b277, rv t__296, .val .null, lv q5, sd, lv q2, sd, iv (2 : Int32), iv (0 : Int32)] [(.ref t__296)])) rfl (by rw [hml]; rfl) (Steps.refl _) (argsL := []) (rest := []) (lenOf pd_1 rfl) rfl (by show 2 * 0 + _ ≤ _; exact Nat.le_of_eq rfl) (hb hby at_319) (fun _ _ => ⟨rfl, e315, (by decide : 7 + 0 ≤ _), (by decide : 42 + 0 ≤ _)⟩)
        dsimp only [Pt.U, Pt.locs, Pt.cells, Pt.slots] at X320 l320 y320 z320 st320 hQ320
        subst y320 z320
        obtain ⟨rfl, N320q, e320⟩ := hQ320
        have N320 : Fr n0 L320 := by rw [l320]; exact Fr.app N315 N320q
        have P321 : Rch p e below (s₁.setTop (entryFrame m #[(.long q1), (.long q2), (.long q3), (.long q4), (.long q5), (.int p6)] maxLocals)) (T320.setTop (mkF m 322 #[lv q1, sd, lv q2, sd, lv q3, sd, lv q4, sd, lv q5, sd, iv p6, iv v4, iv x6, iv (0 : Int32), iv x11, iv (1 : Int32), iv x179, iv (1 : Int32), .val r261, rv b263, .val .null, rv b267, rv b277, rv t__296, .val .null, lv q5, sd, lv q2, sd, iv (2 : Int32), iv (0 : Int32)] [(.int (0 : Int32))])) := fun t k => P319 t (st320.trans k)
        have P322 : Rch p e below (s₁.setTop (entryFrame m #[(.long q1), (.long q2), (.long q3), (.long q4), (.long q5), (.int p6)] maxLocals)) (T320.setTop (mkF m 329 #[lv q1, sd, lv q2, sd, lv q3, sd, lv q4, sd, lv q5, sd, iv p6, iv v4, iv x6, iv (0 : Int32), iv x11, iv (1 : Int32), iv x179, iv (1 : Int32), .val r261, rv b263, .val .null, rv b267, rv b277, rv t__296, .val .null, lv q5, sd, lv q2, sd, iv (2 : Int32), iv (0 : Int32)] [(.ref t__296)])) := fun t k => P321 t (by
          show Steps p.tables e below (T320.setTop (mkF m 322 #[lv q1, sd, lv q2, sd, lv q3, sd, lv q4, sd, lv q5, sd, iv p6, iv v4, iv x6, iv (0 : Int32), iv x11, iv (1 : Int32), iv x179, iv (1 : Int32), .val r261, rv b263, .val .null, rv b267, rv b277, rv t__296, .val .null, lv q5, sd, lv q2, sd, iv (2 : Int32), iv (0 : Int32)] [(.int (0 : Int32))])) t
          refine XS.iload X320.here hx rfl (hb hby at_322) rfl ?_
          refine XS.icmpNo X320.here hx rfl (hb hby at_324) rfl (teq (by decide)).2 ?_
          refine XS.aload X320.here hx rfl (hb hby at_327) rfl rfl ?_
          exact k)
        obtain ⟨cq323, kq323, q323a, q323b, q323c⟩ := isOf hZ e320 Et_296
        obtain ⟨_, _, ⟨T323, L323, k323, n323⟩, -, X323, ⟨Lc323, hQ323, l323, y323, z323⟩, st323⟩ := X320.virtualBack hx (y := (⟨"com/example/usher/usher/protocol/Stat", "pzxid", "()J"⟩ : MethodName)) (z := (⟨"com/example/usher/usher/protocol/Stat", "pzxid", "()J"⟩ : MethodName)) hown (mvT hZ (hw _ (List.mem_of_getElem? (i := 171) rfl))) (mvT hZ (hw _ (List.mem_of_getElem? (i := 172) rfl))) (notFace_of_selects (args := #[]) (mvT hZ (hw _ (List.mem_of_getElem? (i := 174) rfl)))) (mvT hZ (hw _ (List.mem_of_getElem? (i := 174) rfl))) (mvT hZ (hw _ (List.mem_of_getElem? (i := 173) rfl))) (by decide) (backOf (W := 0) (rmG_pzxid l Z a0 hw [] t__296 q1 T296.heap n0 f306 G_pzxid_296) hZ (hw _ (List.mem_of_getElem? (i := 175) rfl)) (hw _ (List.mem_of_getElem? (i := 99) rfl)) (by decide) (by decide)) q323a q323c (g := (mkF m 329 #[lv q1, sd, lv q2, sd, lv q3, sd, lv q4, sd, lv q5, sd, iv p6, iv v4, iv x6, iv (0 : Int32), iv x11, iv (1 : Int32), iv x179, iv (1 : Int32), .val r261, rv b263, .val .null, rv b267, rv b277, rv t__296, .val .null, lv q5, sd, lv q2, sd, iv (2 : Int32), iv (0 : Int32)] [(.ref t__296)])) rfl (by rw [hml]; rfl) (Steps.refl _) (argsL := []) (rest := []) (lenOf pd_7 rfl) rfl (by show 2 * 0 + _ ≤ _; exact Nat.le_of_eq rfl) (hb hby at_329) (fun _ _ => ⟨rfl, e320, (by decide : 7 + 0 ≤ _), (by decide : 42 + 0 ≤ _)⟩)
        dsimp only [Pt.U, Pt.locs, Pt.cells, Pt.slots] at X323 l323 y323 z323 st323 hQ323
        subst y323 z323
        obtain ⟨rfl, N323q, e323⟩ := hQ323
        have N323 : Fr n0 L323 := by rw [l323]; exact Fr.app N320 N323q
        have P324 : Rch p e below (s₁.setTop (entryFrame m #[(.long q1), (.long q2), (.long q3), (.long q4), (.long q5), (.int p6)] maxLocals)) (T323.setTop (mkF m 332 #[lv q1, sd, lv q2, sd, lv q3, sd, lv q4, sd, lv q5, sd, iv p6, iv v4, iv x6, iv (0 : Int32), iv x11, iv (1 : Int32), iv x179, iv (1 : Int32), .val r261, rv b263, .val .null, rv b267, rv b277, rv t__296, .val .null, lv q5, sd, lv q2, sd, iv (2 : Int32), iv (0 : Int32)] [(.long q1)])) := fun t k => P322 t (st323.trans k)
        have P325 : Rch p e below (s₁.setTop (entryFrame m #[(.long q1), (.long q2), (.long q3), (.long q4), (.long q5), (.int p6)] maxLocals)) (T323.setTop (mkF m 339 #[lv q1, sd, lv q2, sd, lv q3, sd, lv q4, sd, lv q5, sd, iv p6, iv v4, iv x6, iv (0 : Int32), iv x11, iv (1 : Int32), iv x179, iv (1 : Int32), .val r261, rv b263, .val .null, rv b267, rv b277, rv t__296, .val .null, lv q5, sd, lv q2, sd, iv (2 : Int32), iv (0 : Int32)] [(.ref t__296)])) := fun t k => P324 t (by
          show Steps p.tables e below (T323.setTop (mkF m 332 #[lv q1, sd, lv q2, sd, lv q3, sd, lv q4, sd, lv q5, sd, iv p6, iv v4, iv x6, iv (0 : Int32), iv x11, iv (1 : Int32), iv x179, iv (1 : Int32), .val r261, rv b263, .val .null, rv b267, rv b277, rv t__296, .val .null, lv q5, sd, lv q2, sd, iv (2 : Int32), iv (0 : Int32)] [(.long q1)])) t
          refine XS.lloadN X323.here hx rfl (hb hby at_332) rfl ?_
          refine XS.lcmp X323.here hx rfl (hb hby at_333) rfl ?_
          refine XS.ifNo X323.here hx rfl (hb hby at_334) rfl ((if0 _ _).trans (teq ((lw_eq q1 q1).mpr rfl)).2) ?_
          show Steps p.tables e below (T323.setTop (mkF m 337 #[lv q1, sd, lv q2, sd, lv q3, sd, lv q4, sd, lv q5, sd, iv p6, iv v4, iv x6, iv (0 : Int32), iv x11, iv (1 : Int32), iv x179, iv (1 : Int32), .val r261, rv b263, .val .null, rv b267, rv b277, rv t__296, .val .null, lv q5, sd, lv q2, sd, iv (2 : Int32), iv (0 : Int32)] [])) t
          refine XS.aload X323.here hx rfl (hb hby at_337) rfl rfl ?_
          exact k)
        obtain ⟨cq326, kq326, q326a, q326b, q326c⟩ := isOf hZ e323 Et_296
        obtain ⟨_, _, ⟨T326, L326, k326, n326⟩, -, X326, ⟨Lc326, hQ326, l326, y326, z326⟩, st326⟩ := X323.virtualBack hx (y := (⟨"com/example/usher/usher/protocol/Stat", "ctime", "()J"⟩ : MethodName)) (z := (⟨"com/example/usher/usher/protocol/Stat", "ctime", "()J"⟩ : MethodName)) hown (mvT hZ (hw _ (List.mem_of_getElem? (i := 176) rfl))) (mvT hZ (hw _ (List.mem_of_getElem? (i := 177) rfl))) (notFace_of_selects (args := #[]) (mvT hZ (hw _ (List.mem_of_getElem? (i := 179) rfl)))) (mvT hZ (hw _ (List.mem_of_getElem? (i := 179) rfl))) (mvT hZ (hw _ (List.mem_of_getElem? (i := 178) rfl))) (by decide) (backOf (W := 0) (rmG_ctime l Z a0 hw [] t__296 q2 T296.heap n0 f306 G_ctime_296) hZ (hw _ (List.mem_of_getElem? (i := 180) rfl)) (hw _ (List.mem_of_getElem? (i := 99) rfl)) (by decide) (by decide)) q326a q326c (g := (mkF m 339 #[lv q1, sd, lv q2, sd, lv q3, sd, lv q4, sd, lv q5, sd, iv p6, iv v4, iv x6, iv (0 : Int32), iv x11, iv (1 : Int32), iv x179, iv (1 : Int32), .val r261, rv b263, .val .null, rv b267, rv b277, rv t__296, .val .null, lv q5, sd, lv q2, sd, iv (2 : Int32), iv (0 : Int32)] [(.ref t__296)])) rfl (by rw [hml]; rfl) (Steps.refl _) (argsL := []) (rest := []) (lenOf pd_7 rfl) rfl (by show 2 * 0 + _ ≤ _; exact Nat.le_of_eq rfl) (hb hby at_339) (fun _ _ => ⟨rfl, e323, (by decide : 7 + 0 ≤ _), (by decide : 42 + 0 ≤ _)⟩)
        dsimp only [Pt.U, Pt.locs, Pt.cells, Pt.slots] at X326 l326 y326 z326 st326 hQ326
        subst y326 z326
        obtain ⟨rfl, N326q, e326⟩ := hQ326
        have N326 : Fr n0 L326 := by rw [l326]; exact Fr.app N323 N326q
        have P327 : Rch p e below (s₁.setTop (entryFrame m #[(.long q1), (.long q2), (.long q3), (.long q4), (.long q5), (.int p6)] maxLocals)) (T326.setTop (mkF m 342 #[lv q1, sd, lv q2, sd, lv q3, sd, lv q4, sd, lv q5, sd, iv p6, iv v4, iv x6, iv (0 : Int32), iv x11, iv (1 : Int32), iv x179, iv (1 : Int32), .val r261, rv b263, .val .null, rv b267, rv b277, rv t__296, .val .null, lv q5, sd, lv q2, sd, iv (2 : Int32), iv (0 : Int32)] [(.long q2)])) := fun t k => P325 t (st326.trans k)
        have P328 : Rch p e below (s₁.setTop (entryFrame m #[(.long q1), (.long q2), (.long q3), (.long q4), (.long q5), (.int p6)] maxLocals)) (T326.setTop (mkF m 352 #[lv q1, sd, lv q2, sd, lv q3, sd, lv q4, sd, lv q5, sd, iv p6, iv v4, iv x6, iv (0 : Int32), iv x11, iv (1 : Int32), iv x179, iv (1 : Int32), .val r261, rv b263, .val .null, rv b267, rv b277, rv t__296, .val .null, lv q5, sd, lv q2, sd, iv (2 : Int32), iv (0 : Int32)] [(.int (1 : Int32))])) := fun t k => P327 t (by
          show Steps p.tables e below (T326.setTop (mkF m 342 #[lv q1, sd, lv q2, sd, lv q3, sd, lv q4, sd, lv q5, sd, iv p6, iv v4, iv x6, iv (0 : Int32), iv x11, iv (1 : Int32), iv x179, iv (1 : Int32), .val r261, rv b263, .val .null, rv b267, rv b277, rv t__296, .val .null, lv q5, sd, lv q2, sd, iv (2 : Int32), iv (0 : Int32)] [(.long q2)])) t
          refine XS.lloadN X326.here hx rfl (hb hby at_342) rfl ?_
          refine XS.lcmp X326.here hx rfl (hb hby at_343) rfl ?_
          refine XS.ifNo X326.here hx rfl (hb hby at_344) rfl ((if0 _ _).trans (teq ((lw_eq q2 q2).mpr rfl)).2) ?_
          show Steps p.tables e below (T326.setTop (mkF m 347 #[lv q1, sd, lv q2, sd, lv q3, sd, lv q4, sd, lv q5, sd, iv p6, iv v4, iv x6, iv (0 : Int32), iv x11, iv (1 : Int32), iv x179, iv (1 : Int32), .val r261, rv b263, .val .null, rv b267, rv b277, rv t__296, .val .null, lv q5, sd, lv q2, sd, iv (2 : Int32), iv (0 : Int32)] [])) t
          refine XS.iconst X326.here hx rfl (hb hby at_347) ?_
          refine XS.goto X326.here hx rfl (pc0 := 348) (pc' := 352) rfl (hb hby at_348) (by decide) (by decide) ?_
          exact k)
        obtain ⟨fs, hr, hrun, hended, hW, hsame⟩ := X326.leave (v := some (.int (1 : Int32))) (fun h => by rw [Bd.returns] at h; cases h)
        refine ⟨_, _, P328 _ ?_, hrun, hended, _, _, rfl, ?_, ⟨_, rfl⟩, hW, hsame.mono (by decide) (by decide)⟩
        · exact retN X326 hx (t := .boolean) Bd.returns (by simp) (hb hby at_352) hr
        · show Q_rm0 Z q1 q2 q3 q4 q5 p6 aD h0 n0 _ T326.heap _
          rw [e326]
          exact ⟨rfl, N326⟩
  · obtain ⟨x329, hx329⟩ : ∃ z : Int32, z = (((p6.toUInt32 >>> ((4 : Int32) &&& 31).toUInt32).toInt32) &&& (3 : Int32)) := ⟨_, rfl⟩
    have P330 : Rch p e below (s₁.setTop (entryFrame m #[(.long q1), (.long q2), (.long q3), (.long q4), (.long q5), (.int p6)] maxLocals)) (s₁.setTop (mkF m 45 #[lv q1, sd, lv q2, sd, lv q3, sd, lv q4, sd, lv q5, sd, iv p6, iv v4, iv x6, iv (1 : Int32), iv x329, un, un, un, un, un, un, un, un, un, un, un, un, un, un, un, un] [])) := fun t k => P9 t (by
      subst hx329
      show Steps p.tables e below (s₁.setTop (mkF m 27 #[lv q1, sd, lv q2, sd, lv q3, sd, lv q4, sd, lv q5, sd, iv p6, iv v4, iv x6, un, un, un, un, un, un, un, un, un, un, un, un, un, un, un, un, un, un] [(.int x8)])) t
      refine XS.ifNo X0.here hx rfl (hb hby at_27) rfl ((if0 _ _).trans (feq c10).1) ?_
      refine XS.iconst X0.here hx rfl (hb hby at_30) ?_
      refine XS.goto X0.here hx rfl (pc0 := 31) (pc' := 35) rfl (hb hby at_31) (by decide) (by decide) ?_
      show Steps p.tables e below (s₁.setTop (mkF m 35 #[lv q1, sd, lv q2, sd, lv q3, sd, lv q4, sd, lv q5, sd, iv p6, iv v4, iv x6, un, un, un, un, un, un, un, un, un, un, un, un, un, un, un, un, un, un] [(.int (1 : Int32))])) t
      refine XS.istore X0.here hx rfl (hb hby at_35) rfl (l' := #[lv q1, sd, lv q2, sd, lv q3, sd, lv q4, sd, lv q5, sd, iv p6, iv v4, iv x6, iv (1 : Int32), un, un, un, un, un, un, un, un, un, un, un, un, un, un, un, un, un]) rfl ?_
      refine XS.iload X0.here hx rfl (hb hby at_37) rfl ?_
      refine XS.iconst X0.here hx rfl (hb hby at_39) ?_
      refine XS.iushr X0.here hx rfl (hb hby at_40) rfl ?_
      show Steps p.tables e below (s₁.setTop (mkF m 41 #[lv q1, sd, lv q2, sd, lv q3, sd, lv q4, sd, lv q5, sd, iv p6, iv v4, iv x6, iv (1 : Int32), un, un, un, un, un, un, un, un, un, un, un, un, un, un, un, un, un] [(.int ((p6.toUInt32 >>> ((4 : Int32) &&& 31).toUInt32).toInt32))])) t
      refine XS.iconst X0.here hx rfl (hb hby at_41) ?_
      refine XS.iand X0.here hx rfl (hb hby at_42) rfl ?_
      refine XS.istore X0.here hx rfl (hb hby at_43) rfl (l' := #[lv q1, sd, lv q2, sd, lv q3, sd, lv q4, sd, lv q5, sd, iv p6, iv v4, iv x6, iv (1 : Int32), iv (((p6.toUInt32 >>> ((4 : Int32) &&& 31).toUInt32).toInt32) &&& (3 : Int32)), un, un, un, un, un, un, un, un, un, un, un, un, un, un, un, un]) rfl ?_
      exact k)
    obtain ⟨x331, hx331⟩ : ∃ z : Int32, z = (p6 &&& (64 : Int32)) := ⟨_, rfl⟩
    have P332 : Rch p e below (s₁.setTop (entryFrame m #[(.long q1), (.long q2), (.long q3), (.long q4), (.long q5), (.int p6)] maxLocals)) (s₁.setTop (mkF m 50 #[lv q1, sd, lv q2, sd, lv q3, sd, lv q4, sd, lv q5, sd, iv p6, iv v4, iv x6, iv (1 : Int32), iv x329, un, un, un, un, un, un, un, un, un, un, un, un, un, un, un, un] [(.int x331)])) := fun t k => P330 t (by
      subst hx331
      show Steps p.tables e below (s₁.setTop (mkF m 45 #[lv q1, sd, lv q2, sd, lv q3, sd, lv q4, sd, lv q5, sd, iv p6, iv v4, iv x6, iv (1 : Int32), iv x329, un, un, un, un, un, un, un, un, un, un, un, un, un, un, un, un] [])) t
      refine XS.iload X0.here hx rfl (hb hby at_45) rfl ?_
      refine XS.bipush X0.here hx rfl (hb hby at_47) ?_
      refine XS.iand X0.here hx rfl (hb hby at_49) rfl ?_
      exact k)
    by_cases c333 : x331 = (0 : Int32)
    · obtain ⟨x334, hx334⟩ : ∃ z : Int32, z = (((p6.toUInt32 >>> ((7 : Int32) &&& 31).toUInt32).toInt32) &&& (3 : Int32)) := ⟨_, rfl⟩
      have P335 : Rch p e below (s₁.setTop (entryFrame m #[(.long q1), (.long q2), (.long q3), (.long q4), (.long q5), (.int p6)] maxLocals)) (s₁.setTop (mkF m 69 #[lv q1, sd, lv q2, sd, lv q3, sd, lv q4, sd, lv q5, sd, iv p6, iv v4, iv x6, iv (1 : Int32), iv x329, iv (0 : Int32), iv x334, un, un, un, un, un, un, un, un, un, un, un, un, un, un] [])) := fun t k => P332 t (by
        subst hx334
        show Steps p.tables e below (s₁.setTop (mkF m 50 #[lv q1, sd, lv q2, sd, lv q3, sd, lv q4, sd, lv q5, sd, iv p6, iv v4, iv x6, iv (1 : Int32), iv x329, un, un, un, un, un, un, un, un, un, un, un, un, un, un, un, un] [(.int x331)])) t
        refine XS.ifYes X0.here hx rfl (pc0 := 50) (pc' := 57) rfl (hb hby at_50) rfl ((if0 _ _).trans (teq c333).1) (by decide) (by decide) ?_
        refine XS.iconst X0.here hx rfl (hb hby at_57) ?_
        refine XS.istore X0.here hx rfl (hb hby at_58) rfl (l' := #[lv q1, sd, lv q2, sd, lv q3, sd, lv q4, sd, lv q5, sd, iv p6, iv v4, iv x6, iv (1 : Int32), iv x329, iv (0 : Int32), un, un, un, un, un, un, un, un, un, un, un, un, un, un, un]) rfl ?_
        show Steps p.tables e below (s₁.setTop (mkF m 60 #[lv q1, sd, lv q2, sd, lv q3, sd, lv q4, sd, lv q5, sd, iv p6, iv v4, iv x6, iv (1 : Int32), iv x329, iv (0 : Int32), un, un, un, un, un, un, un, un, un, un, un, un, un, un, un] [])) t
        refine XS.iload X0.here hx rfl (hb hby at_60) rfl ?_
        refine XS.bipush X0.here hx rfl (hb hby at_62) ?_
        refine XS.iushr X0.here hx rfl (hb hby at_64) rfl ?_
        refine XS.iconst X0.here hx rfl (hb hby at_65) ?_
        show Steps p.tables e below (s₁.setTop (mkF m 66 #[lv q1, sd, lv q2, sd, lv q3, sd, lv q4, sd, lv q5, sd, iv p6, iv v4, iv x6, iv (1 : Int32), iv x329, iv (0 : Int32), un, un, un, un, un, un, un, un, un, un, un, un, un, un, un] [(.int (3 : Int32)), (.int ((p6.toUInt32 >>> ((7 : Int32) &&& 31).toUInt32).toInt32))])) t
        refine XS.iand X0.here hx rfl (hb hby at_66) rfl ?_
        refine XS.istore X0.here hx rfl (hb hby at_67) rfl (l' := #[lv q1, sd, lv q2, sd, lv q3, sd, lv q4, sd, lv q5, sd, iv p6, iv v4, iv x6, iv (1 : Int32), iv x329, iv (0 : Int32), iv (((p6.toUInt32 >>> ((7 : Int32) &&& 31).toUInt32).toInt32) &&& (3 : Int32)), un, un, un, un, un, un, un, un, un, un, un, un, un, un]) rfl ?_
        exact k)
      obtain ⟨x336, hx336⟩ : ∃ z : Int32, z = (p6 &&& (512 : Int32)) := ⟨_, rfl⟩
      have P337 : Rch p e below (s₁.setTop (entryFrame m #[(.long q1), (.long q2), (.long q3), (.long q4), (.long q5), (.int p6)] maxLocals)) (s₁.setTop (mkF m 75 #[lv q1, sd, lv q2, sd, lv q3, sd, lv q4, sd, lv q5, sd, iv p6, iv v4, iv x6, iv (1 : Int32), iv x329, iv (0 : Int32), iv x334, un, un, un, un, un, un, un, un, un, un, un, un, un, un] [(.int x336)])) := fun t k => P335 t (by
        subst hx336
        show Steps p.tables e below (s₁.setTop (mkF m 69 #[lv q1, sd, lv q2, sd, lv q3, sd, lv q4, sd, lv q5, sd, iv p6, iv v4, iv x6, iv (1 : Int32), iv x329, iv (0 : Int32), iv x334, un, un, un, un, un, un, un, un, un, un, un, un, un, un] [])) t
        refine XS.iload X0.here hx rfl (hb hby at_69) rfl ?_
        refine XS.sipush X0.here hx rfl (hb hby at_71) ?_
        refine XS.iand X0.here hx rfl (hb hby at_74) rfl ?_
        exact k)
      by_cases c338 : x336 = (0 : Int32)
      · have P339 : Rch p e below (s₁.setTop (entryFrame m #[(.long q1), (.long q2), (.long q3), (.long q4), (.long q5), (.int p6)] maxLocals)) (s₁.setTop (mkF m 87 #[lv q1, sd, lv q2, sd, lv q3, sd, lv q4, sd, lv q5, sd, iv p6, iv v4, iv x6, iv (1 : Int32), iv x329, iv (0 : Int32), iv x334, iv (0 : Int32), un, un, un, un, un, un, un, un, un, un, un, un, un] [(.int v4)])) := fun t k => P337 t (by
          show Steps p.tables e below (s₁.setTop (mkF m 75 #[lv q1, sd, lv q2, sd, lv q3, sd, lv q4, sd, lv q5, sd, iv p6, iv v4, iv x6, iv (1 : Int32), iv x329, iv (0 : Int32), iv x334, un, un, un, un, un, un, un, un, un, un, un, un, un, un] [(.int x336)])) t
          refine XS.ifYes X0.here hx rfl (pc0 := 75) (pc' := 82) rfl (hb hby at_75) rfl ((if0 _ _).trans (teq c338).1) (by decide) (by decide) ?_
          refine XS.iconst X0.here hx rfl (hb hby at_82) ?_
          refine XS.istore X0.here hx rfl (hb hby at_83) rfl (l' := #[lv q1, sd, lv q2, sd, lv q3, sd, lv q4, sd, lv q5, sd, iv p6, iv v4, iv x6, iv (1 : Int32), iv x329, iv (0 : Int32), iv x334, iv (0 : Int32), un, un, un, un, un, un, un, un, un, un, un, un, un]) rfl ?_
          show Steps p.tables e below (s₁.setTop (mkF m 85 #[lv q1, sd, lv q2, sd, lv q3, sd, lv q4, sd, lv q5, sd, iv p6, iv v4, iv x6, iv (1 : Int32), iv x329, iv (0 : Int32), iv x334, iv (0 : Int32), un, un, un, un, un, un, un, un, un, un, un, un, un] [])) t
          refine XS.iload X0.here hx rfl (hb hby at_85) rfl ?_
          exact k)
        obtain ⟨T340, L340, h340, r347, X340, e340, N340, Z340, K340, hr347, P340⟩ : ∃ (T340 : State) (L340 : List Loc) (h340 : Heap) (r347 : Value), Stand p l e room_1 s m #[(.long q1), (.long q2), (.long q3), (.long q4), (.long q5), (.int p6)] below meth c T340 L340 1 3 ∧ T340.heap = h340 ∧ Fr n0 L340 ∧ n0 ≤ h340.size ∧ Keep h0 h340 [] ∧ r347.isRef = true ∧ Rch p e below (s₁.setTop (entryFrame m #[(.long q1), (.long q2), (.long q3), (.long q4), (.long q5), (.int p6)] maxLocals)) (T340.setTop (mkF m 98 #[lv q1, sd, lv q2, sd, lv q3, sd, lv q4, sd, lv q5, sd, iv p6, iv v4, iv x6, iv (1 : Int32), iv x329, iv (0 : Int32), iv x334, iv (0 : Int32), un, un, un, un, un, un, un, un, un, un, un, un, un] [r347])) := by
          by_cases c341 : v4 = (0 : Int32)
          · have P342 : Rch p e below (s₁.setTop (entryFrame m #[(.long q1), (.long q2), (.long q3), (.long q4), (.long q5), (.int p6)] maxLocals)) (s₁.setTop (mkF m 96 #[lv q1, sd, lv q2, sd, lv q3, sd, lv q4, sd, lv q5, sd, iv p6, iv v4, iv x6, iv (1 : Int32), iv x329, iv (0 : Int32), iv x334, iv (0 : Int32), un, un, un, un, un, un, un, un, un, un, un, un, un] [(.int x6)])) := fun t k => P339 t (by
              show Steps p.tables e below (s₁.setTop (mkF m 87 #[lv q1, sd, lv q2, sd, lv q3, sd, lv q4, sd, lv q5, sd, iv p6, iv v4, iv x6, iv (1 : Int32), iv x329, iv (0 : Int32), iv x334, iv (0 : Int32), un, un, un, un, un, un, un, un, un, un, un, un, un] [(.int v4)])) t
              refine XS.ifYes X0.here hx rfl (pc0 := 87) (pc' := 94) rfl (hb hby at_87) rfl ((if0 _ _).trans (teq c341).1) (by decide) (by decide) ?_
              refine XS.iload X0.here hx rfl (hb hby at_94) rfl ?_
              exact k)
            have hm96 := own_m3 _ hx6
            obtain ⟨T343, h343, k343, X343, e343, E343, A343, st343⟩ := newP X0 hx hZ (hw _ (List.mem_of_getElem? (i := 0) rfl)) e0 (g := (mkF m 96 #[lv q1, sd, lv q2, sd, lv q3, sd, lv q4, sd, lv q5, sd, iv p6, iv v4, iv x6, iv (1 : Int32), iv x329, iv (0 : Int32), iv x334, iv (0 : Int32), un, un, un, un, un, un, un, un, un, un, un, un, un] [(.int x6)])) rfl (hb hby at_96) rfl hm96.1 (cap := 3) hm96.2 (by decide) (by decide) (by decide)
            obtain ⟨b343, g343⟩ : ∃ z, z = h0.size := ⟨_, rfl⟩
            rw [← g343] at A343 st343
            have g_b343 : n0 ≤ b343 := Nat.le_trans Z0 (Nat.le_of_eq g343.symm)
            have sz_b343 : h0.size ≤ b343 := Nat.le_trans (Keep.refl h0 []).1 (Nat.le_of_eq g343.symm)
            have szj_b343 : h0.size ≤ b343 := Nat.le_trans (Keep.refl h0 []).1 (Nat.le_of_eq g343.symm)
            have V343 : Arv Z h343 b343 k343 .byte x6 [] (.int (0 : Int32)) := Arv.new A343 hm96.1
            have P344 : Rch p e below (s₁.setTop (entryFrame m #[(.long q1), (.long q2), (.long q3), (.long q4), (.long q5), (.int p6)] maxLocals)) (T343.setTop (mkF m 98 #[lv q1, sd, lv q2, sd, lv q3, sd, lv q4, sd, lv q5, sd, iv p6, iv v4, iv x6, iv (1 : Int32), iv x329, iv (0 : Int32), iv x334, iv (0 : Int32), un, un, un, un, un, un, un, un, un, un, un, un, un] [(.ref b343)])) := fun t k => P342 t (st343 t k)
            have f345 : n0 ≤ h343.size := (Nat.le_trans Z0 E343.1)
            exact ⟨T343, _, h343, (.ref b343), X343, e343, N0, f345, ((Keep.refl h0 []).ext E343), rfl, P344⟩
          · have P346 : Rch p e below (s₁.setTop (entryFrame m #[(.long q1), (.long q2), (.long q3), (.long q4), (.long q5), (.int p6)] maxLocals)) (s₁.setTop (mkF m 98 #[lv q1, sd, lv q2, sd, lv q3, sd, lv q4, sd, lv q5, sd, iv p6, iv v4, iv x6, iv (1 : Int32), iv x329, iv (0 : Int32), iv x334, iv (0 : Int32), un, un, un, un, un, un, un, un, un, un, un, un, un] [.null])) := fun t k => P339 t (by
              show Steps p.tables e below (s₁.setTop (mkF m 87 #[lv q1, sd, lv q2, sd, lv q3, sd, lv q4, sd, lv q5, sd, iv p6, iv v4, iv x6, iv (1 : Int32), iv x329, iv (0 : Int32), iv x334, iv (0 : Int32), un, un, un, un, un, un, un, un, un, un, un, un, un] [(.int v4)])) t
              refine XS.ifNo X0.here hx rfl (hb hby at_87) rfl ((if0 _ _).trans (feq c341).1) ?_
              refine XS.aconstNull X0.here hx rfl (hb hby at_90) ?_
              refine XS.goto X0.here hx rfl (pc0 := 91) (pc' := 98) rfl (hb hby at_91) (by decide) (by decide) ?_
              exact k)
            exact ⟨s₁, _, h0, .null, (own_more X0 (by decide) (by decide)), e0, N0, Z0, (Keep.refl h0 []), rfl, P346⟩
        have P348 : Rch p e below (s₁.setTop (entryFrame m #[(.long q1), (.long q2), (.long q3), (.long q4), (.long q5), (.int p6)] maxLocals)) (T340.setTop (mkF m 126 #[lv q1, sd, lv q2, sd, lv q3, sd, lv q4, sd, lv q5, sd, iv p6, iv v4, iv x6, iv (1 : Int32), iv x329, iv (0 : Int32), iv x334, iv (0 : Int32), .val r347, .val .null, un, un, un, un, un, un, un, un, un, un, un] [(.int x334)])) := fun t k => P340 t (by
          show Steps p.tables e below (T340.setTop (mkF m 98 #[lv q1, sd, lv q2, sd, lv q3, sd, lv q4, sd, lv q5, sd, iv p6, iv v4, iv x6, iv (1 : Int32), iv x329, iv (0 : Int32), iv x334, iv (0 : Int32), un, un, un, un, un, un, un, un, un, un, un, un, un] [r347])) t
          refine XS.astore X340.here hx rfl (hb hby at_98) rfl hr347 (l' := #[lv q1, sd, lv q2, sd, lv q3, sd, lv q4, sd, lv q5, sd, iv p6, iv v4, iv x6, iv (1 : Int32), iv x329, iv (0 : Int32), iv x334, iv (0 : Int32), .val r347, un, un, un, un, un, un, un, un, un, un, un, un]) (by rcases ref_cases hr347 with q_ | ⟨_, q_⟩ <;> rw [q_] <;> rfl) ?_
          refine XS.iload X340.here hx rfl (hb hby at_100) rfl ?_
          refine XS.ifNo X340.here hx rfl (hb hby at_102) rfl ((if0 _ _).trans (feq (by decide)).1) ?_
          show Steps p.tables e below (T340.setTop (mkF m 105 #[lv q1, sd, lv q2, sd, lv q3, sd, lv q4, sd, lv q5, sd, iv p6, iv v4, iv x6, iv (1 : Int32), iv x329, iv (0 : Int32), iv x334, iv (0 : Int32), .val r347, un, un, un, un, un, un, un, un, un, un, un, un] [])) t
          refine XS.aconstNull X340.here hx rfl (hb hby at_105) ?_
          refine XS.goto X340.here hx rfl (pc0 := 106) (pc' := 113) rfl (hb hby at_106) (by decide) (by decide) ?_
          refine XS.astore X340.here hx rfl (hb hby at_113) rfl rfl (l' := #[lv q1, sd, lv q2, sd, lv q3, sd, lv q4, sd, lv q5, sd, iv p6, iv v4, iv x6, iv (1 : Int32), iv x329, iv (0 : Int32), iv x334, iv (0 : Int32), .val r347, .val .null, un, un, un, un, un, un, un, un, un, un, un]) rfl ?_
          refine XS.iload X340.here hx rfl (hb hby at_115) rfl ?_
          show Steps p.tables e below (T340.setTop (mkF m 117 #[lv q1, sd, lv q2, sd, lv q3, sd, lv q4, sd, lv q5, sd, iv p6, iv v4, iv x6, iv (1 : Int32), iv x329, iv (0 : Int32), iv x334, iv (0 : Int32), .val r347, .val .null, un, un, un, un, un, un, un, un, un, un, un] [(.int (0 : Int32))])) t
          refine XS.ifYes X340.here hx rfl (pc0 := 117) (pc' := 124) rfl (hb hby at_117) rfl ((if0 _ _).trans (teq (by decide)).1) (by decide) (by decide) ?_
          refine XS.iload X340.here hx rfl (hb hby at_124) rfl ?_
          exact k)
        have hm126 := own_m3 _ hx334
        have f350 : Keep h0 h340 [] := ((Keep.refl h0 []).trans K340 all0)
        obtain ⟨T349, h349, k349, X349, e349, E349, A349, st349⟩ := newP X340 hx hZ (hw _ (List.mem_of_getElem? (i := 0) rfl)) e340 (g := (mkF m 126 #[lv q1, sd, lv q2, sd, lv q3, sd, lv q4, sd, lv q5, sd, iv p6, iv v4, iv x6, iv (1 : Int32), iv x329, iv (0 : Int32), iv x334, iv (0 : Int32), .val r347, .val .null, un, un, un, un, un, un, un, un, un, un, un] [(.int x334)])) rfl (hb hby at_126) rfl hm126.1 (cap := 3) hm126.2 (by decide) (by decide) (by decide)
        obtain ⟨b349, g349⟩ : ∃ z, z = h340.size := ⟨_, rfl⟩
        rw [← g349] at A349 st349
        have g_b349 : n0 ≤ b349 := Nat.le_trans Z340 (Nat.le_of_eq g349.symm)
        have sz_b349 : h0.size ≤ b349 := Nat.le_trans f350.1 (Nat.le_of_eq g349.symm)
        have V349 : Arv Z h349 b349 k349 .byte x334 [] (.int (0 : Int32)) := Arv.new A349 hm126.1
        have P351 : Rch p e below (s₁.setTop (entryFrame m #[(.long q1), (.long q2), (.long q3), (.long q4), (.long q5), (.int p6)] maxLocals)) (T349.setTop (mkF m 128 #[lv q1, sd, lv q2, sd, lv q3, sd, lv q4, sd, lv q5, sd, iv p6, iv v4, iv x6, iv (1 : Int32), iv x329, iv (0 : Int32), iv x334, iv (0 : Int32), .val r347, .val .null, un, un, un, un, un, un, un, un, un, un, un] [(.ref b349)])) := fun t k => P348 t (st349 t k)
        have P352 : Rch p e below (s₁.setTop (entryFrame m #[(.long q1), (.long q2), (.long q3), (.long q4), (.long q5), (.int p6)] maxLocals)) (T349.setTop (mkF m 130 #[lv q1, sd, lv q2, sd, lv q3, sd, lv q4, sd, lv q5, sd, iv p6, iv v4, iv x6, iv (1 : Int32), iv x329, iv (0 : Int32), iv x334, iv (0 : Int32), .val r347, .val .null, rv b349, un, un, un, un, un, un, un, un, un, un] [])) := fun t k => P351 t (by
          show Steps p.tables e below (T349.setTop (mkF m 128 #[lv q1, sd, lv q2, sd, lv q3, sd, lv q4, sd, lv q5, sd, iv p6, iv v4, iv x6, iv (1 : Int32), iv x329, iv (0 : Int32), iv x334, iv (0 : Int32), .val r347, .val .null, un, un, un, un, un, un, un, un, un, un, un] [(.ref b349)])) t
          refine XS.astore X349.here hx rfl (hb hby at_128) rfl rfl (l' := #[lv q1, sd, lv q2, sd, lv q3, sd, lv q4, sd, lv q5, sd, iv p6, iv v4, iv x6, iv (1 : Int32), iv x329, iv (0 : Int32), iv x334, iv (0 : Int32), .val r347, .val .null, rv b349, un, un, un, un, un, un, un, un, un, un]) rfl ?_
          exact k)
        have f354 : n0 ≤ h349.size := (Nat.le_trans Z340 E349.1)
        have f355 : Keep h0 h349 [] := (f350.ext E349)
        obtain ⟨T353, h353, X353, e353, E353, A353, D353, -, st353⟩ := newO X349 hx hZ hown (hw _ (List.mem_of_getElem? (i := 1) rfl)) (hw _ (List.mem_of_getElem? (i := 2) rfl)) (hw _ (List.mem_of_getElem? (i := 3) rfl)) e349 (g := (mkF m 130 #[lv q1, sd, lv q2, sd, lv q3, sd, lv q4, sd, lv q5, sd, iv p6, iv v4, iv x6, iv (1 : Int32), iv x329, iv (0 : Int32), iv x334, iv (0 : Int32), .val r347, .val .null, rv b349, un, un, un, un, un, un, un, un, un, un] [])) rfl (hb hby at_130) (by decide) (by decide)
        obtain ⟨b353, g353⟩ : ∃ z, z = h349.size := ⟨_, rfl⟩
        rw [← g353] at A353 D353 st353
        have g_b353 : n0 ≤ b353 := Nat.le_trans f354 (Nat.le_of_eq g353.symm)
        have sz_b353 : h0.size ≤ b353 := Nat.le_trans f355.1 (Nat.le_of_eq g353.symm)
        have ne_b349_b353 : b349 ≠ b353 := Nat.ne_of_lt (Nat.lt_of_lt_of_le V349.lt (Nat.le_of_eq g353.symm))
        have F353_23 : Fld Z h353 b353 "java/util/AbstractList" "modCount" "I" (.int (0 : Int32)) := D353 (Or.inl (hw _ (List.mem_of_getElem? (i := 23) rfl))) (ty := .int) (by decide)
        have F353_26 : Fld Z h353 b353 "java/util/ArrayList" "elementData" "[Ljava/lang/Object;" .null := D353 (Or.inl (hw _ (List.mem_of_getElem? (i := 26) rfl))) (ty := (.array (.object "java/lang/Object"))) (by decide)
        have P356 : Rch p e below (s₁.setTop (entryFrame m #[(.long q1), (.long q2), (.long q3), (.long q4), (.long q5), (.int p6)] maxLocals)) (T353.setTop (mkF m 133 #[lv q1, sd, lv q2, sd, lv q3, sd, lv q4, sd, lv q5, sd, iv p6, iv v4, iv x6, iv (1 : Int32), iv x329, iv (0 : Int32), iv x334, iv (0 : Int32), .val r347, .val .null, rv b349, un, un, un, un, un, un, un, un, un, un] [(.ref b353)])) := fun t k => P352 t (st353 t k)
        have P357 : Rch p e below (s₁.setTop (entryFrame m #[(.long q1), (.long q2), (.long q3), (.long q4), (.long q5), (.int p6)] maxLocals)) (T353.setTop (mkF m 134 #[lv q1, sd, lv q2, sd, lv q3, sd, lv q4, sd, lv q5, sd, iv p6, iv v4, iv x6, iv (1 : Int32), iv x329, iv (0 : Int32), iv x334, iv (0 : Int32), .val r347, .val .null, rv b349, un, un, un, un, un, un, un, un, un, un] [(.ref b353), (.ref b353)])) := fun t k => P356 t (by
          show Steps p.tables e below (T353.setTop (mkF m 133 #[lv q1, sd, lv q2, sd, lv q3, sd, lv q4, sd, lv q5, sd, iv p6, iv v4, iv x6, iv (1 : Int32), iv x329, iv (0 : Int32), iv x334, iv (0 : Int32), .val r347, .val .null, rv b349, un, un, un, un, un, un, un, un, un, un] [(.ref b353)])) t
          refine XS.dup X353.here hx rfl (hb hby at_133) rfl rfl ?_
          exact k)
        have f359 : Old Z n0 h353 := (((O0.keep K340 all0).ext E349).ext E353)
        have f360 : n0 ≤ h353.size := (Nat.le_trans f354 E353.1)
        obtain ⟨_, _, ⟨T358, L358, k358, n358⟩, -, X358, ⟨Lc358, hQ358, l358, y358, z358⟩, st358⟩ := X353.specialBack hx (y := (⟨"java/util/ArrayList", "<init>", "()V"⟩ : MethodName)) rfl hown (mvT hZ (hw _ (List.mem_of_getElem? (i := 4) rfl))) (mvT hZ (hw _ (List.mem_of_getElem? (i := 5) rfl))) (mvT hZ (hw _ (List.mem_of_getElem? (i := 6) rfl))) (by decide) (backOf (W := 1) (rmAL l Z a0 hw [] b353 aD h353 n0 f360 f359 Sd A353 g_b353 F353_23 F353_26) hZ (hw _ (List.mem_of_getElem? (i := 6) rfl)) (hw _ (List.mem_of_getElem? (i := 3) rfl)) (by decide) (by decide)) (g := (mkF m 134 #[lv q1, sd, lv q2, sd, lv q3, sd, lv q4, sd, lv q5, sd, iv p6, iv v4, iv x6, iv (1 : Int32), iv x329, iv (0 : Int32), iv x334, iv (0 : Int32), .val r347, .val .null, rv b349, un, un, un, un, un, un, un, un, un, un] [(.ref b353), (.ref b353)])) rfl (by rw [hml]; rfl) (Steps.refl _) (a := b353) (argsL := []) (rest := [(.ref b353)]) (lenOf pd_0 rfl) rfl (by show 2 * 0 + _ ≤ _; exact Nat.le_of_eq rfl) (hb hby at_134) (fun _ _ => ⟨rfl, e353, (by decide : 3 + 0 ≤ _), (by decide : 9 + 0 ≤ _)⟩)
        dsimp only [Pt.U, Pt.locs, Pt.cells, Pt.slots] at X358 l358 y358 z358 st358 hQ358
        subst y358 z358
        obtain ⟨rfl, N358q, K358, E_358⟩ := hQ358
        have N358 : Fr n0 L358 := by rw [l358]; exact Fr.app N340 N358q
        have P361 : Rch p e below (s₁.setTop (entryFrame m #[(.long q1), (.long q2), (.long q3), (.long q4), (.long q5), (.int p6)] maxLocals)) (T358.setTop (mkF m 137 #[lv q1, sd, lv q2, sd, lv q3, sd, lv q4, sd, lv q5, sd, iv p6, iv v4, iv x6, iv (1 : Int32), iv x329, iv (0 : Int32), iv x334, iv (0 : Int32), .val r347, .val .null, rv b349, un, un, un, un, un, un, un, un, un, un] [(.ref b353)])) := fun t k => P357 t (st358.trans k)
        have P362 : Rch p e below (s₁.setTop (entryFrame m #[(.long q1), (.long q2), (.long q3), (.long q4), (.long q5), (.int p6)] maxLocals)) (T358.setTop (mkF m 139 #[lv q1, sd, lv q2, sd, lv q3, sd, lv q4, sd, lv q5, sd, iv p6, iv v4, iv x6, iv (1 : Int32), iv x329, iv (0 : Int32), iv x334, iv (0 : Int32), .val r347, .val .null, rv b349, rv b353, un, un, un, un, un, un, un, un, un] [])) := fun t k => P361 t (by
          show Steps p.tables e below (T358.setTop (mkF m 137 #[lv q1, sd, lv q2, sd, lv q3, sd, lv q4, sd, lv q5, sd, iv p6, iv v4, iv x6, iv (1 : Int32), iv x329, iv (0 : Int32), iv x334, iv (0 : Int32), .val r347, .val .null, rv b349, un, un, un, un, un, un, un, un, un, un] [(.ref b353)])) t
          refine XS.astore X358.here hx rfl (hb hby at_137) rfl rfl (l' := #[lv q1, sd, lv q2, sd, lv q3, sd, lv q4, sd, lv q5, sd, iv p6, iv v4, iv x6, iv (1 : Int32), iv x329, iv (0 : Int32), iv x334, iv (0 : Int32), .val r347, .val .null, rv b349, rv b353, un, un, un, un, un, un, un, un, un]) rfl ?_
          exact k)
        have f364 : n0 ≤ T358.heap.size := (Nat.le_trans f360 K358.1)
        have f365 : Keep h0 T358.heap [] := ((f355.ext E353).trans K358 (allS (P := fun x => x ∈ [] ∨ h0.size ≤ x) (Or.inr sz_b353) all0))
        obtain ⟨T363, h363, X363, e363, E363, A363, D363, -, st363⟩ := newO X358 hx hZ hown (hw _ (List.mem_of_getElem? (i := 27) rfl)) (hw _ (List.mem_of_getElem? (i := 28) rfl)) (hw _ (List.mem_of_getElem? (i := 29) rfl)) rfl (g := (mkF m 139 #[lv q1, sd, lv q2, sd, lv q3, sd, lv q4, sd, lv q5, sd, iv p6, iv v4, iv x6, iv (1 : Int32), iv x329, iv (0 : Int32), iv x334, iv (0 : Int32), .val r347, .val .null, rv b349, rv b353, un, un, un, un, un, un, un, un, un] [])) rfl (hb hby at_139) (by decide) (by decide)
        obtain ⟨b363, g363⟩ : ∃ z, z = T358.heap.size := ⟨_, rfl⟩
        rw [← g363] at A363 D363 st363
        have g_b363 : n0 ≤ b363 := Nat.le_trans f364 (Nat.le_of_eq g363.symm)
        have sz_b363 : h0.size ≤ b363 := Nat.le_trans f365.1 (Nat.le_of_eq g363.symm)
        have ne_b349_b363 : b349 ≠ b363 := Nat.ne_of_lt (Nat.lt_of_lt_of_le ((V349.ext E353).keep K358 (ninS ne_b349_b353 nin0)).lt (Nat.le_of_eq g363.symm))
        have ne_b353_b363 : b353 ≠ b363 := Nat.ne_of_lt (Nat.lt_of_lt_of_le (A353.keep K358).lt (Nat.le_of_eq g363.symm))
        have F363_68 : Fld Z h363 b363 "com/example/usher/usher/core/Node" "children" "Ljava/util/Set;" .null := D363 (Or.inr (hw _ (List.mem_of_getElem? (i := 68) rfl))) (ty := (.object "java/util/Set")) (by decide)
        have F363_70 : Fld Z h363 b363 "com/example/usher/usher/core/Node" "czxid" "J" (.long (0 : Int64)) := D363 (Or.inr (hw _ (List.mem_of_getElem? (i := 70) rfl))) (ty := .long) (by decide)
        have F363_72 : Fld Z h363 b363 "com/example/usher/usher/core/Node" "ctime" "J" (.long (0 : Int64)) := D363 (Or.inr (hw _ (List.mem_of_getElem? (i := 72) rfl))) (ty := .long) (by decide)
        have F363_74 : Fld Z h363 b363 "com/example/usher/usher/core/Node" "ephemeralOwner" "J" (.long (0 : Int64)) := D363 (Or.inr (hw _ (List.mem_of_getElem? (i := 74) rfl))) (ty := .long) (by decide)
        have F363_76 : Fld Z h363 b363 "com/example/usher/usher/core/Node" "data" "[B" .null := D363 (Or.inl (hw _ (List.mem_of_getElem? (i := 76) rfl))) (ty := (.array .byte)) (by decide)
        have F363_78 : Fld Z h363 b363 "com/example/usher/usher/core/Node" "acl" "Ljava/util/List;" .null := D363 (Or.inl (hw _ (List.mem_of_getElem? (i := 78) rfl))) (ty := (.object "java/util/List")) (by decide)
        have F363_80 : Fld Z h363 b363 "com/example/usher/usher/core/Node" "mzxid" "J" (.long (0 : Int64)) := D363 (Or.inl (hw _ (List.mem_of_getElem? (i := 80) rfl))) (ty := .long) (by decide)
        have F363_82 : Fld Z h363 b363 "com/example/usher/usher/core/Node" "mtime" "J" (.long (0 : Int64)) := D363 (Or.inl (hw _ (List.mem_of_getElem? (i := 82) rfl))) (ty := .long) (by decide)
        have F363_84 : Fld Z h363 b363 "com/example/usher/usher/core/Node" "pzxid" "J" (.long (0 : Int64)) := D363 (Or.inl (hw _ (List.mem_of_getElem? (i := 84) rfl))) (ty := .long) (by decide)
        have F363_91 : Fld Z h363 b363 "com/example/usher/usher/core/Node" "version" "I" (.int (0 : Int32)) := D363 (Or.inl (hw _ (List.mem_of_getElem? (i := 91) rfl))) (ty := .int) (by decide)
        have F363_101 : Fld Z h363 b363 "com/example/usher/usher/core/Node" "cversion" "I" (.int (0 : Int32)) := D363 (Or.inl (hw _ (List.mem_of_getElem? (i := 101) rfl))) (ty := .int) (by decide)
        have F363_103 : Fld Z h363 b363 "com/example/usher/usher/core/Node" "aversion" "I" (.int (0 : Int32)) := D363 (Or.inl (hw _ (List.mem_of_getElem? (i := 103) rfl))) (ty := .int) (by decide)
        have P366 : Rch p e below (s₁.setTop (entryFrame m #[(.long q1), (.long q2), (.long q3), (.long q4), (.long q5), (.int p6)] maxLocals)) (T363.setTop (mkF m 142 #[lv q1, sd, lv q2, sd, lv q3, sd, lv q4, sd, lv q5, sd, iv p6, iv v4, iv x6, iv (1 : Int32), iv x329, iv (0 : Int32), iv x334, iv (0 : Int32), .val r347, .val .null, rv b349, rv b353, un, un, un, un, un, un, un, un, un] [(.ref b363)])) := fun t k => P362 t (st363 t k)
        have P367 : Rch p e below (s₁.setTop (entryFrame m #[(.long q1), (.long q2), (.long q3), (.long q4), (.long q5), (.int p6)] maxLocals)) (T363.setTop (mkF m 150 #[lv q1, sd, lv q2, sd, lv q3, sd, lv q4, sd, lv q5, sd, iv p6, iv v4, iv x6, iv (1 : Int32), iv x329, iv (0 : Int32), iv x334, iv (0 : Int32), .val r347, .val .null, rv b349, rv b353, un, un, un, un, un, un, un, un, un] [(.long q2), (.long q1), (.long (0 : Int64)), (.ref b353), r347, (.ref b363), (.ref b363)])) := fun t k => P366 t (by
          show Steps p.tables e below (T363.setTop (mkF m 142 #[lv q1, sd, lv q2, sd, lv q3, sd, lv q4, sd, lv q5, sd, iv p6, iv v4, iv x6, iv (1 : Int32), iv x329, iv (0 : Int32), iv x334, iv (0 : Int32), .val r347, .val .null, rv b349, rv b353, un, un, un, un, un, un, un, un, un] [(.ref b363)])) t
          refine XS.dup X363.here hx rfl (hb hby at_142) rfl rfl ?_
          refine XS.aload X363.here hx rfl (hb hby at_143) rfl hr347 ?_
          refine XS.aload X363.here hx rfl (hb hby at_145) rfl rfl ?_
          show Steps p.tables e below (T363.setTop (mkF m 147 #[lv q1, sd, lv q2, sd, lv q3, sd, lv q4, sd, lv q5, sd, iv p6, iv v4, iv x6, iv (1 : Int32), iv x329, iv (0 : Int32), iv x334, iv (0 : Int32), .val r347, .val .null, rv b349, rv b353, un, un, un, un, un, un, un, un, un] [(.ref b353), r347, (.ref b363), (.ref b363)])) t
          refine XS.lconst X363.here hx rfl (hb hby at_147) ?_
          refine XS.lloadN X363.here hx rfl (hb hby at_148) rfl ?_
          refine XS.lloadN X363.here hx rfl (hb hby at_149) rfl ?_
          exact k)
        have f369 : n0 ≤ h363.size := (Nat.le_trans f364 E363.1)
        obtain ⟨_, _, ⟨T368, L368, k368, n368⟩, -, X368, ⟨Lc368, hQ368, l368, y368, z368⟩, st368⟩ := X363.specialBack hx (y := (⟨"com/example/usher/usher/core/Node", "<init>", "([BLjava/util/List;JJJ)V"⟩ : MethodName)) rfl hown (mvT hZ (hw _ (List.mem_of_getElem? (i := 30) rfl))) (mvT hZ (hw _ (List.mem_of_getElem? (i := 31) rfl))) (mvT hZ (hw _ (List.mem_of_getElem? (i := 32) rfl))) (by decide) (backOf (W := 1) (rmND l Z a0 hw [] b363 r347 b353 (0 : Int64) q1 q2 h363 n0 f369 hr347 A363 g_b363 F363_68 F363_70 F363_72 F363_74 F363_76 F363_78 F363_80 F363_82 F363_84 F363_91 F363_101 F363_103) hZ (hw _ (List.mem_of_getElem? (i := 32) rfl)) (hw _ (List.mem_of_getElem? (i := 29) rfl)) (by decide) (by decide)) (g := (mkF m 150 #[lv q1, sd, lv q2, sd, lv q3, sd, lv q4, sd, lv q5, sd, iv p6, iv v4, iv x6, iv (1 : Int32), iv x329, iv (0 : Int32), iv x334, iv (0 : Int32), .val r347, .val .null, rv b349, rv b353, un, un, un, un, un, un, un, un, un] [(.long q2), (.long q1), (.long (0 : Int64)), (.ref b353), r347, (.ref b363), (.ref b363)])) rfl (by rw [hml]; rfl) (Steps.refl _) (a := b363) (argsL := [r347, (.ref b353), (.long (0 : Int64)), (.long q1), (.long q2)]) (rest := [(.ref b363)]) (lenOf pd_3 rfl) rfl (by show 2 * 0 + _ ≤ _; exact Nat.le_of_eq rfl) (hb hby at_150) (fun _ _ => ⟨rfl, e363, (by decide : 4 + 2 ≤ _), (by decide : 22 + 9 ≤ _)⟩)
        dsimp only [Pt.U, Pt.locs, Pt.cells, Pt.slots] at X368 l368 y368 z368 st368 hQ368
        subst y368 z368
        have f370 : Arv Z h363 b349 k349 .byte x334 [] (.int (0 : Int32)) := (((V349.ext E353).keep K358 (ninS ne_b349_b353 nin0)).ext E363)
        have f371 : Keep h0 h363 [] := (f365.ext E363)
        obtain ⟨c__368, m__368, rfl, N368q, K368, Fc_368, Fm_368, E_368, G0_368, G1_368, G2_368, G3_368, G4_368, G5_368, G6_368, G7_368, G8_368, G9_368, G10_368, G11_368, Ec_368, Gc_368, Em_368, Gm_368⟩ := hQ368
        have N368 : Fr n0 L368 := by rw [l368]; exact Fr.app N358 N368q
        have g_c__368 : n0 ≤ c__368 := Nat.le_trans f369 Fc_368
        have sz_c__368 : h0.size ≤ c__368 := Nat.le_trans f371.1 Fc_368
        have ne_b349_c__368 : b349 ≠ c__368 := Nat.ne_of_lt (Nat.lt_of_lt_of_le f370.lt Fc_368)
        have ne_b353_c__368 : b353 ≠ c__368 := Nat.ne_of_lt (Nat.lt_of_lt_of_le ((A353.keep K358).ext E363).lt Fc_368)
        have ne_b363_c__368 : b363 ≠ c__368 := Nat.ne_of_lt (Nat.lt_of_lt_of_le A363.lt Fc_368)
        have g_m__368 : n0 ≤ m__368 := Nat.le_trans f369 Fm_368
        have sz_m__368 : h0.size ≤ m__368 := Nat.le_trans f371.1 Fm_368
        have ne_b349_m__368 : b349 ≠ m__368 := Nat.ne_of_lt (Nat.lt_of_lt_of_le f370.lt Fm_368)
        have ne_b353_m__368 : b353 ≠ m__368 := Nat.ne_of_lt (Nat.lt_of_lt_of_le ((A353.keep K358).ext E363).lt Fm_368)
        have ne_b363_m__368 : b363 ≠ m__368 := Nat.ne_of_lt (Nat.lt_of_lt_of_le A363.lt Fm_368)
        have P372 : Rch p e below (s₁.setTop (entryFrame m #[(.long q1), (.long q2), (.long q3), (.long q4), (.long q5), (.int p6)] maxLocals)) (T368.setTop (mkF m 153 #[lv q1, sd, lv q2, sd, lv q3, sd, lv q4, sd, lv q5, sd, iv p6, iv v4, iv x6, iv (1 : Int32), iv x329, iv (0 : Int32), iv x334, iv (0 : Int32), .val r347, .val .null, rv b349, rv b353, un, un, un, un, un, un, un, un, un] [(.ref b363)])) := fun t k => P367 t (st368.trans k)
        have P373 : Rch p e below (s₁.setTop (entryFrame m #[(.long q1), (.long q2), (.long q3), (.long q4), (.long q5), (.int p6)] maxLocals)) (T368.setTop (mkF m 163 #[lv q1, sd, lv q2, sd, lv q3, sd, lv q4, sd, lv q5, sd, iv p6, iv v4, iv x6, iv (1 : Int32), iv x329, iv (0 : Int32), iv x334, iv (0 : Int32), .val r347, .val .null, rv b349, rv b353, rv b363, un, un, un, un, un, un, un, un] [(.long q4), (.long q3), .null, (.ref b363)])) := fun t k => P372 t (by
          show Steps p.tables e below (T368.setTop (mkF m 153 #[lv q1, sd, lv q2, sd, lv q3, sd, lv q4, sd, lv q5, sd, iv p6, iv v4, iv x6, iv (1 : Int32), iv x329, iv (0 : Int32), iv x334, iv (0 : Int32), .val r347, .val .null, rv b349, rv b353, un, un, un, un, un, un, un, un, un] [(.ref b363)])) t
          refine XS.astore X368.here hx rfl (hb hby at_153) rfl rfl (l' := #[lv q1, sd, lv q2, sd, lv q3, sd, lv q4, sd, lv q5, sd, iv p6, iv v4, iv x6, iv (1 : Int32), iv x329, iv (0 : Int32), iv x334, iv (0 : Int32), .val r347, .val .null, rv b349, rv b353, rv b363, un, un, un, un, un, un, un, un]) rfl ?_
          refine XS.aload X368.here hx rfl (hb hby at_155) rfl rfl ?_
          refine XS.aload X368.here hx rfl (hb hby at_157) rfl rfl ?_
          show Steps p.tables e below (T368.setTop (mkF m 159 #[lv q1, sd, lv q2, sd, lv q3, sd, lv q4, sd, lv q5, sd, iv p6, iv v4, iv x6, iv (1 : Int32), iv x329, iv (0 : Int32), iv x334, iv (0 : Int32), .val r347, .val .null, rv b349, rv b353, rv b363, un, un, un, un, un, un, un, un] [.null, (.ref b363)])) t
          refine XS.lload X368.here hx rfl (hb hby at_159) rfl ?_
          refine XS.lload X368.here hx rfl (hb hby at_161) rfl ?_
          exact k)
        have f375 : n0 ≤ T368.heap.size := (Nat.le_trans f369 K368.1)
        obtain ⟨cq374, kq374, q374a, q374b, q374c⟩ := isOf hZ rfl E_368
        obtain ⟨_, _, ⟨T374, L374, k374, n374⟩, -, X374, ⟨Lc374, hQ374, l374, y374, z374⟩, st374⟩ := X368.virtualBack hx (y := (⟨"com/example/usher/usher/core/Node", "setData", "([BJJ)V"⟩ : MethodName)) (z := (⟨"com/example/usher/usher/core/Node", "setData", "([BJJ)V"⟩ : MethodName)) hown (mvT hZ (hw _ (List.mem_of_getElem? (i := 85) rfl))) (mvT hZ (hw _ (List.mem_of_getElem? (i := 86) rfl))) (notFace_of_selects (args := #[]) (mvT hZ (hw _ (List.mem_of_getElem? (i := 88) rfl)))) (mvT hZ (hw _ (List.mem_of_getElem? (i := 88) rfl))) (mvT hZ (hw _ (List.mem_of_getElem? (i := 87) rfl))) (by decide) (backOf (W := 0) (rmSD l Z a0 hw [] b363 .null q3 q4 c__368 q1 q2 (0 : Int64) r347 b353 q1 q2 q1 (0 : Int32) (0 : Int32) (0 : Int32) T368.heap n0 f375 rfl E_368 g_b363 G0_368 G1_368 G2_368 G3_368 G4_368 G5_368 G6_368 G7_368 G8_368 G9_368 G10_368 G11_368) hZ (hw _ (List.mem_of_getElem? (i := 89) rfl)) (hw _ (List.mem_of_getElem? (i := 29) rfl)) (by decide) (by decide)) q374a q374c (g := (mkF m 163 #[lv q1, sd, lv q2, sd, lv q3, sd, lv q4, sd, lv q5, sd, iv p6, iv v4, iv x6, iv (1 : Int32), iv x329, iv (0 : Int32), iv x334, iv (0 : Int32), .val r347, .val .null, rv b349, rv b353, rv b363, un, un, un, un, un, un, un, un] [(.long q4), (.long q3), .null, (.ref b363)])) rfl (by rw [hml]; rfl) (Steps.refl _) (argsL := [.null, (.long q3), (.long q4)]) (rest := []) (lenOf pd_4 rfl) rfl (by show 2 * 0 + _ ≤ _; exact Nat.le_of_eq rfl) (hb hby at_163) (fun _ _ => ⟨rfl, rfl, (by decide : 6 + 0 ≤ _), (by decide : 31 + 0 ≤ _)⟩)
        dsimp only [Pt.U, Pt.locs, Pt.cells, Pt.slots] at X374 l374 y374 z374 st374 hQ374
        subst y374 z374
        obtain ⟨rfl, N374q, K374, E_374, G0_374, G1_374, G2_374, G3_374, G4_374, G5_374, G6_374, G7_374, G8_374, G9_374, G10_374, G11_374⟩ := hQ374
        have N374 : Fr n0 L374 := by rw [l374]; exact Fr.app N368 N374q
        have P376 : Rch p e below (s₁.setTop (entryFrame m #[(.long q1), (.long q2), (.long q3), (.long q4), (.long q5), (.int p6)] maxLocals)) (T374.setTop (mkF m 166 #[lv q1, sd, lv q2, sd, lv q3, sd, lv q4, sd, lv q5, sd, iv p6, iv v4, iv x6, iv (1 : Int32), iv x329, iv (0 : Int32), iv x334, iv (0 : Int32), .val r347, .val .null, rv b349, rv b353, rv b363, un, un, un, un, un, un, un, un] [])) := fun t k => P373 t (st374.trans k)
        have P377 : Rch p e below (s₁.setTop (entryFrame m #[(.long q1), (.long q2), (.long q3), (.long q4), (.long q5), (.int p6)] maxLocals)) (T374.setTop (mkF m 183 #[lv q1, sd, lv q2, sd, lv q3, sd, lv q4, sd, lv q5, sd, iv p6, iv v4, iv x6, iv (1 : Int32), iv x329, iv (0 : Int32), iv x334, iv (0 : Int32), .val r347, .val .null, rv b349, rv b353, rv b363, un, un, un, un, un, un, un, un] [(.ref b363)])) := fun t k => P376 t (by
          show Steps p.tables e below (T374.setTop (mkF m 166 #[lv q1, sd, lv q2, sd, lv q3, sd, lv q4, sd, lv q5, sd, iv p6, iv v4, iv x6, iv (1 : Int32), iv x329, iv (0 : Int32), iv x334, iv (0 : Int32), .val r347, .val .null, rv b349, rv b353, rv b363, un, un, un, un, un, un, un, un] [])) t
          refine XS.iload X374.here hx rfl (hb hby at_166) rfl ?_
          refine XS.ifYes X374.here hx rfl (pc0 := 168) (pc' := 181) rfl (hb hby at_168) rfl ((if0 _ _).trans (teq (by decide)).1) (by decide) (by decide) ?_
          refine XS.aload X374.here hx rfl (hb hby at_181) rfl rfl ?_
          exact k)
        have f379 : n0 ≤ T374.heap.size := (Nat.le_trans f375 K374.1)
        obtain ⟨cq378, kq378, q378a, q378b, q378c⟩ := isOf hZ rfl E_374
        obtain ⟨_, _, ⟨T378, L378, k378, n378⟩, -, X378, ⟨Lc378, hQ378, l378, y378, z378⟩, st378⟩ := X374.virtualBack hx (y := (⟨"com/example/usher/usher/core/Node", "stat", "()Lcom/example/usher/usher/protocol/Stat;"⟩ : MethodName)) (z := (⟨"com/example/usher/usher/core/Node", "stat", "()Lcom/example/usher/usher/protocol/Stat;"⟩ : MethodName)) hown (mvT hZ (hw _ (List.mem_of_getElem? (i := 92) rfl))) (mvT hZ (hw _ (List.mem_of_getElem? (i := 93) rfl))) (notFace_of_selects (args := #[]) (mvT hZ (hw _ (List.mem_of_getElem? (i := 95) rfl)))) (mvT hZ (hw _ (List.mem_of_getElem? (i := 95) rfl))) (mvT hZ (hw _ (List.mem_of_getElem? (i := 94) rfl))) (by decide) (backOf (W := 0) (rmS0 l Z a0 hw [] b363 c__368 q1 q2 (0 : Int64) b353 q3 q4 q1 ((0 : Int32) + (1 : Int32)) (0 : Int32) (0 : Int32) m__368 T374.heap n0 f379 E_374 G0_374 G1_374 G2_374 G3_374 G4_374 G5_374 G6_374 G7_374 G8_374 G9_374 G10_374 G11_374 (Ec_368.keep K374) (Gc_368.keep K374 (ninS (Ne.symm ne_b363_c__368) nin0)) (Em_368.keep K374) (Gm_368.keep K374 (ninS (Ne.symm ne_b363_m__368) nin0))) hZ (hw _ (List.mem_of_getElem? (i := 96) rfl)) (hw _ (List.mem_of_getElem? (i := 29) rfl)) (by decide) (by decide)) q378a q378c (g := (mkF m 183 #[lv q1, sd, lv q2, sd, lv q3, sd, lv q4, sd, lv q5, sd, iv p6, iv v4, iv x6, iv (1 : Int32), iv x329, iv (0 : Int32), iv x334, iv (0 : Int32), .val r347, .val .null, rv b349, rv b353, rv b363, un, un, un, un, un, un, un, un] [(.ref b363)])) rfl (by rw [hml]; rfl) (Steps.refl _) (argsL := []) (rest := []) (lenOf pd_5 rfl) rfl (by show 2 * 0 + _ ≤ _; exact Nat.le_of_eq rfl) (hb hby at_183) (fun _ _ => ⟨rfl, rfl, (by decide : 6 + 1 ≤ _), (by decide : 31 + 11 ≤ _)⟩)
        dsimp only [Pt.U, Pt.locs, Pt.cells, Pt.slots] at X378 l378 y378 z378 st378 hQ378
        subst y378 z378
        have f380 : Arv Z T374.heap b349 k349 .byte x334 [] (.int (0 : Int32)) := ((f370.keep K368 (ninS ne_b349_b363 nin0)).keep K374 (ninS ne_b349_b363 nin0))
        have f381 : Keep h0 T374.heap [] := ((f371.trans K368 (allS (P := fun x => x ∈ [] ∨ h0.size ≤ x) (Or.inr sz_b363) all0)).trans K374 (allS (P := fun x => x ∈ [] ∨ h0.size ≤ x) (Or.inr sz_b363) all0))
        obtain ⟨t__378, rfl, N378q, K378, Ft_378, Et_378, G_mzxid_378, G_ctime_378, G_mtime_378, G_version_378, G_dataLength_378, G_pzxid_378⟩ := hQ378
        have N378 : Fr n0 L378 := by rw [l378]; exact Fr.app N374 N378q
        have g_t__378 : n0 ≤ t__378 := Nat.le_trans f379 Ft_378
        have sz_t__378 : h0.size ≤ t__378 := Nat.le_trans f381.1 Ft_378
        have ne_b349_t__378 : b349 ≠ t__378 := Nat.ne_of_lt (Nat.lt_of_lt_of_le f380.lt Ft_378)
        have ne_b353_t__378 : b353 ≠ t__378 := Nat.ne_of_lt (Nat.lt_of_lt_of_le ((((A353.keep K358).ext E363).keep K368).keep K374).lt Ft_378)
        have ne_b363_t__378 : b363 ≠ t__378 := Nat.ne_of_lt (Nat.lt_of_lt_of_le ((A363.keep K368).keep K374).lt Ft_378)
        have ne_c__368_t__378 : c__368 ≠ t__378 := Nat.ne_of_lt (Nat.lt_of_lt_of_le (Ec_368.keep K374).lt Ft_378)
        have ne_m__368_t__378 : m__368 ≠ t__378 := Nat.ne_of_lt (Nat.lt_of_lt_of_le (Em_368.keep K374).lt Ft_378)
        have P382 : Rch p e below (s₁.setTop (entryFrame m #[(.long q1), (.long q2), (.long q3), (.long q4), (.long q5), (.int p6)] maxLocals)) (T378.setTop (mkF m 186 #[lv q1, sd, lv q2, sd, lv q3, sd, lv q4, sd, lv q5, sd, iv p6, iv v4, iv x6, iv (1 : Int32), iv x329, iv (0 : Int32), iv x334, iv (0 : Int32), .val r347, .val .null, rv b349, rv b353, rv b363, un, un, un, un, un, un, un, un] [(.ref t__378)])) := fun t k => P377 t (st378.trans k)
        have P383 : Rch p e below (s₁.setTop (entryFrame m #[(.long q1), (.long q2), (.long q3), (.long q4), (.long q5), (.int p6)] maxLocals)) (T378.setTop (mkF m 277 #[lv q1, sd, lv q2, sd, lv q3, sd, lv q4, sd, lv q5, sd, iv p6, iv v4, iv x6, iv (1 : Int32), iv x329, iv (0 : Int32), iv x334, iv (0 : Int32), .val r347, .val .null, rv b349, rv b353, rv b363, rv t__378, .val .null, lv q3, sd, lv q4, sd, iv (1 : Int32), iv (0 : Int32)] [(.ref b363)])) := fun t k => P382 t (by
          show Steps p.tables e below (T378.setTop (mkF m 186 #[lv q1, sd, lv q2, sd, lv q3, sd, lv q4, sd, lv q5, sd, iv p6, iv v4, iv x6, iv (1 : Int32), iv x329, iv (0 : Int32), iv x334, iv (0 : Int32), .val r347, .val .null, rv b349, rv b353, rv b363, un, un, un, un, un, un, un, un] [(.ref t__378)])) t
          refine XS.astore X378.here hx rfl (hb hby at_186) rfl rfl (l' := #[lv q1, sd, lv q2, sd, lv q3, sd, lv q4, sd, lv q5, sd, iv p6, iv v4, iv x6, iv (1 : Int32), iv x329, iv (0 : Int32), iv x334, iv (0 : Int32), .val r347, .val .null, rv b349, rv b353, rv b363, rv t__378, un, un, un, un, un, un, un]) rfl ?_
          refine XS.iload X378.here hx rfl (hb hby at_188) rfl ?_
          refine XS.ifYes X378.here hx rfl (pc0 := 190) (pc' := 198) rfl (hb hby at_190) rfl ((if0 _ _).trans (teq (by decide)).1) (by decide) (by decide) ?_
          show Steps p.tables e below (T378.setTop (mkF m 198 #[lv q1, sd, lv q2, sd, lv q3, sd, lv q4, sd, lv q5, sd, iv p6, iv v4, iv x6, iv (1 : Int32), iv x329, iv (0 : Int32), iv x334, iv (0 : Int32), .val r347, .val .null, rv b349, rv b353, rv b363, rv t__378, un, un, un, un, un, un, un] [])) t
          refine XS.aload X378.here hx rfl (hb hby at_198) rfl rfl ?_
          refine XS.astore X378.here hx rfl (hb hby at_200) rfl rfl (l' := #[lv q1, sd, lv q2, sd, lv q3, sd, lv q4, sd, lv q5, sd, iv p6, iv v4, iv x6, iv (1 : Int32), iv x329, iv (0 : Int32), iv x334, iv (0 : Int32), .val r347, .val .null, rv b349, rv b353, rv b363, rv t__378, .val .null, un, un, un, un, un, un]) rfl ?_
          refine XS.iload X378.here hx rfl (hb hby at_202) rfl ?_
          refine XS.ifYes X378.here hx rfl (pc0 := 204) (pc' := 212) rfl (hb hby at_204) rfl ((if0 _ _).trans (teq (by decide)).1) (by decide) (by decide) ?_
          show Steps p.tables e below (T378.setTop (mkF m 212 #[lv q1, sd, lv q2, sd, lv q3, sd, lv q4, sd, lv q5, sd, iv p6, iv v4, iv x6, iv (1 : Int32), iv x329, iv (0 : Int32), iv x334, iv (0 : Int32), .val r347, .val .null, rv b349, rv b353, rv b363, rv t__378, .val .null, un, un, un, un, un, un] [])) t
          refine XS.lload X378.here hx rfl (hb hby at_212) rfl ?_
          refine XS.lstore X378.here hx rfl (hb hby at_214) rfl (l' := #[lv q1, sd, lv q2, sd, lv q3, sd, lv q4, sd, lv q5, sd, iv p6, iv v4, iv x6, iv (1 : Int32), iv x329, iv (0 : Int32), iv x334, iv (0 : Int32), .val r347, .val .null, rv b349, rv b353, rv b363, rv t__378, .val .null, lv q3, sd, un, un, un, un]) rfl ?_
          refine XS.iload X378.here hx rfl (hb hby at_216) rfl ?_
          refine XS.ifYes X378.here hx rfl (pc0 := 218) (pc' := 225) rfl (hb hby at_218) rfl ((if0 _ _).trans (teq (by decide)).1) (by decide) (by decide) ?_
          show Steps p.tables e below (T378.setTop (mkF m 225 #[lv q1, sd, lv q2, sd, lv q3, sd, lv q4, sd, lv q5, sd, iv p6, iv v4, iv x6, iv (1 : Int32), iv x329, iv (0 : Int32), iv x334, iv (0 : Int32), .val r347, .val .null, rv b349, rv b353, rv b363, rv t__378, .val .null, lv q3, sd, un, un, un, un] [])) t
          refine XS.lload X378.here hx rfl (hb hby at_225) rfl ?_
          refine XS.lstore X378.here hx rfl (hb hby at_227) rfl (l' := #[lv q1, sd, lv q2, sd, lv q3, sd, lv q4, sd, lv q5, sd, iv p6, iv v4, iv x6, iv (1 : Int32), iv x329, iv (0 : Int32), iv x334, iv (0 : Int32), .val r347, .val .null, rv b349, rv b353, rv b363, rv t__378, .val .null, lv q3, sd, lv q4, sd, un, un]) rfl ?_
          refine XS.iload X378.here hx rfl (hb hby at_229) rfl ?_
          refine XS.ifYes X378.here hx rfl (pc0 := 231) (pc' := 238) rfl (hb hby at_231) rfl ((if0 _ _).trans (teq (by decide)).1) (by decide) (by decide) ?_
          show Steps p.tables e below (T378.setTop (mkF m 238 #[lv q1, sd, lv q2, sd, lv q3, sd, lv q4, sd, lv q5, sd, iv p6, iv v4, iv x6, iv (1 : Int32), iv x329, iv (0 : Int32), iv x334, iv (0 : Int32), .val r347, .val .null, rv b349, rv b353, rv b363, rv t__378, .val .null, lv q3, sd, lv q4, sd, un, un] [])) t
          refine XS.iconst X378.here hx rfl (hb hby at_238) ?_
          refine XS.istore X378.here hx rfl (hb hby at_239) rfl (l' := #[lv q1, sd, lv q2, sd, lv q3, sd, lv q4, sd, lv q5, sd, iv p6, iv v4, iv x6, iv (1 : Int32), iv x329, iv (0 : Int32), iv x334, iv (0 : Int32), .val r347, .val .null, rv b349, rv b353, rv b363, rv t__378, .val .null, lv q3, sd, lv q4, sd, iv (1 : Int32), un]) rfl ?_
          refine XS.iload X378.here hx rfl (hb hby at_241) rfl ?_
          refine XS.ifYes X378.here hx rfl (pc0 := 243) (pc' := 262) rfl (hb hby at_243) rfl ((if0 _ _).trans (teq (by decide)).1) (by decide) (by decide) ?_
          show Steps p.tables e below (T378.setTop (mkF m 262 #[lv q1, sd, lv q2, sd, lv q3, sd, lv q4, sd, lv q5, sd, iv p6, iv v4, iv x6, iv (1 : Int32), iv x329, iv (0 : Int32), iv x334, iv (0 : Int32), .val r347, .val .null, rv b349, rv b353, rv b363, rv t__378, .val .null, lv q3, sd, lv q4, sd, iv (1 : Int32), un] [])) t
          refine XS.iload X378.here hx rfl (hb hby at_262) rfl ?_
          refine XS.ifNo X378.here hx rfl (hb hby at_264) rfl ((if0 _ _).trans (feq (by decide)).1) ?_
          refine XS.iconst X378.here hx rfl (hb hby at_267) ?_
          refine XS.goto X378.here hx rfl (pc0 := 268) (pc' := 273) rfl (hb hby at_268) (by decide) (by decide) ?_
          show Steps p.tables e below (T378.setTop (mkF m 273 #[lv q1, sd, lv q2, sd, lv q3, sd, lv q4, sd, lv q5, sd, iv p6, iv v4, iv x6, iv (1 : Int32), iv x329, iv (0 : Int32), iv x334, iv (0 : Int32), .val r347, .val .null, rv b349, rv b353, rv b363, rv t__378, .val .null, lv q3, sd, lv q4, sd, iv (1 : Int32), un] [(.int (0 : Int32))])) t
          refine XS.istore X378.here hx rfl (hb hby at_273) rfl (l' := #[lv q1, sd, lv q2, sd, lv q3, sd, lv q4, sd, lv q5, sd, iv p6, iv v4, iv x6, iv (1 : Int32), iv x329, iv (0 : Int32), iv x334, iv (0 : Int32), .val r347, .val .null, rv b349, rv b353, rv b363, rv t__378, .val .null, lv q3, sd, lv q4, sd, iv (1 : Int32), iv (0 : Int32)]) rfl ?_
          refine XS.aload X378.here hx rfl (hb hby at_275) rfl rfl ?_
          exact k)
        have f385 : n0 ≤ T378.heap.size := (Nat.le_trans f379 K378.1)
        obtain ⟨cq384, kq384, q384a, q384b, q384c⟩ := isOf hZ rfl (E_374.keep K378)
        obtain ⟨_, _, ⟨T384, L384, k384, n384⟩, -, X384, ⟨Lc384, hQ384, l384, y384, z384⟩, st384⟩ := X378.virtualBack hx (y := (⟨"com/example/usher/usher/core/Node", "data", "()[B"⟩ : MethodName)) (z := (⟨"com/example/usher/usher/core/Node", "data", "()[B"⟩ : MethodName)) hown (mvT hZ (hw _ (List.mem_of_getElem? (i := 146) rfl))) (mvT hZ (hw _ (List.mem_of_getElem? (i := 147) rfl))) (notFace_of_selects (args := #[]) (mvT hZ (hw _ (List.mem_of_getElem? (i := 149) rfl)))) (mvT hZ (hw _ (List.mem_of_getElem? (i := 149) rfl))) (mvT hZ (hw _ (List.mem_of_getElem? (i := 148) rfl))) (by decide) (backOf (W := 0) (rmdt l Z a0 hw [] b363 .null T378.heap n0 f385 (G4_374.keep K378 nin0) rfl) hZ (hw _ (List.mem_of_getElem? (i := 150) rfl)) (hw _ (List.mem_of_getElem? (i := 29) rfl)) (by decide) (by decide)) q384a q384c (g := (mkF m 277 #[lv q1, sd, lv q2, sd, lv q3, sd, lv q4, sd, lv q5, sd, iv p6, iv v4, iv x6, iv (1 : Int32), iv x329, iv (0 : Int32), iv x334, iv (0 : Int32), .val r347, .val .null, rv b349, rv b353, rv b363, rv t__378, .val .null, lv q3, sd, lv q4, sd, iv (1 : Int32), iv (0 : Int32)] [(.ref b363)])) rfl (by rw [hml]; rfl) (Steps.refl _) (argsL := []) (rest := []) (lenOf pd_6 rfl) rfl (by show 2 * 0 + _ ≤ _; exact Nat.le_of_eq rfl) (hb hby at_277) (fun _ _ => ⟨rfl, rfl, (by decide : 7 + 0 ≤ _), (by decide : 42 + 0 ≤ _)⟩)
        dsimp only [Pt.U, Pt.locs, Pt.cells, Pt.slots] at X384 l384 y384 z384 st384 hQ384
        subst y384 z384
        obtain ⟨rfl, N384q, e384⟩ := hQ384
        have N384 : Fr n0 L384 := by rw [l384]; exact Fr.app N378 N384q
        have P386 : Rch p e below (s₁.setTop (entryFrame m #[(.long q1), (.long q2), (.long q3), (.long q4), (.long q5), (.int p6)] maxLocals)) (T384.setTop (mkF m 280 #[lv q1, sd, lv q2, sd, lv q3, sd, lv q4, sd, lv q5, sd, iv p6, iv v4, iv x6, iv (1 : Int32), iv x329, iv (0 : Int32), iv x334, iv (0 : Int32), .val r347, .val .null, rv b349, rv b353, rv b363, rv t__378, .val .null, lv q3, sd, lv q4, sd, iv (1 : Int32), iv (0 : Int32)] [.null])) := fun t k => P383 t (st384.trans k)
        have P387 : Rch p e below (s₁.setTop (entryFrame m #[(.long q1), (.long q2), (.long q3), (.long q4), (.long q5), (.int p6)] maxLocals)) (T384.setTop (mkF m 287 #[lv q1, sd, lv q2, sd, lv q3, sd, lv q4, sd, lv q5, sd, iv p6, iv v4, iv x6, iv (1 : Int32), iv x329, iv (0 : Int32), iv x334, iv (0 : Int32), .val r347, .val .null, rv b349, rv b353, rv b363, rv t__378, .val .null, lv q3, sd, lv q4, sd, iv (1 : Int32), iv (0 : Int32)] [(.ref t__378)])) := fun t k => P386 t (by
          show Steps p.tables e below (T384.setTop (mkF m 280 #[lv q1, sd, lv q2, sd, lv q3, sd, lv q4, sd, lv q5, sd, iv p6, iv v4, iv x6, iv (1 : Int32), iv x329, iv (0 : Int32), iv x334, iv (0 : Int32), .val r347, .val .null, rv b349, rv b353, rv b363, rv t__378, .val .null, lv q3, sd, lv q4, sd, iv (1 : Int32), iv (0 : Int32)] [.null])) t
          refine XS.aload X384.here hx rfl (hb hby at_280) rfl rfl ?_
          refine Jvm.RoadKit.acmp (g := (mkF m 282 #[lv q1, sd, lv q2, sd, lv q3, sd, lv q4, sd, lv q5, sd, iv p6, iv v4, iv x6, iv (1 : Int32), iv x329, iv (0 : Int32), iv x334, iv (0 : Int32), .val r347, .val .null, rv b349, rv b353, rv b363, rv t__378, .val .null, lv q3, sd, lv q4, sd, iv (1 : Int32), iv (0 : Int32)] [.null, .null])) X384 hx rfl rfl rfl (pc0 := 282) (pc' := 285) (same := true) rfl (hb hby at_282) rfl (decide_eq_true rfl) (by decide) (by decide) ?_
          refine XS.aload X384.here hx rfl (hb hby at_285) rfl rfl ?_
          exact k)
        obtain ⟨cq388, kq388, q388a, q388b, q388c⟩ := isOf hZ e384 Et_378
        obtain ⟨_, _, ⟨T388, L388, k388, n388⟩, -, X388, ⟨Lc388, hQ388, l388, y388, z388⟩, st388⟩ := X384.virtualBack hx (y := (⟨"com/example/usher/usher/protocol/Stat", "mzxid", "()J"⟩ : MethodName)) (z := (⟨"com/example/usher/usher/protocol/Stat", "mzxid", "()J"⟩ : MethodName)) hown (mvT hZ (hw _ (List.mem_of_getElem? (i := 151) rfl))) (mvT hZ (hw _ (List.mem_of_getElem? (i := 152) rfl))) (notFace_of_selects (args := #[]) (mvT hZ (hw _ (List.mem_of_getElem? (i := 154) rfl)))) (mvT hZ (hw _ (List.mem_of_getElem? (i := 154) rfl))) (mvT hZ (hw _ (List.mem_of_getElem? (i := 153) rfl))) (by decide) (backOf (W := 0) (rmG_mzxid l Z a0 hw [] t__378 q3 T378.heap n0 f385 G_mzxid_378) hZ (hw _ (List.mem_of_getElem? (i := 155) rfl)) (hw _ (List.mem_of_getElem? (i := 99) rfl)) (by decide) (by decide)) q388a q388c (g := (mkF m 287 #[lv q1, sd, lv q2, sd, lv q3, sd, lv q4, sd, lv q5, sd, iv p6, iv v4, iv x6, iv (1 : Int32), iv x329, iv (0 : Int32), iv x334, iv (0 : Int32), .val r347, .val .null, rv b349, rv b353, rv b363, rv t__378, .val .null, lv q3, sd, lv q4, sd, iv (1 : Int32), iv (0 : Int32)] [(.ref t__378)])) rfl (by rw [hml]; rfl) (Steps.refl _) (argsL := []) (rest := []) (lenOf pd_7 rfl) rfl (by show 2 * 0 + _ ≤ _; exact Nat.le_of_eq rfl) (hb hby at_287) (fun _ _ => ⟨rfl, e384, (by decide : 7 + 0 ≤ _), (by decide : 42 + 0 ≤ _)⟩)
        dsimp only [Pt.U, Pt.locs, Pt.cells, Pt.slots] at X388 l388 y388 z388 st388 hQ388
        subst y388 z388
        obtain ⟨rfl, N388q, e388⟩ := hQ388
        have N388 : Fr n0 L388 := by rw [l388]; exact Fr.app N384 N388q
        have P389 : Rch p e below (s₁.setTop (entryFrame m #[(.long q1), (.long q2), (.long q3), (.long q4), (.long q5), (.int p6)] maxLocals)) (T388.setTop (mkF m 290 #[lv q1, sd, lv q2, sd, lv q3, sd, lv q4, sd, lv q5, sd, iv p6, iv v4, iv x6, iv (1 : Int32), iv x329, iv (0 : Int32), iv x334, iv (0 : Int32), .val r347, .val .null, rv b349, rv b353, rv b363, rv t__378, .val .null, lv q3, sd, lv q4, sd, iv (1 : Int32), iv (0 : Int32)] [(.long q3)])) := fun t k => P387 t (st388.trans k)
        have P390 : Rch p e below (s₁.setTop (entryFrame m #[(.long q1), (.long q2), (.long q3), (.long q4), (.long q5), (.int p6)] maxLocals)) (T388.setTop (mkF m 298 #[lv q1, sd, lv q2, sd, lv q3, sd, lv q4, sd, lv q5, sd, iv p6, iv v4, iv x6, iv (1 : Int32), iv x329, iv (0 : Int32), iv x334, iv (0 : Int32), .val r347, .val .null, rv b349, rv b353, rv b363, rv t__378, .val .null, lv q3, sd, lv q4, sd, iv (1 : Int32), iv (0 : Int32)] [(.ref t__378)])) := fun t k => P389 t (by
          show Steps p.tables e below (T388.setTop (mkF m 290 #[lv q1, sd, lv q2, sd, lv q3, sd, lv q4, sd, lv q5, sd, iv p6, iv v4, iv x6, iv (1 : Int32), iv x329, iv (0 : Int32), iv x334, iv (0 : Int32), .val r347, .val .null, rv b349, rv b353, rv b363, rv t__378, .val .null, lv q3, sd, lv q4, sd, iv (1 : Int32), iv (0 : Int32)] [(.long q3)])) t
          refine XS.lload X388.here hx rfl (hb hby at_290) rfl ?_
          refine XS.lcmp X388.here hx rfl (hb hby at_292) rfl ?_
          refine XS.ifNo X388.here hx rfl (hb hby at_293) rfl ((if0 _ _).trans (teq ((lw_eq q3 q3).mpr rfl)).2) ?_
          show Steps p.tables e below (T388.setTop (mkF m 296 #[lv q1, sd, lv q2, sd, lv q3, sd, lv q4, sd, lv q5, sd, iv p6, iv v4, iv x6, iv (1 : Int32), iv x329, iv (0 : Int32), iv x334, iv (0 : Int32), .val r347, .val .null, rv b349, rv b353, rv b363, rv t__378, .val .null, lv q3, sd, lv q4, sd, iv (1 : Int32), iv (0 : Int32)] [])) t
          refine XS.aload X388.here hx rfl (hb hby at_296) rfl rfl ?_
          exact k)
        obtain ⟨cq391, kq391, q391a, q391b, q391c⟩ := isOf hZ e388 Et_378
        obtain ⟨_, _, ⟨T391, L391, k391, n391⟩, -, X391, ⟨Lc391, hQ391, l391, y391, z391⟩, st391⟩ := X388.virtualBack hx (y := (⟨"com/example/usher/usher/protocol/Stat", "mtime", "()J"⟩ : MethodName)) (z := (⟨"com/example/usher/usher/protocol/Stat", "mtime", "()J"⟩ : MethodName)) hown (mvT hZ (hw _ (List.mem_of_getElem? (i := 156) rfl))) (mvT hZ (hw _ (List.mem_of_getElem? (i := 157) rfl))) (notFace_of_selects (args := #[]) (mvT hZ (hw _ (List.mem_of_getElem? (i := 159) rfl)))) (mvT hZ (hw _ (List.mem_of_getElem? (i := 159) rfl))) (mvT hZ (hw _ (List.mem_of_getElem? (i := 158) rfl))) (by decide) (backOf (W := 0) (rmG_mtime l Z a0 hw [] t__378 q4 T378.heap n0 f385 G_mtime_378) hZ (hw _ (List.mem_of_getElem? (i := 160) rfl)) (hw _ (List.mem_of_getElem? (i := 99) rfl)) (by decide) (by decide)) q391a q391c (g := (mkF m 298 #[lv q1, sd, lv q2, sd, lv q3, sd, lv q4, sd, lv q5, sd, iv p6, iv v4, iv x6, iv (1 : Int32), iv x329, iv (0 : Int32), iv x334, iv (0 : Int32), .val r347, .val .null, rv b349, rv b353, rv b363, rv t__378, .val .null, lv q3, sd, lv q4, sd, iv (1 : Int32), iv (0 : Int32)] [(.ref t__378)])) rfl (by rw [hml]; rfl) (Steps.refl _) (argsL := []) (rest := []) (lenOf pd_7 rfl) rfl (by show 2 * 0 + _ ≤ _; exact Nat.le_of_eq rfl) (hb hby at_298) (fun _ _ => ⟨rfl, e388, (by decide : 7 + 0 ≤ _), (by decide : 42 + 0 ≤ _)⟩)
        dsimp only [Pt.U, Pt.locs, Pt.cells, Pt.slots] at X391 l391 y391 z391 st391 hQ391
        subst y391 z391
        obtain ⟨rfl, N391q, e391⟩ := hQ391
        have N391 : Fr n0 L391 := by rw [l391]; exact Fr.app N388 N391q
        have P392 : Rch p e below (s₁.setTop (entryFrame m #[(.long q1), (.long q2), (.long q3), (.long q4), (.long q5), (.int p6)] maxLocals)) (T391.setTop (mkF m 301 #[lv q1, sd, lv q2, sd, lv q3, sd, lv q4, sd, lv q5, sd, iv p6, iv v4, iv x6, iv (1 : Int32), iv x329, iv (0 : Int32), iv x334, iv (0 : Int32), .val r347, .val .null, rv b349, rv b353, rv b363, rv t__378, .val .null, lv q3, sd, lv q4, sd, iv (1 : Int32), iv (0 : Int32)] [(.long q4)])) := fun t k => P390 t (st391.trans k)
        have P393 : Rch p e below (s₁.setTop (entryFrame m #[(.long q1), (.long q2), (.long q3), (.long q4), (.long q5), (.int p6)] maxLocals)) (T391.setTop (mkF m 309 #[lv q1, sd, lv q2, sd, lv q3, sd, lv q4, sd, lv q5, sd, iv p6, iv v4, iv x6, iv (1 : Int32), iv x329, iv (0 : Int32), iv x334, iv (0 : Int32), .val r347, .val .null, rv b349, rv b353, rv b363, rv t__378, .val .null, lv q3, sd, lv q4, sd, iv (1 : Int32), iv (0 : Int32)] [(.ref t__378)])) := fun t k => P392 t (by
          show Steps p.tables e below (T391.setTop (mkF m 301 #[lv q1, sd, lv q2, sd, lv q3, sd, lv q4, sd, lv q5, sd, iv p6, iv v4, iv x6, iv (1 : Int32), iv x329, iv (0 : Int32), iv x334, iv (0 : Int32), .val r347, .val .null, rv b349, rv b353, rv b363, rv t__378, .val .null, lv q3, sd, lv q4, sd, iv (1 : Int32), iv (0 : Int32)] [(.long q4)])) t
          refine XS.lload X391.here hx rfl (hb hby at_301) rfl ?_
          refine XS.lcmp X391.here hx rfl (hb hby at_303) rfl ?_
          refine XS.ifNo X391.here hx rfl (hb hby at_304) rfl ((if0 _ _).trans (teq ((lw_eq q4 q4).mpr rfl)).2) ?_
          show Steps p.tables e below (T391.setTop (mkF m 307 #[lv q1, sd, lv q2, sd, lv q3, sd, lv q4, sd, lv q5, sd, iv p6, iv v4, iv x6, iv (1 : Int32), iv x329, iv (0 : Int32), iv x334, iv (0 : Int32), .val r347, .val .null, rv b349, rv b353, rv b363, rv t__378, .val .null, lv q3, sd, lv q4, sd, iv (1 : Int32), iv (0 : Int32)] [])) t
          refine XS.aload X391.here hx rfl (hb hby at_307) rfl rfl ?_
          exact k)
        obtain ⟨cq394, kq394, q394a, q394b, q394c⟩ := isOf hZ e391 Et_378
        obtain ⟨_, _, ⟨T394, L394, k394, n394⟩, -, X394, ⟨Lc394, hQ394, l394, y394, z394⟩, st394⟩ := X391.virtualBack hx (y := (⟨"com/example/usher/usher/protocol/Stat", "version", "()I"⟩ : MethodName)) (z := (⟨"com/example/usher/usher/protocol/Stat", "version", "()I"⟩ : MethodName)) hown (mvT hZ (hw _ (List.mem_of_getElem? (i := 161) rfl))) (mvT hZ (hw _ (List.mem_of_getElem? (i := 162) rfl))) (notFace_of_selects (args := #[]) (mvT hZ (hw _ (List.mem_of_getElem? (i := 164) rfl)))) (mvT hZ (hw _ (List.mem_of_getElem? (i := 164) rfl))) (mvT hZ (hw _ (List.mem_of_getElem? (i := 163) rfl))) (by decide) (backOf (W := 0) (rmG_version l Z a0 hw [] t__378 ((0 : Int32) + (1 : Int32)) T378.heap n0 f385 G_version_378) hZ (hw _ (List.mem_of_getElem? (i := 165) rfl)) (hw _ (List.mem_of_getElem? (i := 99) rfl)) (by decide) (by decide)) q394a q394c (g := (mkF m 309 #[lv q1, sd, lv q2, sd, lv q3, sd, lv q4, sd, lv q5, sd, iv p6, iv v4, iv x6, iv (1 : Int32), iv x329, iv (0 : Int32), iv x334, iv (0 : Int32), .val r347, .val .null, rv b349, rv b353, rv b363, rv t__378, .val .null, lv q3, sd, lv q4, sd, iv (1 : Int32), iv (0 : Int32)] [(.ref t__378)])) rfl (by rw [hml]; rfl) (Steps.refl _) (argsL := []) (rest := []) (lenOf pd_1 rfl) rfl (by show 2 * 0 + _ ≤ _; exact Nat.le_of_eq rfl) (hb hby at_309) (fun _ _ => ⟨rfl, e391, (by decide : 7 + 0 ≤ _), (by decide : 42 + 0 ≤ _)⟩)
        dsimp only [Pt.U, Pt.locs, Pt.cells, Pt.slots] at X394 l394 y394 z394 st394 hQ394
        subst y394 z394
        obtain ⟨rfl, N394q, e394⟩ := hQ394
        have N394 : Fr n0 L394 := by rw [l394]; exact Fr.app N391 N394q
        have P395 : Rch p e below (s₁.setTop (entryFrame m #[(.long q1), (.long q2), (.long q3), (.long q4), (.long q5), (.int p6)] maxLocals)) (T394.setTop (mkF m 312 #[lv q1, sd, lv q2, sd, lv q3, sd, lv q4, sd, lv q5, sd, iv p6, iv v4, iv x6, iv (1 : Int32), iv x329, iv (0 : Int32), iv x334, iv (0 : Int32), .val r347, .val .null, rv b349, rv b353, rv b363, rv t__378, .val .null, lv q3, sd, lv q4, sd, iv (1 : Int32), iv (0 : Int32)] [(.int ((0 : Int32) + (1 : Int32)))])) := fun t k => P393 t (st394.trans k)
        obtain ⟨x396, hx396⟩ : ∃ z : Int32, z = ((0 : Int32) + (1 : Int32)) := ⟨_, rfl⟩
        rw [← hx396] at P395
        have P397 : Rch p e below (s₁.setTop (entryFrame m #[(.long q1), (.long q2), (.long q3), (.long q4), (.long q5), (.int p6)] maxLocals)) (T394.setTop (mkF m 314 #[lv q1, sd, lv q2, sd, lv q3, sd, lv q4, sd, lv q5, sd, iv p6, iv v4, iv x6, iv (1 : Int32), iv x329, iv (0 : Int32), iv x334, iv (0 : Int32), .val r347, .val .null, rv b349, rv b353, rv b363, rv t__378, .val .null, lv q3, sd, lv q4, sd, iv (1 : Int32), iv (0 : Int32)] [(.int (1 : Int32)), (.int x396)])) := fun t k => P395 t (by
          show Steps p.tables e below (T394.setTop (mkF m 312 #[lv q1, sd, lv q2, sd, lv q3, sd, lv q4, sd, lv q5, sd, iv p6, iv v4, iv x6, iv (1 : Int32), iv x329, iv (0 : Int32), iv x334, iv (0 : Int32), .val r347, .val .null, rv b349, rv b353, rv b363, rv t__378, .val .null, lv q3, sd, lv q4, sd, iv (1 : Int32), iv (0 : Int32)] [(.int x396)])) t
          refine XS.iload X394.here hx rfl (hb hby at_312) rfl ?_
          exact k)
        have hvq : x396 = (1 : Int32) := by rw [hx396]; decide
        have P398 : Rch p e below (s₁.setTop (entryFrame m #[(.long q1), (.long q2), (.long q3), (.long q4), (.long q5), (.int p6)] maxLocals)) (T394.setTop (mkF m 319 #[lv q1, sd, lv q2, sd, lv q3, sd, lv q4, sd, lv q5, sd, iv p6, iv v4, iv x6, iv (1 : Int32), iv x329, iv (0 : Int32), iv x334, iv (0 : Int32), .val r347, .val .null, rv b349, rv b353, rv b363, rv t__378, .val .null, lv q3, sd, lv q4, sd, iv (1 : Int32), iv (0 : Int32)] [(.ref t__378)])) := fun t k => P397 t (by
          show Steps p.tables e below (T394.setTop (mkF m 314 #[lv q1, sd, lv q2, sd, lv q3, sd, lv q4, sd, lv q5, sd, iv p6, iv v4, iv x6, iv (1 : Int32), iv x329, iv (0 : Int32), iv x334, iv (0 : Int32), .val r347, .val .null, rv b349, rv b353, rv b363, rv t__378, .val .null, lv q3, sd, lv q4, sd, iv (1 : Int32), iv (0 : Int32)] [(.int (1 : Int32)), (.int x396)])) t
          refine XS.icmpNo X394.here hx rfl (hb hby at_314) rfl (teq hvq).2 ?_
          refine XS.aload X394.here hx rfl (hb hby at_317) rfl rfl ?_
          exact k)
        obtain ⟨cq399, kq399, q399a, q399b, q399c⟩ := isOf hZ e394 Et_378
        obtain ⟨_, _, ⟨T399, L399, k399, n399⟩, -, X399, ⟨Lc399, hQ399, l399, y399, z399⟩, st399⟩ := X394.virtualBack hx (y := (⟨"com/example/usher/usher/protocol/Stat", "dataLength", "()I"⟩ : MethodName)) (z := (⟨"com/example/usher/usher/protocol/Stat", "dataLength", "()I"⟩ : MethodName)) hown (mvT hZ (hw _ (List.mem_of_getElem? (i := 166) rfl))) (mvT hZ (hw _ (List.mem_of_getElem? (i := 167) rfl))) (notFace_of_selects (args := #[]) (mvT hZ (hw _ (List.mem_of_getElem? (i := 169) rfl)))) (mvT hZ (hw _ (List.mem_of_getElem? (i := 169) rfl))) (mvT hZ (hw _ (List.mem_of_getElem? (i := 168) rfl))) (by decide) (backOf (W := 0) (rmG_dataLength l Z a0 hw [] t__378 (0 : Int32) T378.heap n0 f385 G_dataLength_378) hZ (hw _ (List.mem_of_getElem? (i := 170) rfl)) (hw _ (List.mem_of_getElem? (i := 99) rfl)) (by decide) (by decide)) q399a q399c (g := (mkF m 319 #[lv q1, sd, lv q2, sd, lv q3, sd, lv q4, sd, lv q5, sd, iv p6, iv v4, iv x6, iv (1 : Int32), iv x329, iv (0 : Int32), iv x334, iv (0 : Int32), .val r347, .val .null, rv b349, rv b353, rv b363, rv t__378, .val .null, lv q3, sd, lv q4, sd, iv (1 : Int32), iv (0 : Int32)] [(.ref t__378)])) rfl (by rw [hml]; rfl) (Steps.refl _) (argsL := []) (rest := []) (lenOf pd_1 rfl) rfl (by show 2 * 0 + _ ≤ _; exact Nat.le_of_eq rfl) (hb hby at_319) (fun _ _ => ⟨rfl, e394, (by decide : 7 + 0 ≤ _), (by decide : 42 + 0 ≤ _)⟩)
        dsimp only [Pt.U, Pt.locs, Pt.cells, Pt.slots] at X399 l399 y399 z399 st399 hQ399
        subst y399 z399
        obtain ⟨rfl, N399q, e399⟩ := hQ399
        have N399 : Fr n0 L399 := by rw [l399]; exact Fr.app N394 N399q
        have P400 : Rch p e below (s₁.setTop (entryFrame m #[(.long q1), (.long q2), (.long q3), (.long q4), (.long q5), (.int p6)] maxLocals)) (T399.setTop (mkF m 322 #[lv q1, sd, lv q2, sd, lv q3, sd, lv q4, sd, lv q5, sd, iv p6, iv v4, iv x6, iv (1 : Int32), iv x329, iv (0 : Int32), iv x334, iv (0 : Int32), .val r347, .val .null, rv b349, rv b353, rv b363, rv t__378, .val .null, lv q3, sd, lv q4, sd, iv (1 : Int32), iv (0 : Int32)] [(.int (0 : Int32))])) := fun t k => P398 t (st399.trans k)
        have P401 : Rch p e below (s₁.setTop (entryFrame m #[(.long q1), (.long q2), (.long q3), (.long q4), (.long q5), (.int p6)] maxLocals)) (T399.setTop (mkF m 329 #[lv q1, sd, lv q2, sd, lv q3, sd, lv q4, sd, lv q5, sd, iv p6, iv v4, iv x6, iv (1 : Int32), iv x329, iv (0 : Int32), iv x334, iv (0 : Int32), .val r347, .val .null, rv b349, rv b353, rv b363, rv t__378, .val .null, lv q3, sd, lv q4, sd, iv (1 : Int32), iv (0 : Int32)] [(.ref t__378)])) := fun t k => P400 t (by
          show Steps p.tables e below (T399.setTop (mkF m 322 #[lv q1, sd, lv q2, sd, lv q3, sd, lv q4, sd, lv q5, sd, iv p6, iv v4, iv x6, iv (1 : Int32), iv x329, iv (0 : Int32), iv x334, iv (0 : Int32), .val r347, .val .null, rv b349, rv b353, rv b363, rv t__378, .val .null, lv q3, sd, lv q4, sd, iv (1 : Int32), iv (0 : Int32)] [(.int (0 : Int32))])) t
          refine XS.iload X399.here hx rfl (hb hby at_322) rfl ?_
          refine XS.icmpNo X399.here hx rfl (hb hby at_324) rfl (teq (by decide)).2 ?_
          refine XS.aload X399.here hx rfl (hb hby at_327) rfl rfl ?_
          exact k)
        obtain ⟨cq402, kq402, q402a, q402b, q402c⟩ := isOf hZ e399 Et_378
        obtain ⟨_, _, ⟨T402, L402, k402, n402⟩, -, X402, ⟨Lc402, hQ402, l402, y402, z402⟩, st402⟩ := X399.virtualBack hx (y := (⟨"com/example/usher/usher/protocol/Stat", "pzxid", "()J"⟩ : MethodName)) (z := (⟨"com/example/usher/usher/protocol/Stat", "pzxid", "()J"⟩ : MethodName)) hown (mvT hZ (hw _ (List.mem_of_getElem? (i := 171) rfl))) (mvT hZ (hw _ (List.mem_of_getElem? (i := 172) rfl))) (notFace_of_selects (args := #[]) (mvT hZ (hw _ (List.mem_of_getElem? (i := 174) rfl)))) (mvT hZ (hw _ (List.mem_of_getElem? (i := 174) rfl))) (mvT hZ (hw _ (List.mem_of_getElem? (i := 173) rfl))) (by decide) (backOf (W := 0) (rmG_pzxid l Z a0 hw [] t__378 q1 T378.heap n0 f385 G_pzxid_378) hZ (hw _ (List.mem_of_getElem? (i := 175) rfl)) (hw _ (List.mem_of_getElem? (i := 99) rfl)) (by decide) (by decide)) q402a q402c (g := (mkF m 329 #[lv q1, sd, lv q2, sd, lv q3, sd, lv q4, sd, lv q5, sd, iv p6, iv v4, iv x6, iv (1 : Int32), iv x329, iv (0 : Int32), iv x334, iv (0 : Int32), .val r347, .val .null, rv b349, rv b353, rv b363, rv t__378, .val .null, lv q3, sd, lv q4, sd, iv (1 : Int32), iv (0 : Int32)] [(.ref t__378)])) rfl (by rw [hml]; rfl) (Steps.refl _) (argsL := []) (rest := []) (lenOf pd_7 rfl) rfl (by show 2 * 0 + _ ≤ _; exact Nat.le_of_eq rfl) (hb hby at_329) (fun _ _ => ⟨rfl, e399, (by decide : 7 + 0 ≤ _), (by decide : 42 + 0 ≤ _)⟩)
        dsimp only [Pt.U, Pt.locs, Pt.cells, Pt.slots] at X402 l402 y402 z402 st402 hQ402
        subst y402 z402
        obtain ⟨rfl, N402q, e402⟩ := hQ402
        have N402 : Fr n0 L402 := by rw [l402]; exact Fr.app N399 N402q
        have P403 : Rch p e below (s₁.setTop (entryFrame m #[(.long q1), (.long q2), (.long q3), (.long q4), (.long q5), (.int p6)] maxLocals)) (T402.setTop (mkF m 332 #[lv q1, sd, lv q2, sd, lv q3, sd, lv q4, sd, lv q5, sd, iv p6, iv v4, iv x6, iv (1 : Int32), iv x329, iv (0 : Int32), iv x334, iv (0 : Int32), .val r347, .val .null, rv b349, rv b353, rv b363, rv t__378, .val .null, lv q3, sd, lv q4, sd, iv (1 : Int32), iv (0 : Int32)] [(.long q1)])) := fun t k => P401 t (st402.trans k)
        have P404 : Rch p e below (s₁.setTop (entryFrame m #[(.long q1), (.long q2), (.long q3), (.long q4), (.long q5), (.int p6)] maxLocals)) (T402.setTop (mkF m 339 #[lv q1, sd, lv q2, sd, lv q3, sd, lv q4, sd, lv q5, sd, iv p6, iv v4, iv x6, iv (1 : Int32), iv x329, iv (0 : Int32), iv x334, iv (0 : Int32), .val r347, .val .null, rv b349, rv b353, rv b363, rv t__378, .val .null, lv q3, sd, lv q4, sd, iv (1 : Int32), iv (0 : Int32)] [(.ref t__378)])) := fun t k => P403 t (by
          show Steps p.tables e below (T402.setTop (mkF m 332 #[lv q1, sd, lv q2, sd, lv q3, sd, lv q4, sd, lv q5, sd, iv p6, iv v4, iv x6, iv (1 : Int32), iv x329, iv (0 : Int32), iv x334, iv (0 : Int32), .val r347, .val .null, rv b349, rv b353, rv b363, rv t__378, .val .null, lv q3, sd, lv q4, sd, iv (1 : Int32), iv (0 : Int32)] [(.long q1)])) t
          refine XS.lloadN X402.here hx rfl (hb hby at_332) rfl ?_
          refine XS.lcmp X402.here hx rfl (hb hby at_333) rfl ?_
          refine XS.ifNo X402.here hx rfl (hb hby at_334) rfl ((if0 _ _).trans (teq ((lw_eq q1 q1).mpr rfl)).2) ?_
          show Steps p.tables e below (T402.setTop (mkF m 337 #[lv q1, sd, lv q2, sd, lv q3, sd, lv q4, sd, lv q5, sd, iv p6, iv v4, iv x6, iv (1 : Int32), iv x329, iv (0 : Int32), iv x334, iv (0 : Int32), .val r347, .val .null, rv b349, rv b353, rv b363, rv t__378, .val .null, lv q3, sd, lv q4, sd, iv (1 : Int32), iv (0 : Int32)] [])) t
          refine XS.aload X402.here hx rfl (hb hby at_337) rfl rfl ?_
          exact k)
        obtain ⟨cq405, kq405, q405a, q405b, q405c⟩ := isOf hZ e402 Et_378
        obtain ⟨_, _, ⟨T405, L405, k405, n405⟩, -, X405, ⟨Lc405, hQ405, l405, y405, z405⟩, st405⟩ := X402.virtualBack hx (y := (⟨"com/example/usher/usher/protocol/Stat", "ctime", "()J"⟩ : MethodName)) (z := (⟨"com/example/usher/usher/protocol/Stat", "ctime", "()J"⟩ : MethodName)) hown (mvT hZ (hw _ (List.mem_of_getElem? (i := 176) rfl))) (mvT hZ (hw _ (List.mem_of_getElem? (i := 177) rfl))) (notFace_of_selects (args := #[]) (mvT hZ (hw _ (List.mem_of_getElem? (i := 179) rfl)))) (mvT hZ (hw _ (List.mem_of_getElem? (i := 179) rfl))) (mvT hZ (hw _ (List.mem_of_getElem? (i := 178) rfl))) (by decide) (backOf (W := 0) (rmG_ctime l Z a0 hw [] t__378 q2 T378.heap n0 f385 G_ctime_378) hZ (hw _ (List.mem_of_getElem? (i := 180) rfl)) (hw _ (List.mem_of_getElem? (i := 99) rfl)) (by decide) (by decide)) q405a q405c (g := (mkF m 339 #[lv q1, sd, lv q2, sd, lv q3, sd, lv q4, sd, lv q5, sd, iv p6, iv v4, iv x6, iv (1 : Int32), iv x329, iv (0 : Int32), iv x334, iv (0 : Int32), .val r347, .val .null, rv b349, rv b353, rv b363, rv t__378, .val .null, lv q3, sd, lv q4, sd, iv (1 : Int32), iv (0 : Int32)] [(.ref t__378)])) rfl (by rw [hml]; rfl) (Steps.refl _) (argsL := []) (rest := []) (lenOf pd_7 rfl) rfl (by show 2 * 0 + _ ≤ _; exact Nat.le_of_eq rfl) (hb hby at_339) (fun _ _ => ⟨rfl, e402, (by decide : 7 + 0 ≤ _), (by decide : 42 + 0 ≤ _)⟩)
        dsimp only [Pt.U, Pt.locs, Pt.cells, Pt.slots] at X405 l405 y405 z405 st405 hQ405
        subst y405 z405
        obtain ⟨rfl, N405q, e405⟩ := hQ405
        have N405 : Fr n0 L405 := by rw [l405]; exact Fr.app N402 N405q
        have P406 : Rch p e below (s₁.setTop (entryFrame m #[(.long q1), (.long q2), (.long q3), (.long q4), (.long q5), (.int p6)] maxLocals)) (T405.setTop (mkF m 342 #[lv q1, sd, lv q2, sd, lv q3, sd, lv q4, sd, lv q5, sd, iv p6, iv v4, iv x6, iv (1 : Int32), iv x329, iv (0 : Int32), iv x334, iv (0 : Int32), .val r347, .val .null, rv b349, rv b353, rv b363, rv t__378, .val .null, lv q3, sd, lv q4, sd, iv (1 : Int32), iv (0 : Int32)] [(.long q2)])) := fun t k => P404 t (st405.trans k)
        have P407 : Rch p e below (s₁.setTop (entryFrame m #[(.long q1), (.long q2), (.long q3), (.long q4), (.long q5), (.int p6)] maxLocals)) (T405.setTop (mkF m 352 #[lv q1, sd, lv q2, sd, lv q3, sd, lv q4, sd, lv q5, sd, iv p6, iv v4, iv x6, iv (1 : Int32), iv x329, iv (0 : Int32), iv x334, iv (0 : Int32), .val r347, .val .null, rv b349, rv b353, rv b363, rv t__378, .val .null, lv q3, sd, lv q4, sd, iv (1 : Int32), iv (0 : Int32)] [(.int (1 : Int32))])) := fun t k => P406 t (by
          show Steps p.tables e below (T405.setTop (mkF m 342 #[lv q1, sd, lv q2, sd, lv q3, sd, lv q4, sd, lv q5, sd, iv p6, iv v4, iv x6, iv (1 : Int32), iv x329, iv (0 : Int32), iv x334, iv (0 : Int32), .val r347, .val .null, rv b349, rv b353, rv b363, rv t__378, .val .null, lv q3, sd, lv q4, sd, iv (1 : Int32), iv (0 : Int32)] [(.long q2)])) t
          refine XS.lloadN X405.here hx rfl (hb hby at_342) rfl ?_
          refine XS.lcmp X405.here hx rfl (hb hby at_343) rfl ?_
          refine XS.ifNo X405.here hx rfl (hb hby at_344) rfl ((if0 _ _).trans (teq ((lw_eq q2 q2).mpr rfl)).2) ?_
          show Steps p.tables e below (T405.setTop (mkF m 347 #[lv q1, sd, lv q2, sd, lv q3, sd, lv q4, sd, lv q5, sd, iv p6, iv v4, iv x6, iv (1 : Int32), iv x329, iv (0 : Int32), iv x334, iv (0 : Int32), .val r347, .val .null, rv b349, rv b353, rv b363, rv t__378, .val .null, lv q3, sd, lv q4, sd, iv (1 : Int32), iv (0 : Int32)] [])) t
          refine XS.iconst X405.here hx rfl (hb hby at_347) ?_
          refine XS.goto X405.here hx rfl (pc0 := 348) (pc' := 352) rfl (hb hby at_348) (by decide) (by decide) ?_
          exact k)
        obtain ⟨fs, hr, hrun, hended, hW, hsame⟩ := X405.leave (v := some (.int (1 : Int32))) (fun h => by rw [Bd.returns] at h; cases h)
        refine ⟨_, _, P407 _ ?_, hrun, hended, _, _, rfl, ?_, ⟨_, rfl⟩, hW, hsame.mono (by decide) (by decide)⟩
        · exact retN X405 hx (t := .boolean) Bd.returns (by simp) (hb hby at_352) hr
        · show Q_rm0 Z q1 q2 q3 q4 q5 p6 aD h0 n0 _ T405.heap _
          rw [e405]
          exact ⟨rfl, N405⟩
      · have P408 : Rch p e below (s₁.setTop (entryFrame m #[(.long q1), (.long q2), (.long q3), (.long q4), (.long q5), (.int p6)] maxLocals)) (s₁.setTop (mkF m 87 #[lv q1, sd, lv q2, sd, lv q3, sd, lv q4, sd, lv q5, sd, iv p6, iv v4, iv x6, iv (1 : Int32), iv x329, iv (0 : Int32), iv x334, iv (1 : Int32), un, un, un, un, un, un, un, un, un, un, un, un, un] [(.int v4)])) := fun t k => P337 t (by
          show Steps p.tables e below (s₁.setTop (mkF m 75 #[lv q1, sd, lv q2, sd, lv q3, sd, lv q4, sd, lv q5, sd, iv p6, iv v4, iv x6, iv (1 : Int32), iv x329, iv (0 : Int32), iv x334, un, un, un, un, un, un, un, un, un, un, un, un, un, un] [(.int x336)])) t
          refine XS.ifNo X0.here hx rfl (hb hby at_75) rfl ((if0 _ _).trans (feq c338).1) ?_
          refine XS.iconst X0.here hx rfl (hb hby at_78) ?_
          refine XS.goto X0.here hx rfl (pc0 := 79) (pc' := 83) rfl (hb hby at_79) (by decide) (by decide) ?_
          show Steps p.tables e below (s₁.setTop (mkF m 83 #[lv q1, sd, lv q2, sd, lv q3, sd, lv q4, sd, lv q5, sd, iv p6, iv v4, iv x6, iv (1 : Int32), iv x329, iv (0 : Int32), iv x334, un, un, un, un, un, un, un, un, un, un, un, un, un, un] [(.int (1 : Int32))])) t
          refine XS.istore X0.here hx rfl (hb hby at_83) rfl (l' := #[lv q1, sd, lv q2, sd, lv q3, sd, lv q4, sd, lv q5, sd, iv p6, iv v4, iv x6, iv (1 : Int32), iv x329, iv (0 : Int32), iv x334, iv (1 : Int32), un, un, un, un, un, un, un, un, un, un, un, un, un]) rfl ?_
          refine XS.iload X0.here hx rfl (hb hby at_85) rfl ?_
          exact k)
        obtain ⟨T409, L409, h409, r416, X409, e409, N409, Z409, K409, hr416, P409⟩ : ∃ (T409 : State) (L409 : List Loc) (h409 : Heap) (r416 : Value), Stand p l e room_1 s m #[(.long q1), (.long q2), (.long q3), (.long q4), (.long q5), (.int p6)] below meth c T409 L409 1 3 ∧ T409.heap = h409 ∧ Fr n0 L409 ∧ n0 ≤ h409.size ∧ Keep h0 h409 [] ∧ r416.isRef = true ∧ Rch p e below (s₁.setTop (entryFrame m #[(.long q1), (.long q2), (.long q3), (.long q4), (.long q5), (.int p6)] maxLocals)) (T409.setTop (mkF m 98 #[lv q1, sd, lv q2, sd, lv q3, sd, lv q4, sd, lv q5, sd, iv p6, iv v4, iv x6, iv (1 : Int32), iv x329, iv (0 : Int32), iv x334, iv (1 : Int32), un, un, un, un, un, un, un, un, un, un, un, un, un] [r416])) := by
          by_cases c410 : v4 = (0 : Int32)
          · have P411 : Rch p e below (s₁.setTop (entryFrame m #[(.long q1), (.long q2), (.long q3), (.long q4), (.long q5), (.int p6)] maxLocals)) (s₁.setTop (mkF m 96 #[lv q1, sd, lv q2, sd, lv q3, sd, lv q4, sd, lv q5, sd, iv p6, iv v4, iv x6, iv (1 : Int32), iv x329, iv (0 : Int32), iv x334, iv (1 : Int32), un, un, un, un, un, un, un, un, un, un, un, un, un] [(.int x6)])) := fun t k => P408 t (by
              show Steps p.tables e below (s₁.setTop (mkF m 87 #[lv q1, sd, lv q2, sd, lv q3, sd, lv q4, sd, lv q5, sd, iv p6, iv v4, iv x6, iv (1 : Int32), iv x329, iv (0 : Int32), iv x334, iv (1 : Int32), un, un, un, un, un, un, un, un, un, un, un, un, un] [(.int v4)])) t
              refine XS.ifYes X0.here hx rfl (pc0 := 87) (pc' := 94) rfl (hb hby at_87) rfl ((if0 _ _).trans (teq c410).1) (by decide) (by decide) ?_
              refine XS.iload X0.here hx rfl (hb hby at_94) rfl ?_
              exact k)
            have hm96 := own_m3 _ hx6
            obtain ⟨T412, h412, k412, X412, e412, E412, A412, st412⟩ := newP X0 hx hZ (hw _ (List.mem_of_getElem? (i := 0) rfl)) e0 (g := (mkF m 96 #[lv q1, sd, lv q2, sd, lv q3, sd, lv q4, sd, lv q5, sd, iv p6, iv v4, iv x6, iv (1 : Int32), iv x329, iv (0 : Int32), iv x334, iv (1 : Int32), un, un, un, un, un, un, un, un, un, un, un, un, un] [(.int x6)])) rfl (hb hby at_96) rfl hm96.1 (cap := 3) hm96.2 (by decide) (by decide) (by decide)
            obtain ⟨b412, g412⟩ : ∃ z, z = h0.size := ⟨_, rfl⟩
            rw [← g412] at A412 st412
            have g_b412 : n0 ≤ b412 := Nat.le_trans Z0 (Nat.le_of_eq g412.symm)
            have sz_b412 : h0.size ≤ b412 := Nat.le_trans (Keep.refl h0 []).1 (Nat.le_of_eq g412.symm)
            have szj_b412 : h0.size ≤ b412 := Nat.le_trans (Keep.refl h0 []).1 (Nat.le_of_eq g412.symm)
            have V412 : Arv Z h412 b412 k412 .byte x6 [] (.int (0 : Int32)) := Arv.new A412 hm96.1
            have P413 : Rch p e below (s₁.setTop (entryFrame m #[(.long q1), (.long q2), (.long q3), (.long q4), (.long q5), (.int p6)] maxLocals)) (T412.setTop (mkF m 98 #[lv q1, sd, lv q2, sd, lv q3, sd, lv q4, sd, lv q5, sd, iv p6, iv v4, iv x6, iv (1 : Int32), iv x329, iv (0 : Int32), iv x334, iv (1 : Int32), un, un, un, un, un, un, un, un, un, un, un, un, un] [(.ref b412)])) := fun t k => P411 t (st412 t k)
            have f414 : n0 ≤ h412.size := (Nat.le_trans Z0 E412.1)
            exact ⟨T412, _, h412, (.ref b412), X412, e412, N0, f414, ((Keep.refl h0 []).ext E412), rfl, P413⟩
          · have P415 : Rch p e below (s₁.setTop (entryFrame m #[(.long q1), (.long q2), (.long q3), (.long q4), (.long q5), (.int p6)] maxLocals)) (s₁.setTop (mkF m 98 #[lv q1, sd, lv q2, sd, lv q3, sd, lv q4, sd, lv q5, sd, iv p6, iv v4, iv x6, iv (1 : Int32), iv x329, iv (0 : Int32), iv x334, iv (1 : Int32), un, un, un, un, un, un, un, un, un, un, un, un, un] [.null])) := fun t k => P408 t (by
              show Steps p.tables e below (s₁.setTop (mkF m 87 #[lv q1, sd, lv q2, sd, lv q3, sd, lv q4, sd, lv q5, sd, iv p6, iv v4, iv x6, iv (1 : Int32), iv x329, iv (0 : Int32), iv x334, iv (1 : Int32), un, un, un, un, un, un, un, un, un, un, un, un, un] [(.int v4)])) t
              refine XS.ifNo X0.here hx rfl (hb hby at_87) rfl ((if0 _ _).trans (feq c410).1) ?_
              refine XS.aconstNull X0.here hx rfl (hb hby at_90) ?_
              refine XS.goto X0.here hx rfl (pc0 := 91) (pc' := 98) rfl (hb hby at_91) (by decide) (by decide) ?_
              exact k)
            exact ⟨s₁, _, h0, .null, (own_more X0 (by decide) (by decide)), e0, N0, Z0, (Keep.refl h0 []), rfl, P415⟩
        have P417 : Rch p e below (s₁.setTop (entryFrame m #[(.long q1), (.long q2), (.long q3), (.long q4), (.long q5), (.int p6)] maxLocals)) (T409.setTop (mkF m 126 #[lv q1, sd, lv q2, sd, lv q3, sd, lv q4, sd, lv q5, sd, iv p6, iv v4, iv x6, iv (1 : Int32), iv x329, iv (0 : Int32), iv x334, iv (1 : Int32), .val r416, .val .null, un, un, un, un, un, un, un, un, un, un, un] [(.int x334)])) := fun t k => P409 t (by
          show Steps p.tables e below (T409.setTop (mkF m 98 #[lv q1, sd, lv q2, sd, lv q3, sd, lv q4, sd, lv q5, sd, iv p6, iv v4, iv x6, iv (1 : Int32), iv x329, iv (0 : Int32), iv x334, iv (1 : Int32), un, un, un, un, un, un, un, un, un, un, un, un, un] [r416])) t
          refine XS.astore X409.here hx rfl (hb hby at_98) rfl hr416 (l' := #[lv q1, sd, lv q2, sd, lv q3, sd, lv q4, sd, lv q5, sd, iv p6, iv v4, iv x6, iv (1 : Int32), iv x329, iv (0 : Int32), iv x334, iv (1 : Int32), .val r416, un, un, un, un, un, un, un, un, un, un, un, un]) (by rcases ref_cases hr416 with q_ | ⟨_, q_⟩ <;> rw [q_] <;> rfl) ?_
          refine XS.iload X409.here hx rfl (hb hby at_100) rfl ?_
          refine XS.ifNo X409.here hx rfl (hb hby at_102) rfl ((if0 _ _).trans (feq (by decide)).1) ?_
          show Steps p.tables e below (T409.setTop (mkF m 105 #[lv q1, sd, lv q2, sd, lv q3, sd, lv q4, sd, lv q5, sd, iv p6, iv v4, iv x6, iv (1 : Int32), iv x329, iv (0 : Int32), iv x334, iv (1 : Int32), .val r416, un, un, un, un, un, un, un, un, un, un, un, un] [])) t
          refine XS.aconstNull X409.here hx rfl (hb hby at_105) ?_
          refine XS.goto X409.here hx rfl (pc0 := 106) (pc' := 113) rfl (hb hby at_106) (by decide) (by decide) ?_
          refine XS.astore X409.here hx rfl (hb hby at_113) rfl rfl (l' := #[lv q1, sd, lv q2, sd, lv q3, sd, lv q4, sd, lv q5, sd, iv p6, iv v4, iv x6, iv (1 : Int32), iv x329, iv (0 : Int32), iv x334, iv (1 : Int32), .val r416, .val .null, un, un, un, un, un, un, un, un, un, un, un]) rfl ?_
          refine XS.iload X409.here hx rfl (hb hby at_115) rfl ?_
          show Steps p.tables e below (T409.setTop (mkF m 117 #[lv q1, sd, lv q2, sd, lv q3, sd, lv q4, sd, lv q5, sd, iv p6, iv v4, iv x6, iv (1 : Int32), iv x329, iv (0 : Int32), iv x334, iv (1 : Int32), .val r416, .val .null, un, un, un, un, un, un, un, un, un, un, un] [(.int (0 : Int32))])) t
          refine XS.ifYes X409.here hx rfl (pc0 := 117) (pc' := 124) rfl (hb hby at_117) rfl ((if0 _ _).trans (teq (by decide)).1) (by decide) (by decide) ?_
          refine XS.iload X409.here hx rfl (hb hby at_124) rfl ?_
          exact k)
        have hm126 := own_m3 _ hx334
        have f419 : Keep h0 h409 [] := ((Keep.refl h0 []).trans K409 all0)
        obtain ⟨T418, h418, k418, X418, e418, E418, A418, st418⟩ := newP X409 hx hZ (hw _ (List.mem_of_getElem? (i := 0) rfl)) e409 (g := (mkF m 126 #[lv q1, sd, lv q2, sd, lv q3, sd, lv q4, sd, lv q5, sd, iv p6, iv v4, iv x6, iv (1 : Int32), iv x329, iv (0 : Int32), iv x334, iv (1 : Int32), .val r416, .val .null, un, un, un, un, un, un, un, un, un, un, un] [(.int x334)])) rfl (hb hby at_126) rfl hm126.1 (cap := 3) hm126.2 (by decide) (by decide) (by decide)
        obtain ⟨b418, g418⟩ : ∃ z, z = h409.size := ⟨_, rfl⟩
        rw [← g418] at A418 st418
        have g_b418 : n0 ≤ b418 := Nat.le_trans Z409 (Nat.le_of_eq g418.symm)
        have sz_b418 : h0.size ≤ b418 := Nat.le_trans f419.1 (Nat.le_of_eq g418.symm)
        have V418 : Arv Z h418 b418 k418 .byte x334 [] (.int (0 : Int32)) := Arv.new A418 hm126.1
        have P420 : Rch p e below (s₁.setTop (entryFrame m #[(.long q1), (.long q2), (.long q3), (.long q4), (.long q5), (.int p6)] maxLocals)) (T418.setTop (mkF m 128 #[lv q1, sd, lv q2, sd, lv q3, sd, lv q4, sd, lv q5, sd, iv p6, iv v4, iv x6, iv (1 : Int32), iv x329, iv (0 : Int32), iv x334, iv (1 : Int32), .val r416, .val .null, un, un, un, un, un, un, un, un, un, un, un] [(.ref b418)])) := fun t k => P417 t (st418 t k)
        have P421 : Rch p e below (s₁.setTop (entryFrame m #[(.long q1), (.long q2), (.long q3), (.long q4), (.long q5), (.int p6)] maxLocals)) (T418.setTop (mkF m 130 #[lv q1, sd, lv q2, sd, lv q3, sd, lv q4, sd, lv q5, sd, iv p6, iv v4, iv x6, iv (1 : Int32), iv x329, iv (0 : Int32), iv x334, iv (1 : Int32), .val r416, .val .null, rv b418, un, un, un, un, un, un, un, un, un, un] [])) := fun t k => P420 t (by
          show Steps p.tables e below (T418.setTop (mkF m 128 #[lv q1, sd, lv q2, sd, lv q3, sd, lv q4, sd, lv q5, sd, iv p6, iv v4, iv x6, iv (1 : Int32), iv x329, iv (0 : Int32), iv x334, iv (1 : Int32), .val r416, .val .null, un, un, un, un, un, un, un, un, un, un, un] [(.ref b418)])) t
          refine XS.astore X418.here hx rfl (hb hby at_128) rfl rfl (l' := #[lv q1, sd, lv q2, sd, lv q3, sd, lv q4, sd, lv q5, sd, iv p6, iv v4, iv x6, iv (1 : Int32), iv x329, iv (0 : Int32), iv x334, iv (1 : Int32), .val r416, .val .null, rv b418, un, un, un, un, un, un, un, un, un, un]) rfl ?_
          exact k)
        have f423 : n0 ≤ h418.size := (Nat.le_trans Z409 E418.1)
        have f424 : Keep h0 h418 [] := (f419.ext E418)
        obtain ⟨T422, h422, X422, e422, E422, A422, D422, -, st422⟩ := newO X418 hx hZ hown (hw _ (List.mem_of_getElem? (i := 1) rfl)) (hw _ (List.mem_of_getElem? (i := 2) rfl)) (hw _ (List.mem_of_getElem? (i := 3) rfl)) e418 (g := (mkF m 130 #[lv q1, sd, lv q2, sd, lv q3, sd, lv q4, sd, lv q5, sd, iv p6, iv v4, iv x6, iv (1 : Int32), iv x329, iv (0 : Int32), iv x334, iv (1 : Int32), .val r416, .val .null, rv b418, un, un, un, un, un, un, un, un, un, un] [])) rfl (hb hby at_130) (by decide) (by decide)
        obtain ⟨b422, g422⟩ : ∃ z, z = h418.size := ⟨_, rfl⟩
        rw [← g422] at A422 D422 st422
        have g_b422 : n0 ≤ b422 := Nat.le_trans f423 (Nat.le_of_eq g422.symm)
        have sz_b422 : h0.size ≤ b422 := Nat.le_trans f424.1 (Nat.le_of_eq g422.symm)
        have ne_b418_b422 : b418 ≠ b422 := Nat.ne_of_lt (Nat.lt_of_lt_of_le V418.lt (Nat.le_of_eq g422.symm))
        have F422_23 : Fld Z h422 b422 "java/util/AbstractList" "modCount" "I" (.int (0 : Int32)) := D422 (Or.inl (hw _ (List.mem_of_getElem? (i := 23) rfl))) (ty := .int) (by decide)
        have F422_26 : Fld Z h422 b422 "java/util/ArrayList" "elementData" "[Ljava/lang/Object;" .null := D422 (Or.inl (hw _ (List.mem_of_getElem? (i := 26) rfl))) (ty := (.array (.object "java/lang/Object"))) (by decide)
        have P425 : Rch p e below (s₁.setTop (entryFrame m #[(.long q1), (.long q2), (.long q3), (.long q4), (.long q5), (.int p6)] maxLocals)) (T422.setTop (mkF m 133 #[lv q1, sd, lv q2, sd, lv q3, sd, lv q4, sd, lv q5, sd, iv p6, iv v4, iv x6, iv (1 : Int32), iv x329, iv (0 : Int32), iv x334, iv (1 : Int32), .val r416, .val .null, rv b418, un, un, un, un, un, un, un, un, un, un] [(.ref b422)])) := fun t k => P421 t (st422 t k)
        have P426 : Rch p e below (s₁.setTop (entryFrame m #[(.long q1), (.long q2), (.long q3), (.long q4), (.long q5), (.int p6)] maxLocals)) (T422.setTop (mkF m 134 #[lv q1, sd, lv q2, sd, lv q3, sd, lv q4, sd, lv q5, sd, iv p6, iv v4, iv x6, iv (1 : Int32), iv x329, iv (0 : Int32), iv x334, iv (1 : Int32), .val r416, .val .null, rv b418, un, un, un, un, un, un, un, un, un, un] [(.ref b422), (.ref b422)])) := fun t k => P425 t (by
          show Steps p.tables e below (T422.setTop (mkF m 133 #[lv q1, sd, lv q2, sd, lv q3, sd, lv q4, sd, lv q5, sd, iv p6, iv v4, iv x6, iv (1 : Int32), iv x329, iv (0 : Int32), iv x334, iv (1 : Int32), .val r416, .val .null, rv b418, un, un, un, un, un, un, un, un, un, un] [(.ref b422)])) t
          refine XS.dup X422.here hx rfl (hb hby at_133) rfl rfl ?_
          exact k)
        have f428 : Old Z n0 h422 := (((O0.keep K409 all0).ext E418).ext E422)
        have f429 : n0 ≤ h422.size := (Nat.le_trans f423 E422.1)
        obtain ⟨_, _, ⟨T427, L427, k427, n427⟩, -, X427, ⟨Lc427, hQ427, l427, y427, z427⟩, st427⟩ := X422.specialBack hx (y := (⟨"java/util/ArrayList", "<init>", "()V"⟩ : MethodName)) rfl hown (mvT hZ (hw _ (List.mem_of_getElem? (i := 4) rfl))) (mvT hZ (hw _ (List.mem_of_getElem? (i := 5) rfl))) (mvT hZ (hw _ (List.mem_of_getElem? (i := 6) rfl))) (by decide) (backOf (W := 1) (rmAL l Z a0 hw [] b422 aD h422 n0 f429 f428 Sd A422 g_b422 F422_23 F422_26) hZ (hw _ (List.mem_of_getElem? (i := 6) rfl)) (hw _ (List.mem_of_getElem? (i := 3) rfl)) (by decide) (by decide)) (g := (mkF m 134 #[lv q1, sd, lv q2, sd, lv q3, sd, lv q4, sd, lv q5, sd, iv p6, iv v4, iv x6, iv (1 : Int32), iv x329, iv (0 : Int32), iv x334, iv (1 : Int32), .val r416, .val .null, rv b418, un, un, un, un, un, un, un, un, un, un] [(.ref b422), (.ref b422)])) rfl (by rw [hml]; rfl) (Steps.refl _) (a := b422) (argsL := []) (rest := [(.ref b422)]) (lenOf pd_0 rfl) rfl (by show 2 * 0 + _ ≤ _; exact Nat.le_of_eq rfl) (hb hby at_134) (fun _ _ => ⟨rfl, e422, (by decide : 3 + 0 ≤ _), (by decide : 9 + 0 ≤ _)⟩)
        dsimp only [Pt.U, Pt.locs, Pt.cells, Pt.slots] at X427 l427 y427 z427 st427 hQ427
        subst y427 z427
        obtain ⟨rfl, N427q, K427, E_427⟩ := hQ427
        have N427 : Fr n0 L427 := by rw [l427]; exact Fr.app N409 N427q
        have P430 : Rch p e below (s₁.setTop (entryFrame m #[(.long q1), (.long q2), (.long q3), (.long q4), (.long q5), (.int p6)] maxLocals)) (T427.setTop (mkF m 137 #[lv q1, sd, lv q2, sd, lv q3, sd, lv q4, sd, lv q5, sd, iv p6, iv v4, iv x6, iv (1 : Int32), iv x329, iv (0 : Int32), iv x334, iv (1 : Int32), .val r416, .val .null, rv b418, un, un, un, un, un, un, un, un, un, un] [(.ref b422)])) := fun t k => P426 t (st427.trans k)
        have P431 : Rch p e below (s₁.setTop (entryFrame m #[(.long q1), (.long q2), (.long q3), (.long q4), (.long q5), (.int p6)] maxLocals)) (T427.setTop (mkF m 139 #[lv q1, sd, lv q2, sd, lv q3, sd, lv q4, sd, lv q5, sd, iv p6, iv v4, iv x6, iv (1 : Int32), iv x329, iv (0 : Int32), iv x334, iv (1 : Int32), .val r416, .val .null, rv b418, rv b422, un, un, un, un, un, un, un, un, un] [])) := fun t k => P430 t (by
          show Steps p.tables e below (T427.setTop (mkF m 137 #[lv q1, sd, lv q2, sd, lv q3, sd, lv q4, sd, lv q5, sd, iv p6, iv v4, iv x6, iv (1 : Int32), iv x329, iv (0 : Int32), iv x334, iv (1 : Int32), .val r416, .val .null, rv b418, un, un, un, un, un, un, un, un, un, un] [(.ref b422)])) t
          refine XS.astore X427.here hx rfl (hb hby at_137) rfl rfl (l' := #[lv q1, sd, lv q2, sd, lv q3, sd, lv q4, sd, lv q5, sd, iv p6, iv v4, iv x6, iv (1 : Int32), iv x329, iv (0 : Int32), iv x334, iv (1 : Int32), .val r416, .val .null, rv b418, rv b422, un, un, un, un, un, un, un, un, un]) rfl ?_
          exact k)
        have f433 : n0 ≤ T427.heap.size := (Nat.le_trans f429 K427.1)
        have f434 : Keep h0 T427.heap [] := ((f424.ext E422).trans K427 (allS (P := fun x => x ∈ [] ∨ h0.size ≤ x) (Or.inr sz_b422) all0))
        obtain ⟨T432, h432, X432, e432, E432, A432, D432, -, st432⟩ := newO X427 hx hZ hown (hw _ (List.mem_of_getElem? (i := 27) rfl)) (hw _ (List.mem_of_getElem? (i := 28) rfl)) (hw _ (List.mem_of_getElem? (i := 29) rfl)) rfl (g := (mkF m 139 #[lv q1, sd, lv q2, sd, lv q3, sd, lv q4, sd, lv q5, sd, iv p6, iv v4, iv x6, iv (1 : Int32), iv x329, iv (0 : Int32), iv x334, iv (1 : Int32), .val r416, .val .null, rv b418, rv b422, un, un, un, un, un, un, un, un, un] [])) rfl (hb hby at_139) (by decide) (by decide)
        obtain ⟨b432, g432⟩ : ∃ z, z = T427.heap.size := ⟨_, rfl⟩
        rw [← g432] at A432 D432 st432
        have g_b432 : n0 ≤ b432 := Nat.le_trans f433 (Nat.le_of_eq g432.symm)
        have sz_b432 : h0.size ≤ b432 := Nat.le_trans f434.1 (Nat.le_of_eq g432.symm)
        have ne_b418_b432 : b418 ≠ b432 := Nat.ne_of_lt (Nat.lt_of_lt_of_le ((V418.ext E422).keep K427 (ninS ne_b418_b422 nin0)).lt (Nat.le_of_eq g432.symm))
        have ne_b422_b432 : b422 ≠ b432 := Nat.ne_of_lt (Nat.lt_of_lt_of_le (A422.keep K427).lt (Nat.le_of_eq g432.symm))
        have F432_68 : Fld Z h432 b432 "com/example/usher/usher/core/Node" "children" "Ljava/util/Set;" .null := D432 (Or.inr (hw _ (List.mem_of_getElem? (i := 68) rfl))) (ty := (.object "java/util/Set")) (by decide)
        have F432_70 : Fld Z h432 b432 "com/example/usher/usher/core/Node" "czxid" "J" (.long (0 : Int64)) := D432 (Or.inr (hw _ (List.mem_of_getElem? (i := 70) rfl))) (ty := .long) (by decide)
        have F432_72 : Fld Z h432 b432 "com/example/usher/usher/core/Node" "ctime" "J" (.long (0 : Int64)) := D432 (Or.inr (hw _ (List.mem_of_getElem? (i := 72) rfl))) (ty := .long) (by decide)
        have F432_74 : Fld Z h432 b432 "com/example/usher/usher/core/Node" "ephemeralOwner" "J" (.long (0 : Int64)) := D432 (Or.inr (hw _ (List.mem_of_getElem? (i := 74) rfl))) (ty := .long) (by decide)
        have F432_76 : Fld Z h432 b432 "com/example/usher/usher/core/Node" "data" "[B" .null := D432 (Or.inl (hw _ (List.mem_of_getElem? (i := 76) rfl))) (ty := (.array .byte)) (by decide)
        have F432_78 : Fld Z h432 b432 "com/example/usher/usher/core/Node" "acl" "Ljava/util/List;" .null := D432 (Or.inl (hw _ (List.mem_of_getElem? (i := 78) rfl))) (ty := (.object "java/util/List")) (by decide)
        have F432_80 : Fld Z h432 b432 "com/example/usher/usher/core/Node" "mzxid" "J" (.long (0 : Int64)) := D432 (Or.inl (hw _ (List.mem_of_getElem? (i := 80) rfl))) (ty := .long) (by decide)
        have F432_82 : Fld Z h432 b432 "com/example/usher/usher/core/Node" "mtime" "J" (.long (0 : Int64)) := D432 (Or.inl (hw _ (List.mem_of_getElem? (i := 82) rfl))) (ty := .long) (by decide)
        have F432_84 : Fld Z h432 b432 "com/example/usher/usher/core/Node" "pzxid" "J" (.long (0 : Int64)) := D432 (Or.inl (hw _ (List.mem_of_getElem? (i := 84) rfl))) (ty := .long) (by decide)
        have F432_91 : Fld Z h432 b432 "com/example/usher/usher/core/Node" "version" "I" (.int (0 : Int32)) := D432 (Or.inl (hw _ (List.mem_of_getElem? (i := 91) rfl))) (ty := .int) (by decide)
        have F432_101 : Fld Z h432 b432 "com/example/usher/usher/core/Node" "cversion" "I" (.int (0 : Int32)) := D432 (Or.inl (hw _ (List.mem_of_getElem? (i := 101) rfl))) (ty := .int) (by decide)
        have F432_103 : Fld Z h432 b432 "com/example/usher/usher/core/Node" "aversion" "I" (.int (0 : Int32)) := D432 (Or.inl (hw _ (List.mem_of_getElem? (i := 103) rfl))) (ty := .int) (by decide)
        have P435 : Rch p e below (s₁.setTop (entryFrame m #[(.long q1), (.long q2), (.long q3), (.long q4), (.long q5), (.int p6)] maxLocals)) (T432.setTop (mkF m 142 #[lv q1, sd, lv q2, sd, lv q3, sd, lv q4, sd, lv q5, sd, iv p6, iv v4, iv x6, iv (1 : Int32), iv x329, iv (0 : Int32), iv x334, iv (1 : Int32), .val r416, .val .null, rv b418, rv b422, un, un, un, un, un, un, un, un, un] [(.ref b432)])) := fun t k => P431 t (st432 t k)
        have P436 : Rch p e below (s₁.setTop (entryFrame m #[(.long q1), (.long q2), (.long q3), (.long q4), (.long q5), (.int p6)] maxLocals)) (T432.setTop (mkF m 150 #[lv q1, sd, lv q2, sd, lv q3, sd, lv q4, sd, lv q5, sd, iv p6, iv v4, iv x6, iv (1 : Int32), iv x329, iv (0 : Int32), iv x334, iv (1 : Int32), .val r416, .val .null, rv b418, rv b422, un, un, un, un, un, un, un, un, un] [(.long q2), (.long q1), (.long (0 : Int64)), (.ref b422), r416, (.ref b432), (.ref b432)])) := fun t k => P435 t (by
          show Steps p.tables e below (T432.setTop (mkF m 142 #[lv q1, sd, lv q2, sd, lv q3, sd, lv q4, sd, lv q5, sd, iv p6, iv v4, iv x6, iv (1 : Int32), iv x329, iv (0 : Int32), iv x334, iv (1 : Int32), .val r416, .val .null, rv b418, rv b422, un, un, un, un, un, un, un, un, un] [(.ref b432)])) t
          refine XS.dup X432.here hx rfl (hb hby at_142) rfl rfl ?_
          refine XS.aload X432.here hx rfl (hb hby at_143) rfl hr416 ?_
          refine XS.aload X432.here hx rfl (hb hby at_145) rfl rfl ?_
          show Steps p.tables e below (T432.setTop (mkF m 147 #[lv q1, sd, lv q2, sd, lv q3, sd, lv q4, sd, lv q5, sd, iv p6, iv v4, iv x6, iv (1 : Int32), iv x329, iv (0 : Int32), iv x334, iv (1 : Int32), .val r416, .val .null, rv b418, rv b422, un, un, un, un, un, un, un, un, un] [(.ref b422), r416, (.ref b432), (.ref b432)])) t
          refine XS.lconst X432.here hx rfl (hb hby at_147) ?_
          refine XS.lloadN X432.here hx rfl (hb hby at_148) rfl ?_
          refine XS.lloadN X432.here hx rfl (hb hby at_149) rfl ?_
          exact k)
        have f438 : n0 ≤ h432.size := (Nat.le_trans f433 E432.1)
        obtain ⟨_, _, ⟨T437, L437, k437, n437⟩, -, X437, ⟨Lc437, hQ437, l437, y437, z437⟩, st437⟩ := X432.specialBack hx (y := (⟨"com/example/usher/usher/core/Node", "<init>", "([BLjava/util/List;JJJ)V"⟩ : MethodName)) rfl hown (mvT hZ (hw _ (List.mem_of_getElem? (i := 30) rfl))) (mvT hZ (hw _ (List.mem_of_getElem? (i := 31) rfl))) (mvT hZ (hw _ (List.mem_of_getElem? (i := 32) rfl))) (by decide) (backOf (W := 1) (rmND l Z a0 hw [] b432 r416 b422 (0 : Int64) q1 q2 h432 n0 f438 hr416 A432 g_b432 F432_68 F432_70 F432_72 F432_74 F432_76 F432_78 F432_80 F432_82 F432_84 F432_91 F432_101 F432_103) hZ (hw _ (List.mem_of_getElem? (i := 32) rfl)) (hw _ (List.mem_of_getElem? (i := 29) rfl)) (by decide) (by decide)) (g := (mkF m 150 #[lv q1, sd, lv q2, sd, lv q3, sd, lv q4, sd, lv q5, sd, iv p6, iv v4, iv x6, iv (1 : Int32), iv x329, iv (0 : Int32), iv x334, iv (1 : Int32), .val r416, .val .null, rv b418, rv b422, un, un, un, un, un, un, un, un, un] [(.long q2), (.long q1), (.long (0 : Int64)), (.ref b422), r416, (.ref b432), (.ref b432)])) rfl (by rw [hml]; rfl) (Steps.refl _) (a := b432) (argsL := [r416, (.ref b422), (.long (0 : Int64)), (.long q1), (.long q2)]) (rest := [(.ref b432)]) (lenOf pd_3 rfl) rfl (by show 2 * 0 + _ ≤ _; exact Nat.le_of_eq rfl) (hb hby at_150) (fun _ _ => ⟨rfl, e432, (by decide : 4 + 2 ≤ _), (by decide : 22 + 9 ≤ _)⟩)
        dsimp only [Pt.U, Pt.locs, Pt.cells, Pt.slots] at X437 l437 y437 z437 st437 hQ437
        subst y437 z437
        have f439 : Arv Z h432 b418 k418 .byte x334 [] (.int (0 : Int32)) := (((V418.ext E422).keep K427 (ninS ne_b418_b422 nin0)).ext E432)
        have f440 : Keep h0 h432 [] := (f434.ext E432)
        obtain ⟨c__437, m__437, rfl, N437q, K437, Fc_437, Fm_437, E_437, G0_437, G1_437, G2_437, G3_437, G4_437, G5_437, G6_437, G7_437, G8_437, G9_437, G10_437, G11_437, Ec_437, Gc_437, Em_437, Gm_437⟩ := hQ437
        have N437 : Fr n0 L437 := by rw [l437]; exact Fr.app N427 N437q
        have g_c__437 : n0 ≤ c__437 := Nat.le_trans f438 Fc_437
        have sz_c__437 : h0.size ≤ c__437 := Nat.le_trans f440.1 Fc_437
        have ne_b418_c__437 : b418 ≠ c__437 := Nat.ne_of_lt (Nat.lt_of_lt_of_le f439.lt Fc_437)
        have ne_b422_c__437 : b422 ≠ c__437 := Nat.ne_of_lt (Nat.lt_of_lt_of_le ((A422.keep K427).ext E432).lt Fc_437)
        have ne_b432_c__437 : b432 ≠ c__437 := Nat.ne_of_lt (Nat.lt_of_lt_of_le A432.lt Fc_437)
        have g_m__437 : n0 ≤ m__437 := Nat.le_trans f438 Fm_437
        have sz_m__437 : h0.size ≤ m__437 := Nat.le_trans f440.1 Fm_437
        have ne_b418_m__437 : b418 ≠ m__437 := Nat.ne_of_lt (Nat.lt_of_lt_of_le f439.lt Fm_437)
        have ne_b422_m__437 : b422 ≠ m__437 := Nat.ne_of_lt (Nat.lt_of_lt_of_le ((A422.keep K427).ext E432).lt Fm_437)
        have ne_b432_m__437 : b432 ≠ m__437 := Nat.ne_of_lt (Nat.lt_of_lt_of_le A432.lt Fm_437)
        have P441 : Rch p e below (s₁.setTop (entryFrame m #[(.long q1), (.long q2), (.long q3), (.long q4), (.long q5), (.int p6)] maxLocals)) (T437.setTop (mkF m 153 #[lv q1, sd, lv q2, sd, lv q3, sd, lv q4, sd, lv q5, sd, iv p6, iv v4, iv x6, iv (1 : Int32), iv x329, iv (0 : Int32), iv x334, iv (1 : Int32), .val r416, .val .null, rv b418, rv b422, un, un, un, un, un, un, un, un, un] [(.ref b432)])) := fun t k => P436 t (st437.trans k)
        have P442 : Rch p e below (s₁.setTop (entryFrame m #[(.long q1), (.long q2), (.long q3), (.long q4), (.long q5), (.int p6)] maxLocals)) (T437.setTop (mkF m 163 #[lv q1, sd, lv q2, sd, lv q3, sd, lv q4, sd, lv q5, sd, iv p6, iv v4, iv x6, iv (1 : Int32), iv x329, iv (0 : Int32), iv x334, iv (1 : Int32), .val r416, .val .null, rv b418, rv b422, rv b432, un, un, un, un, un, un, un, un] [(.long q4), (.long q3), .null, (.ref b432)])) := fun t k => P441 t (by
          show Steps p.tables e below (T437.setTop (mkF m 153 #[lv q1, sd, lv q2, sd, lv q3, sd, lv q4, sd, lv q5, sd, iv p6, iv v4, iv x6, iv (1 : Int32), iv x329, iv (0 : Int32), iv x334, iv (1 : Int32), .val r416, .val .null, rv b418, rv b422, un, un, un, un, un, un, un, un, un] [(.ref b432)])) t
          refine XS.astore X437.here hx rfl (hb hby at_153) rfl rfl (l' := #[lv q1, sd, lv q2, sd, lv q3, sd, lv q4, sd, lv q5, sd, iv p6, iv v4, iv x6, iv (1 : Int32), iv x329, iv (0 : Int32), iv x334, iv (1 : Int32), .val r416, .val .null, rv b418, rv b422, rv b432, un, un, un, un, un, un, un, un]) rfl ?_
          refine XS.aload X437.here hx rfl (hb hby at_155) rfl rfl ?_
          refine XS.aload X437.here hx rfl (hb hby at_157) rfl rfl ?_
          show Steps p.tables e below (T437.setTop (mkF m 159 #[lv q1, sd, lv q2, sd, lv q3, sd, lv q4, sd, lv q5, sd, iv p6, iv v4, iv x6, iv (1 : Int32), iv x329, iv (0 : Int32), iv x334, iv (1 : Int32), .val r416, .val .null, rv b418, rv b422, rv b432, un, un, un, un, un, un, un, un] [.null, (.ref b432)])) t
          refine XS.lload X437.here hx rfl (hb hby at_159) rfl ?_
          refine XS.lload X437.here hx rfl (hb hby at_161) rfl ?_
          exact k)
        have f444 : n0 ≤ T437.heap.size := (Nat.le_trans f438 K437.1)
        obtain ⟨cq443, kq443, q443a, q443b, q443c⟩ := isOf hZ rfl E_437
        obtain ⟨_, _, ⟨T443, L443, k443, n443⟩, -, X443, ⟨Lc443, hQ443, l443, y443, z443⟩, st443⟩ := X437.virtualBack hx (y := (⟨"com/example/usher/usher/core/Node", "setData", "([BJJ)V"⟩ : MethodName)) (z := (⟨"com/example/usher/usher/core/Node", "setData", "([BJJ)V"⟩ : MethodName)) hown (mvT hZ (hw _ (List.mem_of_getElem? (i := 85) rfl))) (mvT hZ (hw _ (List.mem_of_getElem? (i := 86) rfl))) (notFace_of_selects (args := #[]) (mvT hZ (hw _ (List.mem_of_getElem? (i := 88) rfl)))) (mvT hZ (hw _ (List.mem_of_getElem? (i := 88) rfl))) (mvT hZ (hw _ (List.mem_of_getElem? (i := 87) rfl))) (by decide) (backOf (W := 0) (rmSD l Z a0 hw [] b432 .null q3 q4 c__437 q1 q2 (0 : Int64) r416 b422 q1 q2 q1 (0 : Int32) (0 : Int32) (0 : Int32) T437.heap n0 f444 rfl E_437 g_b432 G0_437 G1_437 G2_437 G3_437 G4_437 G5_437 G6_437 G7_437 G8_437 G9_437 G10_437 G11_437) hZ (hw _ (List.mem_of_getElem? (i := 89) rfl)) (hw _ (List.mem_of_getElem? (i := 29) rfl)) (by decide) (by decide)) q443a q443c (g := (mkF m 163 #[lv q1, sd, lv q2, sd, lv q3, sd, lv q4, sd, lv q5, sd, iv p6, iv v4, iv x6, iv (1 : Int32), iv x329, iv (0 : Int32), iv x334, iv (1 : Int32), .val r416, .val .null, rv b418, rv b422, rv b432, un, un, un, un, un, un, un, un] [(.long q4), (.long q3), .null, (.ref b432)])) rfl (by rw [hml]; rfl) (Steps.refl _) (argsL := [.null, (.long q3), (.long q4)]) (rest := []) (lenOf pd_4 rfl) rfl (by show 2 * 0 + _ ≤ _; exact Nat.le_of_eq rfl) (hb hby at_163) (fun _ _ => ⟨rfl, rfl, (by decide : 6 + 0 ≤ _), (by decide : 31 + 0 ≤ _)⟩)
        dsimp only [Pt.U, Pt.locs, Pt.cells, Pt.slots] at X443 l443 y443 z443 st443 hQ443
        subst y443 z443
        obtain ⟨rfl, N443q, K443, E_443, G0_443, G1_443, G2_443, G3_443, G4_443, G5_443, G6_443, G7_443, G8_443, G9_443, G10_443, G11_443⟩ := hQ443
        have N443 : Fr n0 L443 := by rw [l443]; exact Fr.app N437 N443q
        have P445 : Rch p e below (s₁.setTop (entryFrame m #[(.long q1), (.long q2), (.long q3), (.long q4), (.long q5), (.int p6)] maxLocals)) (T443.setTop (mkF m 166 #[lv q1, sd, lv q2, sd, lv q3, sd, lv q4, sd, lv q5, sd, iv p6, iv v4, iv x6, iv (1 : Int32), iv x329, iv (0 : Int32), iv x334, iv (1 : Int32), .val r416, .val .null, rv b418, rv b422, rv b432, un, un, un, un, un, un, un, un] [])) := fun t k => P442 t (st443.trans k)
        have P446 : Rch p e below (s₁.setTop (entryFrame m #[(.long q1), (.long q2), (.long q3), (.long q4), (.long q5), (.int p6)] maxLocals)) (T443.setTop (mkF m 178 #[lv q1, sd, lv q2, sd, lv q3, sd, lv q4, sd, lv q5, sd, iv p6, iv v4, iv x6, iv (1 : Int32), iv x329, iv (0 : Int32), iv x334, iv (1 : Int32), .val r416, .val .null, rv b418, rv b422, rv b432, un, un, un, un, un, un, un, un] [(.long q2), (.long q5), (.ref b418), (.ref b432)])) := fun t k => P445 t (by
          show Steps p.tables e below (T443.setTop (mkF m 166 #[lv q1, sd, lv q2, sd, lv q3, sd, lv q4, sd, lv q5, sd, iv p6, iv v4, iv x6, iv (1 : Int32), iv x329, iv (0 : Int32), iv x334, iv (1 : Int32), .val r416, .val .null, rv b418, rv b422, rv b432, un, un, un, un, un, un, un, un] [])) t
          refine XS.iload X443.here hx rfl (hb hby at_166) rfl ?_
          refine XS.ifNo X443.here hx rfl (hb hby at_168) rfl ((if0 _ _).trans (feq (by decide)).1) ?_
          refine XS.aload X443.here hx rfl (hb hby at_171) rfl rfl ?_
          show Steps p.tables e below (T443.setTop (mkF m 173 #[lv q1, sd, lv q2, sd, lv q3, sd, lv q4, sd, lv q5, sd, iv p6, iv v4, iv x6, iv (1 : Int32), iv x329, iv (0 : Int32), iv x334, iv (1 : Int32), .val r416, .val .null, rv b418, rv b422, rv b432, un, un, un, un, un, un, un, un] [(.ref b432)])) t
          refine XS.aload X443.here hx rfl (hb hby at_173) rfl rfl ?_
          refine XS.lload X443.here hx rfl (hb hby at_175) rfl ?_
          refine XS.lloadN X443.here hx rfl (hb hby at_177) rfl ?_
          exact k)
        have f448 : n0 ≤ T443.heap.size := (Nat.le_trans f444 K443.1)
        obtain ⟨cq447, kq447, q447a, q447b, q447c⟩ := isOf hZ rfl E_443
        obtain ⟨_, _, ⟨T447, L447, k447, n447⟩, -, X447, ⟨Lc447, hQ447, l447, y447, z447⟩, st447⟩ := X443.virtualBack hx (y := (⟨"com/example/usher/usher/core/Node", "setData", "([BJJ)V"⟩ : MethodName)) (z := (⟨"com/example/usher/usher/core/Node", "setData", "([BJJ)V"⟩ : MethodName)) hown (mvT hZ (hw _ (List.mem_of_getElem? (i := 85) rfl))) (mvT hZ (hw _ (List.mem_of_getElem? (i := 86) rfl))) (notFace_of_selects (args := #[]) (mvT hZ (hw _ (List.mem_of_getElem? (i := 88) rfl)))) (mvT hZ (hw _ (List.mem_of_getElem? (i := 88) rfl))) (mvT hZ (hw _ (List.mem_of_getElem? (i := 87) rfl))) (by decide) (backOf (W := 0) (rmSD l Z a0 hw [] b432 (.ref b418) q5 q2 c__437 q1 q2 (0 : Int64) .null b422 q3 q4 q1 ((0 : Int32) + (1 : Int32)) (0 : Int32) (0 : Int32) T443.heap n0 f448 rfl E_443 g_b432 G0_443 G1_443 G2_443 G3_443 G4_443 G5_443 G6_443 G7_443 G8_443 G9_443 G10_443 G11_443) hZ (hw _ (List.mem_of_getElem? (i := 89) rfl)) (hw _ (List.mem_of_getElem? (i := 29) rfl)) (by decide) (by decide)) q447a q447c (g := (mkF m 178 #[lv q1, sd, lv q2, sd, lv q3, sd, lv q4, sd, lv q5, sd, iv p6, iv v4, iv x6, iv (1 : Int32), iv x329, iv (0 : Int32), iv x334, iv (1 : Int32), .val r416, .val .null, rv b418, rv b422, rv b432, un, un, un, un, un, un, un, un] [(.long q2), (.long q5), (.ref b418), (.ref b432)])) rfl (by rw [hml]; rfl) (Steps.refl _) (argsL := [(.ref b418), (.long q5), (.long q2)]) (rest := []) (lenOf pd_4 rfl) rfl (by show 2 * 0 + _ ≤ _; exact Nat.le_of_eq rfl) (hb hby at_178) (fun _ _ => ⟨rfl, rfl, (by decide : 6 + 0 ≤ _), (by decide : 31 + 0 ≤ _)⟩)
        dsimp only [Pt.U, Pt.locs, Pt.cells, Pt.slots] at X447 l447 y447 z447 st447 hQ447
        subst y447 z447
        obtain ⟨rfl, N447q, K447, E_447, G0_447, G1_447, G2_447, G3_447, G4_447, G5_447, G6_447, G7_447, G8_447, G9_447, G10_447, G11_447⟩ := hQ447
        have N447 : Fr n0 L447 := by rw [l447]; exact Fr.app N443 N447q
        have P449 : Rch p e below (s₁.setTop (entryFrame m #[(.long q1), (.long q2), (.long q3), (.long q4), (.long q5), (.int p6)] maxLocals)) (T447.setTop (mkF m 181 #[lv q1, sd, lv q2, sd, lv q3, sd, lv q4, sd, lv q5, sd, iv p6, iv v4, iv x6, iv (1 : Int32), iv x329, iv (0 : Int32), iv x334, iv (1 : Int32), .val r416, .val .null, rv b418, rv b422, rv b432, un, un, un, un, un, un, un, un] [])) := fun t k => P446 t (st447.trans k)
        have P450 : Rch p e below (s₁.setTop (entryFrame m #[(.long q1), (.long q2), (.long q3), (.long q4), (.long q5), (.int p6)] maxLocals)) (T447.setTop (mkF m 183 #[lv q1, sd, lv q2, sd, lv q3, sd, lv q4, sd, lv q5, sd, iv p6, iv v4, iv x6, iv (1 : Int32), iv x329, iv (0 : Int32), iv x334, iv (1 : Int32), .val r416, .val .null, rv b418, rv b422, rv b432, un, un, un, un, un, un, un, un] [(.ref b432)])) := fun t k => P449 t (by
          show Steps p.tables e below (T447.setTop (mkF m 181 #[lv q1, sd, lv q2, sd, lv q3, sd, lv q4, sd, lv q5, sd, iv p6, iv v4, iv x6, iv (1 : Int32), iv x329, iv (0 : Int32), iv x334, iv (1 : Int32), .val r416, .val .null, rv b418, rv b422, rv b432, un, un, un, un, un, un, un, un] [])) t
          refine XS.aload X447.here hx rfl (hb hby at_181) rfl rfl ?_
          exact k)
        have f452 : Fld Z T447.heap c__437 "java/util/HashSet" "map" "Ljava/util/HashMap;" (.ref m__437) := ((Gc_437.keep K443 (ninS (Ne.symm ne_b432_c__437) nin0)).keep K447 (ninS (Ne.symm ne_b432_c__437) nin0))
        have f453 : Fld Z T447.heap m__437 "java/util/HashMap" "size" "I" (.int (0 : Int32)) := ((Gm_437.keep K443 (ninS (Ne.symm ne_b432_m__437) nin0)).keep K447 (ninS (Ne.symm ne_b432_m__437) nin0))
        have f454 : Arv Z T447.heap b418 k418 .byte x334 [] (.int (0 : Int32)) := (((f439.keep K437 (ninS ne_b418_b432 nin0)).keep K443 (ninS ne_b418_b432 nin0)).keep K447 (ninS ne_b418_b432 nin0))
        have f455 : n0 ≤ T447.heap.size := (Nat.le_trans f448 K447.1)
        obtain ⟨cq451, kq451, q451a, q451b, q451c⟩ := isOf hZ rfl E_447
        obtain ⟨_, _, ⟨T451, L451, k451, n451⟩, -, X451, ⟨Lc451, hQ451, l451, y451, z451⟩, st451⟩ := X447.virtualBack hx (y := (⟨"com/example/usher/usher/core/Node", "stat", "()Lcom/example/usher/usher/protocol/Stat;"⟩ : MethodName)) (z := (⟨"com/example/usher/usher/core/Node", "stat", "()Lcom/example/usher/usher/protocol/Stat;"⟩ : MethodName)) hown (mvT hZ (hw _ (List.mem_of_getElem? (i := 92) rfl))) (mvT hZ (hw _ (List.mem_of_getElem? (i := 93) rfl))) (notFace_of_selects (args := #[]) (mvT hZ (hw _ (List.mem_of_getElem? (i := 95) rfl)))) (mvT hZ (hw _ (List.mem_of_getElem? (i := 95) rfl))) (mvT hZ (hw _ (List.mem_of_getElem? (i := 94) rfl))) (by decide) (backOf (W := 0) (rmS1 l Z a0 hw [] b432 c__437 q1 q2 (0 : Int64) b422 q5 q2 q1 (((0 : Int32) + (1 : Int32)) + (1 : Int32)) (0 : Int32) (0 : Int32) b418 k418 x334 [] m__437 T447.heap n0 f455 E_447 G0_447 G1_447 G2_447 G3_447 G4_447 G5_447 G6_447 G7_447 G8_447 G9_447 G10_447 G11_447 ((Ec_437.keep K443).keep K447) f452 ((Em_437.keep K443).keep K447) f453 f454) hZ (hw _ (List.mem_of_getElem? (i := 96) rfl)) (hw _ (List.mem_of_getElem? (i := 29) rfl)) (by decide) (by decide)) q451a q451c (g := (mkF m 183 #[lv q1, sd, lv q2, sd, lv q3, sd, lv q4, sd, lv q5, sd, iv p6, iv v4, iv x6, iv (1 : Int32), iv x329, iv (0 : Int32), iv x334, iv (1 : Int32), .val r416, .val .null, rv b418, rv b422, rv b432, un, un, un, un, un, un, un, un] [(.ref b432)])) rfl (by rw [hml]; rfl) (Steps.refl _) (argsL := []) (rest := []) (lenOf pd_5 rfl) rfl (by show 2 * 0 + _ ≤ _; exact Nat.le_of_eq rfl) (hb hby at_183) (fun _ _ => ⟨rfl, rfl, (by decide : 6 + 1 ≤ _), (by decide : 31 + 11 ≤ _)⟩)
        dsimp only [Pt.U, Pt.locs, Pt.cells, Pt.slots] at X451 l451 y451 z451 st451 hQ451
        subst y451 z451
        have f456 : Exa Z T447.heap b422 "java/util/ArrayList" := (((((A422.keep K427).ext E432).keep K437).keep K443).keep K447)
        have f457 : Keep h0 T447.heap [] := (((f440.trans K437 (allS (P := fun x => x ∈ [] ∨ h0.size ≤ x) (Or.inr sz_b432) all0)).trans K443 (allS (P := fun x => x ∈ [] ∨ h0.size ≤ x) (Or.inr sz_b432) all0)).trans K447 (allS (P := fun x => x ∈ [] ∨ h0.size ≤ x) (Or.inr sz_b432) all0))
        obtain ⟨t__451, rfl, N451q, K451, Ft_451, Et_451, G_mzxid_451, G_ctime_451, G_mtime_451, G_version_451, G_dataLength_451, G_pzxid_451⟩ := hQ451
        have N451 : Fr n0 L451 := by rw [l451]; exact Fr.app N447 N451q
        have g_t__451 : n0 ≤ t__451 := Nat.le_trans f455 Ft_451
        have sz_t__451 : h0.size ≤ t__451 := Nat.le_trans f457.1 Ft_451
        have ne_b418_t__451 : b418 ≠ t__451 := Nat.ne_of_lt (Nat.lt_of_lt_of_le f454.lt Ft_451)
        have ne_b422_t__451 : b422 ≠ t__451 := Nat.ne_of_lt (Nat.lt_of_lt_of_le f456.lt Ft_451)
        have ne_b432_t__451 : b432 ≠ t__451 := Nat.ne_of_lt (Nat.lt_of_lt_of_le (((A432.keep K437).keep K443).keep K447).lt Ft_451)
        have ne_c__437_t__451 : c__437 ≠ t__451 := Nat.ne_of_lt (Nat.lt_of_lt_of_le ((Ec_437.keep K443).keep K447).lt Ft_451)
        have ne_m__437_t__451 : m__437 ≠ t__451 := Nat.ne_of_lt (Nat.lt_of_lt_of_le ((Em_437.keep K443).keep K447).lt Ft_451)
        have P458 : Rch p e below (s₁.setTop (entryFrame m #[(.long q1), (.long q2), (.long q3), (.long q4), (.long q5), (.int p6)] maxLocals)) (T451.setTop (mkF m 186 #[lv q1, sd, lv q2, sd, lv q3, sd, lv q4, sd, lv q5, sd, iv p6, iv v4, iv x6, iv (1 : Int32), iv x329, iv (0 : Int32), iv x334, iv (1 : Int32), .val r416, .val .null, rv b418, rv b422, rv b432, un, un, un, un, un, un, un, un] [(.ref t__451)])) := fun t k => P450 t (st451.trans k)
        have P459 : Rch p e below (s₁.setTop (entryFrame m #[(.long q1), (.long q2), (.long q3), (.long q4), (.long q5), (.int p6)] maxLocals)) (T451.setTop (mkF m 277 #[lv q1, sd, lv q2, sd, lv q3, sd, lv q4, sd, lv q5, sd, iv p6, iv v4, iv x6, iv (1 : Int32), iv x329, iv (0 : Int32), iv x334, iv (1 : Int32), .val r416, .val .null, rv b418, rv b422, rv b432, rv t__451, rv b418, lv q5, sd, lv q2, sd, iv (2 : Int32), iv x334] [(.ref b432)])) := fun t k => P458 t (by
          show Steps p.tables e below (T451.setTop (mkF m 186 #[lv q1, sd, lv q2, sd, lv q3, sd, lv q4, sd, lv q5, sd, iv p6, iv v4, iv x6, iv (1 : Int32), iv x329, iv (0 : Int32), iv x334, iv (1 : Int32), .val r416, .val .null, rv b418, rv b422, rv b432, un, un, un, un, un, un, un, un] [(.ref t__451)])) t
          refine XS.astore X451.here hx rfl (hb hby at_186) rfl rfl (l' := #[lv q1, sd, lv q2, sd, lv q3, sd, lv q4, sd, lv q5, sd, iv p6, iv v4, iv x6, iv (1 : Int32), iv x329, iv (0 : Int32), iv x334, iv (1 : Int32), .val r416, .val .null, rv b418, rv b422, rv b432, rv t__451, un, un, un, un, un, un, un]) rfl ?_
          refine XS.iload X451.here hx rfl (hb hby at_188) rfl ?_
          refine XS.ifNo X451.here hx rfl (hb hby at_190) rfl ((if0 _ _).trans (feq (by decide)).1) ?_
          show Steps p.tables e below (T451.setTop (mkF m 193 #[lv q1, sd, lv q2, sd, lv q3, sd, lv q4, sd, lv q5, sd, iv p6, iv v4, iv x6, iv (1 : Int32), iv x329, iv (0 : Int32), iv x334, iv (1 : Int32), .val r416, .val .null, rv b418, rv b422, rv b432, rv t__451, un, un, un, un, un, un, un] [])) t
          refine XS.aload X451.here hx rfl (hb hby at_193) rfl rfl ?_
          refine XS.goto X451.here hx rfl (pc0 := 195) (pc' := 200) rfl (hb hby at_195) (by decide) (by decide) ?_
          refine XS.astore X451.here hx rfl (hb hby at_200) rfl rfl (l' := #[lv q1, sd, lv q2, sd, lv q3, sd, lv q4, sd, lv q5, sd, iv p6, iv v4, iv x6, iv (1 : Int32), iv x329, iv (0 : Int32), iv x334, iv (1 : Int32), .val r416, .val .null, rv b418, rv b422, rv b432, rv t__451, rv b418, un, un, un, un, un, un]) rfl ?_
          refine XS.iload X451.here hx rfl (hb hby at_202) rfl ?_
          show Steps p.tables e below (T451.setTop (mkF m 204 #[lv q1, sd, lv q2, sd, lv q3, sd, lv q4, sd, lv q5, sd, iv p6, iv v4, iv x6, iv (1 : Int32), iv x329, iv (0 : Int32), iv x334, iv (1 : Int32), .val r416, .val .null, rv b418, rv b422, rv b432, rv t__451, rv b418, un, un, un, un, un, un] [(.int (1 : Int32))])) t
          refine XS.ifNo X451.here hx rfl (hb hby at_204) rfl ((if0 _ _).trans (feq (by decide)).1) ?_
          refine XS.lload X451.here hx rfl (hb hby at_207) rfl ?_
          refine XS.goto X451.here hx rfl (pc0 := 209) (pc' := 214) rfl (hb hby at_209) (by decide) (by decide) ?_
          refine XS.lstore X451.here hx rfl (hb hby at_214) rfl (l' := #[lv q1, sd, lv q2, sd, lv q3, sd, lv q4, sd, lv q5, sd, iv p6, iv v4, iv x6, iv (1 : Int32), iv x329, iv (0 : Int32), iv x334, iv (1 : Int32), .val r416, .val .null, rv b418, rv b422, rv b432, rv t__451, rv b418, lv q5, sd, un, un, un, un]) rfl ?_
          show Steps p.tables e below (T451.setTop (mkF m 216 #[lv q1, sd, lv q2, sd, lv q3, sd, lv q4, sd, lv q5, sd, iv p6, iv v4, iv x6, iv (1 : Int32), iv x329, iv (0 : Int32), iv x334, iv (1 : Int32), .val r416, .val .null, rv b418, rv b422, rv b432, rv t__451, rv b418, lv q5, sd, un, un, un, un] [])) t
          refine XS.iload X451.here hx rfl (hb hby at_216) rfl ?_
          refine XS.ifNo X451.here hx rfl (hb hby at_218) rfl ((if0 _ _).trans (feq (by decide)).1) ?_
          refine XS.lloadN X451.here hx rfl (hb hby at_221) rfl ?_
          refine XS.goto X451.here hx rfl (pc0 := 222) (pc' := 227) rfl (hb hby at_222) (by decide) (by decide) ?_
          show Steps p.tables e below (T451.setTop (mkF m 227 #[lv q1, sd, lv q2, sd, lv q3, sd, lv q4, sd, lv q5, sd, iv p6, iv v4, iv x6, iv (1 : Int32), iv x329, iv (0 : Int32), iv x334, iv (1 : Int32), .val r416, .val .null, rv b418, rv b422, rv b432, rv t__451, rv b418, lv q5, sd, un, un, un, un] [(.long q2)])) t
          refine XS.lstore X451.here hx rfl (hb hby at_227) rfl (l' := #[lv q1, sd, lv q2, sd, lv q3, sd, lv q4, sd, lv q5, sd, iv p6, iv v4, iv x6, iv (1 : Int32), iv x329, iv (0 : Int32), iv x334, iv (1 : Int32), .val r416, .val .null, rv b418, rv b422, rv b432, rv t__451, rv b418, lv q5, sd, lv q2, sd, un, un]) rfl ?_
          refine XS.iload X451.here hx rfl (hb hby at_229) rfl ?_
          refine XS.ifNo X451.here hx rfl (hb hby at_231) rfl ((if0 _ _).trans (feq (by decide)).1) ?_
          refine XS.iconst X451.here hx rfl (hb hby at_234) ?_
          show Steps p.tables e below (T451.setTop (mkF m 235 #[lv q1, sd, lv q2, sd, lv q3, sd, lv q4, sd, lv q5, sd, iv p6, iv v4, iv x6, iv (1 : Int32), iv x329, iv (0 : Int32), iv x334, iv (1 : Int32), .val r416, .val .null, rv b418, rv b422, rv b432, rv t__451, rv b418, lv q5, sd, lv q2, sd, un, un] [(.int (2 : Int32))])) t
          refine XS.goto X451.here hx rfl (pc0 := 235) (pc' := 239) rfl (hb hby at_235) (by decide) (by decide) ?_
          refine XS.istore X451.here hx rfl (hb hby at_239) rfl (l' := #[lv q1, sd, lv q2, sd, lv q3, sd, lv q4, sd, lv q5, sd, iv p6, iv v4, iv x6, iv (1 : Int32), iv x329, iv (0 : Int32), iv x334, iv (1 : Int32), .val r416, .val .null, rv b418, rv b422, rv b432, rv t__451, rv b418, lv q5, sd, lv q2, sd, iv (2 : Int32), un]) rfl ?_
          refine XS.iload X451.here hx rfl (hb hby at_241) rfl ?_
          refine XS.ifNo X451.here hx rfl (hb hby at_243) rfl ((if0 _ _).trans (feq (by decide)).1) ?_
          show Steps p.tables e below (T451.setTop (mkF m 246 #[lv q1, sd, lv q2, sd, lv q3, sd, lv q4, sd, lv q5, sd, iv p6, iv v4, iv x6, iv (1 : Int32), iv x329, iv (0 : Int32), iv x334, iv (1 : Int32), .val r416, .val .null, rv b418, rv b422, rv b432, rv t__451, rv b418, lv q5, sd, lv q2, sd, iv (2 : Int32), un] [])) t
          refine XS.iload X451.here hx rfl (hb hby at_246) rfl ?_
          refine XS.ifYes X451.here hx rfl (pc0 := 248) (pc' := 255) rfl (hb hby at_248) rfl ((if0 _ _).trans (teq (by decide)).1) (by decide) (by decide) ?_
          refine XS.iload X451.here hx rfl (hb hby at_255) rfl ?_
          refine XS.istore X451.here hx rfl (hb hby at_257) rfl (l' := #[lv q1, sd, lv q2, sd, lv q3, sd, lv q4, sd, lv q5, sd, iv p6, iv v4, iv x6, iv (1 : Int32), iv x329, iv (0 : Int32), iv x334, iv (1 : Int32), .val r416, .val .null, rv b418, rv b422, rv b432, rv t__451, rv b418, lv q5, sd, lv q2, sd, iv (2 : Int32), iv x334]) rfl ?_
          show Steps p.tables e below (T451.setTop (mkF m 259 #[lv q1, sd, lv q2, sd, lv q3, sd, lv q4, sd, lv q5, sd, iv p6, iv v4, iv x6, iv (1 : Int32), iv x329, iv (0 : Int32), iv x334, iv (1 : Int32), .val r416, .val .null, rv b418, rv b422, rv b432, rv t__451, rv b418, lv q5, sd, lv q2, sd, iv (2 : Int32), iv x334] [])) t
          refine XS.goto X451.here hx rfl (pc0 := 259) (pc' := 275) rfl (hb hby at_259) (by decide) (by decide) ?_
          refine XS.aload X451.here hx rfl (hb hby at_275) rfl rfl ?_
          exact k)
        have f461 : n0 ≤ T451.heap.size := (Nat.le_trans f455 K451.1)
        obtain ⟨cq460, kq460, q460a, q460b, q460c⟩ := isOf hZ rfl (E_447.keep K451)
        obtain ⟨_, _, ⟨T460, L460, k460, n460⟩, -, X460, ⟨Lc460, hQ460, l460, y460, z460⟩, st460⟩ := X451.virtualBack hx (y := (⟨"com/example/usher/usher/core/Node", "data", "()[B"⟩ : MethodName)) (z := (⟨"com/example/usher/usher/core/Node", "data", "()[B"⟩ : MethodName)) hown (mvT hZ (hw _ (List.mem_of_getElem? (i := 146) rfl))) (mvT hZ (hw _ (List.mem_of_getElem? (i := 147) rfl))) (notFace_of_selects (args := #[]) (mvT hZ (hw _ (List.mem_of_getElem? (i := 149) rfl)))) (mvT hZ (hw _ (List.mem_of_getElem? (i := 149) rfl))) (mvT hZ (hw _ (List.mem_of_getElem? (i := 148) rfl))) (by decide) (backOf (W := 0) (rmdt l Z a0 hw [] b432 (.ref b418) T451.heap n0 f461 (G4_447.keep K451 nin0) rfl) hZ (hw _ (List.mem_of_getElem? (i := 150) rfl)) (hw _ (List.mem_of_getElem? (i := 29) rfl)) (by decide) (by decide)) q460a q460c (g := (mkF m 277 #[lv q1, sd, lv q2, sd, lv q3, sd, lv q4, sd, lv q5, sd, iv p6, iv v4, iv x6, iv (1 : Int32), iv x329, iv (0 : Int32), iv x334, iv (1 : Int32), .val r416, .val .null, rv b418, rv b422, rv b432, rv t__451, rv b418, lv q5, sd, lv q2, sd, iv (2 : Int32), iv x334] [(.ref b432)])) rfl (by rw [hml]; rfl) (Steps.refl _) (argsL := []) (rest := []) (lenOf pd_6 rfl) rfl (by show 2 * 0 + _ ≤ _; exact Nat.le_of_eq rfl) (hb hby at_277) (fun _ _ => ⟨rfl, rfl, (by decide : 7 + 0 ≤ _), (by decide : 42 + 0 ≤ _)⟩)
        dsimp only [Pt.U, Pt.locs, Pt.cells, Pt.slots] at X460 l460 y460 z460 st460 hQ460
        subst y460 z460
        obtain ⟨rfl, N460q, e460⟩ := hQ460
        have N460 : Fr n0 L460 := by rw [l460]; exact Fr.app N451 N460q
        have P462 : Rch p e below (s₁.setTop (entryFrame m #[(.long q1), (.long q2), (.long q3), (.long q4), (.long q5), (.int p6)] maxLocals)) (T460.setTop (mkF m 280 #[lv q1, sd, lv q2, sd, lv q3, sd, lv q4, sd, lv q5, sd, iv p6, iv v4, iv x6, iv (1 : Int32), iv x329, iv (0 : Int32), iv x334, iv (1 : Int32), .val r416, .val .null, rv b418, rv b422, rv b432, rv t__451, rv b418, lv q5, sd, lv q2, sd, iv (2 : Int32), iv x334] [(.ref b418)])) := fun t k => P459 t (st460.trans k)
        have P463 : Rch p e below (s₁.setTop (entryFrame m #[(.long q1), (.long q2), (.long q3), (.long q4), (.long q5), (.int p6)] maxLocals)) (T460.setTop (mkF m 287 #[lv q1, sd, lv q2, sd, lv q3, sd, lv q4, sd, lv q5, sd, iv p6, iv v4, iv x6, iv (1 : Int32), iv x329, iv (0 : Int32), iv x334, iv (1 : Int32), .val r416, .val .null, rv b418, rv b422, rv b432, rv t__451, rv b418, lv q5, sd, lv q2, sd, iv (2 : Int32), iv x334] [(.ref t__451)])) := fun t k => P462 t (by
          show Steps p.tables e below (T460.setTop (mkF m 280 #[lv q1, sd, lv q2, sd, lv q3, sd, lv q4, sd, lv q5, sd, iv p6, iv v4, iv x6, iv (1 : Int32), iv x329, iv (0 : Int32), iv x334, iv (1 : Int32), .val r416, .val .null, rv b418, rv b422, rv b432, rv t__451, rv b418, lv q5, sd, lv q2, sd, iv (2 : Int32), iv x334] [(.ref b418)])) t
          refine XS.aload X460.here hx rfl (hb hby at_280) rfl rfl ?_
          refine Jvm.RoadKit.acmp (g := (mkF m 282 #[lv q1, sd, lv q2, sd, lv q3, sd, lv q4, sd, lv q5, sd, iv p6, iv v4, iv x6, iv (1 : Int32), iv x329, iv (0 : Int32), iv x334, iv (1 : Int32), .val r416, .val .null, rv b418, rv b422, rv b432, rv t__451, rv b418, lv q5, sd, lv q2, sd, iv (2 : Int32), iv x334] [(.ref b418), (.ref b418)])) X460 hx rfl rfl rfl (pc0 := 282) (pc' := 285) (same := true) rfl (hb hby at_282) rfl (decide_eq_true (congrArg Value.ref rfl)) (by decide) (by decide) ?_
          refine XS.aload X460.here hx rfl (hb hby at_285) rfl rfl ?_
          exact k)
        obtain ⟨cq464, kq464, q464a, q464b, q464c⟩ := isOf hZ e460 Et_451
        obtain ⟨_, _, ⟨T464, L464, k464, n464⟩, -, X464, ⟨Lc464, hQ464, l464, y464, z464⟩, st464⟩ := X460.virtualBack hx (y := (⟨"com/example/usher/usher/protocol/Stat", "mzxid", "()J"⟩ : MethodName)) (z := (⟨"com/example/usher/usher/protocol/Stat", "mzxid", "()J"⟩ : MethodName)) hown (mvT hZ (hw _ (List.mem_of_getElem? (i := 151) rfl))) (mvT hZ (hw _ (List.mem_of_getElem? (i := 152) rfl))) (notFace_of_selects (args := #[]) (mvT hZ (hw _ (List.mem_of_getElem? (i := 154) rfl)))) (mvT hZ (hw _ (List.mem_of_getElem? (i := 154) rfl))) (mvT hZ (hw _ (List.mem_of_getElem? (i := 153) rfl))) (by decide) (backOf (W := 0) (rmG_mzxid l Z a0 hw [] t__451 q5 T451.heap n0 f461 G_mzxid_451) hZ (hw _ (List.mem_of_getElem? (i := 155) rfl)) (hw _ (List.mem_of_getElem? (i := 99) rfl)) (by decide) (by decide)) q464a q464c (g := (mkF m 287 #[lv q1, sd, lv q2, sd, lv q3, sd, lv q4, sd, lv q5, sd, iv p6, iv v4, iv x6, iv (1 : Int32), iv x329, iv (0 : Int32), iv x334, iv (1 : Int32), .val r416, .val .null, rv b418, rv b422, rv b432, rv t__451, rv b418, lv q5, sd, lv q2, sd, iv (2 : Int32), iv x334] [(.ref t__451)])) rfl (by rw [hml]; rfl) (Steps.refl _) (argsL := []) (rest := []) (lenOf pd_7 rfl) rfl (by show 2 * 0 + _ ≤ _; exact Nat.le_of_eq rfl) (hb hby at_287) (fun _ _ => ⟨rfl, e460, (by decide : 7 + 0 ≤ _), (by decide : 42 + 0 ≤ _)⟩)
        dsimp only [Pt.U, Pt.locs, Pt.cells, Pt.slots] at X464 l464 y464 z464 st464 hQ464
        subst y464 z464
        obtain ⟨rfl, N464q, e464⟩ := hQ464
        have N464 : Fr n0 L464 := by rw [l464]; exact Fr.app N460 N464q
        have P465 : Rch p e below (s₁.setTop (entryFrame m #[(.long q1), (.long q2), (.long q3), (.long q4), (.long q5), (.int p6)] maxLocals)) (T464.setTop (mkF m 290 #[lv q1, sd, lv q2, sd, lv q3, sd, lv q4, sd, lv q5, sd, iv p6, iv v4, iv x6, iv (1 : Int32), iv x329, iv (0 : Int32), iv x334, iv (1 : Int32), .val r416, .val .null, rv b418, rv b422, rv b432, rv t__451, rv b418, lv q5, sd, lv q2, sd, iv (2 : Int32), iv x334] [(.long q5)])) := fun t k => P463 t (st464.trans k)
        have P466 : Rch p e below (s₁.setTop (entryFrame m #[(.long q1), (.long q2), (.long q3), (.long q4), (.long q5), (.int p6)] maxLocals)) (T464.setTop (mkF m 298 #[lv q1, sd, lv q2, sd, lv q3, sd, lv q4, sd, lv q5, sd, iv p6, iv v4, iv x6, iv (1 : Int32), iv x329, iv (0 : Int32), iv x334, iv (1 : Int32), .val r416, .val .null, rv b418, rv b422, rv b432, rv t__451, rv b418, lv q5, sd, lv q2, sd, iv (2 : Int32), iv x334] [(.ref t__451)])) := fun t k => P465 t (by
          show Steps p.tables e below (T464.setTop (mkF m 290 #[lv q1, sd, lv q2, sd, lv q3, sd, lv q4, sd, lv q5, sd, iv p6, iv v4, iv x6, iv (1 : Int32), iv x329, iv (0 : Int32), iv x334, iv (1 : Int32), .val r416, .val .null, rv b418, rv b422, rv b432, rv t__451, rv b418, lv q5, sd, lv q2, sd, iv (2 : Int32), iv x334] [(.long q5)])) t
          refine XS.lload X464.here hx rfl (hb hby at_290) rfl ?_
          refine XS.lcmp X464.here hx rfl (hb hby at_292) rfl ?_
          refine XS.ifNo X464.here hx rfl (hb hby at_293) rfl ((if0 _ _).trans (teq ((lw_eq q5 q5).mpr rfl)).2) ?_
          show Steps p.tables e below (T464.setTop (mkF m 296 #[lv q1, sd, lv q2, sd, lv q3, sd, lv q4, sd, lv q5, sd, iv p6, iv v4, iv x6, iv (1 : Int32), iv x329, iv (0 : Int32), iv x334, iv (1 : Int32), .val r416, .val .null, rv b418, rv b422, rv b432, rv t__451, rv b418, lv q5, sd, lv q2, sd, iv (2 : Int32), iv x334] [])) t
          refine XS.aload X464.here hx rfl (hb hby at_296) rfl rfl ?_
          exact k)
        obtain ⟨cq467, kq467, q467a, q467b, q467c⟩ := isOf hZ e464 Et_451
        obtain ⟨_, _, ⟨T467, L467, k467, n467⟩, -, X467, ⟨Lc467, hQ467, l467, y467, z467⟩, st467⟩ := X464.virtualBack hx (y := (⟨"com/example/usher/usher/protocol/Stat", "mtime", "()J"⟩ : MethodName)) (z := (⟨"com/example/usher/usher/protocol/Stat", "mtime", "()J"⟩ : MethodName)) hown (mvT hZ (hw _ (List.mem_of_getElem? (i := 156) rfl))) (mvT hZ (hw _ (List.mem_of_getElem? (i := 157) rfl))) (notFace_of_selects (args := #[]) (mvT hZ (hw _ (List.mem_of_getElem? (i := 159) rfl)))) (mvT hZ (hw _ (List.mem_of_getElem? (i := 159) rfl))) (mvT hZ (hw _ (List.mem_of_getElem? (i := 158) rfl))) (by decide) (backOf (W := 0) (rmG_mtime l Z a0 hw [] t__451 q2 T451.heap n0 f461 G_mtime_451) hZ (hw _ (List.mem_of_getElem? (i := 160) rfl)) (hw _ (List.mem_of_getElem? (i := 99) rfl)) (by decide) (by decide)) q467a q467c (g := (mkF m 298 #[lv q1, sd, lv q2, sd, lv q3, sd, lv q4, sd, lv q5, sd, iv p6, iv v4, iv x6, iv (1 : Int32), iv x329, iv (0 : Int32), iv x334, iv (1 : Int32), .val r416, .val .null, rv b418, rv b422, rv b432, rv t__451, rv b418, lv q5, sd, lv q2, sd, iv (2 : Int32), iv x334] [(.ref t__451)])) rfl (by rw [hml]; rfl) (Steps.refl _) (argsL := []) (rest := []) (lenOf pd_7 rfl) rfl (by show 2 * 0 + _ ≤ _; exact Nat.le_of_eq rfl) (hb hby at_298) (fun _ _ => ⟨rfl, e464, (by decide : 7 + 0 ≤ _), (by decide : 42 + 0 ≤ _)⟩)
        dsimp only [Pt.U, Pt.locs, Pt.cells, Pt.slots] at X467 l467 y467 z467 st467 hQ467
        subst y467 z467
        obtain ⟨rfl, N467q, e467⟩ := hQ467
        have N467 : Fr n0 L467 := by rw [l467]; exact Fr.app N464 N467q
        have P468 : Rch p e below (s₁.setTop (entryFrame m #[(.long q1), (.long q2), (.long q3), (.long q4), (.long q5), (.int p6)] maxLocals)) (T467.setTop (mkF m 301 #[lv q1, sd, lv q2, sd, lv q3, sd, lv q4, sd, lv q5, sd, iv p6, iv v4, iv x6, iv (1 : Int32), iv x329, iv (0 : Int32), iv x334, iv (1 : Int32), .val r416, .val .null, rv b418, rv b422, rv b432, rv t__451, rv b418, lv q5, sd, lv q2, sd, iv (2 : Int32), iv x334] [(.long q2)])) := fun t k => P466 t (st467.trans k)
        have P469 : Rch p e below (s₁.setTop (entryFrame m #[(.long q1), (.long q2), (.long q3), (.long q4), (.long q5), (.int p6)] maxLocals)) (T467.setTop (mkF m 309 #[lv q1, sd, lv q2, sd, lv q3, sd, lv q4, sd, lv q5, sd, iv p6, iv v4, iv x6, iv (1 : Int32), iv x329, iv (0 : Int32), iv x334, iv (1 : Int32), .val r416, .val .null, rv b418, rv b422, rv b432, rv t__451, rv b418, lv q5, sd, lv q2, sd, iv (2 : Int32), iv x334] [(.ref t__451)])) := fun t k => P468 t (by
          show Steps p.tables e below (T467.setTop (mkF m 301 #[lv q1, sd, lv q2, sd, lv q3, sd, lv q4, sd, lv q5, sd, iv p6, iv v4, iv x6, iv (1 : Int32), iv x329, iv (0 : Int32), iv x334, iv (1 : Int32), .val r416, .val .null, rv b418, rv b422, rv b432, rv t__451, rv b418, lv q5, sd, lv q2, sd, iv (2 : Int32), iv x334] [(.long q2)])) t
          refine XS.lload X467.here hx rfl (hb hby at_301) rfl ?_
          refine XS.lcmp X467.here hx rfl (hb hby at_303) rfl ?_
          refine XS.ifNo X467.here hx rfl (hb hby at_304) rfl ((if0 _ _).trans (teq ((lw_eq q2 q2).mpr rfl)).2) ?_
          show Steps p.tables e below (T467.setTop (mkF m 307 #[lv q1, sd, lv q2, sd, lv q3, sd, lv q4, sd, lv q5, sd, iv p6, iv v4, iv x6, iv (1 : Int32), iv x329, iv (0 : Int32), iv x334, iv (1 : Int32), .val r416, .val .null, rv b418, rv b422, rv b432, rv t__451, rv b418, lv q5, sd, lv q2, sd, iv (2 : Int32), iv x334] [])) t
          refine XS.aload X467.here hx rfl (hb hby at_307) rfl rfl ?_
          exact k)
        obtain ⟨cq470, kq470, q470a, q470b, q470c⟩ := isOf hZ e467 Et_451
        obtain ⟨_, _, ⟨T470, L470, k470, n470⟩, -, X470, ⟨Lc470, hQ470, l470, y470, z470⟩, st470⟩ := X467.virtualBack hx (y := (⟨"com/example/usher/usher/protocol/Stat", "version", "()I"⟩ : MethodName)) (z := (⟨"com/example/usher/usher/protocol/Stat", "version", "()I"⟩ : MethodName)) hown (mvT hZ (hw _ (List.mem_of_getElem? (i := 161) rfl))) (mvT hZ (hw _ (List.mem_of_getElem? (i := 162) rfl))) (notFace_of_selects (args := #[]) (mvT hZ (hw _ (List.mem_of_getElem? (i := 164) rfl)))) (mvT hZ (hw _ (List.mem_of_getElem? (i := 164) rfl))) (mvT hZ (hw _ (List.mem_of_getElem? (i := 163) rfl))) (by decide) (backOf (W := 0) (rmG_version l Z a0 hw [] t__451 (((0 : Int32) + (1 : Int32)) + (1 : Int32)) T451.heap n0 f461 G_version_451) hZ (hw _ (List.mem_of_getElem? (i := 165) rfl)) (hw _ (List.mem_of_getElem? (i := 99) rfl)) (by decide) (by decide)) q470a q470c (g := (mkF m 309 #[lv q1, sd, lv q2, sd, lv q3, sd, lv q4, sd, lv q5, sd, iv p6, iv v4, iv x6, iv (1 : Int32), iv x329, iv (0 : Int32), iv x334, iv (1 : Int32), .val r416, .val .null, rv b418, rv b422, rv b432, rv t__451, rv b418, lv q5, sd, lv q2, sd, iv (2 : Int32), iv x334] [(.ref t__451)])) rfl (by rw [hml]; rfl) (Steps.refl _) (argsL := []) (rest := []) (lenOf pd_1 rfl) rfl (by show 2 * 0 + _ ≤ _; exact Nat.le_of_eq rfl) (hb hby at_309) (fun _ _ => ⟨rfl, e467, (by decide : 7 + 0 ≤ _), (by decide : 42 + 0 ≤ _)⟩)
        dsimp only [Pt.U, Pt.locs, Pt.cells, Pt.slots] at X470 l470 y470 z470 st470 hQ470
        subst y470 z470
        obtain ⟨rfl, N470q, e470⟩ := hQ470
        have N470 : Fr n0 L470 := by rw [l470]; exact Fr.app N467 N470q
        have P471 : Rch p e below (s₁.setTop (entryFrame m #[(.long q1), (.long q2), (.long q3), (.long q4), (.long q5), (.int p6)] maxLocals)) (T470.setTop (mkF m 312 #[lv q1, sd, lv q2, sd, lv q3, sd, lv q4, sd, lv q5, sd, iv p6, iv v4, iv x6, iv (1 : Int32), iv x329, iv (0 : Int32), iv x334, iv (1 : Int32), .val r416, .val .null, rv b418, rv b422, rv b432, rv t__451, rv b418, lv q5, sd, lv q2, sd, iv (2 : Int32), iv x334] [(.int (((0 : Int32) + (1 : Int32)) + (1 : Int32)))])) := fun t k => P469 t (st470.trans k)
        obtain ⟨x472, hx472⟩ : ∃ z : Int32, z = (((0 : Int32) + (1 : Int32)) + (1 : Int32)) := ⟨_, rfl⟩
        rw [← hx472] at P471
        have P473 : Rch p e below (s₁.setTop (entryFrame m #[(.long q1), (.long q2), (.long q3), (.long q4), (.long q5), (.int p6)] maxLocals)) (T470.setTop (mkF m 314 #[lv q1, sd, lv q2, sd, lv q3, sd, lv q4, sd, lv q5, sd, iv p6, iv v4, iv x6, iv (1 : Int32), iv x329, iv (0 : Int32), iv x334, iv (1 : Int32), .val r416, .val .null, rv b418, rv b422, rv b432, rv t__451, rv b418, lv q5, sd, lv q2, sd, iv (2 : Int32), iv x334] [(.int (2 : Int32)), (.int x472)])) := fun t k => P471 t (by
          show Steps p.tables e below (T470.setTop (mkF m 312 #[lv q1, sd, lv q2, sd, lv q3, sd, lv q4, sd, lv q5, sd, iv p6, iv v4, iv x6, iv (1 : Int32), iv x329, iv (0 : Int32), iv x334, iv (1 : Int32), .val r416, .val .null, rv b418, rv b422, rv b432, rv t__451, rv b418, lv q5, sd, lv q2, sd, iv (2 : Int32), iv x334] [(.int x472)])) t
          refine XS.iload X470.here hx rfl (hb hby at_312) rfl ?_
          exact k)
        have hvq : x472 = (2 : Int32) := by rw [hx472]; decide
        have P474 : Rch p e below (s₁.setTop (entryFrame m #[(.long q1), (.long q2), (.long q3), (.long q4), (.long q5), (.int p6)] maxLocals)) (T470.setTop (mkF m 319 #[lv q1, sd, lv q2, sd, lv q3, sd, lv q4, sd, lv q5, sd, iv p6, iv v4, iv x6, iv (1 : Int32), iv x329, iv (0 : Int32), iv x334, iv (1 : Int32), .val r416, .val .null, rv b418, rv b422, rv b432, rv t__451, rv b418, lv q5, sd, lv q2, sd, iv (2 : Int32), iv x334] [(.ref t__451)])) := fun t k => P473 t (by
          show Steps p.tables e below (T470.setTop (mkF m 314 #[lv q1, sd, lv q2, sd, lv q3, sd, lv q4, sd, lv q5, sd, iv p6, iv v4, iv x6, iv (1 : Int32), iv x329, iv (0 : Int32), iv x334, iv (1 : Int32), .val r416, .val .null, rv b418, rv b422, rv b432, rv t__451, rv b418, lv q5, sd, lv q2, sd, iv (2 : Int32), iv x334] [(.int (2 : Int32)), (.int x472)])) t
          refine XS.icmpNo X470.here hx rfl (hb hby at_314) rfl (teq hvq).2 ?_
          refine XS.aload X470.here hx rfl (hb hby at_317) rfl rfl ?_
          exact k)
        obtain ⟨cq475, kq475, q475a, q475b, q475c⟩ := isOf hZ e470 Et_451
        obtain ⟨_, _, ⟨T475, L475, k475, n475⟩, -, X475, ⟨Lc475, hQ475, l475, y475, z475⟩, st475⟩ := X470.virtualBack hx (y := (⟨"com/example/usher/usher/protocol/Stat", "dataLength", "()I"⟩ : MethodName)) (z := (⟨"com/example/usher/usher/protocol/Stat", "dataLength", "()I"⟩ : MethodName)) hown (mvT hZ (hw _ (List.mem_of_getElem? (i := 166) rfl))) (mvT hZ (hw _ (List.mem_of_getElem? (i := 167) rfl))) (notFace_of_selects (args := #[]) (mvT hZ (hw _ (List.mem_of_getElem? (i := 169) rfl)))) (mvT hZ (hw _ (List.mem_of_getElem? (i := 169) rfl))) (mvT hZ (hw _ (List.mem_of_getElem? (i := 168) rfl))) (by decide) (backOf (W := 0) (rmG_dataLength l Z a0 hw [] t__451 x334 T451.heap n0 f461 G_dataLength_451) hZ (hw _ (List.mem_of_getElem? (i := 170) rfl)) (hw _ (List.mem_of_getElem? (i := 99) rfl)) (by decide) (by decide)) q475a q475c (g := (mkF m 319 #[lv q1, sd, lv q2, sd, lv q3, sd, lv q4, sd, lv q5, sd, iv p6, iv v4, iv x6, iv (1 : Int32), iv x329, iv (0 : Int32), iv x334, iv (1 : Int32), .val r416, .val .null, rv b418, rv b422, rv b432, rv t__451, rv b418, lv q5, sd, lv q2, sd, iv (2 : Int32), iv x334] [(.ref t__451)])) rfl (by rw [hml]; rfl) (Steps.refl _) (argsL := []) (rest := []) (lenOf pd_1 rfl) rfl (by show 2 * 0 + _ ≤ _; exact Nat.le_of_eq rfl) (hb hby at_319) (fun _ _ => ⟨rfl, e470, (by decide : 7 + 0 ≤ _), (by decide : 42 + 0 ≤ _)⟩)
        dsimp only [Pt.U, Pt.locs, Pt.cells, Pt.slots] at X475 l475 y475 z475 st475 hQ475
        subst y475 z475
        obtain ⟨rfl, N475q, e475⟩ := hQ475
        have N475 : Fr n0 L475 := by rw [l475]; exact Fr.app N470 N475q
        have P476 : Rch p e below (s₁.setTop (entryFrame m #[(.long q1), (.long q2), (.long q3), (.long q4), (.long q5), (.int p6)] maxLocals)) (T475.setTop (mkF m 322 #[lv q1, sd, lv q2, sd, lv q3, sd, lv q4, sd, lv q5, sd, iv p6, iv v4, iv x6, iv (1 : Int32), iv x329, iv (0 : Int32), iv x334, iv (1 : Int32), .val r416, .val .null, rv b418, rv b422, rv b432, rv t__451, rv b418, lv q5, sd, lv q2, sd, iv (2 : Int32), iv x334] [(.int x334)])) := fun t k => P474 t (st475.trans k)
        have P477 : Rch p e below (s₁.setTop (entryFrame m #[(.long q1), (.long q2), (.long q3), (.long q4), (.long q5), (.int p6)] maxLocals)) (T475.setTop (mkF m 329 #[lv q1, sd, lv q2, sd, lv q3, sd, lv q4, sd, lv q5, sd, iv p6, iv v4, iv x6, iv (1 : Int32), iv x329, iv (0 : Int32), iv x334, iv (1 : Int32), .val r416, .val .null, rv b418, rv b422, rv b432, rv t__451, rv b418, lv q5, sd, lv q2, sd, iv (2 : Int32), iv x334] [(.ref t__451)])) := fun t k => P476 t (by
          show Steps p.tables e below (T475.setTop (mkF m 322 #[lv q1, sd, lv q2, sd, lv q3, sd, lv q4, sd, lv q5, sd, iv p6, iv v4, iv x6, iv (1 : Int32), iv x329, iv (0 : Int32), iv x334, iv (1 : Int32), .val r416, .val .null, rv b418, rv b422, rv b432, rv t__451, rv b418, lv q5, sd, lv q2, sd, iv (2 : Int32), iv x334] [(.int x334)])) t
          refine XS.iload X475.here hx rfl (hb hby at_322) rfl ?_
          refine XS.icmpNo X475.here hx rfl (hb hby at_324) rfl (teq rfl).2 ?_
          refine XS.aload X475.here hx rfl (hb hby at_327) rfl rfl ?_
          exact k)
        obtain ⟨cq478, kq478, q478a, q478b, q478c⟩ := isOf hZ e475 Et_451
        obtain ⟨_, _, ⟨T478, L478, k478, n478⟩, -, X478, ⟨Lc478, hQ478, l478, y478, z478⟩, st478⟩ := X475.virtualBack hx (y := (⟨"com/example/usher/usher/protocol/Stat", "pzxid", "()J"⟩ : MethodName)) (z := (⟨"com/example/usher/usher/protocol/Stat", "pzxid", "()J"⟩ : MethodName)) hown (mvT hZ (hw _ (List.mem_of_getElem? (i := 171) rfl))) (mvT hZ (hw _ (List.mem_of_getElem? (i := 172) rfl))) (notFace_of_selects (args := #[]) (mvT hZ (hw _ (List.mem_of_getElem? (i := 174) rfl)))) (mvT hZ (hw _ (List.mem_of_getElem? (i := 174) rfl))) (mvT hZ (hw _ (List.mem_of_getElem? (i := 173) rfl))) (by decide) (backOf (W := 0) (rmG_pzxid l Z a0 hw [] t__451 q1 T451.heap n0 f461 G_pzxid_451) hZ (hw _ (List.mem_of_getElem? (i := 175) rfl)) (hw _ (List.mem_of_getElem? (i := 99) rfl)) (by decide) (by decide)) q478a q478c (g := (mkF m 329 #[lv q1, sd, lv q2, sd, lv q3, sd, lv q4, sd, lv q5, sd, iv p6, iv v4, iv x6, iv (1 : Int32), iv x329, iv (0 : Int32), iv x334, iv (1 : Int32), .val r416, .val .null, rv b418, rv b422, rv b432, rv t__451, rv b418, lv q5, sd, lv q2, sd, iv (2 : Int32), iv x334] [(.ref t__451)])) rfl (by rw [hml]; rfl) (Steps.refl _) (argsL := []) (rest := []) (lenOf pd_7 rfl) rfl (by show 2 * 0 + _ ≤ _; exact Nat.le_of_eq rfl) (hb hby at_329) (fun _ _ => ⟨rfl, e475, (by decide : 7 + 0 ≤ _), (by decide : 42 + 0 ≤ _)⟩)
        dsimp only [Pt.U, Pt.locs, Pt.cells, Pt.slots] at X478 l478 y478 z478 st478 hQ478
        subst y478 z478
        obtain ⟨rfl, N478q, e478⟩ := hQ478
        have N478 : Fr n0 L478 := by rw [l478]; exact Fr.app N475 N478q
        have P479 : Rch p e below (s₁.setTop (entryFrame m #[(.long q1), (.long q2), (.long q3), (.long q4), (.long q5), (.int p6)] maxLocals)) (T478.setTop (mkF m 332 #[lv q1, sd, lv q2, sd, lv q3, sd, lv q4, sd, lv q5, sd, iv p6, iv v4, iv x6, iv (1 : Int32), iv x329, iv (0 : Int32), iv x334, iv (1 : Int32), .val r416, .val .null, rv b418, rv b422, rv b432, rv t__451, rv b418, lv q5, sd, lv q2, sd, iv (2 : Int32), iv x334] [(.long q1)])) := fun t k => P477 t (st478.trans k)
        have P480 : Rch p e below (s₁.setTop (entryFrame m #[(.long q1), (.long q2), (.long q3), (.long q4), (.long q5), (.int p6)] maxLocals)) (T478.setTop (mkF m 339 #[lv q1, sd, lv q2, sd, lv q3, sd, lv q4, sd, lv q5, sd, iv p6, iv v4, iv x6, iv (1 : Int32), iv x329, iv (0 : Int32), iv x334, iv (1 : Int32), .val r416, .val .null, rv b418, rv b422, rv b432, rv t__451, rv b418, lv q5, sd, lv q2, sd, iv (2 : Int32), iv x334] [(.ref t__451)])) := fun t k => P479 t (by
          show Steps p.tables e below (T478.setTop (mkF m 332 #[lv q1, sd, lv q2, sd, lv q3, sd, lv q4, sd, lv q5, sd, iv p6, iv v4, iv x6, iv (1 : Int32), iv x329, iv (0 : Int32), iv x334, iv (1 : Int32), .val r416, .val .null, rv b418, rv b422, rv b432, rv t__451, rv b418, lv q5, sd, lv q2, sd, iv (2 : Int32), iv x334] [(.long q1)])) t
          refine XS.lloadN X478.here hx rfl (hb hby at_332) rfl ?_
          refine XS.lcmp X478.here hx rfl (hb hby at_333) rfl ?_
          refine XS.ifNo X478.here hx rfl (hb hby at_334) rfl ((if0 _ _).trans (teq ((lw_eq q1 q1).mpr rfl)).2) ?_
          show Steps p.tables e below (T478.setTop (mkF m 337 #[lv q1, sd, lv q2, sd, lv q3, sd, lv q4, sd, lv q5, sd, iv p6, iv v4, iv x6, iv (1 : Int32), iv x329, iv (0 : Int32), iv x334, iv (1 : Int32), .val r416, .val .null, rv b418, rv b422, rv b432, rv t__451, rv b418, lv q5, sd, lv q2, sd, iv (2 : Int32), iv x334] [])) t
          refine XS.aload X478.here hx rfl (hb hby at_337) rfl rfl ?_
          exact k)
        obtain ⟨cq481, kq481, q481a, q481b, q481c⟩ := isOf hZ e478 Et_451
        obtain ⟨_, _, ⟨T481, L481, k481, n481⟩, -, X481, ⟨Lc481, hQ481, l481, y481, z481⟩, st481⟩ := X478.virtualBack hx (y := (⟨"com/example/usher/usher/protocol/Stat", "ctime", "()J"⟩ : MethodName)) (z := (⟨"com/example/usher/usher/protocol/Stat", "ctime", "()J"⟩ : MethodName)) hown (mvT hZ (hw _ (List.mem_of_getElem? (i := 176) rfl))) (mvT hZ (hw _ (List.mem_of_getElem? (i := 177) rfl))) (notFace_of_selects (args := #[]) (mvT hZ (hw _ (List.mem_of_getElem? (i := 179) rfl)))) (mvT hZ (hw _ (List.mem_of_getElem? (i := 179) rfl))) (mvT hZ (hw _ (List.mem_of_getElem? (i := 178) rfl))) (by decide) (backOf (W := 0) (rmG_ctime l Z a0 hw [] t__451 q2 T451.heap n0 f461 G_ctime_451) hZ (hw _ (List.mem_of_getElem? (i := 180) rfl)) (hw _ (List.mem_of_getElem? (i := 99) rfl)) (by decide) (by decide)) q481a q481c (g := (mkF m 339 #[lv q1, sd, lv q2, sd, lv q3, sd, lv q4, sd, lv q5, sd, iv p6, iv v4, iv x6, iv (1 : Int32), iv x329, iv (0 : Int32), iv x334, iv (1 : Int32), .val r416, .val .null, rv b418, rv b422, rv b432, rv t__451, rv b418, lv q5, sd, lv q2, sd, iv (2 : Int32), iv x334] [(.ref t__451)])) rfl (by rw [hml]; rfl) (Steps.refl _) (argsL := []) (rest := []) (lenOf pd_7 rfl) rfl (by show 2 * 0 + _ ≤ _; exact Nat.le_of_eq rfl) (hb hby at_339) (fun _ _ => ⟨rfl, e478, (by decide : 7 + 0 ≤ _), (by decide : 42 + 0 ≤ _)⟩)
        dsimp only [Pt.U, Pt.locs, Pt.cells, Pt.slots] at X481 l481 y481 z481 st481 hQ481
        subst y481 z481
        obtain ⟨rfl, N481q, e481⟩ := hQ481
        have N481 : Fr n0 L481 := by rw [l481]; exact Fr.app N478 N481q
        have P482 : Rch p e below (s₁.setTop (entryFrame m #[(.long q1), (.long q2), (.long q3), (.long q4), (.long q5), (.int p6)] maxLocals)) (T481.setTop (mkF m 342 #[lv q1, sd, lv q2, sd, lv q3, sd, lv q4, sd, lv q5, sd, iv p6, iv v4, iv x6, iv (1 : Int32), iv x329, iv (0 : Int32), iv x334, iv (1 : Int32), .val r416, .val .null, rv b418, rv b422, rv b432, rv t__451, rv b418, lv q5, sd, lv q2, sd, iv (2 : Int32), iv x334] [(.long q2)])) := fun t k => P480 t (st481.trans k)
        have P483 : Rch p e below (s₁.setTop (entryFrame m #[(.long q1), (.long q2), (.long q3), (.long q4), (.long q5), (.int p6)] maxLocals)) (T481.setTop (mkF m 352 #[lv q1, sd, lv q2, sd, lv q3, sd, lv q4, sd, lv q5, sd, iv p6, iv v4, iv x6, iv (1 : Int32), iv x329, iv (0 : Int32), iv x334, iv (1 : Int32), .val r416, .val .null, rv b418, rv b422, rv b432, rv t__451, rv b418, lv q5, sd, lv q2, sd, iv (2 : Int32), iv x334] [(.int (1 : Int32))])) := fun t k => P482 t (by
          show Steps p.tables e below (T481.setTop (mkF m 342 #[lv q1, sd, lv q2, sd, lv q3, sd, lv q4, sd, lv q5, sd, iv p6, iv v4, iv x6, iv (1 : Int32), iv x329, iv (0 : Int32), iv x334, iv (1 : Int32), .val r416, .val .null, rv b418, rv b422, rv b432, rv t__451, rv b418, lv q5, sd, lv q2, sd, iv (2 : Int32), iv x334] [(.long q2)])) t
          refine XS.lloadN X481.here hx rfl (hb hby at_342) rfl ?_
          refine XS.lcmp X481.here hx rfl (hb hby at_343) rfl ?_
          refine XS.ifNo X481.here hx rfl (hb hby at_344) rfl ((if0 _ _).trans (teq ((lw_eq q2 q2).mpr rfl)).2) ?_
          show Steps p.tables e below (T481.setTop (mkF m 347 #[lv q1, sd, lv q2, sd, lv q3, sd, lv q4, sd, lv q5, sd, iv p6, iv v4, iv x6, iv (1 : Int32), iv x329, iv (0 : Int32), iv x334, iv (1 : Int32), .val r416, .val .null, rv b418, rv b422, rv b432, rv t__451, rv b418, lv q5, sd, lv q2, sd, iv (2 : Int32), iv x334] [])) t
          refine XS.iconst X481.here hx rfl (hb hby at_347) ?_
          refine XS.goto X481.here hx rfl (pc0 := 348) (pc' := 352) rfl (hb hby at_348) (by decide) (by decide) ?_
          exact k)
        obtain ⟨fs, hr, hrun, hended, hW, hsame⟩ := X481.leave (v := some (.int (1 : Int32))) (fun h => by rw [Bd.returns] at h; cases h)
        refine ⟨_, _, P483 _ ?_, hrun, hended, _, _, rfl, ?_, ⟨_, rfl⟩, hW, hsame.mono (by decide) (by decide)⟩
        · exact retN X481 hx (t := .boolean) Bd.returns (by simp) (hb hby at_352) hr
        · show Q_rm0 Z q1 q2 q3 q4 q5 p6 aD h0 n0 _ T481.heap _
          rw [e481]
          exact ⟨rfl, N481⟩
    · obtain ⟨x484, hx484⟩ : ∃ z : Int32, z = (((p6.toUInt32 >>> ((7 : Int32) &&& 31).toUInt32).toInt32) &&& (3 : Int32)) := ⟨_, rfl⟩
      have P485 : Rch p e below (s₁.setTop (entryFrame m #[(.long q1), (.long q2), (.long q3), (.long q4), (.long q5), (.int p6)] maxLocals)) (s₁.setTop (mkF m 69 #[lv q1, sd, lv q2, sd, lv q3, sd, lv q4, sd, lv q5, sd, iv p6, iv v4, iv x6, iv (1 : Int32), iv x329, iv (1 : Int32), iv x484, un, un, un, un, un, un, un, un, un, un, un, un, un, un] [])) := fun t k => P332 t (by
        subst hx484
        show Steps p.tables e below (s₁.setTop (mkF m 50 #[lv q1, sd, lv q2, sd, lv q3, sd, lv q4, sd, lv q5, sd, iv p6, iv v4, iv x6, iv (1 : Int32), iv x329, un, un, un, un, un, un, un, un, un, un, un, un, un, un, un, un] [(.int x331)])) t
        refine XS.ifNo X0.here hx rfl (hb hby at_50) rfl ((if0 _ _).trans (feq c333).1) ?_
        refine XS.iconst X0.here hx rfl (hb hby at_53) ?_
        refine XS.goto X0.here hx rfl (pc0 := 54) (pc' := 58) rfl (hb hby at_54) (by decide) (by decide) ?_
        show Steps p.tables e below (s₁.setTop (mkF m 58 #[lv q1, sd, lv q2, sd, lv q3, sd, lv q4, sd, lv q5, sd, iv p6, iv v4, iv x6, iv (1 : Int32), iv x329, un, un, un, un, un, un, un, un, un, un, un, un, un, un, un, un] [(.int (1 : Int32))])) t
        refine XS.istore X0.here hx rfl (hb hby at_58) rfl (l' := #[lv q1, sd, lv q2, sd, lv q3, sd, lv q4, sd, lv q5, sd, iv p6, iv v4, iv x6, iv (1 : Int32), iv x329, iv (1 : Int32), un, un, un, un, un, un, un, un, un, un, un, un, un, un, un]) rfl ?_
        refine XS.iload X0.here hx rfl (hb hby at_60) rfl ?_
        refine XS.bipush X0.here hx rfl (hb hby at_62) ?_
        refine XS.iushr X0.here hx rfl (hb hby at_64) rfl ?_
        show Steps p.tables e below (s₁.setTop (mkF m 65 #[lv q1, sd, lv q2, sd, lv q3, sd, lv q4, sd, lv q5, sd, iv p6, iv v4, iv x6, iv (1 : Int32), iv x329, iv (1 : Int32), un, un, un, un, un, un, un, un, un, un, un, un, un, un, un] [(.int ((p6.toUInt32 >>> ((7 : Int32) &&& 31).toUInt32).toInt32))])) t
        refine XS.iconst X0.here hx rfl (hb hby at_65) ?_
        refine XS.iand X0.here hx rfl (hb hby at_66) rfl ?_
        refine XS.istore X0.here hx rfl (hb hby at_67) rfl (l' := #[lv q1, sd, lv q2, sd, lv q3, sd, lv q4, sd, lv q5, sd, iv p6, iv v4, iv x6, iv (1 : Int32), iv x329, iv (1 : Int32), iv (((p6.toUInt32 >>> ((7 : Int32) &&& 31).toUInt32).toInt32) &&& (3 : Int32)), un, un, un, un, un, un, un, un, un, un, un, un, un, un]) rfl ?_
        exact k)
      obtain ⟨x486, hx486⟩ : ∃ z : Int32, z = (p6 &&& (512 : Int32)) := ⟨_, rfl⟩
      have P487 : Rch p e below (s₁.setTop (entryFrame m #[(.long q1), (.long q2), (.long q3), (.long q4), (.long q5), (.int p6)] maxLocals)) (s₁.setTop (mkF m 75 #[lv q1, sd, lv q2, sd, lv q3, sd, lv q4, sd, lv q5, sd, iv p6, iv v4, iv x6, iv (1 : Int32), iv x329, iv (1 : Int32), iv x484, un, un, un, un, un, un, un, un, un, un, un, un, un, un] [(.int x486)])) := fun t k => P485 t (by
        subst hx486
        show Steps p.tables e below (s₁.setTop (mkF m 69 #[lv q1, sd, lv q2, sd, lv q3, sd, lv q4, sd, lv q5, sd, iv p6, iv v4, iv x6, iv (1 : Int32), iv x329, iv (1 : Int32), iv x484, un, un, un, un, un, un, un, un, un, un, un, un, un, un] [])) t
        refine XS.iload X0.here hx rfl (hb hby at_69) rfl ?_
        refine XS.sipush X0.here hx rfl (hb hby at_71) ?_
        refine XS.iand X0.here hx rfl (hb hby at_74) rfl ?_
        exact k)
      by_cases c488 : x486 = (0 : Int32)
      · have P489 : Rch p e below (s₁.setTop (entryFrame m #[(.long q1), (.long q2), (.long q3), (.long q4), (.long q5), (.int p6)] maxLocals)) (s₁.setTop (mkF m 87 #[lv q1, sd, lv q2, sd, lv q3, sd, lv q4, sd, lv q5, sd, iv p6, iv v4, iv x6, iv (1 : Int32), iv x329, iv (1 : Int32), iv x484, iv (0 : Int32), un, un, un, un, un, un, un, un, un, un, un, un, un] [(.int v4)])) := fun t k => P487 t (by
          show Steps p.tables e below (s₁.setTop (mkF m 75 #[lv q1, sd, lv q2, sd, lv q3, sd, lv q4, sd, lv q5, sd, iv p6, iv v4, iv x6, iv (1 : Int32), iv x329, iv (1 : Int32), iv x484, un, un, un, un, un, un, un, un, un, un, un, un, un, un] [(.int x486)])) t
          refine XS.ifYes X0.here hx rfl (pc0 := 75) (pc' := 82) rfl (hb hby at_75) rfl ((if0 _ _).trans (teq c488).1) (by decide) (by decide) ?_
          refine XS.iconst X0.here hx rfl (hb hby at_82) ?_
          refine XS.istore X0.here hx rfl (hb hby at_83) rfl (l' := #[lv q1, sd, lv q2, sd, lv q3, sd, lv q4, sd, lv q5, sd, iv p6, iv v4, iv x6, iv (1 : Int32), iv x329, iv (1 : Int32), iv x484, iv (0 : Int32), un, un, un, un, un, un, un, un, un, un, un, un, un]) rfl ?_
          show Steps p.tables e below (s₁.setTop (mkF m 85 #[lv q1, sd, lv q2, sd, lv q3, sd, lv q4, sd, lv q5, sd, iv p6, iv v4, iv x6, iv (1 : Int32), iv x329, iv (1 : Int32), iv x484, iv (0 : Int32), un, un, un, un, un, un, un, un, un, un, un, un, un] [])) t
          refine XS.iload X0.here hx rfl (hb hby at_85) rfl ?_
          exact k)
        obtain ⟨T490, L490, h490, r497, X490, e490, N490, Z490, K490, hr497, P490⟩ : ∃ (T490 : State) (L490 : List Loc) (h490 : Heap) (r497 : Value), Stand p l e room_1 s m #[(.long q1), (.long q2), (.long q3), (.long q4), (.long q5), (.int p6)] below meth c T490 L490 1 3 ∧ T490.heap = h490 ∧ Fr n0 L490 ∧ n0 ≤ h490.size ∧ Keep h0 h490 [] ∧ r497.isRef = true ∧ Rch p e below (s₁.setTop (entryFrame m #[(.long q1), (.long q2), (.long q3), (.long q4), (.long q5), (.int p6)] maxLocals)) (T490.setTop (mkF m 98 #[lv q1, sd, lv q2, sd, lv q3, sd, lv q4, sd, lv q5, sd, iv p6, iv v4, iv x6, iv (1 : Int32), iv x329, iv (1 : Int32), iv x484, iv (0 : Int32), un, un, un, un, un, un, un, un, un, un, un, un, un] [r497])) := by
          by_cases c491 : v4 = (0 : Int32)
          · have P492 : Rch p e below (s₁.setTop (entryFrame m #[(.long q1), (.long q2), (.long q3), (.long q4), (.long q5), (.int p6)] maxLocals)) (s₁.setTop (mkF m 96 #[lv q1, sd, lv q2, sd, lv q3, sd, lv q4, sd, lv q5, sd, iv p6, iv v4, iv x6, iv (1 : Int32), iv x329, iv (1 : Int32), iv x484, iv (0 : Int32), un, un, un, un, un, un, un, un, un, un, un, un, un] [(.int x6)])) := fun t k => P489 t (by
              show Steps p.tables e below (s₁.setTop (mkF m 87 #[lv q1, sd, lv q2, sd, lv q3, sd, lv q4, sd, lv q5, sd, iv p6, iv v4, iv x6, iv (1 : Int32), iv x329, iv (1 : Int32), iv x484, iv (0 : Int32), un, un, un, un, un, un, un, un, un, un, un, un, un] [(.int v4)])) t
              refine XS.ifYes X0.here hx rfl (pc0 := 87) (pc' := 94) rfl (hb hby at_87) rfl ((if0 _ _).trans (teq c491).1) (by decide) (by decide) ?_
              refine XS.iload X0.here hx rfl (hb hby at_94) rfl ?_
              exact k)
            have hm96 := own_m3 _ hx6
            obtain ⟨T493, h493, k493, X493, e493, E493, A493, st493⟩ := newP X0 hx hZ (hw _ (List.mem_of_getElem? (i := 0) rfl)) e0 (g := (mkF m 96 #[lv q1, sd, lv q2, sd, lv q3, sd, lv q4, sd, lv q5, sd, iv p6, iv v4, iv x6, iv (1 : Int32), iv x329, iv (1 : Int32), iv x484, iv (0 : Int32), un, un, un, un, un, un, un, un, un, un, un, un, un] [(.int x6)])) rfl (hb hby at_96) rfl hm96.1 (cap := 3) hm96.2 (by decide) (by decide) (by decide)
            obtain ⟨b493, g493⟩ : ∃ z, z = h0.size := ⟨_, rfl⟩
            rw [← g493] at A493 st493
            have g_b493 : n0 ≤ b493 := Nat.le_trans Z0 (Nat.le_of_eq g493.symm)
            have sz_b493 : h0.size ≤ b493 := Nat.le_trans (Keep.refl h0 []).1 (Nat.le_of_eq g493.symm)
            have szj_b493 : h0.size ≤ b493 := Nat.le_trans (Keep.refl h0 []).1 (Nat.le_of_eq g493.symm)
            have V493 : Arv Z h493 b493 k493 .byte x6 [] (.int (0 : Int32)) := Arv.new A493 hm96.1
            have P494 : Rch p e below (s₁.setTop (entryFrame m #[(.long q1), (.long q2), (.long q3), (.long q4), (.long q5), (.int p6)] maxLocals)) (T493.setTop (mkF m 98 #[lv q1, sd, lv q2, sd, lv q3, sd, lv q4, sd, lv q5, sd, iv p6, iv v4, iv x6, iv (1 : Int32), iv x329, iv (1 : Int32), iv x484, iv (0 : Int32), un, un, un, un, un, un, un, un, un, un, un, un, un] [(.ref b493)])) := fun t k => P492 t (st493 t k)
            have f495 : n0 ≤ h493.size := (Nat.le_trans Z0 E493.1)
            exact ⟨T493, _, h493, (.ref b493), X493, e493, N0, f495, ((Keep.refl h0 []).ext E493), rfl, P494⟩
          · have P496 : Rch p e below (s₁.setTop (entryFrame m #[(.long q1), (.long q2), (.long q3), (.long q4), (.long q5), (.int p6)] maxLocals)) (s₁.setTop (mkF m 98 #[lv q1, sd, lv q2, sd, lv q3, sd, lv q4, sd, lv q5, sd, iv p6, iv v4, iv x6, iv (1 : Int32), iv x329, iv (1 : Int32), iv x484, iv (0 : Int32), un, un, un, un, un, un, un, un, un, un, un, un, un] [.null])) := fun t k => P489 t (by
              show Steps p.tables e below (s₁.setTop (mkF m 87 #[lv q1, sd, lv q2, sd, lv q3, sd, lv q4, sd, lv q5, sd, iv p6, iv v4, iv x6, iv (1 : Int32), iv x329, iv (1 : Int32), iv x484, iv (0 : Int32), un, un, un, un, un, un, un, un, un, un, un, un, un] [(.int v4)])) t
              refine XS.ifNo X0.here hx rfl (hb hby at_87) rfl ((if0 _ _).trans (feq c491).1) ?_
              refine XS.aconstNull X0.here hx rfl (hb hby at_90) ?_
              refine XS.goto X0.here hx rfl (pc0 := 91) (pc' := 98) rfl (hb hby at_91) (by decide) (by decide) ?_
              exact k)
            exact ⟨s₁, _, h0, .null, (own_more X0 (by decide) (by decide)), e0, N0, Z0, (Keep.refl h0 []), rfl, P496⟩
        have P498 : Rch p e below (s₁.setTop (entryFrame m #[(.long q1), (.long q2), (.long q3), (.long q4), (.long q5), (.int p6)] maxLocals)) (T490.setTop (mkF m 130 #[lv q1, sd, lv q2, sd, lv q3, sd, lv q4, sd, lv q5, sd, iv p6, iv v4, iv x6, iv (1 : Int32), iv x329, iv (1 : Int32), iv x484, iv (0 : Int32), .val r497, .val .null, .val .null, un, un, un, un, un, un, un, un, un, un] [])) := fun t k => P490 t (by
          show Steps p.tables e below (T490.setTop (mkF m 98 #[lv q1, sd, lv q2, sd, lv q3, sd, lv q4, sd, lv q5, sd, iv p6, iv v4, iv x6, iv (1 : Int32), iv x329, iv (1 : Int32), iv x484, iv (0 : Int32), un, un, un, un, un, un, un, un, un, un, un, un, un] [r497])) t
          refine XS.astore X490.here hx rfl (hb hby at_98) rfl hr497 (l' := #[lv q1, sd, lv q2, sd, lv q3, sd, lv q4, sd, lv q5, sd, iv p6, iv v4, iv x6, iv (1 : Int32), iv x329, iv (1 : Int32), iv x484, iv (0 : Int32), .val r497, un, un, un, un, un, un, un, un, un, un, un, un]) (by rcases ref_cases hr497 with q_ | ⟨_, q_⟩ <;> rw [q_] <;> rfl) ?_
          refine XS.iload X490.here hx rfl (hb hby at_100) rfl ?_
          refine XS.ifNo X490.here hx rfl (hb hby at_102) rfl ((if0 _ _).trans (feq (by decide)).1) ?_
          show Steps p.tables e below (T490.setTop (mkF m 105 #[lv q1, sd, lv q2, sd, lv q3, sd, lv q4, sd, lv q5, sd, iv p6, iv v4, iv x6, iv (1 : Int32), iv x329, iv (1 : Int32), iv x484, iv (0 : Int32), .val r497, un, un, un, un, un, un, un, un, un, un, un, un] [])) t
          refine XS.aconstNull X490.here hx rfl (hb hby at_105) ?_
          refine XS.goto X490.here hx rfl (pc0 := 106) (pc' := 113) rfl (hb hby at_106) (by decide) (by decide) ?_
          refine XS.astore X490.here hx rfl (hb hby at_113) rfl rfl (l' := #[lv q1, sd, lv q2, sd, lv q3, sd, lv q4, sd, lv q5, sd, iv p6, iv v4, iv x6, iv (1 : Int32), iv x329, iv (1 : Int32), iv x484, iv (0 : Int32), .val r497, .val .null, un, un, un, un, un, un, un, un, un, un, un]) rfl ?_
          refine XS.iload X490.here hx rfl (hb hby at_115) rfl ?_
          show Steps p.tables e below (T490.setTop (mkF m 117 #[lv q1, sd, lv q2, sd, lv q3, sd, lv q4, sd, lv q5, sd, iv p6, iv v4, iv x6, iv (1 : Int32), iv x329, iv (1 : Int32), iv x484, iv (0 : Int32), .val r497, .val .null, un, un, un, un, un, un, un, un, un, un, un] [(.int (1 : Int32))])) t
          refine XS.ifNo X490.here hx rfl (hb hby at_117) rfl ((if0 _ _).trans (feq (by decide)).1) ?_
          refine XS.aconstNull X490.here hx rfl (hb hby at_120) ?_
          refine XS.goto X490.here hx rfl (pc0 := 121) (pc' := 128) rfl (hb hby at_121) (by decide) (by decide) ?_
          refine XS.astore X490.here hx rfl (hb hby at_128) rfl rfl (l' := #[lv q1, sd, lv q2, sd, lv q3, sd, lv q4, sd, lv q5, sd, iv p6, iv v4, iv x6, iv (1 : Int32), iv x329, iv (1 : Int32), iv x484, iv (0 : Int32), .val r497, .val .null, .val .null, un, un, un, un, un, un, un, un, un, un]) rfl ?_
          exact k)
        have f500 : Keep h0 h490 [] := ((Keep.refl h0 []).trans K490 all0)
        obtain ⟨T499, h499, X499, e499, E499, A499, D499, -, st499⟩ := newO X490 hx hZ hown (hw _ (List.mem_of_getElem? (i := 1) rfl)) (hw _ (List.mem_of_getElem? (i := 2) rfl)) (hw _ (List.mem_of_getElem? (i := 3) rfl)) e490 (g := (mkF m 130 #[lv q1, sd, lv q2, sd, lv q3, sd, lv q4, sd, lv q5, sd, iv p6, iv v4, iv x6, iv (1 : Int32), iv x329, iv (1 : Int32), iv x484, iv (0 : Int32), .val r497, .val .null, .val .null, un, un, un, un, un, un, un, un, un, un] [])) rfl (hb hby at_130) (by decide) (by decide)
        obtain ⟨b499, g499⟩ : ∃ z, z = h490.size := ⟨_, rfl⟩
        rw [← g499] at A499 D499 st499
        have g_b499 : n0 ≤ b499 := Nat.le_trans Z490 (Nat.le_of_eq g499.symm)
        have sz_b499 : h0.size ≤ b499 := Nat.le_trans f500.1 (Nat.le_of_eq g499.symm)
        have F499_23 : Fld Z h499 b499 "java/util/AbstractList" "modCount" "I" (.int (0 : Int32)) := D499 (Or.inl (hw _ (List.mem_of_getElem? (i := 23) rfl))) (ty := .int) (by decide)
        have F499_26 : Fld Z h499 b499 "java/util/ArrayList" "elementData" "[Ljava/lang/Object;" .null := D499 (Or.inl (hw _ (List.mem_of_getElem? (i := 26) rfl))) (ty := (.array (.object "java/lang/Object"))) (by decide)
        have P501 : Rch p e below (s₁.setTop (entryFrame m #[(.long q1), (.long q2), (.long q3), (.long q4), (.long q5), (.int p6)] maxLocals)) (T499.setTop (mkF m 133 #[lv q1, sd, lv q2, sd, lv q3, sd, lv q4, sd, lv q5, sd, iv p6, iv v4, iv x6, iv (1 : Int32), iv x329, iv (1 : Int32), iv x484, iv (0 : Int32), .val r497, .val .null, .val .null, un, un, un, un, un, un, un, un, un, un] [(.ref b499)])) := fun t k => P498 t (st499 t k)
        have P502 : Rch p e below (s₁.setTop (entryFrame m #[(.long q1), (.long q2), (.long q3), (.long q4), (.long q5), (.int p6)] maxLocals)) (T499.setTop (mkF m 134 #[lv q1, sd, lv q2, sd, lv q3, sd, lv q4, sd, lv q5, sd, iv p6, iv v4, iv x6, iv (1 : Int32), iv x329, iv (1 : Int32), iv x484, iv (0 : Int32), .val r497, .val .null, .val .null, un, un, un, un, un, un, un, un, un, un] [(.ref b499), (.ref b499)])) := fun t k => P501 t (by
          show Steps p.tables e below (T499.setTop (mkF m 133 #[lv q1, sd, lv q2, sd, lv q3, sd, lv q4, sd, lv q5, sd, iv p6, iv v4, iv x6, iv (1 : Int32), iv x329, iv (1 : Int32), iv x484, iv (0 : Int32), .val r497, .val .null, .val .null, un, un, un, un, un, un, un, un, un, un] [(.ref b499)])) t
          refine XS.dup X499.here hx rfl (hb hby at_133) rfl rfl ?_
          exact k)
        have f504 : Old Z n0 h499 := ((O0.keep K490 all0).ext E499)
        have f505 : n0 ≤ h499.size := (Nat.le_trans Z490 E499.1)
        obtain ⟨_, _, ⟨T503, L503, k503, n503⟩, -, X503, ⟨Lc503, hQ503, l503, y503, z503⟩, st503⟩ := X499.specialBack hx (y := (⟨"java/util/ArrayList", "<init>", "()V"⟩ : MethodName)) rfl hown (mvT hZ (hw _ (List.mem_of_getElem? (i := 4) rfl))) (mvT hZ (hw _ (List.mem_of_getElem? (i := 5) rfl))) (mvT hZ (hw _ (List.mem_of_getElem? (i := 6) rfl))) (by decide) (backOf (W := 1) (rmAL l Z a0 hw [] b499 aD h499 n0 f505 f504 Sd A499 g_b499 F499_23 F499_26) hZ (hw _ (List.mem_of_getElem? (i := 6) rfl)) (hw _ (List.mem_of_getElem? (i := 3) rfl)) (by decide) (by decide)) (g := (mkF m 134 #[lv q1, sd, lv q2, sd, lv q3, sd, lv q4, sd, lv q5, sd, iv p6, iv v4, iv x6, iv (1 : Int32), iv x329, iv (1 : Int32), iv x484, iv (0 : Int32), .val r497, .val .null, .val .null, un, un, un, un, un, un, un, un, un, un] [(.ref b499), (.ref b499)])) rfl (by rw [hml]; rfl) (Steps.refl _) (a := b499) (argsL := []) (rest := [(.ref b499)]) (lenOf pd_0 rfl) rfl (by show 2 * 0 + _ ≤ _; exact Nat.le_of_eq rfl) (hb hby at_134) (fun _ _ => ⟨rfl, e499, (by decide : 2 + 0 ≤ _), (by decide : 6 + 0 ≤ _)⟩)
        dsimp only [Pt.U, Pt.locs, Pt.cells, Pt.slots] at X503 l503 y503 z503 st503 hQ503
        subst y503 z503
        obtain ⟨rfl, N503q, K503, E_503⟩ := hQ503
        have N503 : Fr n0 L503 := by rw [l503]; exact Fr.app N490 N503q
        have P506 : Rch p e below (s₁.setTop (entryFrame m #[(.long q1), (.long q2), (.long q3), (.long q4), (.long q5), (.int p6)] maxLocals)) (T503.setTop (mkF m 137 #[lv q1, sd, lv q2, sd, lv q3, sd, lv q4, sd, lv q5, sd, iv p6, iv v4, iv x6, iv (1 : Int32), iv x329, iv (1 : Int32), iv x484, iv (0 : Int32), .val r497, .val .null, .val .null, un, un, un, un, un, un, un, un, un, un] [(.ref b499)])) := fun t k => P502 t (st503.trans k)
        have P507 : Rch p e below (s₁.setTop (entryFrame m #[(.long q1), (.long q2), (.long q3), (.long q4), (.long q5), (.int p6)] maxLocals)) (T503.setTop (mkF m 139 #[lv q1, sd, lv q2, sd, lv q3, sd, lv q4, sd, lv q5, sd, iv p6, iv v4, iv x6, iv (1 : Int32), iv x329, iv (1 : Int32), iv x484, iv (0 : Int32), .val r497, .val .null, .val .null, rv b499, un, un, un, un, un, un, un, un, un] [])) := fun t k => P506 t (by
          show Steps p.tables e below (T503.setTop (mkF m 137 #[lv q1, sd, lv q2, sd, lv q3, sd, lv q4, sd, lv q5, sd, iv p6, iv v4, iv x6, iv (1 : Int32), iv x329, iv (1 : Int32), iv x484, iv (0 : Int32), .val r497, .val .null, .val .null, un, un, un, un, un, un, un, un, un, un] [(.ref b499)])) t
          refine XS.astore X503.here hx rfl (hb hby at_137) rfl rfl (l' := #[lv q1, sd, lv q2, sd, lv q3, sd, lv q4, sd, lv q5, sd, iv p6, iv v4, iv x6, iv (1 : Int32), iv x329, iv (1 : Int32), iv x484, iv (0 : Int32), .val r497, .val .null, .val .null, rv b499, un, un, un, un, un, un, un, un, un]) rfl ?_
          exact k)
        have f509 : n0 ≤ T503.heap.size := (Nat.le_trans f505 K503.1)
        have f510 : Keep h0 T503.heap [] := ((f500.ext E499).trans K503 (allS (P := fun x => x ∈ [] ∨ h0.size ≤ x) (Or.inr sz_b499) all0))
        obtain ⟨T508, h508, X508, e508, E508, A508, D508, -, st508⟩ := newO X503 hx hZ hown (hw _ (List.mem_of_getElem? (i := 27) rfl)) (hw _ (List.mem_of_getElem? (i := 28) rfl)) (hw _ (List.mem_of_getElem? (i := 29) rfl)) rfl (g := (mkF m 139 #[lv q1, sd, lv q2, sd, lv q3, sd, lv q4, sd, lv q5, sd, iv p6, iv v4, iv x6, iv (1 : Int32), iv x329, iv (1 : Int32), iv x484, iv (0 : Int32), .val r497, .val .null, .val .null, rv b499, un, un, un, un, un, un, un, un, un] [])) rfl (hb hby at_139) (by decide) (by decide)
        obtain ⟨b508, g508⟩ : ∃ z, z = T503.heap.size := ⟨_, rfl⟩
        rw [← g508] at A508 D508 st508
        have g_b508 : n0 ≤ b508 := Nat.le_trans f509 (Nat.le_of_eq g508.symm)
        have sz_b508 : h0.size ≤ b508 := Nat.le_trans f510.1 (Nat.le_of_eq g508.symm)
        have ne_b499_b508 : b499 ≠ b508 := Nat.ne_of_lt (Nat.lt_of_lt_of_le (A499.keep K503).lt (Nat.le_of_eq g508.symm))
        have F508_68 : Fld Z h508 b508 "com/example/usher/usher/core/Node" "children" "Ljava/util/Set;" .null := D508 (Or.inr (hw _ (List.mem_of_getElem? (i := 68) rfl))) (ty := (.object "java/util/Set")) (by decide)
        have F508_70 : Fld Z h508 b508 "com/example/usher/usher/core/Node" "czxid" "J" (.long (0 : Int64)) := D508 (Or.inr (hw _ (List.mem_of_getElem? (i := 70) rfl))) (ty := .long) (by decide)
        have F508_72 : Fld Z h508 b508 "com/example/usher/usher/core/Node" "ctime" "J" (.long (0 : Int64)) := D508 (Or.inr (hw _ (List.mem_of_getElem? (i := 72) rfl))) (ty := .long) (by decide)
        have F508_74 : Fld Z h508 b508 "com/example/usher/usher/core/Node" "ephemeralOwner" "J" (.long (0 : Int64)) := D508 (Or.inr (hw _ (List.mem_of_getElem? (i := 74) rfl))) (ty := .long) (by decide)
        have F508_76 : Fld Z h508 b508 "com/example/usher/usher/core/Node" "data" "[B" .null := D508 (Or.inl (hw _ (List.mem_of_getElem? (i := 76) rfl))) (ty := (.array .byte)) (by decide)
        have F508_78 : Fld Z h508 b508 "com/example/usher/usher/core/Node" "acl" "Ljava/util/List;" .null := D508 (Or.inl (hw _ (List.mem_of_getElem? (i := 78) rfl))) (ty := (.object "java/util/List")) (by decide)
        have F508_80 : Fld Z h508 b508 "com/example/usher/usher/core/Node" "mzxid" "J" (.long (0 : Int64)) := D508 (Or.inl (hw _ (List.mem_of_getElem? (i := 80) rfl))) (ty := .long) (by decide)
        have F508_82 : Fld Z h508 b508 "com/example/usher/usher/core/Node" "mtime" "J" (.long (0 : Int64)) := D508 (Or.inl (hw _ (List.mem_of_getElem? (i := 82) rfl))) (ty := .long) (by decide)
        have F508_84 : Fld Z h508 b508 "com/example/usher/usher/core/Node" "pzxid" "J" (.long (0 : Int64)) := D508 (Or.inl (hw _ (List.mem_of_getElem? (i := 84) rfl))) (ty := .long) (by decide)
        have F508_91 : Fld Z h508 b508 "com/example/usher/usher/core/Node" "version" "I" (.int (0 : Int32)) := D508 (Or.inl (hw _ (List.mem_of_getElem? (i := 91) rfl))) (ty := .int) (by decide)
        have F508_101 : Fld Z h508 b508 "com/example/usher/usher/core/Node" "cversion" "I" (.int (0 : Int32)) := D508 (Or.inl (hw _ (List.mem_of_getElem? (i := 101) rfl))) (ty := .int) (by decide)
        have F508_103 : Fld Z h508 b508 "com/example/usher/usher/core/Node" "aversion" "I" (.int (0 : Int32)) := D508 (Or.inl (hw _ (List.mem_of_getElem? (i := 103) rfl))) (ty := .int) (by decide)
        have P511 : Rch p e below (s₁.setTop (entryFrame m #[(.long q1), (.long q2), (.long q3), (.long q4), (.long q5), (.int p6)] maxLocals)) (T508.setTop (mkF m 142 #[lv q1, sd, lv q2, sd, lv q3, sd, lv q4, sd, lv q5, sd, iv p6, iv v4, iv x6, iv (1 : Int32), iv x329, iv (1 : Int32), iv x484, iv (0 : Int32), .val r497, .val .null, .val .null, rv b499, un, un, un, un, un, un, un, un, un] [(.ref b508)])) := fun t k => P507 t (st508 t k)
        have P512 : Rch p e below (s₁.setTop (entryFrame m #[(.long q1), (.long q2), (.long q3), (.long q4), (.long q5), (.int p6)] maxLocals)) (T508.setTop (mkF m 150 #[lv q1, sd, lv q2, sd, lv q3, sd, lv q4, sd, lv q5, sd, iv p6, iv v4, iv x6, iv (1 : Int32), iv x329, iv (1 : Int32), iv x484, iv (0 : Int32), .val r497, .val .null, .val .null, rv b499, un, un, un, un, un, un, un, un, un] [(.long q2), (.long q1), (.long (0 : Int64)), (.ref b499), r497, (.ref b508), (.ref b508)])) := fun t k => P511 t (by
          show Steps p.tables e below (T508.setTop (mkF m 142 #[lv q1, sd, lv q2, sd, lv q3, sd, lv q4, sd, lv q5, sd, iv p6, iv v4, iv x6, iv (1 : Int32), iv x329, iv (1 : Int32), iv x484, iv (0 : Int32), .val r497, .val .null, .val .null, rv b499, un, un, un, un, un, un, un, un, un] [(.ref b508)])) t
          refine XS.dup X508.here hx rfl (hb hby at_142) rfl rfl ?_
          refine XS.aload X508.here hx rfl (hb hby at_143) rfl hr497 ?_
          refine XS.aload X508.here hx rfl (hb hby at_145) rfl rfl ?_
          show Steps p.tables e below (T508.setTop (mkF m 147 #[lv q1, sd, lv q2, sd, lv q3, sd, lv q4, sd, lv q5, sd, iv p6, iv v4, iv x6, iv (1 : Int32), iv x329, iv (1 : Int32), iv x484, iv (0 : Int32), .val r497, .val .null, .val .null, rv b499, un, un, un, un, un, un, un, un, un] [(.ref b499), r497, (.ref b508), (.ref b508)])) t
          refine XS.lconst X508.here hx rfl (hb hby at_147) ?_
          refine XS.lloadN X508.here hx rfl (hb hby at_148) rfl ?_
          refine XS.lloadN X508.here hx rfl (hb hby at_149) rfl ?_
          exact k)
        have f514 : n0 ≤ h508.size := (Nat.le_trans f509 E508.1)
        obtain ⟨_, _, ⟨T513, L513, k513, n513⟩, -, X513, ⟨Lc513, hQ513, l513, y513, z513⟩, st513⟩ := X508.specialBack hx (y := (⟨"com/example/usher/usher/core/Node", "<init>", "([BLjava/util/List;JJJ)V"⟩ : MethodName)) rfl hown (mvT hZ (hw _ (List.mem_of_getElem? (i := 30) rfl))) (mvT hZ (hw _ (List.mem_of_getElem? (i := 31) rfl))) (mvT hZ (hw _ (List.mem_of_getElem? (i := 32) rfl))) (by decide) (backOf (W := 1) (rmND l Z a0 hw [] b508 r497 b499 (0 : Int64) q1 q2 h508 n0 f514 hr497 A508 g_b508 F508_68 F508_70 F508_72 F508_74 F508_76 F508_78 F508_80 F508_82 F508_84 F508_91 F508_101 F508_103) hZ (hw _ (List.mem_of_getElem? (i := 32) rfl)) (hw _ (List.mem_of_getElem? (i := 29) rfl)) (by decide) (by decide)) (g := (mkF m 150 #[lv q1, sd, lv q2, sd, lv q3, sd, lv q4, sd, lv q5, sd, iv p6, iv v4, iv x6, iv (1 : Int32), iv x329, iv (1 : Int32), iv x484, iv (0 : Int32), .val r497, .val .null, .val .null, rv b499, un, un, un, un, un, un, un, un, un] [(.long q2), (.long q1), (.long (0 : Int64)), (.ref b499), r497, (.ref b508), (.ref b508)])) rfl (by rw [hml]; rfl) (Steps.refl _) (a := b508) (argsL := [r497, (.ref b499), (.long (0 : Int64)), (.long q1), (.long q2)]) (rest := [(.ref b508)]) (lenOf pd_3 rfl) rfl (by show 2 * 0 + _ ≤ _; exact Nat.le_of_eq rfl) (hb hby at_150) (fun _ _ => ⟨rfl, e508, (by decide : 3 + 2 ≤ _), (by decide : 19 + 9 ≤ _)⟩)
        dsimp only [Pt.U, Pt.locs, Pt.cells, Pt.slots] at X513 l513 y513 z513 st513 hQ513
        subst y513 z513
        have f515 : Keep h0 h508 [] := (f510.ext E508)
        obtain ⟨c__513, m__513, rfl, N513q, K513, Fc_513, Fm_513, E_513, G0_513, G1_513, G2_513, G3_513, G4_513, G5_513, G6_513, G7_513, G8_513, G9_513, G10_513, G11_513, Ec_513, Gc_513, Em_513, Gm_513⟩ := hQ513
        have N513 : Fr n0 L513 := by rw [l513]; exact Fr.app N503 N513q
        have g_c__513 : n0 ≤ c__513 := Nat.le_trans f514 Fc_513
        have sz_c__513 : h0.size ≤ c__513 := Nat.le_trans f515.1 Fc_513
        have ne_b499_c__513 : b499 ≠ c__513 := Nat.ne_of_lt (Nat.lt_of_lt_of_le ((A499.keep K503).ext E508).lt Fc_513)
        have ne_b508_c__513 : b508 ≠ c__513 := Nat.ne_of_lt (Nat.lt_of_lt_of_le A508.lt Fc_513)
        have g_m__513 : n0 ≤ m__513 := Nat.le_trans f514 Fm_513
        have sz_m__513 : h0.size ≤ m__513 := Nat.le_trans f515.1 Fm_513
        have ne_b499_m__513 : b499 ≠ m__513 := Nat.ne_of_lt (Nat.lt_of_lt_of_le ((A499.keep K503).ext E508).lt Fm_513)
        have ne_b508_m__513 : b508 ≠ m__513 := Nat.ne_of_lt (Nat.lt_of_lt_of_le A508.lt Fm_513)
        have P516 : Rch p e below (s₁.setTop (entryFrame m #[(.long q1), (.long q2), (.long q3), (.long q4), (.long q5), (.int p6)] maxLocals)) (T513.setTop (mkF m 153 #[lv q1, sd, lv q2, sd, lv q3, sd, lv q4, sd, lv q5, sd, iv p6, iv v4, iv x6, iv (1 : Int32), iv x329, iv (1 : Int32), iv x484, iv (0 : Int32), .val r497, .val .null, .val .null, rv b499, un, un, un, un, un, un, un, un, un] [(.ref b508)])) := fun t k => P512 t (st513.trans k)
        have P517 : Rch p e below (s₁.setTop (entryFrame m #[(.long q1), (.long q2), (.long q3), (.long q4), (.long q5), (.int p6)] maxLocals)) (T513.setTop (mkF m 163 #[lv q1, sd, lv q2, sd, lv q3, sd, lv q4, sd, lv q5, sd, iv p6, iv v4, iv x6, iv (1 : Int32), iv x329, iv (1 : Int32), iv x484, iv (0 : Int32), .val r497, .val .null, .val .null, rv b499, rv b508, un, un, un, un, un, un, un, un] [(.long q4), (.long q3), .null, (.ref b508)])) := fun t k => P516 t (by
          show Steps p.tables e below (T513.setTop (mkF m 153 #[lv q1, sd, lv q2, sd, lv q3, sd, lv q4, sd, lv q5, sd, iv p6, iv v4, iv x6, iv (1 : Int32), iv x329, iv (1 : Int32), iv x484, iv (0 : Int32), .val r497, .val .null, .val .null, rv b499, un, un, un, un, un, un, un, un, un] [(.ref b508)])) t
          refine XS.astore X513.here hx rfl (hb hby at_153) rfl rfl (l' := #[lv q1, sd, lv q2, sd, lv q3, sd, lv q4, sd, lv q5, sd, iv p6, iv v4, iv x6, iv (1 : Int32), iv x329, iv (1 : Int32), iv x484, iv (0 : Int32), .val r497, .val .null, .val .null, rv b499, rv b508, un, un, un, un, un, un, un, un]) rfl ?_
          refine XS.aload X513.here hx rfl (hb hby at_155) rfl rfl ?_
          refine XS.aload X513.here hx rfl (hb hby at_157) rfl rfl ?_
          show Steps p.tables e below (T513.setTop (mkF m 159 #[lv q1, sd, lv q2, sd, lv q3, sd, lv q4, sd, lv q5, sd, iv p6, iv v4, iv x6, iv (1 : Int32), iv x329, iv (1 : Int32), iv x484, iv (0 : Int32), .val r497, .val .null, .val .null, rv b499, rv b508, un, un, un, un, un, un, un, un] [.null, (.ref b508)])) t
          refine XS.lload X513.here hx rfl (hb hby at_159) rfl ?_
          refine XS.lload X513.here hx rfl (hb hby at_161) rfl ?_
          exact k)
        have f519 : n0 ≤ T513.heap.size := (Nat.le_trans f514 K513.1)
        obtain ⟨cq518, kq518, q518a, q518b, q518c⟩ := isOf hZ rfl E_513
        obtain ⟨_, _, ⟨T518, L518, k518, n518⟩, -, X518, ⟨Lc518, hQ518, l518, y518, z518⟩, st518⟩ := X513.virtualBack hx (y := (⟨"com/example/usher/usher/core/Node", "setData", "([BJJ)V"⟩ : MethodName)) (z := (⟨"com/example/usher/usher/core/Node", "setData", "([BJJ)V"⟩ : MethodName)) hown (mvT hZ (hw _ (List.mem_of_getElem? (i := 85) rfl))) (mvT hZ (hw _ (List.mem_of_getElem? (i := 86) rfl))) (notFace_of_selects (args := #[]) (mvT hZ (hw _ (List.mem_of_getElem? (i := 88) rfl)))) (mvT hZ (hw _ (List.mem_of_getElem? (i := 88) rfl))) (mvT hZ (hw _ (List.mem_of_getElem? (i := 87) rfl))) (by decide) (backOf (W := 0) (rmSD l Z a0 hw [] b508 .null q3 q4 c__513 q1 q2 (0 : Int64) r497 b499 q1 q2 q1 (0 : Int32) (0 : Int32) (0 : Int32) T513.heap n0 f519 rfl E_513 g_b508 G0_513 G1_513 G2_513 G3_513 G4_513 G5_513 G6_513 G7_513 G8_513 G9_513 G10_513 G11_513) hZ (hw _ (List.mem_of_getElem? (i := 89) rfl)) (hw _ (List.mem_of_getElem? (i := 29) rfl)) (by decide) (by decide)) q518a q518c (g := (mkF m 163 #[lv q1, sd, lv q2, sd, lv q3, sd, lv q4, sd, lv q5, sd, iv p6, iv v4, iv x6, iv (1 : Int32), iv x329, iv (1 : Int32), iv x484, iv (0 : Int32), .val r497, .val .null, .val .null, rv b499, rv b508, un, un, un, un, un, un, un, un] [(.long q4), (.long q3), .null, (.ref b508)])) rfl (by rw [hml]; rfl) (Steps.refl _) (argsL := [.null, (.long q3), (.long q4)]) (rest := []) (lenOf pd_4 rfl) rfl (by show 2 * 0 + _ ≤ _; exact Nat.le_of_eq rfl) (hb hby at_163) (fun _ _ => ⟨rfl, rfl, (by decide : 5 + 0 ≤ _), (by decide : 28 + 0 ≤ _)⟩)
        dsimp only [Pt.U, Pt.locs, Pt.cells, Pt.slots] at X518 l518 y518 z518 st518 hQ518
        subst y518 z518
        obtain ⟨rfl, N518q, K518, E_518, G0_518, G1_518, G2_518, G3_518, G4_518, G5_518, G6_518, G7_518, G8_518, G9_518, G10_518, G11_518⟩ := hQ518
        have N518 : Fr n0 L518 := by rw [l518]; exact Fr.app N513 N518q
        have P520 : Rch p e below (s₁.setTop (entryFrame m #[(.long q1), (.long q2), (.long q3), (.long q4), (.long q5), (.int p6)] maxLocals)) (T518.setTop (mkF m 166 #[lv q1, sd, lv q2, sd, lv q3, sd, lv q4, sd, lv q5, sd, iv p6, iv v4, iv x6, iv (1 : Int32), iv x329, iv (1 : Int32), iv x484, iv (0 : Int32), .val r497, .val .null, .val .null, rv b499, rv b508, un, un, un, un, un, un, un, un] [])) := fun t k => P517 t (st518.trans k)
        have P521 : Rch p e below (s₁.setTop (entryFrame m #[(.long q1), (.long q2), (.long q3), (.long q4), (.long q5), (.int p6)] maxLocals)) (T518.setTop (mkF m 183 #[lv q1, sd, lv q2, sd, lv q3, sd, lv q4, sd, lv q5, sd, iv p6, iv v4, iv x6, iv (1 : Int32), iv x329, iv (1 : Int32), iv x484, iv (0 : Int32), .val r497, .val .null, .val .null, rv b499, rv b508, un, un, un, un, un, un, un, un] [(.ref b508)])) := fun t k => P520 t (by
          show Steps p.tables e below (T518.setTop (mkF m 166 #[lv q1, sd, lv q2, sd, lv q3, sd, lv q4, sd, lv q5, sd, iv p6, iv v4, iv x6, iv (1 : Int32), iv x329, iv (1 : Int32), iv x484, iv (0 : Int32), .val r497, .val .null, .val .null, rv b499, rv b508, un, un, un, un, un, un, un, un] [])) t
          refine XS.iload X518.here hx rfl (hb hby at_166) rfl ?_
          refine XS.ifYes X518.here hx rfl (pc0 := 168) (pc' := 181) rfl (hb hby at_168) rfl ((if0 _ _).trans (teq (by decide)).1) (by decide) (by decide) ?_
          refine XS.aload X518.here hx rfl (hb hby at_181) rfl rfl ?_
          exact k)
        have f523 : n0 ≤ T518.heap.size := (Nat.le_trans f519 K518.1)
        obtain ⟨cq522, kq522, q522a, q522b, q522c⟩ := isOf hZ rfl E_518
        obtain ⟨_, _, ⟨T522, L522, k522, n522⟩, -, X522, ⟨Lc522, hQ522, l522, y522, z522⟩, st522⟩ := X518.virtualBack hx (y := (⟨"com/example/usher/usher/core/Node", "stat", "()Lcom/example/usher/usher/protocol/Stat;"⟩ : MethodName)) (z := (⟨"com/example/usher/usher/core/Node", "stat", "()Lcom/example/usher/usher/protocol/Stat;"⟩ : MethodName)) hown (mvT hZ (hw _ (List.mem_of_getElem? (i := 92) rfl))) (mvT hZ (hw _ (List.mem_of_getElem? (i := 93) rfl))) (notFace_of_selects (args := #[]) (mvT hZ (hw _ (List.mem_of_getElem? (i := 95) rfl)))) (mvT hZ (hw _ (List.mem_of_getElem? (i := 95) rfl))) (mvT hZ (hw _ (List.mem_of_getElem? (i := 94) rfl))) (by decide) (backOf (W := 0) (rmS0 l Z a0 hw [] b508 c__513 q1 q2 (0 : Int64) b499 q3 q4 q1 ((0 : Int32) + (1 : Int32)) (0 : Int32) (0 : Int32) m__513 T518.heap n0 f523 E_518 G0_518 G1_518 G2_518 G3_518 G4_518 G5_518 G6_518 G7_518 G8_518 G9_518 G10_518 G11_518 (Ec_513.keep K518) (Gc_513.keep K518 (ninS (Ne.symm ne_b508_c__513) nin0)) (Em_513.keep K518) (Gm_513.keep K518 (ninS (Ne.symm ne_b508_m__513) nin0))) hZ (hw _ (List.mem_of_getElem? (i := 96) rfl)) (hw _ (List.mem_of_getElem? (i := 29) rfl)) (by decide) (by decide)) q522a q522c (g := (mkF m 183 #[lv q1, sd, lv q2, sd, lv q3, sd, lv q4, sd, lv q5, sd, iv p6, iv v4, iv x6, iv (1 : Int32), iv x329, iv (1 : Int32), iv x484, iv (0 : Int32), .val r497, .val .null, .val .null, rv b499, rv b508, un, un, un, un, un, un, un, un] [(.ref b508)])) rfl (by rw [hml]; rfl) (Steps.refl _) (argsL := []) (rest := []) (lenOf pd_5 rfl) rfl (by show 2 * 0 + _ ≤ _; exact Nat.le_of_eq rfl) (hb hby at_183) (fun _ _ => ⟨rfl, rfl, (by decide : 5 + 1 ≤ _), (by decide : 28 + 11 ≤ _)⟩)
        dsimp only [Pt.U, Pt.locs, Pt.cells, Pt.slots] at X522 l522 y522 z522 st522 hQ522
        subst y522 z522
        have f524 : Keep h0 T518.heap [] := ((f515.trans K513 (allS (P := fun x => x ∈ [] ∨ h0.size ≤ x) (Or.inr sz_b508) all0)).trans K518 (allS (P := fun x => x ∈ [] ∨ h0.size ≤ x) (Or.inr sz_b508) all0))
        obtain ⟨t__522, rfl, N522q, K522, Ft_522, Et_522, G_mzxid_522, G_ctime_522, G_mtime_522, G_version_522, G_dataLength_522, G_pzxid_522⟩ := hQ522
        have N522 : Fr n0 L522 := by rw [l522]; exact Fr.app N518 N522q
        have g_t__522 : n0 ≤ t__522 := Nat.le_trans f523 Ft_522
        have sz_t__522 : h0.size ≤ t__522 := Nat.le_trans f524.1 Ft_522
        have ne_b499_t__522 : b499 ≠ t__522 := Nat.ne_of_lt (Nat.lt_of_lt_of_le ((((A499.keep K503).ext E508).keep K513).keep K518).lt Ft_522)
        have ne_b508_t__522 : b508 ≠ t__522 := Nat.ne_of_lt (Nat.lt_of_lt_of_le ((A508.keep K513).keep K518).lt Ft_522)
        have ne_c__513_t__522 : c__513 ≠ t__522 := Nat.ne_of_lt (Nat.lt_of_lt_of_le (Ec_513.keep K518).lt Ft_522)
        have ne_m__513_t__522 : m__513 ≠ t__522 := Nat.ne_of_lt (Nat.lt_of_lt_of_le (Em_513.keep K518).lt Ft_522)
        have P525 : Rch p e below (s₁.setTop (entryFrame m #[(.long q1), (.long q2), (.long q3), (.long q4), (.long q5), (.int p6)] maxLocals)) (T522.setTop (mkF m 186 #[lv q1, sd, lv q2, sd, lv q3, sd, lv q4, sd, lv q5, sd, iv p6, iv v4, iv x6, iv (1 : Int32), iv x329, iv (1 : Int32), iv x484, iv (0 : Int32), .val r497, .val .null, .val .null, rv b499, rv b508, un, un, un, un, un, un, un, un] [(.ref t__522)])) := fun t k => P521 t (st522.trans k)
        have P526 : Rch p e below (s₁.setTop (entryFrame m #[(.long q1), (.long q2), (.long q3), (.long q4), (.long q5), (.int p6)] maxLocals)) (T522.setTop (mkF m 277 #[lv q1, sd, lv q2, sd, lv q3, sd, lv q4, sd, lv q5, sd, iv p6, iv v4, iv x6, iv (1 : Int32), iv x329, iv (1 : Int32), iv x484, iv (0 : Int32), .val r497, .val .null, .val .null, rv b499, rv b508, rv t__522, .val .null, lv q3, sd, lv q4, sd, iv (1 : Int32), iv (0 : Int32)] [(.ref b508)])) := fun t k => P525 t (by
          show Steps p.tables e below (T522.setTop (mkF m 186 #[lv q1, sd, lv q2, sd, lv q3, sd, lv q4, sd, lv q5, sd, iv p6, iv v4, iv x6, iv (1 : Int32), iv x329, iv (1 : Int32), iv x484, iv (0 : Int32), .val r497, .val .null, .val .null, rv b499, rv b508, un, un, un, un, un, un, un, un] [(.ref t__522)])) t
          refine XS.astore X522.here hx rfl (hb hby at_186) rfl rfl (l' := #[lv q1, sd, lv q2, sd, lv q3, sd, lv q4, sd, lv q5, sd, iv p6, iv v4, iv x6, iv (1 : Int32), iv x329, iv (1 : Int32), iv x484, iv (0 : Int32), .val r497, .val .null, .val .null, rv b499, rv b508, rv t__522, un, un, un, un, un, un, un]) rfl ?_
          refine XS.iload X522.here hx rfl (hb hby at_188) rfl ?_
          refine XS.ifYes X522.here hx rfl (pc0 := 190) (pc' := 198) rfl (hb hby at_190) rfl ((if0 _ _).trans (teq (by decide)).1) (by decide) (by decide) ?_
          show Steps p.tables e below (T522.setTop (mkF m 198 #[lv q1, sd, lv q2, sd, lv q3, sd, lv q4, sd, lv q5, sd, iv p6, iv v4, iv x6, iv (1 : Int32), iv x329, iv (1 : Int32), iv x484, iv (0 : Int32), .val r497, .val .null, .val .null, rv b499, rv b508, rv t__522, un, un, un, un, un, un, un] [])) t
          refine XS.aload X522.here hx rfl (hb hby at_198) rfl rfl ?_
          refine XS.astore X522.here hx rfl (hb hby at_200) rfl rfl (l' := #[lv q1, sd, lv q2, sd, lv q3, sd, lv q4, sd, lv q5, sd, iv p6, iv v4, iv x6, iv (1 : Int32), iv x329, iv (1 : Int32), iv x484, iv (0 : Int32), .val r497, .val .null, .val .null, rv b499, rv b508, rv t__522, .val .null, un, un, un, un, un, un]) rfl ?_
          refine XS.iload X522.here hx rfl (hb hby at_202) rfl ?_
          refine XS.ifYes X522.here hx rfl (pc0 := 204) (pc' := 212) rfl (hb hby at_204) rfl ((if0 _ _).trans (teq (by decide)).1) (by decide) (by decide) ?_
          show Steps p.tables e below (T522.setTop (mkF m 212 #[lv q1, sd, lv q2, sd, lv q3, sd, lv q4, sd, lv q5, sd, iv p6, iv v4, iv x6, iv (1 : Int32), iv x329, iv (1 : Int32), iv x484, iv (0 : Int32), .val r497, .val .null, .val .null, rv b499, rv b508, rv t__522, .val .null, un, un, un, un, un, un] [])) t
          refine XS.lload X522.here hx rfl (hb hby at_212) rfl ?_
          refine XS.lstore X522.here hx rfl (hb hby at_214) rfl (l' := #[lv q1, sd, lv q2, sd, lv q3, sd, lv q4, sd, lv q5, sd, iv p6, iv v4, iv x6, iv (1 : Int32), iv x329, iv (1 : Int32), iv x484, iv (0 : Int32), .val r497, .val .null, .val .null, rv b499, rv b508, rv t__522, .val .null, lv q3, sd, un, un, un, un]) rfl ?_
          refine XS.iload X522.here hx rfl (hb hby at_216) rfl ?_
          refine XS.ifYes X522.here hx rfl (pc0 := 218) (pc' := 225) rfl (hb hby at_218) rfl ((if0 _ _).trans (teq (by decide)).1) (by decide) (by decide) ?_
          show Steps p.tables e below (T522.setTop (mkF m 225 #[lv q1, sd, lv q2, sd, lv q3, sd, lv q4, sd, lv q5, sd, iv p6, iv v4, iv x6, iv (1 : Int32), iv x329, iv (1 : Int32), iv x484, iv (0 : Int32), .val r497, .val .null, .val .null, rv b499, rv b508, rv t__522, .val .null, lv q3, sd, un, un, un, un] [])) t
          refine XS.lload X522.here hx rfl (hb hby at_225) rfl ?_
          refine XS.lstore X522.here hx rfl (hb hby at_227) rfl (l' := #[lv q1, sd, lv q2, sd, lv q3, sd, lv q4, sd, lv q5, sd, iv p6, iv v4, iv x6, iv (1 : Int32), iv x329, iv (1 : Int32), iv x484, iv (0 : Int32), .val r497, .val .null, .val .null, rv b499, rv b508, rv t__522, .val .null, lv q3, sd, lv q4, sd, un, un]) rfl ?_
          refine XS.iload X522.here hx rfl (hb hby at_229) rfl ?_
          refine XS.ifYes X522.here hx rfl (pc0 := 231) (pc' := 238) rfl (hb hby at_231) rfl ((if0 _ _).trans (teq (by decide)).1) (by decide) (by decide) ?_
          show Steps p.tables e below (T522.setTop (mkF m 238 #[lv q1, sd, lv q2, sd, lv q3, sd, lv q4, sd, lv q5, sd, iv p6, iv v4, iv x6, iv (1 : Int32), iv x329, iv (1 : Int32), iv x484, iv (0 : Int32), .val r497, .val .null, .val .null, rv b499, rv b508, rv t__522, .val .null, lv q3, sd, lv q4, sd, un, un] [])) t
          refine XS.iconst X522.here hx rfl (hb hby at_238) ?_
          refine XS.istore X522.here hx rfl (hb hby at_239) rfl (l' := #[lv q1, sd, lv q2, sd, lv q3, sd, lv q4, sd, lv q5, sd, iv p6, iv v4, iv x6, iv (1 : Int32), iv x329, iv (1 : Int32), iv x484, iv (0 : Int32), .val r497, .val .null, .val .null, rv b499, rv b508, rv t__522, .val .null, lv q3, sd, lv q4, sd, iv (1 : Int32), un]) rfl ?_
          refine XS.iload X522.here hx rfl (hb hby at_241) rfl ?_
          refine XS.ifYes X522.here hx rfl (pc0 := 243) (pc' := 262) rfl (hb hby at_243) rfl ((if0 _ _).trans (teq (by decide)).1) (by decide) (by decide) ?_
          show Steps p.tables e below (T522.setTop (mkF m 262 #[lv q1, sd, lv q2, sd, lv q3, sd, lv q4, sd, lv q5, sd, iv p6, iv v4, iv x6, iv (1 : Int32), iv x329, iv (1 : Int32), iv x484, iv (0 : Int32), .val r497, .val .null, .val .null, rv b499, rv b508, rv t__522, .val .null, lv q3, sd, lv q4, sd, iv (1 : Int32), un] [])) t
          refine XS.iload X522.here hx rfl (hb hby at_262) rfl ?_
          refine XS.ifNo X522.here hx rfl (hb hby at_264) rfl ((if0 _ _).trans (feq (by decide)).1) ?_
          refine XS.iconst X522.here hx rfl (hb hby at_267) ?_
          refine XS.goto X522.here hx rfl (pc0 := 268) (pc' := 273) rfl (hb hby at_268) (by decide) (by decide) ?_
          show Steps p.tables e below (T522.setTop (mkF m 273 #[lv q1, sd, lv q2, sd, lv q3, sd, lv q4, sd, lv q5, sd, iv p6, iv v4, iv x6, iv (1 : Int32), iv x329, iv (1 : Int32), iv x484, iv (0 : Int32), .val r497, .val .null, .val .null, rv b499, rv b508, rv t__522, .val .null, lv q3, sd, lv q4, sd, iv (1 : Int32), un] [(.int (0 : Int32))])) t
          refine XS.istore X522.here hx rfl (hb hby at_273) rfl (l' := #[lv q1, sd, lv q2, sd, lv q3, sd, lv q4, sd, lv q5, sd, iv p6, iv v4, iv x6, iv (1 : Int32), iv x329, iv (1 : Int32), iv x484, iv (0 : Int32), .val r497, .val .null, .val .null, rv b499, rv b508, rv t__522, .val .null, lv q3, sd, lv q4, sd, iv (1 : Int32), iv (0 : Int32)]) rfl ?_
          refine XS.aload X522.here hx rfl (hb hby at_275) rfl rfl ?_
          exact k)
        have f528 : n0 ≤ T522.heap.size := (Nat.le_trans f523 K522.1)
        obtain ⟨cq527, kq527, q527a, q527b, q527c⟩ := isOf hZ rfl (E_518.keep K522)
        obtain ⟨_, _, ⟨T527, L527, k527, n527⟩, -, X527, ⟨Lc527, hQ527, l527, y527, z527⟩, st527⟩ := X522.virtualBack hx (y := (⟨"com/example/usher/usher/core/Node", "data", "()[B"⟩ : MethodName)) (z := (⟨"com/example/usher/usher/core/Node", "data", "()[B"⟩ : MethodName)) hown (mvT hZ (hw _ (List.mem_of_getElem? (i := 146) rfl))) (mvT hZ (hw _ (List.mem_of_getElem? (i := 147) rfl))) (notFace_of_selects (args := #[]) (mvT hZ (hw _ (List.mem_of_getElem? (i := 149) rfl)))) (mvT hZ (hw _ (List.mem_of_getElem? (i := 149) rfl))) (mvT hZ (hw _ (List.mem_of_getElem? (i := 148) rfl))) (by decide) (backOf (W := 0) (rmdt l Z a0 hw [] b508 .null T522.heap n0 f528 (G4_518.keep K522 nin0) rfl) hZ (hw _ (List.mem_of_getElem? (i := 150) rfl)) (hw _ (List.mem_of_getElem? (i := 29) rfl)) (by decide) (by decide)) q527a q527c (g := (mkF m 277 #[lv q1, sd, lv q2, sd, lv q3, sd, lv q4, sd, lv q5, sd, iv p6, iv v4, iv x6, iv (1 : Int32), iv x329, iv (1 : Int32), iv x484, iv (0 : Int32), .val r497, .val .null, .val .null, rv b499, rv b508, rv t__522, .val .null, lv q3, sd, lv q4, sd, iv (1 : Int32), iv (0 : Int32)] [(.ref b508)])) rfl (by rw [hml]; rfl) (Steps.refl _) (argsL := []) (rest := []) (lenOf pd_6 rfl) rfl (by show 2 * 0 + _ ≤ _; exact Nat.le_of_eq rfl) (hb hby at_277) (fun _ _ => ⟨rfl, rfl, (by decide : 6 + 0 ≤ _), (by decide : 39 + 0 ≤ _)⟩)
        dsimp only [Pt.U, Pt.locs, Pt.cells, Pt.slots] at X527 l527 y527 z527 st527 hQ527
        subst y527 z527
        obtain ⟨rfl, N527q, e527⟩ := hQ527
        have N527 : Fr n0 L527 := by rw [l527]; exact Fr.app N522 N527q
        have P529 : Rch p e below (s₁.setTop (entryFrame m #[(.long q1), (.long q2), (.long q3), (.long q4), (.long q5), (.int p6)] maxLocals)) (T527.setTop (mkF m 280 #[lv q1, sd, lv q2, sd, lv q3, sd, lv q4, sd, lv q5, sd, iv p6, iv v4, iv x6, iv (1 : Int32), iv x329, iv (1 : Int32), iv x484, iv (0 : Int32), .val r497, .val .null, .val .null, rv b499, rv b508, rv t__522, .val .null, lv q3, sd, lv q4, sd, iv (1 : Int32), iv (0 : Int32)] [.null])) := fun t k => P526 t (st527.trans k)
        have P530 : Rch p e below (s₁.setTop (entryFrame m #[(.long q1), (.long q2), (.long q3), (.long q4), (.long q5), (.int p6)] maxLocals)) (T527.setTop (mkF m 287 #[lv q1, sd, lv q2, sd, lv q3, sd, lv q4, sd, lv q5, sd, iv p6, iv v4, iv x6, iv (1 : Int32), iv x329, iv (1 : Int32), iv x484, iv (0 : Int32), .val r497, .val .null, .val .null, rv b499, rv b508, rv t__522, .val .null, lv q3, sd, lv q4, sd, iv (1 : Int32), iv (0 : Int32)] [(.ref t__522)])) := fun t k => P529 t (by
          show Steps p.tables e below (T527.setTop (mkF m 280 #[lv q1, sd, lv q2, sd, lv q3, sd, lv q4, sd, lv q5, sd, iv p6, iv v4, iv x6, iv (1 : Int32), iv x329, iv (1 : Int32), iv x484, iv (0 : Int32), .val r497, .val .null, .val .null, rv b499, rv b508, rv t__522, .val .null, lv q3, sd, lv q4, sd, iv (1 : Int32), iv (0 : Int32)] [.null])) t
          refine XS.aload X527.here hx rfl (hb hby at_280) rfl rfl ?_
          refine Jvm.RoadKit.acmp (g := (mkF m 282 #[lv q1, sd, lv q2, sd, lv q3, sd, lv q4, sd, lv q5, sd, iv p6, iv v4, iv x6, iv (1 : Int32), iv x329, iv (1 : Int32), iv x484, iv (0 : Int32), .val r497, .val .null, .val .null, rv b499, rv b508, rv t__522, .val .null, lv q3, sd, lv q4, sd, iv (1 : Int32), iv (0 : Int32)] [.null, .null])) X527 hx rfl rfl rfl (pc0 := 282) (pc' := 285) (same := true) rfl (hb hby at_282) rfl (decide_eq_true rfl) (by decide) (by decide) ?_
          refine XS.aload X527.here hx rfl (hb hby at_285) rfl rfl ?_
          exact k)
        obtain ⟨cq531, kq531, q531a, q531b, q531c⟩ := isOf hZ e527 Et_522
        obtain ⟨_, _, ⟨T531, L531, k531, n531⟩, -, X531, ⟨Lc531, hQ531, l531, y531, z531⟩, st531⟩ := X527.virtualBack hx (y := (⟨"com/example/usher/usher/protocol/Stat", "mzxid", "()J"⟩ : MethodName)) (z := (⟨"com/example/usher/usher/protocol/Stat", "mzxid", "()J"⟩ : MethodName)) hown (mvT hZ (hw _ (List.mem_of_getElem? (i := 151) rfl))) (mvT hZ (hw _ (List.mem_of_getElem? (i := 152) rfl))) (notFace_of_selects (args := #[]) (mvT hZ (hw _ (List.mem_of_getElem? (i := 154) rfl)))) (mvT hZ (hw _ (List.mem_of_getElem? (i := 154) rfl))) (mvT hZ (hw _ (List.mem_of_getElem? (i := 153) rfl))) (by decide) (backOf (W := 0) (rmG_mzxid l Z a0 hw [] t__522 q3 T522.heap n0 f528 G_mzxid_522) hZ (hw _ (List.mem_of_getElem? (i := 155) rfl)) (hw _ (List.mem_of_getElem? (i := 99) rfl)) (by decide) (by decide)) q531a q531c (g := (mkF m 287 #[lv q1, sd, lv q2, sd, lv q3, sd, lv q4, sd, lv q5, sd, iv p6, iv v4, iv x6, iv (1 : Int32), iv x329, iv (1 : Int32), iv x484, iv (0 : Int32), .val r497, .val .null, .val .null, rv b499, rv b508, rv t__522, .val .null, lv q3, sd, lv q4, sd, iv (1 : Int32), iv (0 : Int32)] [(.ref t__522)])) rfl (by rw [hml]; rfl) (Steps.refl _) (argsL := []) (rest := []) (lenOf pd_7 rfl) rfl (by show 2 * 0 + _ ≤ _; exact Nat.le_of_eq rfl) (hb hby at_287) (fun _ _ => ⟨rfl, e527, (by decide : 6 + 0 ≤ _), (by decide : 39 + 0 ≤ _)⟩)
        dsimp only [Pt.U, Pt.locs, Pt.cells, Pt.slots] at X531 l531 y531 z531 st531 hQ531
        subst y531 z531
        obtain ⟨rfl, N531q, e531⟩ := hQ531
        have N531 : Fr n0 L531 := by rw [l531]; exact Fr.app N527 N531q
        have P532 : Rch p e below (s₁.setTop (entryFrame m #[(.long q1), (.long q2), (.long q3), (.long q4), (.long q5), (.int p6)] maxLocals)) (T531.setTop (mkF m 290 #[lv q1, sd, lv q2, sd, lv q3, sd, lv q4, sd, lv q5, sd, iv p6, iv v4, iv x6, iv (1 : Int32), iv x329, iv (1 : Int32), iv x484, iv (0 : Int32), .val r497, .val .null, .val .null, rv b499, rv b508, rv t__522, .val .null, lv q3, sd, lv q4, sd, iv (1 : Int32), iv (0 : Int32)] [(.long q3)])) := fun t k => P530 t (st531.trans k)
        have P533 : Rch p e below (s₁.setTop (entryFrame m #[(.long q1), (.long q2), (.long q3), (.long q4), (.long q5), (.int p6)] maxLocals)) (T531.setTop (mkF m 298 #[lv q1, sd, lv q2, sd, lv q3, sd, lv q4, sd, lv q5, sd, iv p6, iv v4, iv x6, iv (1 : Int32), iv x329, iv (1 : Int32), iv x484, iv (0 : Int32), .val r497, .val .null, .val .null, rv b499, rv b508, rv t__522, .val .null, lv q3, sd, lv q4, sd, iv (1 : Int32), iv (0 : Int32)] [(.ref t__522)])) := fun t k => P532 t (by
          show Steps p.tables e below (T531.setTop (mkF m 290 #[lv q1, sd, lv q2, sd, lv q3, sd, lv q4, sd, lv q5, sd, iv p6, iv v4, iv x6, iv (1 : Int32), iv x329, iv (1 : Int32), iv x484, iv (0 : Int32), .val r497, .val .null, .val .null, rv b499, rv b508, rv t__522, .val .null, lv q3, sd, lv q4, sd, iv (1 : Int32), iv (0 : Int32)] [(.long q3)])) t
          refine XS.lload X531.here hx rfl (hb hby at_290) rfl ?_
          refine XS.lcmp X531.here hx rfl (hb hby at_292) rfl ?_
          refine XS.ifNo X531.here hx rfl (hb hby at_293) rfl ((if0 _ _).trans (teq ((lw_eq q3 q3).mpr rfl)).2) ?_
          show Steps p.tables e below (T531.setTop (mkF m 296 #[lv q1, sd, lv q2, sd, lv q3, sd, lv q4, sd, lv q5, sd, iv p6, iv v4, iv x6, iv (1 : Int32), iv x329, iv (1 : Int32), iv x484, iv (0 : Int32), .val r497, .val .null, .val .null, rv b499, rv b508, rv t__522, .val .null, lv q3, sd, lv q4, sd, iv (1 : Int32), iv (0 : Int32)] [])) t
          refine XS.aload X531.here hx rfl (hb hby at_296) rfl rfl ?_
          exact k)
        obtain ⟨cq534, kq534, q534a, q534b, q534c⟩ := isOf hZ e531 Et_522
        obtain ⟨_, _, ⟨T534, L534, k534, n534⟩, -, X534, ⟨Lc534, hQ534, l534, y534, z534⟩, st534⟩ := X531.virtualBack hx (y := (⟨"com/example/usher/usher/protocol/Stat", "mtime", "()J"⟩ : MethodName)) (z := (⟨"com/example/usher/usher/protocol/Stat", "mtime", "()J"⟩ : MethodName)) hown (mvT hZ (hw _ (List.mem_of_getElem? (i := 156) rfl))) (mvT hZ (hw _ (List.mem_of_getElem? (i := 157) rfl))) (notFace_of_selects (args := #[]) (mvT hZ (hw _ (List.mem_of_getElem? (i := 159) rfl)))) (mvT hZ (hw _ (List.mem_of_getElem? (i := 159) rfl))) (mvT hZ (hw _ (List.mem_of_getElem? (i := 158) rfl))) (by decide) (backOf (W := 0) (rmG_mtime l Z a0 hw [] t__522 q4 T522.heap n0 f528 G_mtime_522) hZ (hw _ (List.mem_of_getElem? (i := 160) rfl)) (hw _ (List.mem_of_getElem? (i := 99) rfl)) (by decide) (by decide)) q534a q534c (g := (mkF m 298 #[lv q1, sd, lv q2, sd, lv q3, sd, lv q4, sd, lv q5, sd, iv p6, iv v4, iv x6, iv (1 : Int32), iv x329, iv (1 : Int32), iv x484, iv (0 : Int32), .val r497, .val .null, .val .null, rv b499, rv b508, rv t__522, .val .null, lv q3, sd, lv q4, sd, iv (1 : Int32), iv (0 : Int32)] [(.ref t__522)])) rfl (by rw [hml]; rfl) (Steps.refl _) (argsL := []) (rest := []) (lenOf pd_7 rfl) rfl (by show 2 * 0 + _ ≤ _; exact Nat.le_of_eq rfl) (hb hby at_298) (fun _ _ => ⟨rfl, e531, (by decide : 6 + 0 ≤ _), (by decide : 39 + 0 ≤ _)⟩)
        dsimp only [Pt.U, Pt.locs, Pt.cells, Pt.slots] at X534 l534 y534 z534 st534 hQ534
        subst y534 z534
        obtain ⟨rfl, N534q, e534⟩ := hQ534
        have N534 : Fr n0 L534 := by rw [l534]; exact Fr.app N531 N534q
        have P535 : Rch p e below (s₁.setTop (entryFrame m #[(.long q1), (.long q2), (.long q3), (.long q4), (.long q5), (.int p6)] maxLocals)) (T534.setTop (mkF m 301 #[lv q1, sd, lv q2, sd, lv q3, sd, lv q4, sd, lv q5, sd, iv p6, iv v4, iv x6, iv (1 : Int32), iv x329, iv (1 : Int32), iv x484, iv (0 : Int32), .val r497, .val .null, .val .null, rv b499, rv b508, rv t__522, .val .null, lv q3, sd, lv q4, sd, iv (1 : Int32), iv (0 : Int32)] [(.long q4)])) := fun t k => P533 t (st534.trans k)
        have P536 : Rch p e below (s₁.setTop (entryFrame m #[(.long q1), (.long q2), (.long q3), (.long q4), (.long q5), (.int p6)] maxLocals)) (T534.setTop (mkF m 309 #[lv q1, sd, lv q2, sd, lv q3, sd, lv q4, sd, lv q5, sd, iv p6, iv v4, iv x6, iv (1 : Int32), iv x329, iv (1 : Int32), iv x484, iv (0 : Int32), .val r497, .val .null, .val .null, rv b499, rv b508, rv t__522, .val .null, lv q3, sd, lv q4, sd, iv (1 : Int32), iv (0 : Int32)] [(.ref t__522)])) := fun t k => P535 t (by
          show Steps p.tables e below (T534.setTop (mkF m 301 #[lv q1, sd, lv q2, sd, lv q3, sd, lv q4, sd, lv q5, sd, iv p6, iv v4, iv x6, iv (1 : Int32), iv x329, iv (1 : Int32), iv x484, iv (0 : Int32), .val r497, .val .null, .val .null, rv b499, rv b508, rv t__522, .val .null, lv q3, sd, lv q4, sd, iv (1 : Int32), iv (0 : Int32)] [(.long q4)])) t
          refine XS.lload X534.here hx rfl (hb hby at_301) rfl ?_
          refine XS.lcmp X534.here hx rfl (hb hby at_303) rfl ?_
          refine XS.ifNo X534.here hx rfl (hb hby at_304) rfl ((if0 _ _).trans (teq ((lw_eq q4 q4).mpr rfl)).2) ?_
          show Steps p.tables e below (T534.setTop (mkF m 307 #[lv q1, sd, lv q2, sd, lv q3, sd, lv q4, sd, lv q5, sd, iv p6, iv v4, iv x6, iv (1 : Int32), iv x329, iv (1 : Int32), iv x484, iv (0 : Int32), .val r497, .val .null, .val .null, rv b499, rv b508, rv t__522, .val .null, lv q3, sd, lv q4, sd, iv (1 : Int32), iv (0 : Int32)] [])) t
          refine XS.aload X534.here hx rfl (hb hby at_307) rfl rfl ?_
          exact k)
        obtain ⟨cq537, kq537, q537a, q537b, q537c⟩ := isOf hZ e534 Et_522
        obtain ⟨_, _, ⟨T537, L537, k537, n537⟩, -, X537, ⟨Lc537, hQ537, l537, y537, z537⟩, st537⟩ := X534.virtualBack hx (y := (⟨"com/example/usher/usher/protocol/Stat", "version", "()I"⟩ : MethodName)) (z := (⟨"com/example/usher/usher/protocol/Stat", "version", "()I"⟩ : MethodName)) hown (mvT hZ (hw _ (List.mem_of_getElem? (i := 161) rfl))) (mvT hZ (hw _ (List.mem_of_getElem? (i := 162) rfl))) (notFace_of_selects (args := #[]) (mvT hZ (hw _ (List.mem_of_getElem? (i := 164) rfl)))) (mvT hZ (hw _ (List.mem_of_getElem? (i := 164) rfl))) (mvT hZ (hw _ (List.mem_of_getElem? (i := 163) rfl))) (by decide) (backOf (W := 0) (rmG_version l Z a0 hw [] t__522 ((0 : Int32) + (1 : Int32)) T522.heap n0 f528 G_version_522) hZ (hw _ (List.mem_of_getElem? (i := 165) rfl)) (hw _ (List.mem_of_getElem? (i := 99) rfl)) (by decide) (by decide)) q537a q537c (g := (mkF m 309 #[lv q1, sd, lv q2, sd, lv q3, sd, lv q4, sd, lv q5, sd, iv p6, iv v4, iv x6, iv (1 : Int32), iv x329, iv (1 : Int32), iv x484, iv (0 : Int32), .val r497, .val .null, .val .null, rv b499, rv b508, rv t__522, .val .null, lv q3, sd, lv q4, sd, iv (1 : Int32), iv (0 : Int32)] [(.ref t__522)])) rfl (by rw [hml]; rfl) (Steps.refl _) (argsL := []) (rest := []) (lenOf pd_1 rfl) rfl (by show 2 * 0 + _ ≤ _; exact Nat.le_of_eq rfl) (hb hby at_309) (fun _ _ => ⟨rfl, e534, (by decide : 6 + 0 ≤ _), (by decide : 39 + 0 ≤ _)⟩)
        dsimp only [Pt.U, Pt.locs, Pt.cells, Pt.slots] at X537 l537 y537 z537 st537 hQ537
        subst y537 z537
        obtain ⟨rfl, N537q, e537⟩ := hQ537
        have N537 : Fr n0 L537 := by rw [l537]; exact Fr.app N534 N537q
        have P538 : Rch p e below (s₁.setTop (entryFrame m #[(.long q1), (.long q2), (.long q3), (.long q4), (.long q5), (.int p6)] maxLocals)) (T537.setTop (mkF m 312 #[lv q1, sd, lv q2, sd, lv q3, sd, lv q4, sd, lv q5, sd, iv p6, iv v4, iv x6, iv (1 : Int32), iv x329, iv (1 : Int32), iv x484, iv (0 : Int32), .val r497, .val .null, .val .null, rv b499, rv b508, rv t__522, .val .null, lv q3, sd, lv q4, sd, iv (1 : Int32), iv (0 : Int32)] [(.int ((0 : Int32) + (1 : Int32)))])) := fun t k => P536 t (st537.trans k)
        obtain ⟨x539, hx539⟩ : ∃ z : Int32, z = ((0 : Int32) + (1 : Int32)) := ⟨_, rfl⟩
        rw [← hx539] at P538
        have P540 : Rch p e below (s₁.setTop (entryFrame m #[(.long q1), (.long q2), (.long q3), (.long q4), (.long q5), (.int p6)] maxLocals)) (T537.setTop (mkF m 314 #[lv q1, sd, lv q2, sd, lv q3, sd, lv q4, sd, lv q5, sd, iv p6, iv v4, iv x6, iv (1 : Int32), iv x329, iv (1 : Int32), iv x484, iv (0 : Int32), .val r497, .val .null, .val .null, rv b499, rv b508, rv t__522, .val .null, lv q3, sd, lv q4, sd, iv (1 : Int32), iv (0 : Int32)] [(.int (1 : Int32)), (.int x539)])) := fun t k => P538 t (by
          show Steps p.tables e below (T537.setTop (mkF m 312 #[lv q1, sd, lv q2, sd, lv q3, sd, lv q4, sd, lv q5, sd, iv p6, iv v4, iv x6, iv (1 : Int32), iv x329, iv (1 : Int32), iv x484, iv (0 : Int32), .val r497, .val .null, .val .null, rv b499, rv b508, rv t__522, .val .null, lv q3, sd, lv q4, sd, iv (1 : Int32), iv (0 : Int32)] [(.int x539)])) t
          refine XS.iload X537.here hx rfl (hb hby at_312) rfl ?_
          exact k)
        have hvq : x539 = (1 : Int32) := by rw [hx539]; decide
        have P541 : Rch p e below (s₁.setTop (entryFrame m #[(.long q1), (.long q2), (.long q3), (.long q4), (.long q5), (.int p6)] maxLocals)) (T537.setTop (mkF m 319 #[lv q1, sd, lv q2, sd, lv q3, sd, lv q4, sd, lv q5, sd, iv p6, iv v4, iv x6, iv (1 : Int32), iv x329, iv (1 : Int32), iv x484, iv (0 : Int32), .val r497, .val .null, .val .null, rv b499, rv b508, rv t__522, .val .null, lv q3, sd, lv q4, sd, iv (1 : Int32), iv (0 : Int32)] [(.ref t__522)])) := fun t k => P540 t (by
          show Steps p.tables e below (T537.setTop (mkF m 314 #[lv q1, sd, lv q2, sd, lv q3, sd, lv q4, sd, lv q5, sd, iv p6, iv v4, iv x6, iv (1 : Int32), iv x329, iv (1 : Int32), iv x484, iv (0 : Int32), .val r497, .val .null, .val .null, rv b499, rv b508, rv t__522, .val .null, lv q3, sd, lv q4, sd, iv (1 : Int32), iv (0 : Int32)] [(.int (1 : Int32)), (.int x539)])) t
          refine XS.icmpNo X537.here hx rfl (hb hby at_314) rfl (teq hvq).2 ?_
          refine XS.aload X537.here hx rfl (hb hby at_317) rfl rfl ?_
          exact k)
        obtain ⟨cq542, kq542, q542a, q542b, q542c⟩ := isOf hZ e537 Et_522
        obtain ⟨_, _, ⟨T542, L542, k542, n542⟩, -, X542, ⟨Lc542, hQ542, l542, y542, z542⟩, st542⟩ := X537.virtualBack hx (y := (⟨"com/example/usher/usher/protocol/Stat", "dataLength", "()I"⟩ : MethodName)) (z := (⟨"com/example/usher/usher/protocol/Stat", "dataLength", "()I"⟩ : MethodName)) hown (mvT hZ (hw _ (List.mem_of_getElem? (i := 166) rfl))) (mvT hZ (hw _ (List.mem_of_getElem? (i := 167) rfl))) (notFace_of_selects (args := #[]) (mvT hZ (hw _ (List.mem_of_getElem? (i := 169) rfl)))) (mvT hZ (hw _ (List.mem_of_getElem? (i := 169) rfl))) (mvT hZ (hw _ (List.mem_of_getElem? (i := 168) rfl))) (by decide) (backOf (W := 0) (rmG_dataLength l Z a0 hw [] t__522 (0 : Int32) T522.heap n0 f528 G_dataLength_522) hZ (hw _ (List.mem_of_getElem? (i := 170) rfl)) (hw _ (List.mem_of_getElem? (i := 99) rfl)) (by decide) (by decide)) q542a q542c (g := (mkF m 319 #[lv q1, sd, lv q2, sd, lv q3, sd, lv q4, sd, lv q5, sd, iv p6, iv v4, iv x6, iv (1 : Int32), iv x329, iv (1 : Int32), iv x484, iv (0 : Int32), .val r497, .val .null, .val .null, rv b499, rv b508, rv t__522, .val .null, lv q3, sd, lv q4, sd, iv (1 : Int32), iv (0 : Int32)] [(.ref t__522)])) rfl (by rw [hml]; rfl) (Steps.refl _) (argsL := []) (rest := []) (lenOf pd_1 rfl) rfl (by show 2 * 0 + _ ≤ _; exact Nat.le_of_eq rfl) (hb hby at_319) (fun _ _ => ⟨rfl, e537, (by decide : 6 + 0 ≤ _), (by decide : 39 + 0 ≤ _)⟩)
        dsimp only [Pt.U, Pt.locs, Pt.cells, Pt.slots] at X542 l542 y542 z542 st542 hQ542
        subst y542 z542
        obtain ⟨rfl, N542q, e542⟩ := hQ542
        have N542 : Fr n0 L542 := by rw [l542]; exact Fr.app N537 N542q
        have P543 : Rch p e below (s₁.setTop (entryFrame m #[(.long q1), (.long q2), (.long q3), (.long q4), (.long q5), (.int p6)] maxLocals)) (T542.setTop (mkF m 322 #[lv q1, sd, lv q2, sd, lv q3, sd, lv q4, sd, lv q5, sd, iv p6, iv v4, iv x6, iv (1 : Int32), iv x329, iv (1 : Int32), iv x484, iv (0 : Int32), .val r497, .val .null, .val .null, rv b499, rv b508, rv t__522, .val .null, lv q3, sd, lv q4, sd, iv (1 : Int32), iv (0 : Int32)] [(.int (0 : Int32))])) := fun t k => P541 t (st542.trans k)
        have P544 : Rch p e below (s₁.setTop (entryFrame m #[(.long q1), (.long q2), (.long q3), (.long q4), (.long q5), (.int p6)] maxLocals)) (T542.setTop (mkF m 329 #[lv q1, sd, lv q2, sd, lv q3, sd, lv q4, sd, lv q5, sd, iv p6, iv v4, iv x6, iv (1 : Int32), iv x329, iv (1 : Int32), iv x484, iv (0 : Int32), .val r497, .val .null, .val .null, rv b499, rv b508, rv t__522, .val .null, lv q3, sd, lv q4, sd, iv (1 : Int32), iv (0 : Int32)] [(.ref t__522)])) := fun t k => P543 t (by
          show Steps p.tables e below (T542.setTop (mkF m 322 #[lv q1, sd, lv q2, sd, lv q3, sd, lv q4, sd, lv q5, sd, iv p6, iv v4, iv x6, iv (1 : Int32), iv x329, iv (1 : Int32), iv x484, iv (0 : Int32), .val r497, .val .null, .val .null, rv b499, rv b508, rv t__522, .val .null, lv q3, sd, lv q4, sd, iv (1 : Int32), iv (0 : Int32)] [(.int (0 : Int32))])) t
          refine XS.iload X542.here hx rfl (hb hby at_322) rfl ?_
          refine XS.icmpNo X542.here hx rfl (hb hby at_324) rfl (teq (by decide)).2 ?_
          refine XS.aload X542.here hx rfl (hb hby at_327) rfl rfl ?_
          exact k)
        obtain ⟨cq545, kq545, q545a, q545b, q545c⟩ := isOf hZ e542 Et_522
        obtain ⟨_, _, ⟨T545, L545, k545, n545⟩, -, X545, ⟨Lc545, hQ545, l545, y545, z545⟩, st545⟩ := X542.virtualBack hx (y := (⟨"com/example/usher/usher/protocol/Stat", "pzxid", "()J"⟩ : MethodName)) (z := (⟨"com/example/usher/usher/protocol/Stat", "pzxid", "()J"⟩ : MethodName)) hown (mvT hZ (hw _ (List.mem_of_getElem? (i := 171) rfl))) (mvT hZ (hw _ (List.mem_of_getElem? (i := 172) rfl))) (notFace_of_selects (args := #[]) (mvT hZ (hw _ (List.mem_of_getElem? (i := 174) rfl)))) (mvT hZ (hw _ (List.mem_of_getElem? (i := 174) rfl))) (mvT hZ (hw _ (List.mem_of_getElem? (i := 173) rfl))) (by decide) (backOf (W := 0) (rmG_pzxid l Z a0 hw [] t__522 q1 T522.heap n0 f528 G_pzxid_522) hZ (hw _ (List.mem_of_getElem? (i := 175) rfl)) (hw _ (List.mem_of_getElem? (i := 99) rfl)) (by decide) (by decide)) q545a q545c (g := (mkF m 329 #[lv q1, sd, lv q2, sd, lv q3, sd, lv q4, sd, lv q5, sd, iv p6, iv v4, iv x6, iv (1 : Int32), iv x329, iv (1 : Int32), iv x484, iv (0 : Int32), .val r497, .val .null, .val .null, rv b499, rv b508, rv t__522, .val .null, lv q3, sd, lv q4, sd, iv (1 : Int32), iv (0 : Int32)] [(.ref t__522)])) rfl (by rw [hml]; rfl) (Steps.refl _) (argsL := []) (rest := []) (lenOf pd_7 rfl) rfl (by show 2 * 0 + _ ≤ _; exact Nat.le_of_eq rfl) (hb hby at_329) (fun _ _ => ⟨rfl, e542, (by decide : 6 + 0 ≤ _), (by decide : 39 + 0 ≤ _)⟩)
        dsimp only [Pt.U, Pt.locs, Pt.cells, Pt.slots] at X545 l545 y545 z545 st545 hQ545
        subst y545 z545
        obtain ⟨rfl, N545q, e545⟩ := hQ545
        have N545 : Fr n0 L545 := by rw [l545]; exact Fr.app N542 N545q
        have P546 : Rch p e below (s₁.setTop (entryFrame m #[(.long q1), (.long q2), (.long q3), (.long q4), (.long q5), (.int p6)] maxLocals)) (T545.setTop (mkF m 332 #[lv q1, sd, lv q2, sd, lv q3, sd, lv q4, sd, lv q5, sd, iv p6, iv v4, iv x6, iv (1 : Int32), iv x329, iv (1 : Int32), iv x484, iv (0 : Int32), .val r497, .val .null, .val .null, rv b499, rv b508, rv t__522, .val .null, lv q3, sd, lv q4, sd, iv (1 : Int32), iv (0 : Int32)] [(.long q1)])) := fun t k => P544 t (st545.trans k)
        have P547 : Rch p e below (s₁.setTop (entryFrame m #[(.long q1), (.long q2), (.long q3), (.long q4), (.long q5), (.int p6)] maxLocals)) (T545.setTop (mkF m 339 #[lv q1, sd, lv q2, sd, lv q3, sd, lv q4, sd, lv q5, sd, iv p6, iv v4, iv x6, iv (1 : Int32), iv x329, iv (1 : Int32), iv x484, iv (0 : Int32), .val r497, .val .null, .val .null, rv b499, rv b508, rv t__522, .val .null, lv q3, sd, lv q4, sd, iv (1 : Int32), iv (0 : Int32)] [(.ref t__522)])) := fun t k => P546 t (by
          show Steps p.tables e below (T545.setTop (mkF m 332 #[lv q1, sd, lv q2, sd, lv q3, sd, lv q4, sd, lv q5, sd, iv p6, iv v4, iv x6, iv (1 : Int32), iv x329, iv (1 : Int32), iv x484, iv (0 : Int32), .val r497, .val .null, .val .null, rv b499, rv b508, rv t__522, .val .null, lv q3, sd, lv q4, sd, iv (1 : Int32), iv (0 : Int32)] [(.long q1)])) t
          refine XS.lloadN X545.here hx rfl (hb hby at_332) rfl ?_
          refine XS.lcmp X545.here hx rfl (hb hby at_333) rfl ?_
          refine XS.ifNo X545.here hx rfl (hb hby at_334) rfl ((if0 _ _).trans (teq ((lw_eq q1 q1).mpr rfl)).2) ?_
          show Steps p.tables e below (T545.setTop (mkF m 337 #[lv q1, sd, lv q2, sd, lv q3, sd, lv q4, sd, lv q5, sd, iv p6, iv v4, iv x6, iv (1 : Int32), iv x329, iv (1 : Int32), iv x484, iv (0 : Int32), .val r497, .val .null, .val .null, rv b499, rv b508, rv t__522, .val .null, lv q3, sd, lv q4, sd, iv (1 : Int32), iv (0 : Int32)] [])) t
          refine XS.aload X545.here hx rfl (hb hby at_337) rfl rfl ?_
          exact k)
        obtain ⟨cq548, kq548, q548a, q548b, q548c⟩ := isOf hZ e545 Et_522
        obtain ⟨_, _, ⟨T548, L548, k548, n548⟩, -, X548, ⟨Lc548, hQ548, l548, y548, z548⟩, st548⟩ := X545.virtualBack hx (y := (⟨"com/example/usher/usher/protocol/Stat", "ctime", "()J"⟩ : MethodName)) (z := (⟨"com/example/usher/usher/protocol/Stat", "ctime", "()J"⟩ : MethodName)) hown (mvT hZ (hw _ (List.mem_of_getElem? (i := 176) rfl))) (mvT hZ (hw _ (List.mem_of_getElem? (i := 177) rfl))) (notFace_of_selects (args := #[]) (mvT hZ (hw _ (List.mem_of_getElem? (i := 179) rfl)))) (mvT hZ (hw _ (List.mem_of_getElem? (i := 179) rfl))) (mvT hZ (hw _ (List.mem_of_getElem? (i := 178) rfl))) (by decide) (backOf (W := 0) (rmG_ctime l Z a0 hw [] t__522 q2 T522.heap n0 f528 G_ctime_522) hZ (hw _ (List.mem_of_getElem? (i := 180) rfl)) (hw _ (List.mem_of_getElem? (i := 99) rfl)) (by decide) (by decide)) q548a q548c (g := (mkF m 339 #[lv q1, sd, lv q2, sd, lv q3, sd, lv q4, sd, lv q5, sd, iv p6, iv v4, iv x6, iv (1 : Int32), iv x329, iv (1 : Int32), iv x484, iv (0 : Int32), .val r497, .val .null, .val .null, rv b499, rv b508, rv t__522, .val .null, lv q3, sd, lv q4, sd, iv (1 : Int32), iv (0 : Int32)] [(.ref t__522)])) rfl (by rw [hml]; rfl) (Steps.refl _) (argsL := []) (rest := []) (lenOf pd_7 rfl) rfl (by show 2 * 0 + _ ≤ _; exact Nat.le_of_eq rfl) (hb hby at_339) (fun _ _ => ⟨rfl, e545, (by decide : 6 + 0 ≤ _), (by decide : 39 + 0 ≤ _)⟩)
        dsimp only [Pt.U, Pt.locs, Pt.cells, Pt.slots] at X548 l548 y548 z548 st548 hQ548
        subst y548 z548
        obtain ⟨rfl, N548q, e548⟩ := hQ548
        have N548 : Fr n0 L548 := by rw [l548]; exact Fr.app N545 N548q
        have P549 : Rch p e below (s₁.setTop (entryFrame m #[(.long q1), (.long q2), (.long q3), (.long q4), (.long q5), (.int p6)] maxLocals)) (T548.setTop (mkF m 342 #[lv q1, sd, lv q2, sd, lv q3, sd, lv q4, sd, lv q5, sd, iv p6, iv v4, iv x6, iv (1 : Int32), iv x329, iv (1 : Int32), iv x484, iv (0 : Int32), .val r497, .val .null, .val .null, rv b499, rv b508, rv t__522, .val .null, lv q3, sd, lv q4, sd, iv (1 : Int32), iv (0 : Int32)] [(.long q2)])) := fun t k => P547 t (st548.trans k)
        have P550 : Rch p e below (s₁.setTop (entryFrame m #[(.long q1), (.long q2), (.long q3), (.long q4), (.long q5), (.int p6)] maxLocals)) (T548.setTop (mkF m 352 #[lv q1, sd, lv q2, sd, lv q3, sd, lv q4, sd, lv q5, sd, iv p6, iv v4, iv x6, iv (1 : Int32), iv x329, iv (1 : Int32), iv x484, iv (0 : Int32), .val r497, .val .null, .val .null, rv b499, rv b508, rv t__522, .val .null, lv q3, sd, lv q4, sd, iv (1 : Int32), iv (0 : Int32)] [(.int (1 : Int32))])) := fun t k => P549 t (by
          show Steps p.tables e below (T548.setTop (mkF m 342 #[lv q1, sd, lv q2, sd, lv q3, sd, lv q4, sd, lv q5, sd, iv p6, iv v4, iv x6, iv (1 : Int32), iv x329, iv (1 : Int32), iv x484, iv (0 : Int32), .val r497, .val .null, .val .null, rv b499, rv b508, rv t__522, .val .null, lv q3, sd, lv q4, sd, iv (1 : Int32), iv (0 : Int32)] [(.long q2)])) t
          refine XS.lloadN X548.here hx rfl (hb hby at_342) rfl ?_
          refine XS.lcmp X548.here hx rfl (hb hby at_343) rfl ?_
          refine XS.ifNo X548.here hx rfl (hb hby at_344) rfl ((if0 _ _).trans (teq ((lw_eq q2 q2).mpr rfl)).2) ?_
          show Steps p.tables e below (T548.setTop (mkF m 347 #[lv q1, sd, lv q2, sd, lv q3, sd, lv q4, sd, lv q5, sd, iv p6, iv v4, iv x6, iv (1 : Int32), iv x329, iv (1 : Int32), iv x484, iv (0 : Int32), .val r497, .val .null, .val .null, rv b499, rv b508, rv t__522, .val .null, lv q3, sd, lv q4, sd, iv (1 : Int32), iv (0 : Int32)] [])) t
          refine XS.iconst X548.here hx rfl (hb hby at_347) ?_
          refine XS.goto X548.here hx rfl (pc0 := 348) (pc' := 352) rfl (hb hby at_348) (by decide) (by decide) ?_
          exact k)
        obtain ⟨fs, hr, hrun, hended, hW, hsame⟩ := X548.leave (v := some (.int (1 : Int32))) (fun h => by rw [Bd.returns] at h; cases h)
        refine ⟨_, _, P550 _ ?_, hrun, hended, _, _, rfl, ?_, ⟨_, rfl⟩, hW, hsame.mono (by decide) (by decide)⟩
        · exact retN X548 hx (t := .boolean) Bd.returns (by simp) (hb hby at_352) hr
        · show Q_rm0 Z q1 q2 q3 q4 q5 p6 aD h0 n0 _ T548.heap _
          rw [e548]
          exact ⟨rfl, N548⟩
      · have P551 : Rch p e below (s₁.setTop (entryFrame m #[(.long q1), (.long q2), (.long q3), (.long q4), (.long q5), (.int p6)] maxLocals)) (s₁.setTop (mkF m 87 #[lv q1, sd, lv q2, sd, lv q3, sd, lv q4, sd, lv q5, sd, iv p6, iv v4, iv x6, iv (1 : Int32), iv x329, iv (1 : Int32), iv x484, iv (1 : Int32), un, un, un, un, un, un, un, un, un, un, un, un, un] [(.int v4)])) := fun t k => P487 t (by
          show Steps p.tables e below (s₁.setTop (mkF m 75 #[lv q1, sd, lv q2, sd, lv q3, sd, lv q4, sd, lv q5, sd, iv p6, iv v4, iv x6, iv (1 : Int32), iv x329, iv (1 : Int32), iv x484, un, un, un, un, un, un, un, un, un, un, un, un, un, un] [(.int x486)])) t
          refine XS.ifNo X0.here hx rfl (hb hby at_75) rfl ((if0 _ _).trans (feq c488).1) ?_
          refine XS.iconst X0.here hx rfl (hb hby at_78) ?_
          refine XS.goto X0.here hx rfl (pc0 := 79) (pc' := 83) rfl (hb hby at_79) (by decide) (by decide) ?_
          show Steps p.tables e below (s₁.setTop (mkF m 83 #[lv q1, sd, lv q2, sd, lv q3, sd, lv q4, sd, lv q5, sd, iv p6, iv v4, iv x6, iv (1 : Int32), iv x329, iv (1 : Int32), iv x484, un, un, un, un, un, un, un, un, un, un, un, un, un, un] [(.int (1 : Int32))])) t
          refine XS.istore X0.here hx rfl (hb hby at_83) rfl (l' := #[lv q1, sd, lv q2, sd, lv q3, sd, lv q4, sd, lv q5, sd, iv p6, iv v4, iv x6, iv (1 : Int32), iv x329, iv (1 : Int32), iv x484, iv (1 : Int32), un, un, un, un, un, un, un, un, un, un, un, un, un]) rfl ?_
          refine XS.iload X0.here hx rfl (hb hby at_85) rfl ?_
          exact k)
        obtain ⟨T552, L552, h552, r559, X552, e552, N552, Z552, K552, hr559, P552⟩ : ∃ (T552 : State) (L552 : List Loc) (h552 : Heap) (r559 : Value), Stand p l e room_1 s m #[(.long q1), (.long q2), (.long q3), (.long q4), (.long q5), (.int p6)] below meth c T552 L552 1 3 ∧ T552.heap = h552 ∧ Fr n0 L552 ∧ n0 ≤ h552.size ∧ Keep h0 h552 [] ∧ r559.isRef = true ∧ Rch p e below (s₁.setTop (entryFrame m #[(.long q1), (.long q2), (.long q3), (.long q4), (.long q5), (.int p6)] maxLocals)) (T552.setTop (mkF m 98 #[lv q1, sd, lv q2, sd, lv q3, sd, lv q4, sd, lv q5, sd, iv p6, iv v4, iv x6, iv (1 : Int32), iv x329, iv (1 : Int32), iv x484, iv (1 : Int32), un, un, un, un, un, un, un, un, un, un, un, un, un] [r559])) := by
          by_cases c553 : v4 = (0 : Int32)
          · have P554 : Rch p e below (s₁.setTop (entryFrame m #[(.long q1), (.long q2), (.long q3), (.long q4), (.long q5), (.int p6)] maxLocals)) (s₁.setTop (mkF m 96 #[lv q1, sd, lv q2, sd, lv q3, sd, lv q4, sd, lv q5, sd, iv p6, iv v4, iv x6, iv (1 : Int32), iv x329, iv (1 : Int32), iv x484, iv (1 : Int32), un, un, un, un, un, un, un, un, un, un, un, un, un] [(.int x6)])) := fun t k => P551 t (by
              show Steps p.tables e below (s₁.setTop (mkF m 87 #[lv q1, sd, lv q2, sd, lv q3, sd, lv q4, sd, lv q5, sd, iv p6, iv v4, iv x6, iv (1 : Int32), iv x329, iv (1 : Int32), iv x484, iv (1 : Int32), un, un, un, un, un, un, un, un, un, un, un, un, un] [(.int v4)])) t
              refine XS.ifYes X0.here hx rfl (pc0 := 87) (pc' := 94) rfl (hb hby at_87) rfl ((if0 _ _).trans (teq c553).1) (by decide) (by decide) ?_
              refine XS.iload X0.here hx rfl (hb hby at_94) rfl ?_
              exact k)
            have hm96 := own_m3 _ hx6
            obtain ⟨T555, h555, k555, X555, e555, E555, A555, st555⟩ := newP X0 hx hZ (hw _ (List.mem_of_getElem? (i := 0) rfl)) e0 (g := (mkF m 96 #[lv q1, sd, lv q2, sd, lv q3, sd, lv q4, sd, lv q5, sd, iv p6, iv v4, iv x6, iv (1 : Int32), iv x329, iv (1 : Int32), iv x484, iv (1 : Int32), un, un, un, un, un, un, un, un, un, un, un, un, un] [(.int x6)])) rfl (hb hby at_96) rfl hm96.1 (cap := 3) hm96.2 (by decide) (by decide) (by decide)
            obtain ⟨b555, g555⟩ : ∃ z, z = h0.size := ⟨_, rfl⟩
            rw [← g555] at A555 st555
            have g_b555 : n0 ≤ b555 := Nat.le_trans Z0 (Nat.le_of_eq g555.symm)
            have sz_b555 : h0.size ≤ b555 := Nat.le_trans (Keep.refl h0 []).1 (Nat.le_of_eq g555.symm)
            have szj_b555 : h0.size ≤ b555 := Nat.le_trans (Keep.refl h0 []).1 (Nat.le_of_eq g555.symm)
            have V555 : Arv Z h555 b555 k555 .byte x6 [] (.int (0 : Int32)) := Arv.new A555 hm96.1
            have P556 : Rch p e below (s₁.setTop (entryFrame m #[(.long q1), (.long q2), (.long q3), (.long q4), (.long q5), (.int p6)] maxLocals)) (T555.setTop (mkF m 98 #[lv q1, sd, lv q2, sd, lv q3, sd, lv q4, sd, lv q5, sd, iv p6, iv v4, iv x6, iv (1 : Int32), iv x329, iv (1 : Int32), iv x484, iv (1 : Int32), un, un, un, un, un, un, un, un, un, un, un, un, un] [(.ref b555)])) := fun t k => P554 t (st555 t k)
            have f557 : n0 ≤ h555.size := (Nat.le_trans Z0 E555.1)
            exact ⟨T555, _, h555, (.ref b555), X555, e555, N0, f557, ((Keep.refl h0 []).ext E555), rfl, P556⟩
          · have P558 : Rch p e below (s₁.setTop (entryFrame m #[(.long q1), (.long q2), (.long q3), (.long q4), (.long q5), (.int p6)] maxLocals)) (s₁.setTop (mkF m 98 #[lv q1, sd, lv q2, sd, lv q3, sd, lv q4, sd, lv q5, sd, iv p6, iv v4, iv x6, iv (1 : Int32), iv x329, iv (1 : Int32), iv x484, iv (1 : Int32), un, un, un, un, un, un, un, un, un, un, un, un, un] [.null])) := fun t k => P551 t (by
              show Steps p.tables e below (s₁.setTop (mkF m 87 #[lv q1, sd, lv q2, sd, lv q3, sd, lv q4, sd, lv q5, sd, iv p6, iv v4, iv x6, iv (1 : Int32), iv x329, iv (1 : Int32), iv x484, iv (1 : Int32), un, un, un, un, un, un, un, un, un, un, un, un, un] [(.int v4)])) t
              refine XS.ifNo X0.here hx rfl (hb hby at_87) rfl ((if0 _ _).trans (feq c553).1) ?_
              refine XS.aconstNull X0.here hx rfl (hb hby at_90) ?_
              refine XS.goto X0.here hx rfl (pc0 := 91) (pc' := 98) rfl (hb hby at_91) (by decide) (by decide) ?_
              exact k)
            exact ⟨s₁, _, h0, .null, (own_more X0 (by decide) (by decide)), e0, N0, Z0, (Keep.refl h0 []), rfl, P558⟩
        have P560 : Rch p e below (s₁.setTop (entryFrame m #[(.long q1), (.long q2), (.long q3), (.long q4), (.long q5), (.int p6)] maxLocals)) (T552.setTop (mkF m 130 #[lv q1, sd, lv q2, sd, lv q3, sd, lv q4, sd, lv q5, sd, iv p6, iv v4, iv x6, iv (1 : Int32), iv x329, iv (1 : Int32), iv x484, iv (1 : Int32), .val r559, .val .null, .val .null, un, un, un, un, un, un, un, un, un, un] [])) := fun t k => P552 t (by
          show Steps p.tables e below (T552.setTop (mkF m 98 #[lv q1, sd, lv q2, sd, lv q3, sd, lv q4, sd, lv q5, sd, iv p6, iv v4, iv x6, iv (1 : Int32), iv x329, iv (1 : Int32), iv x484, iv (1 : Int32), un, un, un, un, un, un, un, un, un, un, un, un, un] [r559])) t
          refine XS.astore X552.here hx rfl (hb hby at_98) rfl hr559 (l' := #[lv q1, sd, lv q2, sd, lv q3, sd, lv q4, sd, lv q5, sd, iv p6, iv v4, iv x6, iv (1 : Int32), iv x329, iv (1 : Int32), iv x484, iv (1 : Int32), .val r559, un, un, un, un, un, un, un, un, un, un, un, un]) (by rcases ref_cases hr559 with q_ | ⟨_, q_⟩ <;> rw [q_] <;> rfl) ?_
          refine XS.iload X552.here hx rfl (hb hby at_100) rfl ?_
          refine XS.ifNo X552.here hx rfl (hb hby at_102) rfl ((if0 _ _).trans (feq (by decide)).1) ?_
          show Steps p.tables e below (T552.setTop (mkF m 105 #[lv q1, sd, lv q2, sd, lv q3, sd, lv q4, sd, lv q5, sd, iv p6, iv v4, iv x6, iv (1 : Int32), iv x329, iv (1 : Int32), iv x484, iv (1 : Int32), .val r559, un, un, un, un, un, un, un, un, un, un, un, un] [])) t
          refine XS.aconstNull X552.here hx rfl (hb hby at_105) ?_
          refine XS.goto X552.here hx rfl (pc0 := 106) (pc' := 113) rfl (hb hby at_106) (by decide) (by decide) ?_
          refine XS.astore X552.here hx rfl (hb hby at_113) rfl rfl (l' := #[lv q1, sd, lv q2, sd, lv q3, sd, lv q4, sd, lv q5, sd, iv p6, iv v4, iv x6, iv (1 : Int32), iv x329, iv (1 : Int32), iv x484, iv (1 : Int32), .val r559, .val .null, un, un, un, un, un, un, un, un, un, un, un]) rfl ?_
          refine XS.iload X552.here hx rfl (hb hby at_115) rfl ?_
          show Steps p.tables e below (T552.setTop (mkF m 117 #[lv q1, sd, lv q2, sd, lv q3, sd, lv q4, sd, lv q5, sd, iv p6, iv v4, iv x6, iv (1 : Int32), iv x329, iv (1 : Int32), iv x484, iv (1 : Int32), .val r559, .val .null, un, un, un, un, un, un, un, un, un, un, un] [(.int (1 : Int32))])) t
          refine XS.ifNo X552.here hx rfl (hb hby at_117) rfl ((if0 _ _).trans (feq (by decide)).1) ?_
          refine XS.aconstNull X552.here hx rfl (hb hby at_120) ?_
          refine XS.goto X552.here hx rfl (pc0 := 121) (pc' := 128) rfl (hb hby at_121) (by decide) (by decide) ?_
          refine XS.astore X552.here hx rfl (hb hby at_128) rfl rfl (l' := #[lv q1, sd, lv q2, sd, lv q3, sd, lv q4, sd, lv q5, sd, iv p6, iv v4, iv x6, iv (1 : Int32), iv x329, iv (1 : Int32), iv x484, iv (1 : Int32), .val r559, .val .null, .val .null, un, un, un, un, un, un, un, un, un, un]) rfl ?_
          exact k)
        have f562 : Keep h0 h552 [] := ((Keep.refl h0 []).trans K552 all0)
        obtain ⟨T561, h561, X561, e561, E561, A561, D561, -, st561⟩ := newO X552 hx hZ hown (hw _ (List.mem_of_getElem? (i := 1) rfl)) (hw _ (List.mem_of_getElem? (i := 2) rfl)) (hw _ (List.mem_of_getElem? (i := 3) rfl)) e552 (g := (mkF m 130 #[lv q1, sd, lv q2, sd, lv q3, sd, lv q4, sd, lv q5, sd, iv p6, iv v4, iv x6, iv (1 : Int32), iv x329, iv (1 : Int32), iv x484, iv (1 : Int32), .val r559, .val .null, .val .null, un, un, un, un, un, un, un, un, un, un] [])) rfl (hb hby at_130) (by decide) (by decide)
        obtain ⟨b561, g561⟩ : ∃ z, z = h552.size := ⟨_, rfl⟩
        rw [← g561] at A561 D561 st561
        have g_b561 : n0 ≤ b561 := Nat.le_trans Z552 (Nat.le_of_eq g561.symm)
        have sz_b561 : h0.size ≤ b561 := Nat.le_trans f562.1 (Nat.le_of_eq g561.symm)
        have F561_23 : Fld Z h561 b561 "java/util/AbstractList" "modCount" "I" (.int (0 : Int32)) := D561 (Or.inl (hw _ (List.mem_of_getElem? (i := 23) rfl))) (ty := .int) (by decide)
        have F561_26 : Fld Z h561 b561 "java/util/ArrayList" "elementData" "[Ljava/lang/Object;" .null := D561 (Or.inl (hw _ (List.mem_of_getElem? (i := 26) rfl))) (ty := (.array (.object "java/lang/Object"))) (by decide)
        have P563 : Rch p e below (s₁.setTop (entryFrame m #[(.long q1), (.long q2), (.long q3), (.long q4), (.long q5), (.int p6)] maxLocals)) (T561.setTop (mkF m 133 #[lv q1, sd, lv q2, sd, lv q3, sd, lv q4, sd, lv q5, sd, iv p6, iv v4, iv x6, iv (1 : Int32), iv x329, iv (1 : Int32), iv x484, iv (1 : Int32), .val r559, .val .null, .val .null, un, un, un, un, un, un, un, un, un, un] [(.ref b561)])) := fun t k => P560 t (st561 t k)
        have P564 : Rch p e below (s₁.setTop (entryFrame m #[(.long q1), (.long q2), (.long q3), (.long q4), (.long q5), (.int p6)] maxLocals)) (T561.setTop (mkF m 134 #[lv q1, sd, lv q2, sd, lv q3, sd, lv q4, sd, lv q5, sd, iv p6, iv v4, iv x6, iv (1 : Int32), iv x329, iv (1 : Int32), iv x484, iv (1 : Int32), .val r559, .val .null, .val .null, un, un, un, un, un, un, un, un, un, un] [(.ref b561), (.ref b561)])) := fun t k => P563 t (by
          show Steps p.tables e below (T561.setTop (mkF m 133 #[lv q1, sd, lv q2, sd, lv q3, sd, lv q4, sd, lv q5, sd, iv p6, iv v4, iv x6, iv (1 : Int32), iv x329, iv (1 : Int32), iv x484, iv (1 : Int32), .val r559, .val .null, .val .null, un, un, un, un, un, un, un, un, un, un] [(.ref b561)])) t
          refine XS.dup X561.here hx rfl (hb hby at_133) rfl rfl ?_
          exact k)
        have f566 : Old Z n0 h561 := ((O0.keep K552 all0).ext E561)
        have f567 : n0 ≤ h561.size := (Nat.le_trans Z552 E561.1)
        obtain ⟨_, _, ⟨T565, L565, k565, n565⟩, -, X565, ⟨Lc565, hQ565, l565, y565, z565⟩, st565⟩ := X561.specialBack hx (y := (⟨"java/util/ArrayList", "<init>", "()V"⟩ : MethodName)) rfl hown (mvT hZ (hw _ (List.mem_of_getElem? (i := 4) rfl))) (mvT hZ (hw _ (List.mem_of_getElem? (i := 5) rfl))) (mvT hZ (hw _ (List.mem_of_getElem? (i := 6) rfl))) (by decide) (backOf (W := 1) (rmAL l Z a0 hw [] b561 aD h561 n0 f567 f566 Sd A561 g_b561 F561_23 F561_26) hZ (hw _ (List.mem_of_getElem? (i := 6) rfl)) (hw _ (List.mem_of_getElem? (i := 3) rfl)) (by decide) (by decide)) (g := (mkF m 134 #[lv q1, sd, lv q2, sd, lv q3, sd, lv q4, sd, lv q5, sd, iv p6, iv v4, iv x6, iv (1 : Int32), iv x329, iv (1 : Int32), iv x484, iv (1 : Int32), .val r559, .val .null, .val .null, un, un, un, un, un, un, un, un, un, un] [(.ref b561), (.ref b561)])) rfl (by rw [hml]; rfl) (Steps.refl _) (a := b561) (argsL := []) (rest := [(.ref b561)]) (lenOf pd_0 rfl) rfl (by show 2 * 0 + _ ≤ _; exact Nat.le_of_eq rfl) (hb hby at_134) (fun _ _ => ⟨rfl, e561, (by decide : 2 + 0 ≤ _), (by decide : 6 + 0 ≤ _)⟩)
        dsimp only [Pt.U, Pt.locs, Pt.cells, Pt.slots] at X565 l565 y565 z565 st565 hQ565
        subst y565 z565
        obtain ⟨rfl, N565q, K565, E_565⟩ := hQ565
        have N565 : Fr n0 L565 := by rw [l565]; exact Fr.app N552 N565q
        have P568 : Rch p e below (s₁.setTop (entryFrame m #[(.long q1), (.long q2), (.long q3), (.long q4), (.long q5), (.int p6)] maxLocals)) (T565.setTop (mkF m 137 #[lv q1, sd, lv q2, sd, lv q3, sd, lv q4, sd, lv q5, sd, iv p6, iv v4, iv x6, iv (1 : Int32), iv x329, iv (1 : Int32), iv x484, iv (1 : Int32), .val r559, .val .null, .val .null, un, un, un, un, un, un, un, un, un, un] [(.ref b561)])) := fun t k => P564 t (st565.trans k)
        have P569 : Rch p e below (s₁.setTop (entryFrame m #[(.long q1), (.long q2), (.long q3), (.long q4), (.long q5), (.int p6)] maxLocals)) (T565.setTop (mkF m 139 #[lv q1, sd, lv q2, sd, lv q3, sd, lv q4, sd, lv q5, sd, iv p6, iv v4, iv x6, iv (1 : Int32), iv x329, iv (1 : Int32), iv x484, iv (1 : Int32), .val r559, .val .null, .val .null, rv b561, un, un, un, un, un, un, un, un, un] [])) := fun t k => P568 t (by
          show Steps p.tables e below (T565.setTop (mkF m 137 #[lv q1, sd, lv q2, sd, lv q3, sd, lv q4, sd, lv q5, sd, iv p6, iv v4, iv x6, iv (1 : Int32), iv x329, iv (1 : Int32), iv x484, iv (1 : Int32), .val r559, .val .null, .val .null, un, un, un, un, un, un, un, un, un, un] [(.ref b561)])) t
          refine XS.astore X565.here hx rfl (hb hby at_137) rfl rfl (l' := #[lv q1, sd, lv q2, sd, lv q3, sd, lv q4, sd, lv q5, sd, iv p6, iv v4, iv x6, iv (1 : Int32), iv x329, iv (1 : Int32), iv x484, iv (1 : Int32), .val r559, .val .null, .val .null, rv b561, un, un, un, un, un, un, un, un, un]) rfl ?_
          exact k)
        have f571 : n0 ≤ T565.heap.size := (Nat.le_trans f567 K565.1)
        have f572 : Keep h0 T565.heap [] := ((f562.ext E561).trans K565 (allS (P := fun x => x ∈ [] ∨ h0.size ≤ x) (Or.inr sz_b561) all0))
        obtain ⟨T570, h570, X570, e570, E570, A570, D570, -, st570⟩ := newO X565 hx hZ hown (hw _ (List.mem_of_getElem? (i := 27) rfl)) (hw _ (List.mem_of_getElem? (i := 28) rfl)) (hw _ (List.mem_of_getElem? (i := 29) rfl)) rfl (g := (mkF m 139 #[lv q1, sd, lv q2, sd, lv q3, sd, lv q4, sd, lv q5, sd, iv p6, iv v4, iv x6, iv (1 : Int32), iv x329, iv (1 : Int32), iv x484, iv (1 : Int32), .val r559, .val .null, .val .null, rv b561, un, un, un, un, un, un, un, un, un] [])) rfl (hb hby at_139) (by decide) (by decide)
        obtain ⟨b570, g570⟩ : ∃ z, z = T565.heap.size := ⟨_, rfl⟩
        rw [← g570] at A570 D570 st570
        have g_b570 : n0 ≤ b570 := Nat.le_trans f571 (Nat.le_of_eq g570.symm)
        have sz_b570 : h0.size ≤ b570 := Nat.le_trans f572.1 (Nat.le_of_eq g570.symm)
        have ne_b561_b570 : b561 ≠ b570 := Nat.ne_of_lt (Nat.lt_of_lt_of_le (A561.keep K565).lt (Nat.le_of_eq g570.symm))
        have F570_68 : Fld Z h570 b570 "com/example/usher/usher/core/Node" "children" "Ljava/util/Set;" .null := D570 (Or.inr (hw _ (List.mem_of_getElem? (i := 68) rfl))) (ty := (.object "java/util/Set")) (by decide)
        have F570_70 : Fld Z h570 b570 "com/example/usher/usher/core/Node" "czxid" "J" (.long (0 : Int64)) := D570 (Or.inr (hw _ (List.mem_of_getElem? (i := 70) rfl))) (ty := .long) (by decide)
        have F570_72 : Fld Z h570 b570 "com/example/usher/usher/core/Node" "ctime" "J" (.long (0 : Int64)) := D570 (Or.inr (hw _ (List.mem_of_getElem? (i := 72) rfl))) (ty := .long) (by decide)
        have F570_74 : Fld Z h570 b570 "com/example/usher/usher/core/Node" "ephemeralOwner" "J" (.long (0 : Int64)) := D570 (Or.inr (hw _ (List.mem_of_getElem? (i := 74) rfl))) (ty := .long) (by decide)
        have F570_76 : Fld Z h570 b570 "com/example/usher/usher/core/Node" "data" "[B" .null := D570 (Or.inl (hw _ (List.mem_of_getElem? (i := 76) rfl))) (ty := (.array .byte)) (by decide)
        have F570_78 : Fld Z h570 b570 "com/example/usher/usher/core/Node" "acl" "Ljava/util/List;" .null := D570 (Or.inl (hw _ (List.mem_of_getElem? (i := 78) rfl))) (ty := (.object "java/util/List")) (by decide)
        have F570_80 : Fld Z h570 b570 "com/example/usher/usher/core/Node" "mzxid" "J" (.long (0 : Int64)) := D570 (Or.inl (hw _ (List.mem_of_getElem? (i := 80) rfl))) (ty := .long) (by decide)
        have F570_82 : Fld Z h570 b570 "com/example/usher/usher/core/Node" "mtime" "J" (.long (0 : Int64)) := D570 (Or.inl (hw _ (List.mem_of_getElem? (i := 82) rfl))) (ty := .long) (by decide)
        have F570_84 : Fld Z h570 b570 "com/example/usher/usher/core/Node" "pzxid" "J" (.long (0 : Int64)) := D570 (Or.inl (hw _ (List.mem_of_getElem? (i := 84) rfl))) (ty := .long) (by decide)
        have F570_91 : Fld Z h570 b570 "com/example/usher/usher/core/Node" "version" "I" (.int (0 : Int32)) := D570 (Or.inl (hw _ (List.mem_of_getElem? (i := 91) rfl))) (ty := .int) (by decide)
        have F570_101 : Fld Z h570 b570 "com/example/usher/usher/core/Node" "cversion" "I" (.int (0 : Int32)) := D570 (Or.inl (hw _ (List.mem_of_getElem? (i := 101) rfl))) (ty := .int) (by decide)
        have F570_103 : Fld Z h570 b570 "com/example/usher/usher/core/Node" "aversion" "I" (.int (0 : Int32)) := D570 (Or.inl (hw _ (List.mem_of_getElem? (i := 103) rfl))) (ty := .int) (by decide)
        have P573 : Rch p e below (s₁.setTop (entryFrame m #[(.long q1), (.long q2), (.long q3), (.long q4), (.long q5), (.int p6)] maxLocals)) (T570.setTop (mkF m 142 #[lv q1, sd, lv q2, sd, lv q3, sd, lv q4, sd, lv q5, sd, iv p6, iv v4, iv x6, iv (1 : Int32), iv x329, iv (1 : Int32), iv x484, iv (1 : Int32), .val r559, .val .null, .val .null, rv b561, un, un, un, un, un, un, un, un, un] [(.ref b570)])) := fun t k => P569 t (st570 t k)
        have P574 : Rch p e below (s₁.setTop (entryFrame m #[(.long q1), (.long q2), (.long q3), (.long q4), (.long q5), (.int p6)] maxLocals)) (T570.setTop (mkF m 150 #[lv q1, sd, lv q2, sd, lv q3, sd, lv q4, sd, lv q5, sd, iv p6, iv v4, iv x6, iv (1 : Int32), iv x329, iv (1 : Int32), iv x484, iv (1 : Int32), .val r559, .val .null, .val .null, rv b561, un, un, un, un, un, un, un, un, un] [(.long q2), (.long q1), (.long (0 : Int64)), (.ref b561), r559, (.ref b570), (.ref b570)])) := fun t k => P573 t (by
          show Steps p.tables e below (T570.setTop (mkF m 142 #[lv q1, sd, lv q2, sd, lv q3, sd, lv q4, sd, lv q5, sd, iv p6, iv v4, iv x6, iv (1 : Int32), iv x329, iv (1 : Int32), iv x484, iv (1 : Int32), .val r559, .val .null, .val .null, rv b561, un, un, un, un, un, un, un, un, un] [(.ref b570)])) t
          refine XS.dup X570.here hx rfl (hb hby at_142) rfl rfl ?_
          refine XS.aload X570.here hx rfl (hb hby at_143) rfl hr559 ?_
          refine XS.aload X570.here hx rfl (hb hby at_145) rfl rfl ?_
          show Steps p.tables e below (T570.setTop (mkF m 147 #[lv q1, sd, lv q2, sd, lv q3, sd, lv q4, sd, lv q5, sd, iv p6, iv v4, iv x6, iv (1 : Int32), iv x329, iv (1 : Int32), iv x484, iv (1 : Int32), .val r559, .val .null, .val .null, rv b561, un, un, un, un, un, un, un, un, un] [(.ref b561), r559, (.ref b570), (.ref b570)])) t
          refine XS.lconst X570.here hx rfl (hb hby at_147) ?_
          refine XS.lloadN X570.here hx rfl (hb hby at_148) rfl ?_
          refine XS.lloadN X570.here hx rfl (hb hby at_149) rfl ?_
          exact k)
        have f576 : n0 ≤ h570.size := (Nat.le_trans f571 E570.1)
        obtain ⟨_, _, ⟨T575, L575, k575, n575⟩, -, X575, ⟨Lc575, hQ575, l575, y575, z575⟩, st575⟩ := X570.specialBack hx (y := (⟨"com/example/usher/usher/core/Node", "<init>", "([BLjava/util/List;JJJ)V"⟩ : MethodName)) rfl hown (mvT hZ (hw _ (List.mem_of_getElem? (i := 30) rfl))) (mvT hZ (hw _ (List.mem_of_getElem? (i := 31) rfl))) (mvT hZ (hw _ (List.mem_of_getElem? (i := 32) rfl))) (by decide) (backOf (W := 1) (rmND l Z a0 hw [] b570 r559 b561 (0 : Int64) q1 q2 h570 n0 f576 hr559 A570 g_b570 F570_68 F570_70 F570_72 F570_74 F570_76 F570_78 F570_80 F570_82 F570_84 F570_91 F570_101 F570_103) hZ (hw _ (List.mem_of_getElem? (i := 32) rfl)) (hw _ (List.mem_of_getElem? (i := 29) rfl)) (by decide) (by decide)) (g := (mkF m 150 #[lv q1, sd, lv q2, sd, lv q3, sd, lv q4, sd, lv q5, sd, iv p6, iv v4, iv x6, iv (1 : Int32), iv x329, iv (1 : Int32), iv x484, iv (1 : Int32), .val r559, .val .null, .val .null, rv b561, un, un, un, un, un, un, un, un, un] [(.long q2), (.long q1), (.long (0 : Int64)), (.ref b561), r559, (.ref b570), (.ref b570)])) rfl (by rw [hml]; rfl) (Steps.refl _) (a := b570) (argsL := [r559, (.ref b561), (.long (0 : Int64)), (.long q1), (.long q2)]) (rest := [(.ref b570)]) (lenOf pd_3 rfl) rfl (by show 2 * 0 + _ ≤ _; exact Nat.le_of_eq rfl) (hb hby at_150) (fun _ _ => ⟨rfl, e570, (by decide : 3 + 2 ≤ _), (by decide : 19 + 9 ≤ _)⟩)
        dsimp only [Pt.U, Pt.locs, Pt.cells, Pt.slots] at X575 l575 y575 z575 st575 hQ575
        subst y575 z575
        have f577 : Keep h0 h570 [] := (f572.ext E570)
        obtain ⟨c__575, m__575, rfl, N575q, K575, Fc_575, Fm_575, E_575, G0_575, G1_575, G2_575, G3_575, G4_575, G5_575, G6_575, G7_575, G8_575, G9_575, G10_575, G11_575, Ec_575, Gc_575, Em_575, Gm_575⟩ := hQ575
        have N575 : Fr n0 L575 := by rw [l575]; exact Fr.app N565 N575q
        have g_c__575 : n0 ≤ c__575 := Nat.le_trans f576 Fc_575
        have sz_c__575 : h0.size ≤ c__575 := Nat.le_trans f577.1 Fc_575
        have ne_b561_c__575 : b561 ≠ c__575 := Nat.ne_of_lt (Nat.lt_of_lt_of_le ((A561.keep K565).ext E570).lt Fc_575)
        have ne_b570_c__575 : b570 ≠ c__575 := Nat.ne_of_lt (Nat.lt_of_lt_of_le A570.lt Fc_575)
        have g_m__575 : n0 ≤ m__575 := Nat.le_trans f576 Fm_575
        have sz_m__575 : h0.size ≤ m__575 := Nat.le_trans f577.1 Fm_575
        have ne_b561_m__575 : b561 ≠ m__575 := Nat.ne_of_lt (Nat.lt_of_lt_of_le ((A561.keep K565).ext E570).lt Fm_575)
        have ne_b570_m__575 : b570 ≠ m__575 := Nat.ne_of_lt (Nat.lt_of_lt_of_le A570.lt Fm_575)
        have P578 : Rch p e below (s₁.setTop (entryFrame m #[(.long q1), (.long q2), (.long q3), (.long q4), (.long q5), (.int p6)] maxLocals)) (T575.setTop (mkF m 153 #[lv q1, sd, lv q2, sd, lv q3, sd, lv q4, sd, lv q5, sd, iv p6, iv v4, iv x6, iv (1 : Int32), iv x329, iv (1 : Int32), iv x484, iv (1 : Int32), .val r559, .val .null, .val .null, rv b561, un, un, un, un, un, un, un, un, un] [(.ref b570)])) := fun t k => P574 t (st575.trans k)
        have P579 : Rch p e below (s₁.setTop (entryFrame m #[(.long q1), (.long q2), (.long q3), (.long q4), (.long q5), (.int p6)] maxLocals)) (T575.setTop (mkF m 163 #[lv q1, sd, lv q2, sd, lv q3, sd, lv q4, sd, lv q5, sd, iv p6, iv v4, iv x6, iv (1 : Int32), iv x329, iv (1 : Int32), iv x484, iv (1 : Int32), .val r559, .val .null, .val .null, rv b561, rv b570, un, un, un, un, un, un, un, un] [(.long q4), (.long q3), .null, (.ref b570)])) := fun t k => P578 t (by
          show Steps p.tables e below (T575.setTop (mkF m 153 #[lv q1, sd, lv q2, sd, lv q3, sd, lv q4, sd, lv q5, sd, iv p6, iv v4, iv x6, iv (1 : Int32), iv x329, iv (1 : Int32), iv x484, iv (1 : Int32), .val r559, .val .null, .val .null, rv b561, un, un, un, un, un, un, un, un, un] [(.ref b570)])) t
          refine XS.astore X575.here hx rfl (hb hby at_153) rfl rfl (l' := #[lv q1, sd, lv q2, sd, lv q3, sd, lv q4, sd, lv q5, sd, iv p6, iv v4, iv x6, iv (1 : Int32), iv x329, iv (1 : Int32), iv x484, iv (1 : Int32), .val r559, .val .null, .val .null, rv b561, rv b570, un, un, un, un, un, un, un, un]) rfl ?_
          refine XS.aload X575.here hx rfl (hb hby at_155) rfl rfl ?_
          refine XS.aload X575.here hx rfl (hb hby at_157) rfl rfl ?_
          show Steps p.tables e below (T575.setTop (mkF m 159 #[lv q1, sd, lv q2, sd, lv q3, sd, lv q4, sd, lv q5, sd, iv p6, iv v4, iv x6, iv (1 : Int32), iv x329, iv (1 : Int32), iv x484, iv (1 : Int32), .val r559, .val .null, .val .null, rv b561, rv b570, un, un, un, un, un, un, un, un] [.null, (.ref b570)])) t
          refine XS.lload X575.here hx rfl (hb hby at_159) rfl ?_
          refine XS.lload X575.here hx rfl (hb hby at_161) rfl ?_
          exact k)
        have f581 : n0 ≤ T575.heap.size := (Nat.le_trans f576 K575.1)
        obtain ⟨cq580, kq580, q580a, q580b, q580c⟩ := isOf hZ rfl E_575
        obtain ⟨_, _, ⟨T580, L580, k580, n580⟩, -, X580, ⟨Lc580, hQ580, l580, y580, z580⟩, st580⟩ := X575.virtualBack hx (y := (⟨"com/example/usher/usher/core/Node", "setData", "([BJJ)V"⟩ : MethodName)) (z := (⟨"com/example/usher/usher/core/Node", "setData", "([BJJ)V"⟩ : MethodName)) hown (mvT hZ (hw _ (List.mem_of_getElem? (i := 85) rfl))) (mvT hZ (hw _ (List.mem_of_getElem? (i := 86) rfl))) (notFace_of_selects (args := #[]) (mvT hZ (hw _ (List.mem_of_getElem? (i := 88) rfl)))) (mvT hZ (hw _ (List.mem_of_getElem? (i := 88) rfl))) (mvT hZ (hw _ (List.mem_of_getElem? (i := 87) rfl))) (by decide) (backOf (W := 0) (rmSD l Z a0 hw [] b570 .null q3 q4 c__575 q1 q2 (0 : Int64) r559 b561 q1 q2 q1 (0 : Int32) (0 : Int32) (0 : Int32) T575.heap n0 f581 rfl E_575 g_b570 G0_575 G1_575 G2_575 G3_575 G4_575 G5_575 G6_575 G7_575 G8_575 G9_575 G10_575 G11_575) hZ (hw _ (List.mem_of_getElem? (i := 89) rfl)) (hw _ (List.mem_of_getElem? (i := 29) rfl)) (by decide) (by decide)) q580a q580c (g := (mkF m 163 #[lv q1, sd, lv q2, sd, lv q3, sd, lv q4, sd, lv q5, sd, iv p6, iv v4, iv x6, iv (1 : Int32), iv x329, iv (1 : Int32), iv x484, iv (1 : Int32), .val r559, .val .null, .val .null, rv b561, rv b570, un, un, un, un, un, un, un, un] [(.long q4), (.long q3), .null, (.ref b570)])) rfl (by rw [hml]; rfl) (Steps.refl _) (argsL := [.null, (.long q3), (.long q4)]) (rest := []) (lenOf pd_4 rfl) rfl (by show 2 * 0 + _ ≤ _; exact Nat.le_of_eq rfl) (hb hby at_163) (fun _ _ => ⟨rfl, rfl, (by decide : 5 + 0 ≤ _), (by decide : 28 + 0 ≤ _)⟩)
        dsimp only [Pt.U, Pt.locs, Pt.cells, Pt.slots] at X580 l580 y580 z580 st580 hQ580
        subst y580 z580
        obtain ⟨rfl, N580q, K580, E_580, G0_580, G1_580, G2_580, G3_580, G4_580, G5_580, G6_580, G7_580, G8_580, G9_580, G10_580, G11_580⟩ := hQ580
        have N580 : Fr n0 L580 := by rw [l580]; exact Fr.app N575 N580q
        have P582 : Rch p e below (s₁.setTop (entryFrame m #[(.long q1), (.long q2), (.long q3), (.long q4), (.long q5), (.int p6)] maxLocals)) (T580.setTop (mkF m 166 #[lv q1, sd, lv q2, sd, lv q3, sd, lv q4, sd, lv q5, sd, iv p6, iv v4, iv x6, iv (1 : Int32), iv x329, iv (1 : Int32), iv x484, iv (1 : Int32), .val r559, .val .null, .val .null, rv b561, rv b570, un, un, un, un, un, un, un, un] [])) := fun t k => P579 t (st580.trans k)
        have P583 : Rch p e below (s₁.setTop (entryFrame m #[(.long q1), (.long q2), (.long q3), (.long q4), (.long q5), (.int p6)] maxLocals)) (T580.setTop (mkF m 178 #[lv q1, sd, lv q2, sd, lv q3, sd, lv q4, sd, lv q5, sd, iv p6, iv v4, iv x6, iv (1 : Int32), iv x329, iv (1 : Int32), iv x484, iv (1 : Int32), .val r559, .val .null, .val .null, rv b561, rv b570, un, un, un, un, un, un, un, un] [(.long q2), (.long q5), .null, (.ref b570)])) := fun t k => P582 t (by
          show Steps p.tables e below (T580.setTop (mkF m 166 #[lv q1, sd, lv q2, sd, lv q3, sd, lv q4, sd, lv q5, sd, iv p6, iv v4, iv x6, iv (1 : Int32), iv x329, iv (1 : Int32), iv x484, iv (1 : Int32), .val r559, .val .null, .val .null, rv b561, rv b570, un, un, un, un, un, un, un, un] [])) t
          refine XS.iload X580.here hx rfl (hb hby at_166) rfl ?_
          refine XS.ifNo X580.here hx rfl (hb hby at_168) rfl ((if0 _ _).trans (feq (by decide)).1) ?_
          refine XS.aload X580.here hx rfl (hb hby at_171) rfl rfl ?_
          show Steps p.tables e below (T580.setTop (mkF m 173 #[lv q1, sd, lv q2, sd, lv q3, sd, lv q4, sd, lv q5, sd, iv p6, iv v4, iv x6, iv (1 : Int32), iv x329, iv (1 : Int32), iv x484, iv (1 : Int32), .val r559, .val .null, .val .null, rv b561, rv b570, un, un, un, un, un, un, un, un] [(.ref b570)])) t
          refine XS.aload X580.here hx rfl (hb hby at_173) rfl rfl ?_
          refine XS.lload X580.here hx rfl (hb hby at_175) rfl ?_
          refine XS.lloadN X580.here hx rfl (hb hby at_177) rfl ?_
          exact k)
        have f585 : n0 ≤ T580.heap.size := (Nat.le_trans f581 K580.1)
        obtain ⟨cq584, kq584, q584a, q584b, q584c⟩ := isOf hZ rfl E_580
        obtain ⟨_, _, ⟨T584, L584, k584, n584⟩, -, X584, ⟨Lc584, hQ584, l584, y584, z584⟩, st584⟩ := X580.virtualBack hx (y := (⟨"com/example/usher/usher/core/Node", "setData", "([BJJ)V"⟩ : MethodName)) (z := (⟨"com/example/usher/usher/core/Node", "setData", "([BJJ)V"⟩ : MethodName)) hown (mvT hZ (hw _ (List.mem_of_getElem? (i := 85) rfl))) (mvT hZ (hw _ (List.mem_of_getElem? (i := 86) rfl))) (notFace_of_selects (args := #[]) (mvT hZ (hw _ (List.mem_of_getElem? (i := 88) rfl)))) (mvT hZ (hw _ (List.mem_of_getElem? (i := 88) rfl))) (mvT hZ (hw _ (List.mem_of_getElem? (i := 87) rfl))) (by decide) (backOf (W := 0) (rmSD l Z a0 hw [] b570 .null q5 q2 c__575 q1 q2 (0 : Int64) .null b561 q3 q4 q1 ((0 : Int32) + (1 : Int32)) (0 : Int32) (0 : Int32) T580.heap n0 f585 rfl E_580 g_b570 G0_580 G1_580 G2_580 G3_580 G4_580 G5_580 G6_580 G7_580 G8_580 G9_580 G10_580 G11_580) hZ (hw _ (List.mem_of_getElem? (i := 89) rfl)) (hw _ (List.mem_of_getElem? (i := 29) rfl)) (by decide) (by decide)) q584a q584c (g := (mkF m 178 #[lv q1, sd, lv q2, sd, lv q3, sd, lv q4, sd, lv q5, sd, iv p6, iv v4, iv x6, iv (1 : Int32), iv x329, iv (1 : Int32), iv x484, iv (1 : Int32), .val r559, .val .null, .val .null, rv b561, rv b570, un, un, un, un, un, un, un, un] [(.long q2), (.long q5), .null, (.ref b570)])) rfl (by rw [hml]; rfl) (Steps.refl _) (argsL := [.null, (.long q5), (.long q2)]) (rest := []) (lenOf pd_4 rfl) rfl (by show 2 * 0 + _ ≤ _; exact Nat.le_of_eq rfl) (hb hby at_178) (fun _ _ => ⟨rfl, rfl, (by decide : 5 + 0 ≤ _), (by decide : 28 + 0 ≤ _)⟩)
        dsimp only [Pt.U, Pt.locs, Pt.cells, Pt.slots] at X584 l584 y584 z584 st584 hQ584
        subst y584 z584
        obtain ⟨rfl, N584q, K584, E_584, G0_584, G1_584, G2_584, G3_584, G4_584, G5_584, G6_584, G7_584, G8_584, G9_584, G10_584, G11_584⟩ := hQ584
        have N584 : Fr n0 L584 := by rw [l584]; exact Fr.app N580 N584q
        have P586 : Rch p e below (s₁.setTop (entryFrame m #[(.long q1), (.long q2), (.long q3), (.long q4), (.long q5), (.int p6)] maxLocals)) (T584.setTop (mkF m 181 #[lv q1, sd, lv q2, sd, lv q3, sd, lv q4, sd, lv q5, sd, iv p6, iv v4, iv x6, iv (1 : Int32), iv x329, iv (1 : Int32), iv x484, iv (1 : Int32), .val r559, .val .null, .val .null, rv b561, rv b570, un, un, un, un, un, un, un, un] [])) := fun t k => P583 t (st584.trans k)
        have P587 : Rch p e below (s₁.setTop (entryFrame m #[(.long q1), (.long q2), (.long q3), (.long q4), (.long q5), (.int p6)] maxLocals)) (T584.setTop (mkF m 183 #[lv q1, sd, lv q2, sd, lv q3, sd, lv q4, sd, lv q5, sd, iv p6, iv v4, iv x6, iv (1 : Int32), iv x329, iv (1 : Int32), iv x484, iv (1 : Int32), .val r559, .val .null, .val .null, rv b561, rv b570, un, un, un, un, un, un, un, un] [(.ref b570)])) := fun t k => P586 t (by
          show Steps p.tables e below (T584.setTop (mkF m 181 #[lv q1, sd, lv q2, sd, lv q3, sd, lv q4, sd, lv q5, sd, iv p6, iv v4, iv x6, iv (1 : Int32), iv x329, iv (1 : Int32), iv x484, iv (1 : Int32), .val r559, .val .null, .val .null, rv b561, rv b570, un, un, un, un, un, un, un, un] [])) t
          refine XS.aload X584.here hx rfl (hb hby at_181) rfl rfl ?_
          exact k)
        have f589 : Fld Z T584.heap c__575 "java/util/HashSet" "map" "Ljava/util/HashMap;" (.ref m__575) := ((Gc_575.keep K580 (ninS (Ne.symm ne_b570_c__575) nin0)).keep K584 (ninS (Ne.symm ne_b570_c__575) nin0))
        have f590 : Fld Z T584.heap m__575 "java/util/HashMap" "size" "I" (.int (0 : Int32)) := ((Gm_575.keep K580 (ninS (Ne.symm ne_b570_m__575) nin0)).keep K584 (ninS (Ne.symm ne_b570_m__575) nin0))
        have f591 : n0 ≤ T584.heap.size := (Nat.le_trans f585 K584.1)
        obtain ⟨cq588, kq588, q588a, q588b, q588c⟩ := isOf hZ rfl E_584
        obtain ⟨_, _, ⟨T588, L588, k588, n588⟩, -, X588, ⟨Lc588, hQ588, l588, y588, z588⟩, st588⟩ := X584.virtualBack hx (y := (⟨"com/example/usher/usher/core/Node", "stat", "()Lcom/example/usher/usher/protocol/Stat;"⟩ : MethodName)) (z := (⟨"com/example/usher/usher/core/Node", "stat", "()Lcom/example/usher/usher/protocol/Stat;"⟩ : MethodName)) hown (mvT hZ (hw _ (List.mem_of_getElem? (i := 92) rfl))) (mvT hZ (hw _ (List.mem_of_getElem? (i := 93) rfl))) (notFace_of_selects (args := #[]) (mvT hZ (hw _ (List.mem_of_getElem? (i := 95) rfl)))) (mvT hZ (hw _ (List.mem_of_getElem? (i := 95) rfl))) (mvT hZ (hw _ (List.mem_of_getElem? (i := 94) rfl))) (by decide) (backOf (W := 0) (rmS0 l Z a0 hw [] b570 c__575 q1 q2 (0 : Int64) b561 q5 q2 q1 (((0 : Int32) + (1 : Int32)) + (1 : Int32)) (0 : Int32) (0 : Int32) m__575 T584.heap n0 f591 E_584 G0_584 G1_584 G2_584 G3_584 G4_584 G5_584 G6_584 G7_584 G8_584 G9_584 G10_584 G11_584 ((Ec_575.keep K580).keep K584) f589 ((Em_575.keep K580).keep K584) f590) hZ (hw _ (List.mem_of_getElem? (i := 96) rfl)) (hw _ (List.mem_of_getElem? (i := 29) rfl)) (by decide) (by decide)) q588a q588c (g := (mkF m 183 #[lv q1, sd, lv q2, sd, lv q3, sd, lv q4, sd, lv q5, sd, iv p6, iv v4, iv x6, iv (1 : Int32), iv x329, iv (1 : Int32), iv x484, iv (1 : Int32), .val r559, .val .null, .val .null, rv b561, rv b570, un, un, un, un, un, un, un, un] [(.ref b570)])) rfl (by rw [hml]; rfl) (Steps.refl _) (argsL := []) (rest := []) (lenOf pd_5 rfl) rfl (by show 2 * 0 + _ ≤ _; exact Nat.le_of_eq rfl) (hb hby at_183) (fun _ _ => ⟨rfl, rfl, (by decide : 5 + 1 ≤ _), (by decide : 28 + 11 ≤ _)⟩)
        dsimp only [Pt.U, Pt.locs, Pt.cells, Pt.slots] at X588 l588 y588 z588 st588 hQ588
        subst y588 z588
        have f592 : Exa Z T584.heap b561 "java/util/ArrayList" := (((((A561.keep K565).ext E570).keep K575).keep K580).keep K584)
        have f593 : Keep h0 T584.heap [] := (((f577.trans K575 (allS (P := fun x => x ∈ [] ∨ h0.size ≤ x) (Or.inr sz_b570) all0)).trans K580 (allS (P := fun x => x ∈ [] ∨ h0.size ≤ x) (Or.inr sz_b570) all0)).trans K584 (allS (P := fun x => x ∈ [] ∨ h0.size ≤ x) (Or.inr sz_b570) all0))
        obtain ⟨t__588, rfl, N588q, K588, Ft_588, Et_588, G_mzxid_588, G_ctime_588, G_mtime_588, G_version_588, G_dataLength_588, G_pzxid_588⟩ := hQ588
        have N588 : Fr n0 L588 := by rw [l588]; exact Fr.app N584 N588q
        have g_t__588 : n0 ≤ t__588 := Nat.le_trans f591 Ft_588
        have sz_t__588 : h0.size ≤ t__588 := Nat.le_trans f593.1 Ft_588
        have ne_b561_t__588 : b561 ≠ t__588 := Nat.ne_of_lt (Nat.lt_of_lt_of_le f592.lt Ft_588)
        have ne_b570_t__588 : b570 ≠ t__588 := Nat.ne_of_lt (Nat.lt_of_lt_of_le (((A570.keep K575).keep K580).keep K584).lt Ft_588)
        have ne_c__575_t__588 : c__575 ≠ t__588 := Nat.ne_of_lt (Nat.lt_of_lt_of_le ((Ec_575.keep K580).keep K584).lt Ft_588)
        have ne_m__575_t__588 : m__575 ≠ t__588 := Nat.ne_of_lt (Nat.lt_of_lt_of_le ((Em_575.keep K580).keep K584).lt Ft_588)
        have P594 : Rch p e below (s₁.setTop (entryFrame m #[(.long q1), (.long q2), (.long q3), (.long q4), (.long q5), (.int p6)] maxLocals)) (T588.setTop (mkF m 186 #[lv q1, sd, lv q2, sd, lv q3, sd, lv q4, sd, lv q5, sd, iv p6, iv v4, iv x6, iv (1 : Int32), iv x329, iv (1 : Int32), iv x484, iv (1 : Int32), .val r559, .val .null, .val .null, rv b561, rv b570, un, un, un, un, un, un, un, un] [(.ref t__588)])) := fun t k => P587 t (st588.trans k)
        have P595 : Rch p e below (s₁.setTop (entryFrame m #[(.long q1), (.long q2), (.long q3), (.long q4), (.long q5), (.int p6)] maxLocals)) (T588.setTop (mkF m 277 #[lv q1, sd, lv q2, sd, lv q3, sd, lv q4, sd, lv q5, sd, iv p6, iv v4, iv x6, iv (1 : Int32), iv x329, iv (1 : Int32), iv x484, iv (1 : Int32), .val r559, .val .null, .val .null, rv b561, rv b570, rv t__588, .val .null, lv q5, sd, lv q2, sd, iv (2 : Int32), iv (0 : Int32)] [(.ref b570)])) := fun t k => P594 t (by
          show Steps p.tables e below (T588.setTop (mkF m 186 #[lv q1, sd, lv q2, sd, lv q3, sd, lv q4, sd, lv q5, sd, iv p6, iv v4, iv x6, iv (1 : Int32), iv x329, iv (1 : Int32), iv x484, iv (1 : Int32), .val r559, .val .null, .val .null, rv b561, rv b570, un, un, un, un, un, un, un, un] [(.ref t__588)])) t
          refine XS.astore X588.here hx rfl (hb hby at_186) rfl rfl (l' := #[lv q1, sd, lv q2, sd, lv q3, sd, lv q4, sd, lv q5, sd, iv p6, iv v4, iv x6, iv (1 : Int32), iv x329, iv (1 : Int32), iv x484, iv (1 : Int32), .val r559, .val .null, .val .null, rv b561, rv b570, rv t__588, un, un, un, un, un, un, un]) rfl ?_
          refine XS.iload X588.here hx rfl (hb hby at_188) rfl ?_
          refine XS.ifNo X588.here hx rfl (hb hby at_190) rfl ((if0 _ _).trans (feq (by decide)).1) ?_
          show Steps p.tables e below (T588.setTop (mkF m 193 #[lv q1, sd, lv q2, sd, lv q3, sd, lv q4, sd, lv q5, sd, iv p6, iv v4, iv x6, iv (1 : Int32), iv x329, iv (1 : Int32), iv x484, iv (1 : Int32), .val r559, .val .null, .val .null, rv b561, rv b570, rv t__588, un, un, un, un, un, un, un] [])) t
          refine XS.aload X588.here hx rfl (hb hby at_193) rfl rfl ?_
          refine XS.goto X588.here hx rfl (pc0 := 195) (pc' := 200) rfl (hb hby at_195) (by decide) (by decide) ?_
          refine XS.astore X588.here hx rfl (hb hby at_200) rfl rfl (l' := #[lv q1, sd, lv q2, sd, lv q3, sd, lv q4, sd, lv q5, sd, iv p6, iv v4, iv x6, iv (1 : Int32), iv x329, iv (1 : Int32), iv x484, iv (1 : Int32), .val r559, .val .null, .val .null, rv b561, rv b570, rv t__588, .val .null, un, un, un, un, un, un]) rfl ?_
          refine XS.iload X588.here hx rfl (hb hby at_202) rfl ?_
          show Steps p.tables e below (T588.setTop (mkF m 204 #[lv q1, sd, lv q2, sd, lv q3, sd, lv q4, sd, lv q5, sd, iv p6, iv v4, iv x6, iv (1 : Int32), iv x329, iv (1 : Int32), iv x484, iv (1 : Int32), .val r559, .val .null, .val .null, rv b561, rv b570, rv t__588, .val .null, un, un, un, un, un, un] [(.int (1 : Int32))])) t
          refine XS.ifNo X588.here hx rfl (hb hby at_204) rfl ((if0 _ _).trans (feq (by decide)).1) ?_
          refine XS.lload X588.here hx rfl (hb hby at_207) rfl ?_
          refine XS.goto X588.here hx rfl (pc0 := 209) (pc' := 214) rfl (hb hby at_209) (by decide) (by decide) ?_
          refine XS.lstore X588.here hx rfl (hb hby at_214) rfl (l' := #[lv q1, sd, lv q2, sd, lv q3, sd, lv q4, sd, lv q5, sd, iv p6, iv v4, iv x6, iv (1 : Int32), iv x329, iv (1 : Int32), iv x484, iv (1 : Int32), .val r559, .val .null, .val .null, rv b561, rv b570, rv t__588, .val .null, lv q5, sd, un, un, un, un]) rfl ?_
          show Steps p.tables e below (T588.setTop (mkF m 216 #[lv q1, sd, lv q2, sd, lv q3, sd, lv q4, sd, lv q5, sd, iv p6, iv v4, iv x6, iv (1 : Int32), iv x329, iv (1 : Int32), iv x484, iv (1 : Int32), .val r559, .val .null, .val .null, rv b561, rv b570, rv t__588, .val .null, lv q5, sd, un, un, un, un] [])) t
          refine XS.iload X588.here hx rfl (hb hby at_216) rfl ?_
          refine XS.ifNo X588.here hx rfl (hb hby at_218) rfl ((if0 _ _).trans (feq (by decide)).1) ?_
          refine XS.lloadN X588.here hx rfl (hb hby at_221) rfl ?_
          refine XS.goto X588.here hx rfl (pc0 := 222) (pc' := 227) rfl (hb hby at_222) (by decide) (by decide) ?_
          show Steps p.tables e below (T588.setTop (mkF m 227 #[lv q1, sd, lv q2, sd, lv q3, sd, lv q4, sd, lv q5, sd, iv p6, iv v4, iv x6, iv (1 : Int32), iv x329, iv (1 : Int32), iv x484, iv (1 : Int32), .val r559, .val .null, .val .null, rv b561, rv b570, rv t__588, .val .null, lv q5, sd, un, un, un, un] [(.long q2)])) t
          refine XS.lstore X588.here hx rfl (hb hby at_227) rfl (l' := #[lv q1, sd, lv q2, sd, lv q3, sd, lv q4, sd, lv q5, sd, iv p6, iv v4, iv x6, iv (1 : Int32), iv x329, iv (1 : Int32), iv x484, iv (1 : Int32), .val r559, .val .null, .val .null, rv b561, rv b570, rv t__588, .val .null, lv q5, sd, lv q2, sd, un, un]) rfl ?_
          refine XS.iload X588.here hx rfl (hb hby at_229) rfl ?_
          refine XS.ifNo X588.here hx rfl (hb hby at_231) rfl ((if0 _ _).trans (feq (by decide)).1) ?_
          refine XS.iconst X588.here hx rfl (hb hby at_234) ?_
          show Steps p.tables e below (T588.setTop (mkF m 235 #[lv q1, sd, lv q2, sd, lv q3, sd, lv q4, sd, lv q5, sd, iv p6, iv v4, iv x6, iv (1 : Int32), iv x329, iv (1 : Int32), iv x484, iv (1 : Int32), .val r559, .val .null, .val .null, rv b561, rv b570, rv t__588, .val .null, lv q5, sd, lv q2, sd, un, un] [(.int (2 : Int32))])) t
          refine XS.goto X588.here hx rfl (pc0 := 235) (pc' := 239) rfl (hb hby at_235) (by decide) (by decide) ?_
          refine XS.istore X588.here hx rfl (hb hby at_239) rfl (l' := #[lv q1, sd, lv q2, sd, lv q3, sd, lv q4, sd, lv q5, sd, iv p6, iv v4, iv x6, iv (1 : Int32), iv x329, iv (1 : Int32), iv x484, iv (1 : Int32), .val r559, .val .null, .val .null, rv b561, rv b570, rv t__588, .val .null, lv q5, sd, lv q2, sd, iv (2 : Int32), un]) rfl ?_
          refine XS.iload X588.here hx rfl (hb hby at_241) rfl ?_
          refine XS.ifNo X588.here hx rfl (hb hby at_243) rfl ((if0 _ _).trans (feq (by decide)).1) ?_
          show Steps p.tables e below (T588.setTop (mkF m 246 #[lv q1, sd, lv q2, sd, lv q3, sd, lv q4, sd, lv q5, sd, iv p6, iv v4, iv x6, iv (1 : Int32), iv x329, iv (1 : Int32), iv x484, iv (1 : Int32), .val r559, .val .null, .val .null, rv b561, rv b570, rv t__588, .val .null, lv q5, sd, lv q2, sd, iv (2 : Int32), un] [])) t
          refine XS.iload X588.here hx rfl (hb hby at_246) rfl ?_
          refine XS.ifNo X588.here hx rfl (hb hby at_248) rfl ((if0 _ _).trans (feq (by decide)).1) ?_
          refine XS.iconst X588.here hx rfl (hb hby at_251) ?_
          refine XS.goto X588.here hx rfl (pc0 := 252) (pc' := 257) rfl (hb hby at_252) (by decide) (by decide) ?_
          show Steps p.tables e below (T588.setTop (mkF m 257 #[lv q1, sd, lv q2, sd, lv q3, sd, lv q4, sd, lv q5, sd, iv p6, iv v4, iv x6, iv (1 : Int32), iv x329, iv (1 : Int32), iv x484, iv (1 : Int32), .val r559, .val .null, .val .null, rv b561, rv b570, rv t__588, .val .null, lv q5, sd, lv q2, sd, iv (2 : Int32), un] [(.int (0 : Int32))])) t
          refine XS.istore X588.here hx rfl (hb hby at_257) rfl (l' := #[lv q1, sd, lv q2, sd, lv q3, sd, lv q4, sd, lv q5, sd, iv p6, iv v4, iv x6, iv (1 : Int32), iv x329, iv (1 : Int32), iv x484, iv (1 : Int32), .val r559, .val .null, .val .null, rv b561, rv b570, rv t__588, .val .null, lv q5, sd, lv q2, sd, iv (2 : Int32), iv (0 : Int32)]) rfl ?_
          refine XS.goto X588.here hx rfl (pc0 := 259) (pc' := 275) rfl (hb hby at_259) (by decide) (by decide) ?_
          refine XS.aload X588.here hx rfl (hb hby at_275) rfl rfl ?_
          exact k)
        have f597 : n0 ≤ T588.heap.size := (Nat.le_trans f591 K588.1)
        obtain ⟨cq596, kq596, q596a, q596b, q596c⟩ := isOf hZ rfl (E_584.keep K588)
        obtain ⟨_, _, ⟨T596, L596, k596, n596⟩, -, X596, ⟨Lc596, hQ596, l596, y596, z596⟩, st596⟩ := X588.virtualBack hx (y := (⟨"com/example/usher/usher/core/Node", "data", "()[B"⟩ : MethodName)) (z := (⟨"com/example/usher/usher/core/Node", "data", "()[B"⟩ : MethodName)) hown (mvT hZ (hw _ (List.mem_of_getElem? (i := 146) rfl))) (mvT hZ (hw _ (List.mem_of_getElem? (i := 147) rfl))) (notFace_of_selects (args := #[]) (mvT hZ (hw _ (List.mem_of_getElem? (i := 149) rfl)))) (mvT hZ (hw _ (List.mem_of_getElem? (i := 149) rfl))) (mvT hZ (hw _ (List.mem_of_getElem? (i := 148) rfl))) (by decide) (backOf (W := 0) (rmdt l Z a0 hw [] b570 .null T588.heap n0 f597 (G4_584.keep K588 nin0) rfl) hZ (hw _ (List.mem_of_getElem? (i := 150) rfl)) (hw _ (List.mem_of_getElem? (i := 29) rfl)) (by decide) (by decide)) q596a q596c (g := (mkF m 277 #[lv q1, sd, lv q2, sd, lv q3, sd, lv q4, sd, lv q5, sd, iv p6, iv v4, iv x6, iv (1 : Int32), iv x329, iv (1 : Int32), iv x484, iv (1 : Int32), .val r559, .val .null, .val .null, rv b561, rv b570, rv t__588, .val .null, lv q5, sd, lv q2, sd, iv (2 : Int32), iv (0 : Int32)] [(.ref b570)])) rfl (by rw [hml]; rfl) (Steps.refl _) (argsL := []) (rest := []) (lenOf pd_6 rfl) rfl (by show 2 * 0 + _ ≤ _; exact Nat.le_of_eq rfl) (hb hby at_277) (fun _ _ => ⟨rfl, rfl, (by decide : 6 + 0 ≤ _), (by decide : 39 + 0 ≤ _)⟩)
        dsimp only [Pt.U, Pt.locs, Pt.cells, Pt.slots] at X596 l596 y596 z596 st596 hQ596
        subst y596 z596
        obtain ⟨rfl, N596q, e596⟩ := hQ596
        have N596 : Fr n0 L596 := by rw [l596]; exact Fr.app N588 N596q
        have P598 : Rch p e below (s₁.setTop (entryFrame m #[(.long q1), (.long q2), (.long q3), (.long q4), (.long q5), (.int p6)] maxLocals)) (T596.setTop (mkF m 280 #[lv q1, sd, lv q2, sd, lv q3, sd, lv q4, sd, lv q5, sd, iv p6, iv v4, iv x6, iv (1 : Int32), iv x329, iv (1 : Int32), iv x484, iv (1 : Int32), .val r559, .val .null, .val .null, rv b561, rv b570, rv t__588, .val .null, lv q5, sd, lv q2, sd, iv (2 : Int32), iv (0 : Int32)] [.null])) := fun t k => P595 t (st596.trans k)
        have P599 : Rch p e below (s₁.setTop (entryFrame m #[(.long q1), (.long q2), (.long q3), (.long q4), (.long q5), (.int p6)] maxLocals)) (T596.setTop (mkF m 287 #[lv q1, sd, lv q2, sd, lv q3, sd, lv q4, sd, lv q5, sd, iv p6, iv v4, iv x6, iv (1 : Int32), iv x329, iv (1 : Int32), iv x484, iv (1 : Int32), .val r559, .val .null, .val .null, rv b561, rv b570, rv t__588, .val .null, lv q5, sd, lv q2, sd, iv (2 : Int32), iv (0 : Int32)] [(.ref t__588)])) := fun t k => P598 t (by
          show Steps p.tables e below (T596.setTop (mkF m 280 #[lv q1, sd, lv q2, sd, lv q3, sd, lv q4, sd, lv q5, sd, iv p6, iv v4, iv x6, iv (1 : Int32), iv x329, iv (1 : Int32), iv x484, iv (1 : Int32), .val r559, .val .null, .val .null, rv b561, rv b570, rv t__588, .val .null, lv q5, sd, lv q2, sd, iv (2 : Int32), iv (0 : Int32)] [.null])) t
          refine XS.aload X596.here hx rfl (hb hby at_280) rfl rfl ?_
          refine Jvm.RoadKit.acmp (g := (mkF m 282 #[lv q1, sd, lv q2, sd, lv q3, sd, lv q4, sd, lv q5, sd, iv p6, iv v4, iv x6, iv (1 : Int32), iv x329, iv (1 : Int32), iv x484, iv (1 : Int32), .val r559, .val .null, .val .null, rv b561, rv b570, rv t__588, .val .null, lv q5, sd, lv q2, sd, iv (2 : Int32), iv (0 : Int32)] [.null, .null])) X596 hx rfl rfl rfl (pc0 := 282) (pc' := 285) (same := true) rfl (hb hby at_282) rfl (decide_eq_true rfl) (by decide) (by decide) ?_
          refine XS.aload X596.here hx rfl (hb hby at_285) rfl rfl ?_
          exact k)
        obtain ⟨cq600, kq600, q600a, q600b, q600c⟩ := isOf hZ e596 Et_588
        obtain ⟨_, _, ⟨T600, L600, k600, n600⟩, -, X600, ⟨Lc600, hQ600, l600, y600, z600⟩, st600⟩ := X596.virtualBack hx (y := (⟨"com/example/usher/usher/protocol/Stat", "mzxid", "()J"⟩ : MethodName)) (z := (⟨"com/example/usher/usher/protocol/Stat", "mzxid", "()J"⟩ : MethodName)) hown (mvT hZ (hw _ (List.mem_of_getElem? (i := 151) rfl))) (mvT hZ (hw _ (List.mem_of_getElem? (i := 152) rfl))) (notFace_of_selects (args := #[]) (mvT hZ (hw _ (List.mem_of_getElem? (i := 154) rfl)))) (mvT hZ (hw _ (List.mem_of_getElem? (i := 154) rfl))) (mvT hZ (hw _ (List.mem_of_getElem? (i := 153) rfl))) (by decide) (backOf (W := 0) (rmG_mzxid l Z a0 hw [] t__588 q5 T588.heap n0 f597 G_mzxid_588) hZ (hw _ (List.mem_of_getElem? (i := 155) rfl)) (hw _ (List.mem_of_getElem? (i := 99) rfl)) (by decide) (by decide)) q600a q600c (g := (mkF m 287 #[lv q1, sd, lv q2, sd, lv q3, sd, lv q4, sd, lv q5, sd, iv p6, iv v4, iv x6, iv (1 : Int32), iv x329, iv (1 : Int32), iv x484, iv (1 : Int32), .val r559, .val .null, .val .null, rv b561, rv b570, rv t__588, .val .null, lv q5, sd, lv q2, sd, iv (2 : Int32), iv (0 : Int32)] [(.ref t__588)])) rfl (by rw [hml]; rfl) (Steps.refl _) (argsL := []) (rest := []) (lenOf pd_7 rfl) rfl (by show 2 * 0 + _ ≤ _; exact Nat.le_of_eq rfl) (hb hby at_287) (fun _ _ => ⟨rfl, e596, (by decide : 6 + 0 ≤ _), (by decide : 39 + 0 ≤ _)⟩)
        dsimp only [Pt.U, Pt.locs, Pt.cells, Pt.slots] at X600 l600 y600 z600 st600 hQ600
        subst y600 z600
        obtain ⟨rfl, N600q, e600⟩ := hQ600
        have N600 : Fr n0 L600 := by rw [l600]; exact Fr.app N596 N600q
        have P601 : Rch p e below (s₁.setTop (entryFrame m #[(.long q1), (.long q2), (.long q3), (.long q4), (.long q5), (.int p6)] maxLocals)) (T600.setTop (mkF m 290 #[lv q1, sd, lv q2, sd, lv q3, sd, lv q4, sd, lv q5, sd, iv p6, iv v4, iv x6, iv (1 : Int32), iv x329, iv (1 : Int32), iv x484, iv (1 : Int32), .val r559, .val .null, .val .null, rv b561, rv b570, rv t__588, .val .null, lv q5, sd, lv q2, sd, iv (2 : Int32), iv (0 : Int32)] [(.long q5)])) := fun t k => P599 t (st600.trans k)
        have P602 : Rch p e below (s₁.setTop (entryFrame m #[(.long q1), (.long q2), (.long q3), (.long q4), (.long q5), (.int p6)] maxLocals)) (T600.setTop (mkF m 298 #[lv q1, sd, lv q2, sd, lv q3, sd, lv q4, sd, lv q5, sd, iv p6, iv v4, iv x6, iv (1 : Int32), iv x329, iv (1 : Int32), iv x484, iv (1 : Int32), .val r559, .val .null, .val .null, rv b561, rv b570, rv t__588, .val .null, lv q5, sd, lv q2, sd, iv (2 : Int32), iv (0 : Int32)] [(.ref t__588)])) := fun t k => P601 t (by
          show Steps p.tables e below (T600.setTop (mkF m 290 #[lv q1, sd, lv q2, sd, lv q3, sd, lv q4, sd, lv q5, sd, iv p6, iv v4, iv x6, iv (1 : Int32), iv x329, iv (1 : Int32), iv x484, iv (1 : Int32), .val r559, .val .null, .val .null, rv b561, rv b570, rv t__588, .val .null, lv q5, sd, lv q2, sd, iv (2 : Int32), iv (0 : Int32)] [(.long q5)])) t
          refine XS.lload X600.here hx rfl (hb hby at_290) rfl ?_
          refine XS.lcmp X600.here hx rfl (hb hby at_292) rfl ?_
          refine XS.ifNo X600.here hx rfl (hb hby at_293) rfl ((if0 _ _).trans (teq ((lw_eq q5 q5).mpr rfl)).2) ?_
          show Steps p.tables e below (T600.setTop (mkF m 296 #[lv q1, sd, lv q2, sd, lv q3, sd, lv q4, sd, lv q5, sd, iv p6, iv v4, iv x6, iv (1 : Int32), iv x329, iv (1 : Int32), iv x484, iv (1 : Int32), .val r559, .val .null, .val .null, rv b561, rv b570, rv t__588, .val .null, lv q5, sd, lv q2, sd, iv (2 : Int32), iv (0 : Int32)] [])) t
          refine XS.aload X600.here hx rfl (hb hby at_296) rfl rfl ?_
          exact k)
        obtain ⟨cq603, kq603, q603a, q603b, q603c⟩ := isOf hZ e600 Et_588
        obtain ⟨_, _, ⟨T603, L603, k603, n603⟩, -, X603, ⟨Lc603, hQ603, l603, y603, z603⟩, st603⟩ := X600.virtualBack hx (y := (⟨"com/example/usher/usher/protocol/Stat", "mtime", "()J"⟩ : MethodName)) (z := (⟨"com/example/usher/usher/protocol/Stat", "mtime", "()J"⟩ : MethodName)) hown (mvT hZ (hw _ (List.mem_of_getElem? (i := 156) rfl))) (mvT hZ (hw _ (List.mem_of_getElem? (i := 157) rfl))) (notFace_of_selects (args := #[]) (mvT hZ (hw _ (List.mem_of_getElem? (i := 159) rfl)))) (mvT hZ (hw _ (List.mem_of_getElem? (i := 159) rfl))) (mvT hZ (hw _ (List.mem_of_getElem? (i := 158) rfl))) (by decide) (backOf (W := 0) (rmG_mtime l Z a0 hw [] t__588 q2 T588.heap n0 f597 G_mtime_588) hZ (hw _ (List.mem_of_getElem? (i := 160) rfl)) (hw _ (List.mem_of_getElem? (i := 99) rfl)) (by decide) (by decide)) q603a q603c (g := (mkF m 298 #[lv q1, sd, lv q2, sd, lv q3, sd, lv q4, sd, lv q5, sd, iv p6, iv v4, iv x6, iv (1 : Int32), iv x329, iv (1 : Int32), iv x484, iv (1 : Int32), .val r559, .val .null, .val .null, rv b561, rv b570, rv t__588, .val .null, lv q5, sd, lv q2, sd, iv (2 : Int32), iv (0 : Int32)] [(.ref t__588)])) rfl (by rw [hml]; rfl) (Steps.refl _) (argsL := []) (rest := []) (lenOf pd_7 rfl) rfl (by show 2 * 0 + _ ≤ _; exact Nat.le_of_eq rfl) (hb hby at_298) (fun _ _ => ⟨rfl, e600, (by decide : 6 + 0 ≤ _), (by decide : 39 + 0 ≤ _)⟩)
        dsimp only [Pt.U, Pt.locs, Pt.cells, Pt.slots] at X603 l603 y603 z603 st603 hQ603
        subst y603 z603
        obtain ⟨rfl, N603q, e603⟩ := hQ603
        have N603 : Fr n0 L603 := by rw [l603]; exact Fr.app N600 N603q
        have P604 : Rch p e below (s₁.setTop (entryFrame m #[(.long q1), (.long q2), (.long q3), (.long q4), (.long q5), (.int p6)] maxLocals)) (T603.setTop (mkF m 301 #[lv q1, sd, lv q2, sd, lv q3, sd, lv q4, sd, lv q5, sd, iv p6, iv v4, iv x6, iv (1 : Int32), iv x329, iv (1 : Int32), iv x484, iv (1 : Int32), .val r559, .val .null, .val .null, rv b561, rv b570, rv t__588, .val .null, lv q5, sd, lv q2, sd, iv (2 : Int32), iv (0 : Int32)] [(.long q2)])) := fun t k => P602 t (st603.trans k)
        have P605 : Rch p e below (s₁.setTop (entryFrame m #[(.long q1), (.long q2), (.long q3), (.long q4), (.long q5), (.int p6)] maxLocals)) (T603.setTop (mkF m 309 #[lv q1, sd, lv q2, sd, lv q3, sd, lv q4, sd, lv q5, sd, iv p6, iv v4, iv x6, iv (1 : Int32), iv x329, iv (1 : Int32), iv x484, iv (1 : Int32), .val r559, .val .null, .val .null, rv b561, rv b570, rv t__588, .val .null, lv q5, sd, lv q2, sd, iv (2 : Int32), iv (0 : Int32)] [(.ref t__588)])) := fun t k => P604 t (by
          show Steps p.tables e below (T603.setTop (mkF m 301 #[lv q1, sd, lv q2, sd, lv q3, sd, lv q4, sd, lv q5, sd, iv p6, iv v4, iv x6, iv (1 : Int32), iv x329, iv (1 : Int32), iv x484, iv (1 : Int32), .val r559, .val .null, .val .null, rv b561, rv b570, rv t__588, .val .null, lv q5, sd, lv q2, sd, iv (2 : Int32), iv (0 : Int32)] [(.long q2)])) t
          refine XS.lload X603.here hx rfl (hb hby at_301) rfl ?_
          refine XS.lcmp X603.here hx rfl (hb hby at_303) rfl ?_
          refine XS.ifNo X603.here hx rfl (hb hby at_304) rfl ((if0 _ _).trans (teq ((lw_eq q2 q2).mpr rfl)).2) ?_
          show Steps p.tables e below (T603.setTop (mkF m 307 #[lv q1, sd, lv q2, sd, lv q3, sd, lv q4, sd, lv q5, sd, iv p6, iv v4, iv x6, iv (1 : Int32), iv x329, iv (1 : Int32), iv x484, iv (1 : Int32), .val r559, .val .null, .val .null, rv b561, rv b570, rv t__588, .val .null, lv q5, sd, lv q2, sd, iv (2 : Int32), iv (0 : Int32)] [])) t
          refine XS.aload X603.here hx rfl (hb hby at_307) rfl rfl ?_
          exact k)
        obtain ⟨cq606, kq606, q606a, q606b, q606c⟩ := isOf hZ e603 Et_588
        obtain ⟨_, _, ⟨T606, L606, k606, n606⟩, -, X606, ⟨Lc606, hQ606, l606, y606, z606⟩, st606⟩ := X603.virtualBack hx (y := (⟨"com/example/usher/usher/protocol/Stat", "version", "()I"⟩ : MethodName)) (z := (⟨"com/example/usher/usher/protocol/Stat", "version", "()I"⟩ : MethodName)) hown (mvT hZ (hw _ (List.mem_of_getElem? (i := 161) rfl))) (mvT hZ (hw _ (List.mem_of_getElem? (i := 162) rfl))) (notFace_of_selects (args := #[]) (mvT hZ (hw _ (List.mem_of_getElem? (i := 164) rfl)))) (mvT hZ (hw _ (List.mem_of_getElem? (i := 164) rfl))) (mvT hZ (hw _ (List.mem_of_getElem? (i := 163) rfl))) (by decide) (backOf (W := 0) (rmG_version l Z a0 hw [] t__588 (((0 : Int32) + (1 : Int32)) + (1 : Int32)) T588.heap n0 f597 G_version_588) hZ (hw _ (List.mem_of_getElem? (i := 165) rfl)) (hw _ (List.mem_of_getElem? (i := 99) rfl)) (by decide) (by decide)) q606a q606c (g := (mkF m 309 #[lv q1, sd, lv q2, sd, lv q3, sd, lv q4, sd, lv q5, sd, iv p6, iv v4, iv x6, iv (1 : Int32), iv x329, iv (1 : Int32), iv x484, iv (1 : Int32), .val r559, .val .null, .val .null, rv b561, rv b570, rv t__588, .val .null, lv q5, sd, lv q2, sd, iv (2 : Int32), iv (0 : Int32)] [(.ref t__588)])) rfl (by rw [hml]; rfl) (Steps.refl _) (argsL := []) (rest := []) (lenOf pd_1 rfl) rfl (by show 2 * 0 + _ ≤ _; exact Nat.le_of_eq rfl) (hb hby at_309) (fun _ _ => ⟨rfl, e603, (by decide : 6 + 0 ≤ _), (by decide : 39 + 0 ≤ _)⟩)
        dsimp only [Pt.U, Pt.locs, Pt.cells, Pt.slots] at X606 l606 y606 z606 st606 hQ606
        subst y606 z606
        obtain ⟨rfl, N606q, e606⟩ := hQ606
        have N606 : Fr n0 L606 := by rw [l606]; exact Fr.app N603 N606q
        have P607 : Rch p e below (s₁.setTop (entryFrame m #[(.long q1), (.long q2), (.long q3), (.long q4), (.long q5), (.int p6)] maxLocals)) (T606.setTop (mkF m 312 #[lv q1, sd, lv q2, sd, lv q3, sd, lv q4, sd, lv q5, sd, iv p6, iv v4, iv x6, iv (1 : Int32), iv x329, iv (1 : Int32), iv x484, iv (1 : Int32), .val r559, .val .null, .val .null, rv b561, rv b570, rv t__588, .val .null, lv q5, sd, lv q2, sd, iv (2 : Int32), iv (0 : Int32)] [(.int (((0 : Int32) + (1 : Int32)) + (1 : Int32)))])) := fun t k => P605 t (st606.trans k)
        obtain ⟨x608, hx608⟩ : ∃ z : Int32, z = (((0 : Int32) + (1 : Int32)) + (1 : Int32)) := ⟨_, rfl⟩
        rw [← hx608] at P607
        have P609 : Rch p e below (s₁.setTop (entryFrame m #[(.long q1), (.long q2), (.long q3), (.long q4), (.long q5), (.int p6)] maxLocals)) (T606.setTop (mkF m 314 #[lv q1, sd, lv q2, sd, lv q3, sd, lv q4, sd, lv q5, sd, iv p6, iv v4, iv x6, iv (1 : Int32), iv x329, iv (1 : Int32), iv x484, iv (1 : Int32), .val r559, .val .null, .val .null, rv b561, rv b570, rv t__588, .val .null, lv q5, sd, lv q2, sd, iv (2 : Int32), iv (0 : Int32)] [(.int (2 : Int32)), (.int x608)])) := fun t k => P607 t (by
          show Steps p.tables e below (T606.setTop (mkF m 312 #[lv q1, sd, lv q2, sd, lv q3, sd, lv q4, sd, lv q5, sd, iv p6, iv v4, iv x6, iv (1 : Int32), iv x329, iv (1 : Int32), iv x484, iv (1 : Int32), .val r559, .val .null, .val .null, rv b561, rv b570, rv t__588, .val .null, lv q5, sd, lv q2, sd, iv (2 : Int32), iv (0 : Int32)] [(.int x608)])) t
          refine XS.iload X606.here hx rfl (hb hby at_312) rfl ?_
          exact k)
        have hvq : x608 = (2 : Int32) := by rw [hx608]; decide
        have P610 : Rch p e below (s₁.setTop (entryFrame m #[(.long q1), (.long q2), (.long q3), (.long q4), (.long q5), (.int p6)] maxLocals)) (T606.setTop (mkF m 319 #[lv q1, sd, lv q2, sd, lv q3, sd, lv q4, sd, lv q5, sd, iv p6, iv v4, iv x6, iv (1 : Int32), iv x329, iv (1 : Int32), iv x484, iv (1 : Int32), .val r559, .val .null, .val .null, rv b561, rv b570, rv t__588, .val .null, lv q5, sd, lv q2, sd, iv (2 : Int32), iv (0 : Int32)] [(.ref t__588)])) := fun t k => P609 t (by
          show Steps p.tables e below (T606.setTop (mkF m 314 #[lv q1, sd, lv q2, sd, lv q3, sd, lv q4, sd, lv q5, sd, iv p6, iv v4, iv x6, iv (1 : Int32), iv x329, iv (1 : Int32), iv x484, iv (1 : Int32), .val r559, .val .null, .val .null, rv b561, rv b570, rv t__588, .val .null, lv q5, sd, lv q2, sd, iv (2 : Int32), iv (0 : Int32)] [(.int (2 : Int32)), (.int x608)])) t
          refine XS.icmpNo X606.here hx rfl (hb hby at_314) rfl (teq hvq).2 ?_
          refine XS.aload X606.here hx rfl (hb hby at_317) rfl rfl ?_
          exact k)
        obtain ⟨cq611, kq611, q611a, q611b, q611c⟩ := isOf hZ e606 Et_588
        obtain ⟨_, _, ⟨T611, L611, k611, n611⟩, -, X611, ⟨Lc611, hQ611, l611, y611, z611⟩, st611⟩ := X606.virtualBack hx (y := (⟨"com/example/usher/usher/protocol/Stat", "dataLength", "()I"⟩ : MethodName)) (z := (⟨"com/example/usher/usher/protocol/Stat", "dataLength", "()I"⟩ : MethodName)) hown (mvT hZ (hw _ (List.mem_of_getElem? (i := 166) rfl))) (mvT hZ (hw _ (List.mem_of_getElem? (i := 167) rfl))) (notFace_of_selects (args := #[]) (mvT hZ (hw _ (List.mem_of_getElem? (i := 169) rfl)))) (mvT hZ (hw _ (List.mem_of_getElem? (i := 169) rfl))) (mvT hZ (hw _ (List.mem_of_getElem? (i := 168) rfl))) (by decide) (backOf (W := 0) (rmG_dataLength l Z a0 hw [] t__588 (0 : Int32) T588.heap n0 f597 G_dataLength_588) hZ (hw _ (List.mem_of_getElem? (i := 170) rfl)) (hw _ (List.mem_of_getElem? (i := 99) rfl)) (by decide) (by decide)) q611a q611c (g := (mkF m 319 #[lv q1, sd, lv q2, sd, lv q3, sd, lv q4, sd, lv q5, sd, iv p6, iv v4, iv x6, iv (1 : Int32), iv x329, iv (1 : Int32), iv x484, iv (1 : Int32), .val r559, .val .null, .val .null, rv b561, rv b570, rv t__588, .val .null, lv q5, sd, lv q2, sd, iv (2 : Int32), iv (0 : Int32)] [(.ref t__588)])) rfl (by rw [hml]; rfl) (Steps.refl _) (argsL := []) (rest := []) (lenOf pd_1 rfl) rfl (by show 2 * 0 + _ ≤ _; exact Nat.le_of_eq rfl) (hb hby at_319) (fun _ _ => ⟨rfl, e606, (by decide : 6 + 0 ≤ _), (by decide : 39 + 0 ≤ _)⟩)
        dsimp only [Pt.U, Pt.locs, Pt.cells, Pt.slots] at X611 l611 y611 z611 st611 hQ611
        subst y611 z611
        obtain ⟨rfl, N611q, e611⟩ := hQ611
        have N611 : Fr n0 L611 := by rw [l611]; exact Fr.app N606 N611q
        have P612 : Rch p e below (s₁.setTop (entryFrame m #[(.long q1), (.long q2), (.long q3), (.long q4), (.long q5), (.int p6)] maxLocals)) (T611.setTop (mkF m 322 #[lv q1, sd, lv q2, sd, lv q3, sd, lv q4, sd, lv q5, sd, iv p6, iv v4, iv x6, iv (1 : Int32), iv x329, iv (1 : Int32), iv x484, iv (1 : Int32), .val r559, .val .null, .val .null, rv b561, rv b570, rv t__588, .val .null, lv q5, sd, lv q2, sd, iv (2 : Int32), iv (0 : Int32)] [(.int (0 : Int32))])) := fun t k => P610 t (st611.trans k)
        have P613 : Rch p e below (s₁.setTop (entryFrame m #[(.long q1), (.long q2), (.long q3), (.long q4), (.long q5), (.int p6)] maxLocals)) (T611.setTop (mkF m 329 #[lv q1, sd, lv q2, sd, lv q3, sd, lv q4, sd, lv q5, sd, iv p6, iv v4, iv x6, iv (1 : Int32), iv x329, iv (1 : Int32), iv x484, iv (1 : Int32), .val r559, .val .null, .val .null, rv b561, rv b570, rv t__588, .val .null, lv q5, sd, lv q2, sd, iv (2 : Int32), iv (0 : Int32)] [(.ref t__588)])) := fun t k => P612 t (by
          show Steps p.tables e below (T611.setTop (mkF m 322 #[lv q1, sd, lv q2, sd, lv q3, sd, lv q4, sd, lv q5, sd, iv p6, iv v4, iv x6, iv (1 : Int32), iv x329, iv (1 : Int32), iv x484, iv (1 : Int32), .val r559, .val .null, .val .null, rv b561, rv b570, rv t__588, .val .null, lv q5, sd, lv q2, sd, iv (2 : Int32), iv (0 : Int32)] [(.int (0 : Int32))])) t
          refine XS.iload X611.here hx rfl (hb hby at_322) rfl ?_
          refine XS.icmpNo X611.here hx rfl (hb hby at_324) rfl (teq (by decide)).2 ?_
          refine XS.aload X611.here hx rfl (hb hby at_327) rfl rfl ?_
          exact k)
        obtain ⟨cq614, kq614, q614a, q614b, q614c⟩ := isOf hZ e611 Et_588
        obtain ⟨_, _, ⟨T614, L614, k614, n614⟩, -, X614, ⟨Lc614, hQ614, l614, y614, z614⟩, st614⟩ := X611.virtualBack hx (y := (⟨"com/example/usher/usher/protocol/Stat", "pzxid", "()J"⟩ : MethodName)) (z := (⟨"com/example/usher/usher/protocol/Stat", "pzxid", "()J"⟩ : MethodName)) hown (mvT hZ (hw _ (List.mem_of_getElem? (i := 171) rfl))) (mvT hZ (hw _ (List.mem_of_getElem? (i := 172) rfl))) (notFace_of_selects (args := #[]) (mvT hZ (hw _ (List.mem_of_getElem? (i := 174) rfl)))) (mvT hZ (hw _ (List.mem_of_getElem? (i := 174) rfl))) (mvT hZ (hw _ (List.mem_of_getElem? (i := 173) rfl))) (by decide) (backOf (W := 0) (rmG_pzxid l Z a0 hw [] t__588 q1 T588.heap n0 f597 G_pzxid_588) hZ (hw _ (List.mem_of_getElem? (i := 175) rfl)) (hw _ (List.mem_of_getElem? (i := 99) rfl)) (by decide) (by decide)) q614a q614c (g := (mkF m 329 #[lv q1, sd, lv q2, sd, lv q3, sd, lv q4, sd, lv q5, sd, iv p6, iv v4, iv x6, iv (1 : Int32), iv x329, iv (1 : Int32), iv x484, iv (1 : Int32), .val r559, .val .null, .val .null, rv b561, rv b570, rv t__588, .val .null, lv q5, sd, lv q2, sd, iv (2 : Int32), iv (0 : Int32)] [(.ref t__588)])) rfl (by rw [hml]; rfl) (Steps.refl _) (argsL := []) (rest := []) (lenOf pd_7 rfl) rfl (by show 2 * 0 + _ ≤ _; exact Nat.le_of_eq rfl) (hb hby at_329) (fun _ _ => ⟨rfl, e611, (by decide : 6 + 0 ≤ _), (by decide : 39 + 0 ≤ _)⟩)
        dsimp only [Pt.U, Pt.locs, Pt.cells, Pt.slots] at X614 l614 y614 z614 st614 hQ614
        subst y614 z614
        obtain ⟨rfl, N614q, e614⟩ := hQ614
        have N614 : Fr n0 L614 := by rw [l614]; exact Fr.app N611 N614q
        have P615 : Rch p e below (s₁.setTop (entryFrame m #[(.long q1), (.long q2), (.long q3), (.long q4), (.long q5), (.int p6)] maxLocals)) (T614.setTop (mkF m 332 #[lv q1, sd, lv q2, sd, lv q3, sd, lv q4, sd, lv q5, sd, iv p6, iv v4, iv x6, iv (1 : Int32), iv x329, iv (1 : Int32), iv x484, iv (1 : Int32), .val r559, .val .null, .val .null, rv b561, rv b570, rv t__588, .val .null, lv q5, sd, lv q2, sd, iv (2 : Int32), iv (0 : Int32)] [(.long q1)])) := fun t k => P613 t (st614.trans k)
        have P616 : Rch p e below (s₁.setTop (entryFrame m #[(.long q1), (.long q2), (.long q3), (.long q4), (.long q5), (.int p6)] maxLocals)) (T614.setTop (mkF m 339 #[lv q1, sd, lv q2, sd, lv q3, sd, lv q4, sd, lv q5, sd, iv p6, iv v4, iv x6, iv (1 : Int32), iv x329, iv (1 : Int32), iv x484, iv (1 : Int32), .val r559, .val .null, .val .null, rv b561, rv b570, rv t__588, .val .null, lv q5, sd, lv q2, sd, iv (2 : Int32), iv (0 : Int32)] [(.ref t__588)])) := fun t k => P615 t (by
          show Steps p.tables e below (T614.setTop (mkF m 332 #[lv q1, sd, lv q2, sd, lv q3, sd, lv q4, sd, lv q5, sd, iv p6, iv v4, iv x6, iv (1 : Int32), iv x329, iv (1 : Int32), iv x484, iv (1 : Int32), .val r559, .val .null, .val .null, rv b561, rv b570, rv t__588, .val .null, lv q5, sd, lv q2, sd, iv (2 : Int32), iv (0 : Int32)] [(.long q1)])) t
          refine XS.lloadN X614.here hx rfl (hb hby at_332) rfl ?_
          refine XS.lcmp X614.here hx rfl (hb hby at_333) rfl ?_
          refine XS.ifNo X614.here hx rfl (hb hby at_334) rfl ((if0 _ _).trans (teq ((lw_eq q1 q1).mpr rfl)).2) ?_
          show Steps p.tables e below (T614.setTop (mkF m 337 #[lv q1, sd, lv q2, sd, lv q3, sd, lv q4, sd, lv q5, sd, iv p6, iv v4, iv x6, iv (1 : Int32), iv x329, iv (1 : Int32), iv x484, iv (1 : Int32), .val r559, .val .null, .val .null, rv b561, rv b570, rv t__588, .val .null, lv q5, sd, lv q2, sd, iv (2 : Int32), iv (0 : Int32)] [])) t
          refine XS.aload X614.here hx rfl (hb hby at_337) rfl rfl ?_
          exact k)
        obtain ⟨cq617, kq617, q617a, q617b, q617c⟩ := isOf hZ e614 Et_588
        obtain ⟨_, _, ⟨T617, L617, k617, n617⟩, -, X617, ⟨Lc617, hQ617, l617, y617, z617⟩, st617⟩ := X614.virtualBack hx (y := (⟨"com/example/usher/usher/protocol/Stat", "ctime", "()J"⟩ : MethodName)) (z := (⟨"com/example/usher/usher/protocol/Stat", "ctime", "()J"⟩ : MethodName)) hown (mvT hZ (hw _ (List.mem_of_getElem? (i := 176) rfl))) (mvT hZ (hw _ (List.mem_of_getElem? (i := 177) rfl))) (notFace_of_selects (args := #[]) (mvT hZ (hw _ (List.mem_of_getElem? (i := 179) rfl)))) (mvT hZ (hw _ (List.mem_of_getElem? (i := 179) rfl))) (mvT hZ (hw _ (List.mem_of_getElem? (i := 178) rfl))) (by decide) (backOf (W := 0) (rmG_ctime l Z a0 hw [] t__588 q2 T588.heap n0 f597 G_ctime_588) hZ (hw _ (List.mem_of_getElem? (i := 180) rfl)) (hw _ (List.mem_of_getElem? (i := 99) rfl)) (by decide) (by decide)) q617a q617c (g := (mkF m 339 #[lv q1, sd, lv q2, sd, lv q3, sd, lv q4, sd, lv q5, sd, iv p6, iv v4, iv x6, iv (1 : Int32), iv x329, iv (1 : Int32), iv x484, iv (1 : Int32), .val r559, .val .null, .val .null, rv b561, rv b570, rv t__588, .val .null, lv q5, sd, lv q2, sd, iv (2 : Int32), iv (0 : Int32)] [(.ref t__588)])) rfl (by rw [hml]; rfl) (Steps.refl _) (argsL := []) (rest := []) (lenOf pd_7 rfl) rfl (by show 2 * 0 + _ ≤ _; exact Nat.le_of_eq rfl) (hb hby at_339) (fun _ _ => ⟨rfl, e614, (by decide : 6 + 0 ≤ _), (by decide : 39 + 0 ≤ _)⟩)
        dsimp only [Pt.U, Pt.locs, Pt.cells, Pt.slots] at X617 l617 y617 z617 st617 hQ617
        subst y617 z617
        obtain ⟨rfl, N617q, e617⟩ := hQ617
        have N617 : Fr n0 L617 := by rw [l617]; exact Fr.app N614 N617q
        have P618 : Rch p e below (s₁.setTop (entryFrame m #[(.long q1), (.long q2), (.long q3), (.long q4), (.long q5), (.int p6)] maxLocals)) (T617.setTop (mkF m 342 #[lv q1, sd, lv q2, sd, lv q3, sd, lv q4, sd, lv q5, sd, iv p6, iv v4, iv x6, iv (1 : Int32), iv x329, iv (1 : Int32), iv x484, iv (1 : Int32), .val r559, .val .null, .val .null, rv b561, rv b570, rv t__588, .val .null, lv q5, sd, lv q2, sd, iv (2 : Int32), iv (0 : Int32)] [(.long q2)])) := fun t k => P616 t (st617.trans k)
        have P619 : Rch p e below (s₁.setTop (entryFrame m #[(.long q1), (.long q2), (.long q3), (.long q4), (.long q5), (.int p6)] maxLocals)) (T617.setTop (mkF m 352 #[lv q1, sd, lv q2, sd, lv q3, sd, lv q4, sd, lv q5, sd, iv p6, iv v4, iv x6, iv (1 : Int32), iv x329, iv (1 : Int32), iv x484, iv (1 : Int32), .val r559, .val .null, .val .null, rv b561, rv b570, rv t__588, .val .null, lv q5, sd, lv q2, sd, iv (2 : Int32), iv (0 : Int32)] [(.int (1 : Int32))])) := fun t k => P618 t (by
          show Steps p.tables e below (T617.setTop (mkF m 342 #[lv q1, sd, lv q2, sd, lv q3, sd, lv q4, sd, lv q5, sd, iv p6, iv v4, iv x6, iv (1 : Int32), iv x329, iv (1 : Int32), iv x484, iv (1 : Int32), .val r559, .val .null, .val .null, rv b561, rv b570, rv t__588, .val .null, lv q5, sd, lv q2, sd, iv (2 : Int32), iv (0 : Int32)] [(.long q2)])) t
          refine XS.lloadN X617.here hx rfl (hb hby at_342) rfl ?_
          refine XS.lcmp X617.here hx rfl (hb hby at_343) rfl ?_
          refine XS.ifNo X617.here hx rfl (hb hby at_344) rfl ((if0 _ _).trans (teq ((lw_eq q2 q2).mpr rfl)).2) ?_
          show Steps p.tables e below (T617.setTop (mkF m 347 #[lv q1, sd, lv q2, sd, lv q3, sd, lv q4, sd, lv q5, sd, iv p6, iv v4, iv x6, iv (1 : Int32), iv x329, iv (1 : Int32), iv x484, iv (1 : Int32), .val r559, .val .null, .val .null, rv b561, rv b570, rv t__588, .val .null, lv q5, sd, lv q2, sd, iv (2 : Int32), iv (0 : Int32)] [])) t
          refine XS.iconst X617.here hx rfl (hb hby at_347) ?_
          refine XS.goto X617.here hx rfl (pc0 := 348) (pc' := 352) rfl (hb hby at_348) (by decide) (by decide) ?_
          exact k)
        obtain ⟨fs, hr, hrun, hended, hW, hsame⟩ := X617.leave (v := some (.int (1 : Int32))) (fun h => by rw [Bd.returns] at h; cases h)
        refine ⟨_, _, P619 _ ?_, hrun, hended, _, _, rfl, ?_, ⟨_, rfl⟩, hW, hsame.mono (by decide) (by decide)⟩
        · exact retN X617 hx (t := .boolean) Bd.returns (by simp) (hb hby at_352) hr
        · show Q_rm0 Z q1 q2 q3 q4 q5 p6 aD h0 n0 _ T617.heap _
          rw [e617]
          exact ⟨rfl, N617⟩
set_option maxRecDepth 65536 in
set_option maxHeartbeats 40000000 in
theorem comes_1 {Post : Tables → Env → Array Value → State → Outcome → State → Prop} (hpost : ∀ tb e args s v u, (limb_1_1.after args s (.returned v) u = true ∧ limb_1_2.after args s (.returned v) u = true ∧ True) → FrameEnd s (.returned v) u (Jvm.fieldLocs frame_1_writes args s ++ Jvm.arrayLocs frame_1_arrays args s ++ Jvm.staticLocs frame_1_statics s) 24 192 → Post tb e args s (.returned v) u) :
    ArmFor flags0 classFile x code maxLocals ret World_1 tables_1 room_1 Calls_1 rest_1 Pre_1 Post := by
  intro l hfl _ _ p e ha hc hk s m args below hf hA hF happ hP
  obtain ⟨hcalls, hrest, hpre⟩ := hP
  obtain ⟨-, -, -, hnamed, -, -, -, hat⟩ := (Spec.applies_iff hf).mp happ
  obtain ⟨hg, hn⟩ := and_e (Cond.before_iff.mp (show (Jvm.Cond.and given_1 narrow_1).before args s = true from hpre))
  obtain ⟨gc, gr0⟩ := and_e hg
  obtain ⟨ga0, gr1⟩ := and_e gr0
  obtain ⟨ga1, gr2⟩ := and_e gr1
  obtain ⟨ga2, gr3⟩ := and_e gr2
  obtain ⟨ga3, gr4⟩ := and_e gr3
  obtain ⟨ga4, gr5⟩ := and_e gr4
  obtain ⟨w0, w1, w2, w3, w4, w5, rfl⟩ : ∃ w0 w1 w2 w3 w4 w5 : Value, args = #[w0, w1, w2, w3, w4, w5] := by
    have hs : args.size = 6 := by simpa [Cond.value, given_1] using gc
    obtain ⟨L⟩ := args
    match L, hs with
    | [w0, w1, w2, w3, w4, w5], _ => exact ⟨w0, w1, w2, w3, w4, w5, rfl⟩
  have hw := fun d (hd : d ∈ tables_1) => atoms_spec (ws := Jvm.Cond.code x code maxLocals ret :: tables_1) hat d (List.mem_cons_of_mem _ hd)
  have hfit : Fit s := fun {y c} hc i hi => by
    obtain ⟨ha, rfl⟩ := Array.getElem?_eq_some_iff.mp hc
    have q := List.all_eq_true.mp ((Array.all_eq_true_iff_forall_mem.mp hF) _ (Array.getElem_mem ha)) i (List.mem_range.mpr hi)
    simpa [Array.getElem?_eq_getElem hi] using q
  obtain ⟨hsets, hown0⟩ := atoms_of _ (rest_1_c_eq ▸ (show rest_1_c.before _ s = true from hrest))
  have hr0 := Cond.before_iff.mp hown0
  obtain ⟨i0, ei0⟩ := isL_v ga0
  obtain rfl : w0 = (.long i0) := Option.some.inj ei0
  obtain ⟨i1, ei1⟩ := isL_v ga1
  obtain rfl : w1 = (.long i1) := Option.some.inj ei1
  obtain ⟨i2, ei2⟩ := isL_v ga2
  obtain rfl : w2 = (.long i2) := Option.some.inj ei2
  obtain ⟨i3, ei3⟩ := isL_v ga3
  obtain rfl : w3 = (.long i3) := Option.some.inj ei3
  obtain ⟨i4, ei4⟩ := isL_v ga4
  obtain rfl : w4 = (.long i4) := Option.some.inj ei4
  obtain ⟨i5, ei5⟩ := is_v gr5
  obtain rfl : w5 = (.int i5) := Option.some.inj ei5
  have khA := Cond.before_iff.mp (hsets _ (List.mem_of_getElem? (i := 6) rfl))
  obtain ⟨aD, vaD⟩ := arr_v khA
  have Sd : Sta s s.heap "java/util/ArrayList" "DEFAULTCAPACITY_EMPTY_ELEMENTDATA" "[Ljava/lang/Object;" (.ref aD) := Sta.start vaD (Or.inr ⟨(hw _ (List.mem_of_getElem? (i := 3) rfl)), (hsets _ (List.mem_of_getElem? (i := 2) rfl))⟩)
  obtain ⟨n, o, h1, h2, h3, _, L, rfl, ⟨rfl, N⟩, hq⟩ := rm0 l s _ hw tables_1 i0 i1 i2 i3 i4 i5 aD s.heap s.heap.size (Nat.le_refl _) (Old.start s) Sd p e ha hc hk s m _ below hf ((Spec.applies_iff_loose hf).mp happ).1 ⟨rfl, State.Warmed39.refl s, rfl⟩ trivial
  refine ⟨n, _, h1, h2, h3, hpost _ _ _ _ _ _ ⟨Cond.after_iff.mpr rfl, Cond.after_iff.mpr (eq_i res_at (Term.int_eval (1)) rfl), trivial⟩ ⟨hq.1, hq.2.1, (hq.2.2.sift fun y hy => Or.inr (N y hy)).mono (by decide) (by decide)⟩⟩
theorem main_1_1 : Claimed_1_1 := comes_1 fun _ _ _ _ _ _ h hF => ⟨h.1, hF⟩
theorem main_1_2 : Claimed_1_2 := comes_1 fun _ _ _ _ _ _ h hF => ⟨h.2.1, hF⟩
end Jvm.Pilot.@@N@@
namespace Jvm.Pilot.@@N@@
open Jvm Jvm.ClassFile Sem Op Lib Jvm.Free Jvm.Stand Jvm.Pilot.@@N@@.Jvm.D
/-! MADE BY PROGRAM (witnessworld.py) out of the Statement's table words and the real class files: 26 classes; the members and pool entries that the words name. The judged class is class 1, her method 1. -/
namespace start1
open Jvm.ClassFile
def u (s : String) : CpInfo := .utf8 (stringToUtf16 s)
/-- a pool by its gaps: so many unusable entries, then the entry; so many at the end -/
def gap : Nat → List CpInfo → List CpInfo
  | 0, r => r
  | n + 1, r => .unusable :: gap n r
def poolList (es : List (Nat × CpInfo)) (last : Nat) : List CpInfo := es.foldr (fun e r => gap e.1 (e.2 :: r)) (gap last [])
def pool (es : List (Nat × CpInfo)) (last : Nat) : Array CpInfo := ⟨poolList es last⟩
def fileOf (pool : Array CpInfo) (this : Nat) (attrs : Array Attribute := #[]) (ms : Array MethodInfo := #[]) (fl : Nat := 33) (sup : Nat := 0) (ifs : Array Nat := #[]) (fds : Array FieldInfo := #[]) : ClassFile where
  minorVersion := 0
  majorVersion := 65
  constantPool := pool
  accessFlags := fl
  thisClass := this
  superClass := sup
  interfaces := ifs
  fields := fds
  methods := ms
  attributes := attrs
def plain (name : String) (sup : Option ClassId) : Class where
  name := name
  kind := .ordinary
  loader := none
  accessFlags := 33
  super := sup
  interfaces := #[]
  cf := none
  fields := #[]
  methods := #[]
  instanceTypes := #[]
  staticTypes := #[]
  resolved := #[]
  callSites := []
  init := .initialized
  statics := none
  mirror := none

def pool0 : Array CpInfo := pool [(5, u "<init>"), (0, u "()V"), (1, .class_ 10), (1, u "java/lang/Object")] 113

def k0c0 : Code := { maxStack := 0, maxLocals := 1, code := object_method_1_code, exceptionTable := #[], attributes := #[] }
def k0m0 : Method := { name := "<init>", desc := "()V", sig := { parameters := [], returnType := none }, accessFlags := 1, code := some k0c0 }
/-- java/lang/Object -/
def k0 : Class := { plain "java/lang/Object" none with
  accessFlags := 33
  interfaces := #[]
  cf := some (fileOf pool0 8 #[] #[{ accessFlags := 1, nameIndex := 5, descriptorIndex := 6, attributes := #[] }] 33 0 #[] #[])
  fields := #[]
  methods := #[k0m0]
  instanceTypes := #[]
  staticTypes := #[]
  resolved := Array.replicate 124 none
  statics := none }

def pool1 : Array CpInfo := pool [(2, .class_ 4), (0, .nameAndType 5 6), (0, u "java/lang/Object"), (0, u "<init>"), (0, u "()V"), (0, .class_ 8), (0, u "java/util/ArrayList"), (0, .methodref 7 3), (0, .class_ 11), (0, u "com/example/usher/usher/core/Node"), (0, .methodref 10 13), (0, .nameAndType 5 14), (0, u "([BLjava/util/List;JJJ)V"), (0, .methodref 10 16), (0, .nameAndType 17 18), (0, u "setData"), (0, u "([BJJ)V"), (0, .methodref 10 20), (0, .nameAndType 21 22), (0, u "stat"), (0, u "()Lcom/example/usher/usher/protocol/Stat;"), (0, .methodref 10 24), (0, .nameAndType 25 26), (0, u "data"), (0, u "()[B"), (0, .methodref 28 29), (0, .class_ 30), (0, .nameAndType 31 32), (0, u "com/example/usher/usher/protocol/Stat"), (0, u "mzxid"), (0, u "()J"), (0, .methodref 28 34), (0, .nameAndType 35 32), (0, u "mtime"), (0, .methodref 28 37), (0, .nameAndType 38 39), (0, u "version"), (0, u "()I"), (0, .methodref 28 41), (0, .nameAndType 42 39), (0, u "dataLength"), (0, .methodref 28 44), (0, .nameAndType 45 32), (0, u "pzxid"), (0, .methodref 28 47), (0, .nameAndType 48 32), (0, u "ctime"), (0, .class_ 50), (0, u "com/example/usher/usher/core/NodeSetDataPinLaw"), (2, u "law"), (0, u "(JJJJJI)Z")] 7

def k1m0 : Method := { name := "<init>", desc := "()V", sig := { parameters := [], returnType := none }, accessFlags := 1, code := none }
def k1c1 : Code := { maxStack := 10, maxLocals := 31, code := code, exceptionTable := #[], attributes := #[] }
def k1m1 : Method := { name := "law", desc := "(JJJJJI)Z", sig := { parameters := [.long, .long, .long, .long, .long, .int], returnType := some .boolean }, accessFlags := 9, code := some k1c1 }
/-- com/example/usher/usher/core/NodeSetDataPinLaw -/
def k1 : Class := { plain "com/example/usher/usher/core/NodeSetDataPinLaw" (some 0) with
  accessFlags := 49
  interfaces := #[]
  cf := some (fileOf pool1 49 #[] #[{ accessFlags := 1, nameIndex := 5, descriptorIndex := 6, attributes := #[] }, { accessFlags := 9, nameIndex := 53, descriptorIndex := 54, attributes := #[] }] 49 2 #[] #[])
  fields := #[]
  methods := #[k1m0, k1m1]
  instanceTypes := #[]
  staticTypes := #[]
  resolved := Array.replicate 62 none
  statics := none }

def pool2 : Array CpInfo := pool [(8, .class_ 10), (1, u "java/lang/Iterable"), (24, .class_ 36), (0, u "java/lang/Object")] 25

/-- java/lang/Iterable -/
def k2 : Class := { plain "java/lang/Iterable" (some 0) with
  accessFlags := 1537
  interfaces := #[]
  cf := some (fileOf pool2 8 #[] #[] 1537 35 #[] #[])
  fields := #[]
  methods := #[]
  instanceTypes := #[]
  staticTypes := #[]
  resolved := Array.replicate 62 none
  statics := none }

def pool3 : Array CpInfo := pool [(10, .class_ 12), (1, u "java/util/Collection"), (47, .class_ 61), (0, u "java/lang/Object"), (0, .class_ 63), (0, u "java/lang/Iterable")] 51

/-- java/util/Collection -/
def k3 : Class := { plain "java/util/Collection" (some 0) with
  accessFlags := 1537
  interfaces := #[2]
  cf := some (fileOf pool3 10 #[] #[] 1537 60 #[62] #[])
  fields := #[]
  methods := #[]
  instanceTypes := #[]
  staticTypes := #[]
  resolved := Array.replicate 115 none
  statics := none }

def pool4 : Array CpInfo := pool [(1, .methodref 2 3), (0, .class_ 4), (0, .nameAndType 5 6), (0, u "java/lang/Object"), (0, u "<init>"), (0, u "()V"), (1, .class_ 10), (1, u "java/util/AbstractCollection"), (66, .class_ 78), (0, u "java/util/Collection")] 81

def k4c0 : Code := { maxStack := 1, maxLocals := 1, code := jdk_22_method_1_code, exceptionTable := #[], attributes := #[] }
def k4m0 : Method := { name := "<init>", desc := "()V", sig := { parameters := [], returnType := none }, accessFlags := 4, code := some k4c0 }
/-- java/util/AbstractCollection -/
def k4 : Class := { plain "java/util/AbstractCollection" (some 0) with
  accessFlags := 1057
  interfaces := #[3]
  cf := some (fileOf pool4 8 #[] #[{ accessFlags := 4, nameIndex := 5, descriptorIndex := 6, attributes := #[] }] 1057 2 #[77] #[])
  fields := #[]
  methods := #[k4m0]
  instanceTypes := #[]
  staticTypes := #[]
  resolved := Array.replicate 160 none
  statics := none }

def pool5 : Array CpInfo := pool [(8, .class_ 10), (1, u "java/util/SequencedCollection"), (15, .class_ 27), (0, u "java/lang/Object"), (0, .class_ 29), (0, u "java/util/Collection")] 27

/-- java/util/SequencedCollection -/
def k5 : Class := { plain "java/util/SequencedCollection" (some 0) with
  accessFlags := 1537
  interfaces := #[3]
  cf := some (fileOf pool5 8 #[] #[] 1537 26 #[28] #[])
  fields := #[]
  methods := #[]
  instanceTypes := #[]
  staticTypes := #[]
  resolved := Array.replicate 57 none
  statics := none }

def pool6 : Array CpInfo := pool [(8, .class_ 10), (1, u "java/util/List"), (92, .class_ 104), (0, u "java/lang/Object"), (15, .class_ 121), (0, u "java/util/SequencedCollection")] 129

/-- java/util/List -/
def k6 : Class := { plain "java/util/List" (some 0) with
  accessFlags := 1537
  interfaces := #[5]
  cf := some (fileOf pool6 8 #[] #[] 1537 103 #[120] #[])
  fields := #[]
  methods := #[]
  instanceTypes := #[]
  staticTypes := #[]
  resolved := Array.replicate 251 none
  statics := none }

def pool7 : Array CpInfo := pool [(1, .methodref 2 3), (0, .class_ 4), (0, .nameAndType 5 6), (0, u "java/util/AbstractCollection"), (0, u "<init>"), (0, u "()V"), (0, .fieldref 8 9), (0, .class_ 10), (0, .nameAndType 11 12), (0, u "java/util/AbstractList"), (0, u "modCount"), (0, u "I"), (64, .class_ 78), (0, u "java/util/AbstractList$Itr"), (3, .class_ 83), (0, u "java/util/AbstractList$ListItr"), (9, .class_ 94), (0, u "java/util/AbstractList$RandomAccessSubList"), (3, .class_ 99), (0, u "java/util/AbstractList$SubList"), (33, .class_ 134), (0, u "java/util/List"), (73, .class_ 209), (0, u "java/util/AbstractList$SubList$1"), (0, .class_ 211), (0, u "java/util/AbstractList$RandomAccessSpliterator")] 6

def k7c0 : Code := { maxStack := 2, maxLocals := 1, code := jdk_39_method_1_code, exceptionTable := #[], attributes := #[] }
def k7m0 : Method := { name := "<init>", desc := "()V", sig := { parameters := [], returnType := none }, accessFlags := 4, code := some k7c0 }
/-- java/util/AbstractList -/
def k7 : Class := { plain "java/util/AbstractList" (some 4) with
  accessFlags := 1057
  interfaces := #[6]
  cf := some (fileOf pool7 8 #[.nestMembers #[93, 98, 208, 210, 82, 77]] #[{ accessFlags := 4, nameIndex := 5, descriptorIndex := 6, attributes := #[] }] 1057 2 #[133] #[{ accessFlags := 132, nameIndex := 11, descriptorIndex := 12, attributes := #[] }])
  fields := #[{ name := "modCount", type := .int, accessFlags := 132, slot := 0, constantValue := 0 }]
  methods := #[k7m0]
  instanceTypes := #[.int]
  staticTypes := #[]
  resolved := Array.replicate 218 none
  statics := none }

def pool8 : Array CpInfo := pool [(1, .class_ 2), (0, u "java/util/RandomAccess"), (0, .class_ 4), (0, u "java/lang/Object")] 2

/-- java/util/RandomAccess -/
def k8 : Class := { plain "java/util/RandomAccess" (some 0) with
  accessFlags := 1537
  interfaces := #[]
  cf := some (fileOf pool8 1 #[] #[] 1537 3 #[] #[])
  fields := #[]
  methods := #[]
  instanceTypes := #[]
  staticTypes := #[]
  resolved := Array.replicate 7 none
  statics := none }

def pool9 : Array CpInfo := pool [(1, .class_ 2), (0, u "java/lang/Cloneable"), (0, .class_ 4), (0, u "java/lang/Object")] 2

/-- java/lang/Cloneable -/
def k9 : Class := { plain "java/lang/Cloneable" (some 0) with
  accessFlags := 1537
  interfaces := #[]
  cf := some (fileOf pool9 1 #[] #[] 1537 3 #[] #[])
  fields := #[]
  methods := #[]
  instanceTypes := #[]
  staticTypes := #[]
  resolved := Array.replicate 7 none
  statics := none }

def pool10 : Array CpInfo := pool [(1, .class_ 2), (0, u "java/io/Serializable"), (0, .class_ 4), (0, u "java/lang/Object")] 2

/-- java/io/Serializable -/
def k10 : Class := { plain "java/io/Serializable" (some 0) with
  accessFlags := 1537
  interfaces := #[]
  cf := some (fileOf pool10 1 #[] #[] 1537 3 #[] #[])
  fields := #[]
  methods := #[]
  instanceTypes := #[]
  staticTypes := #[]
  resolved := Array.replicate 7 none
  statics := none }

def pool11 : Array CpInfo := pool [(1, .methodref 2 3), (0, .class_ 4), (0, .nameAndType 5 6), (0, u "java/util/AbstractList"), (0, u "<init>"), (0, u "()V"), (2, .fieldref 10 11), (0, .class_ 12), (0, .nameAndType 13 14), (0, u "java/util/ArrayList"), (0, u "elementData"), (0, u "[Ljava/lang/Object;"), (2, u "EMPTY_ELEMENTDATA"), (21, .fieldref 10 40), (0, .nameAndType 41 14), (0, u "DEFAULTCAPACITY_EMPTY_ELEMENTDATA"), (8, u "size"), (0, u "I"), (96, .class_ 149), (0, u "java/util/List"), (112, .class_ 263), (0, u "java/util/ArrayList$ListItr"), (3, .class_ 268), (0, u "java/util/ArrayList$Itr"), (7, .class_ 277), (0, u "java/util/ArrayList$SubList"), (12, .class_ 291), (0, u "java/util/ArrayList$ArrayListSpliterator"), (37, .class_ 330), (0, u "java/util/RandomAccess"), (0, .class_ 332), (0, u "java/lang/Cloneable"), (0, .class_ 334), (0, u "java/io/Serializable"), (0, u "serialVersionUID"), (0, u "J"), (3, u "DEFAULT_CAPACITY"), (159, .class_ 501), (0, u "java/util/ArrayList$SubList$2"), (0, .class_ 503), (0, u "java/util/ArrayList$SubList$1")] 5

def k11c0 : Code := { maxStack := 2, maxLocals := 1, code := jdk_38_method_2_code, exceptionTable := #[], attributes := #[] }
def k11m0 : Method := { name := "<init>", desc := "()V", sig := { parameters := [], returnType := none }, accessFlags := 1, code := some k11c0 }
/-- java/util/ArrayList -/
def k11 : Class := { plain "java/util/ArrayList" (some 7) with
  accessFlags := 33
  interfaces := #[6, 8, 9, 10]
  cf := some (fileOf pool11 10 #[.nestMembers #[290, 276, 500, 502, 262, 267]] #[{ accessFlags := 1, nameIndex := 5, descriptorIndex := 6, attributes := #[] }] 33 2 #[148, 329, 331, 333] #[{ accessFlags := 26, nameIndex := 335, descriptorIndex := 336, attributes := #[] }, { accessFlags := 26, nameIndex := 340, descriptorIndex := 51, attributes := #[] }, { accessFlags := 26, nameIndex := 17, descriptorIndex := 14, attributes := #[] }, { accessFlags := 26, nameIndex := 41, descriptorIndex := 14, attributes := #[] }, { accessFlags := 128, nameIndex := 13, descriptorIndex := 14, attributes := #[] }, { accessFlags := 2, nameIndex := 50, descriptorIndex := 51, attributes := #[] }])
  fields := #[{ name := "serialVersionUID", type := .long, accessFlags := 26, slot := 0, constantValue := 0 }, { name := "DEFAULT_CAPACITY", type := .int, accessFlags := 26, slot := 1, constantValue := 0 }, { name := "EMPTY_ELEMENTDATA", type := (.array (.object "java/lang/Object")), accessFlags := 26, slot := 2, constantValue := 0 }, { name := "DEFAULTCAPACITY_EMPTY_ELEMENTDATA", type := (.array (.object "java/lang/Object")), accessFlags := 26, slot := 3, constantValue := 0 }, { name := "elementData", type := (.array (.object "java/lang/Object")), accessFlags := 128, slot := 1, constantValue := 0 }, { name := "size", type := .int, accessFlags := 2, slot := 2, constantValue := 0 }]
  methods := #[k11m0]
  instanceTypes := #[.int, (.array (.object "java/lang/Object")), .int]
  staticTypes := #[.long, .int, (.array (.object "java/lang/Object")), (.array (.object "java/lang/Object"))]
  resolved := Array.replicate 509 none
  statics := some 0 }

def pool12 : Array CpInfo := pool [(2, .class_ 4), (1, u "com/example/usher/usher/core/NodeView"), (2, .class_ 8), (0, u "java/lang/Object")] 16

/-- com/example/usher/usher/core/NodeView -/
def k12 : Class := { plain "com/example/usher/usher/core/NodeView" (some 0) with
  accessFlags := 1536
  interfaces := #[]
  cf := some (fileOf pool12 2 #[] #[] 1536 7 #[] #[])
  fields := #[]
  methods := #[]
  instanceTypes := #[]
  staticTypes := #[]
  resolved := Array.replicate 25 none
  statics := none }

def pool13 : Array CpInfo := pool [(1, .methodref 2 3), (0, .class_ 4), (0, .nameAndType 5 6), (0, u "java/lang/Object"), (0, u "<init>"), (0, u "()V"), (0, .class_ 8), (0, u "java/util/HashSet"), (0, .methodref 7 3), (0, .fieldref 11 12), (0, .class_ 13), (0, .nameAndType 14 15), (0, u "com/example/usher/usher/core/Node"), (0, u "children"), (0, u "Ljava/util/Set;"), (0, .fieldref 11 17), (0, .nameAndType 18 19), (0, u "czxid"), (0, u "J"), (0, .fieldref 11 21), (0, .nameAndType 22 19), (0, u "ctime"), (0, .fieldref 11 24), (0, .nameAndType 25 19), (0, u "ephemeralOwner"), (0, .fieldref 11 27), (0, .nameAndType 28 29), (0, u "data"), (0, u "[B"), (0, .fieldref 11 31), (0, .nameAndType 32 33), (0, u "acl"), (0, u "Ljava/util/List;"), (0, .fieldref 11 35), (0, .nameAndType 36 19), (0, u "mzxid"), (0, .fieldref 11 38), (0, .nameAndType 39 19), (0, u "mtime"), (0, .fieldref 11 41), (0, .nameAndType 42 19), (0, u "pzxid"), (5, u "()[B"), (12, u "([BLjava/util/List;JJJ)V"), (3, u "()I"), (0, .fieldref 11 67), (0, .nameAndType 68 69), (0, u "version"), (0, u "I"), (0, .fieldref 11 71), (0, .nameAndType 72 69), (0, u "cversion"), (0, .fieldref 11 74), (0, .nameAndType 75 69), (0, u "aversion"), (2, u "childrenCreated"), (22, .class_ 102), (0, u "com/example/usher/usher/protocol/Stat"), (0, .interfaceMethodref 104 105), (0, .class_ 106), (0, .nameAndType 107 65), (0, u "java/util/Set"), (0, u "size"), (0, .methodref 101 109), (0, .nameAndType 5 110), (0, u "(JJJJIIIJIIJ)V"), (16, .class_ 128), (0, u "com/example/usher/usher/core/NodeView"), (13, u "stat"), (0, u "()Lcom/example/usher/usher/protocol/Stat;"), (1, u "setData"), (0, u "([BJJ)V")] 37

def k13c0 : Code := { maxStack := 3, maxLocals := 9, code := prog_19_method_1_code, exceptionTable := #[], attributes := #[] }
def k13m0 : Method := { name := "<init>", desc := "([BLjava/util/List;JJJ)V", sig := { parameters := [(.array .byte), (.object "java/util/List"), .long, .long, .long], returnType := none }, accessFlags := 0, code := some k13c0 }
def k13c1 : Code := { maxStack := 19, maxLocals := 2, code := prog_19_method_4_code, exceptionTable := #[], attributes := #[] }
def k13m1 : Method := { name := "stat", desc := "()Lcom/example/usher/usher/protocol/Stat;", sig := { parameters := [], returnType := some (.object "com/example/usher/usher/protocol/Stat") }, accessFlags := 0, code := some k13c1 }
def k13c2 : Code := { maxStack := 1, maxLocals := 1, code := prog_19_method_6_code, exceptionTable := #[], attributes := #[] }
def k13m2 : Method := { name := "data", desc := "()[B", sig := { parameters := [], returnType := some (.array .byte) }, accessFlags := 0, code := some k13c2 }
def k13c3 : Code := { maxStack := 3, maxLocals := 6, code := prog_19_method_7_code, exceptionTable := #[], attributes := #[] }
def k13m3 : Method := { name := "setData", desc := "([BJJ)V", sig := { parameters := [(.array .byte), .long, .long], returnType := none }, accessFlags := 0, code := some k13c3 }
/-- com/example/usher/usher/core/Node -/
def k13 : Class := { plain "com/example/usher/usher/core/Node" (some 0) with
  accessFlags := 32
  interfaces := #[12]
  cf := some (fileOf pool13 11 #[] #[{ accessFlags := 0, nameIndex := 5, descriptorIndex := 61, attributes := #[] }, { accessFlags := 0, nameIndex := 142, descriptorIndex := 143, attributes := #[] }, { accessFlags := 0, nameIndex := 28, descriptorIndex := 48, attributes := #[] }, { accessFlags := 0, nameIndex := 145, descriptorIndex := 146, attributes := #[] }] 32 2 #[127] #[{ accessFlags := 18, nameIndex := 18, descriptorIndex := 19, attributes := #[] }, { accessFlags := 18, nameIndex := 22, descriptorIndex := 19, attributes := #[] }, { accessFlags := 18, nameIndex := 25, descriptorIndex := 19, attributes := #[] }, { accessFlags := 18, nameIndex := 14, descriptorIndex := 15, attributes := #[] }, { accessFlags := 2, nameIndex := 28, descriptorIndex := 29, attributes := #[] }, { accessFlags := 2, nameIndex := 32, descriptorIndex := 33, attributes := #[] }, { accessFlags := 2, nameIndex := 36, descriptorIndex := 19, attributes := #[] }, { accessFlags := 2, nameIndex := 39, descriptorIndex := 19, attributes := #[] }, { accessFlags := 2, nameIndex := 68, descriptorIndex := 69, attributes := #[] }, { accessFlags := 2, nameIndex := 75, descriptorIndex := 69, attributes := #[] }, { accessFlags := 2, nameIndex := 72, descriptorIndex := 69, attributes := #[] }, { accessFlags := 2, nameIndex := 42, descriptorIndex := 19, attributes := #[] }, { accessFlags := 2, nameIndex := 78, descriptorIndex := 19, attributes := #[] }])
  fields := #[{ name := "czxid", type := .long, accessFlags := 18, slot := 0, constantValue := 0 }, { name := "ctime", type := .long, accessFlags := 18, slot := 1, constantValue := 0 }, { name := "ephemeralOwner", type := .long, accessFlags := 18, slot := 2, constantValue := 0 }, { name := "children", type := (.object "java/util/Set"), accessFlags := 18, slot := 3, constantValue := 0 }, { name := "data", type := (.array .byte), accessFlags := 2, slot := 4, constantValue := 0 }, { name := "acl", type := (.object "java/util/List"), accessFlags := 2, slot := 5, constantValue := 0 }, { name := "mzxid", type := .long, accessFlags := 2, slot := 6, constantValue := 0 }, { name := "mtime", type := .long, accessFlags := 2, slot := 7, constantValue := 0 }, { name := "version", type := .int, accessFlags := 2, slot := 8, constantValue := 0 }, { name := "aversion", type := .int, accessFlags := 2, slot := 9, constantValue := 0 }, { name := "cversion", type := .int, accessFlags := 2, slot := 10, constantValue := 0 }, { name := "pzxid", type := .long, accessFlags := 2, slot := 11, constantValue := 0 }, { name := "childrenCreated", type := .long, accessFlags := 2, slot := 12, constantValue := 0 }]
  methods := #[k13m0, k13m1, k13m2, k13m3]
  instanceTypes := #[.long, .long, .long, (.object "java/util/Set"), (.array .byte), (.object "java/util/List"), .long, .long, .int, .int, .int, .long, .long]
  staticTypes := #[]
  resolved := Array.replicate 184 none
  statics := none }

def pool14 : Array CpInfo := pool [(26, .class_ 27), (0, u "java/lang/Object"), (5, .class_ 34), (0, u "java/util/Set"), (1, .class_ 38), (1, u "java/util/Collection"), (18, u "size"), (0, u "()I")] 85

def k14m0 : Method := { name := "size", desc := "()I", sig := { parameters := [], returnType := some .int }, accessFlags := 1025, code := none }
/-- java/util/Set -/
def k14 : Class := { plain "java/util/Set" (some 0) with
  accessFlags := 1537
  interfaces := #[3]
  cf := some (fileOf pool14 33 #[] #[{ accessFlags := 1025, nameIndex := 57, descriptorIndex := 58, attributes := #[] }] 1537 26 #[36] #[])
  fields := #[]
  methods := #[k14m0]
  instanceTypes := #[]
  staticTypes := #[]
  resolved := Array.replicate 144 none
  statics := none }

def pool15 : Array CpInfo := pool [(1, .methodref 2 3), (0, .class_ 4), (0, .nameAndType 5 6), (0, u "java/util/AbstractCollection"), (0, u "<init>"), (0, u "()V"), (0, .class_ 8), (0, u "java/util/Set"), (7, .class_ 17), (0, u "java/util/AbstractSet")] 78

def k15c0 : Code := { maxStack := 1, maxLocals := 1, code := jdk_91_method_1_code, exceptionTable := #[], attributes := #[] }
def k15m0 : Method := { name := "<init>", desc := "()V", sig := { parameters := [], returnType := none }, accessFlags := 4, code := some k15c0 }
/-- java/util/AbstractSet -/
def k15 : Class := { plain "java/util/AbstractSet" (some 4) with
  accessFlags := 1057
  interfaces := #[14]
  cf := some (fileOf pool15 16 #[] #[{ accessFlags := 4, nameIndex := 5, descriptorIndex := 6, attributes := #[] }] 1057 2 #[7] #[])
  fields := #[]
  methods := #[k15m0]
  instanceTypes := #[]
  staticTypes := #[]
  resolved := Array.replicate 96 none
  statics := none }

def pool16 : Array CpInfo := pool [(1, .methodref 2 3), (0, .class_ 4), (0, .nameAndType 5 6), (0, u "java/util/AbstractSet"), (0, u "<init>"), (0, u "()V"), (0, .class_ 8), (0, u "java/util/HashMap"), (0, .methodref 7 3), (0, .fieldref 11 12), (0, .class_ 13), (0, .nameAndType 14 15), (0, u "java/util/HashSet"), (0, u "map"), (0, u "Ljava/util/HashMap;"), (2, .nameAndType 20 21), (1, u "size"), (0, u "()I"), (28, .class_ 52), (1, u "java/util/Set"), (2, .methodref 7 18), (10, u "PRESENT"), (0, u "Ljava/lang/Object;"), (158, .class_ 227), (0, u "java/lang/Cloneable"), (0, .class_ 229), (0, u "java/io/Serializable"), (0, u "serialVersionUID"), (0, u "J")] 71

def k16c0 : Code := { maxStack := 3, maxLocals := 1, code := jdk_93_method_1_code, exceptionTable := #[], attributes := #[] }
def k16m0 : Method := { name := "<init>", desc := "()V", sig := { parameters := [], returnType := none }, accessFlags := 1, code := some k16c0 }
def k16c1 : Code := { maxStack := 1, maxLocals := 1, code := jdk_93_method_7_code, exceptionTable := #[], attributes := #[] }
def k16m1 : Method := { name := "size", desc := "()I", sig := { parameters := [], returnType := some .int }, accessFlags := 1, code := some k16c1 }
/-- java/util/HashSet -/
def k16 : Class := { plain "java/util/HashSet" (some 15) with
  accessFlags := 33
  interfaces := #[14, 9, 10]
  cf := some (fileOf pool16 11 #[] #[{ accessFlags := 1, nameIndex := 5, descriptorIndex := 6, attributes := #[] }, { accessFlags := 1, nameIndex := 20, descriptorIndex := 21, attributes := #[] }] 33 2 #[50, 226, 228] #[{ accessFlags := 24, nameIndex := 230, descriptorIndex := 231, attributes := #[] }, { accessFlags := 128, nameIndex := 14, descriptorIndex := 15, attributes := #[] }, { accessFlags := 24, nameIndex := 66, descriptorIndex := 67, attributes := #[] }])
  fields := #[{ name := "serialVersionUID", type := .long, accessFlags := 24, slot := 0, constantValue := 0 }, { name := "map", type := (.object "java/util/HashMap"), accessFlags := 128, slot := 0, constantValue := 0 }, { name := "PRESENT", type := (.object "java/lang/Object"), accessFlags := 24, slot := 1, constantValue := 0 }]
  methods := #[k16m0, k16m1]
  instanceTypes := #[(.object "java/util/HashMap")]
  staticTypes := #[.long, (.object "java/lang/Object")]
  resolved := Array.replicate 303 none
  statics := none }

def pool17 : Array CpInfo := pool [(2, .class_ 4), (1, u "java/util/Map"), (31, .class_ 37), (0, u "java/util/Map$Entry"), (55, .class_ 94), (0, u "java/lang/Object")] 168

/-- java/util/Map -/
def k17 : Class := { plain "java/util/Map" (some 0) with
  accessFlags := 1537
  interfaces := #[]
  cf := some (fileOf pool17 2 #[.nestMembers #[36]] #[] 1537 93 #[] #[])
  fields := #[]
  methods := #[]
  instanceTypes := #[]
  staticTypes := #[]
  resolved := Array.replicate 263 none
  statics := none }

def pool18 : Array CpInfo := pool [(1, .methodref 2 3), (0, .class_ 4), (0, .nameAndType 5 6), (0, u "java/lang/Object"), (0, u "<init>"), (0, u "()V"), (1, .class_ 10), (1, u "java/util/AbstractMap"), (42, .class_ 54), (0, u "java/util/Map"), (9, u "keySet"), (0, u "Ljava/util/Set;"), (0, .class_ 67), (0, u "java/util/AbstractMap$1"), (5, u "values"), (0, u "Ljava/util/Collection;"), (0, .class_ 76), (0, u "java/util/AbstractMap$2"), (104, .class_ 182), (0, u "java/util/AbstractMap$ViewCollection"), (0, .class_ 184), (0, u "java/util/AbstractMap$SimpleImmutableEntry"), (0, .class_ 186), (0, u "java/util/AbstractMap$SimpleEntry"), (0, .class_ 188), (0, u "java/util/AbstractMap$2$1"), (0, .class_ 190), (0, u "java/util/AbstractMap$1$1")] 5

def k18c0 : Code := { maxStack := 1, maxLocals := 1, code := jdk_71_method_1_code, exceptionTable := #[], attributes := #[] }
def k18m0 : Method := { name := "<init>", desc := "()V", sig := { parameters := [], returnType := none }, accessFlags := 4, code := some k18c0 }
/-- java/util/AbstractMap -/
def k18 : Class := { plain "java/util/AbstractMap" (some 0) with
  accessFlags := 1057
  interfaces := #[17]
  cf := some (fileOf pool18 8 #[.nestMembers #[181, 183, 185, 75, 187, 66, 189]] #[{ accessFlags := 4, nameIndex := 5, descriptorIndex := 6, attributes := #[] }] 1057 2 #[53] #[{ accessFlags := 128, nameIndex := 64, descriptorIndex := 65, attributes := #[] }, { accessFlags := 128, nameIndex := 73, descriptorIndex := 74, attributes := #[] }])
  fields := #[{ name := "keySet", type := (.object "java/util/Set"), accessFlags := 128, slot := 0, constantValue := 0 }, { name := "values", type := (.object "java/util/Collection"), accessFlags := 128, slot := 1, constantValue := 0 }]
  methods := #[k18m0]
  instanceTypes := #[(.object "java/util/Set"), (.object "java/util/Collection")]
  staticTypes := #[]
  resolved := Array.replicate 196 none
  statics := none }

def pool19 : Array CpInfo := pool [(6, u "()I"), (33, .class_ 41), (0, u "java/util/HashMap"), (1, .methodref 44 45), (0, .class_ 46), (0, .nameAndType 47 48), (0, u "java/util/AbstractMap"), (0, u "<init>"), (0, u "()V"), (32, .fieldref 40 82), (0, .nameAndType 83 84), (0, u "loadFactor"), (0, u "F"), (5, u "threshold"), (0, u "I"), (0, .float 1061158912), (8, .class_ 103), (1, u "java/util/Map"), (0, u "size"), (2, u "table"), (0, u "[Ljava/util/HashMap$Node;"), (14, u "entrySet"), (32, .fieldref 40 157), (0, .nameAndType 104 91), (5, .class_ 165), (1, u "java/util/HashMap$Node"), (14, .class_ 181), (0, u "java/util/HashMap$TreeNode"), (22, u "modCount"), (37, u "Ljava/util/Set;"), (0, .class_ 244), (0, u "java/util/HashMap$KeySet"), (18, .class_ 264), (0, u "java/util/HashMap$Values"), (3, .class_ 269), (0, u "java/util/HashMap$EntrySet"), (76, .class_ 348), (1, u "java/util/HashMap$UnsafeHolder"), (43, .class_ 393), (0, u "java/lang/Cloneable"), (0, .class_ 395), (0, u "java/io/Serializable"), (0, u "serialVersionUID"), (0, u "J"), (3, u "DEFAULT_INITIAL_CAPACITY"), (1, u "MAXIMUM_CAPACITY"), (0, u "DEFAULT_LOAD_FACTOR"), (0, u "TREEIFY_THRESHOLD"), (1, u "UNTREEIFY_THRESHOLD"), (1, u "MIN_TREEIFY_CAPACITY"), (186, .class_ 597), (0, u "java/util/HashMap$EntrySpliterator"), (0, .class_ 599), (0, u "java/util/HashMap$ValueSpliterator"), (0, .class_ 601), (0, u "java/util/HashMap$KeySpliterator"), (0, .class_ 603), (0, u "java/util/HashMap$HashMapSpliterator"), (0, .class_ 605), (0, u "java/util/HashMap$EntryIterator"), (0, .class_ 607), (0, u "java/util/HashMap$ValueIterator"), (0, .class_ 609), (0, u "java/util/HashMap$KeyIterator"), (0, .class_ 611), (0, u "java/util/HashMap$HashIterator")] 17

def k19c0 : Code := { maxStack := 2, maxLocals := 1, code := jdk_69_method_7_code, exceptionTable := #[], attributes := #[] }
def k19m0 : Method := { name := "<init>", desc := "()V", sig := { parameters := [], returnType := none }, accessFlags := 1, code := some k19c0 }
def k19c1 : Code := { maxStack := 1, maxLocals := 1, code := jdk_69_method_10_code, exceptionTable := #[], attributes := #[] }
def k19m1 : Method := { name := "size", desc := "()I", sig := { parameters := [], returnType := some .int }, accessFlags := 1, code := some k19c1 }
/-- java/util/HashMap -/
def k19 : Class := { plain "java/util/HashMap" (some 18) with
  accessFlags := 33
  interfaces := #[17, 9, 10]
  cf := some (fileOf pool19 40 #[.nestMembers #[180, 596, 598, 600, 602, 604, 606, 608, 610, 346, 268, 263, 243, 163]] #[{ accessFlags := 1, nameIndex := 47, descriptorIndex := 48, attributes := #[] }, { accessFlags := 1, nameIndex := 104, descriptorIndex := 6, attributes := #[] }] 33 44 #[101, 392, 394] #[{ accessFlags := 26, nameIndex := 396, descriptorIndex := 397, attributes := #[] }, { accessFlags := 24, nameIndex := 401, descriptorIndex := 91, attributes := #[] }, { accessFlags := 24, nameIndex := 403, descriptorIndex := 91, attributes := #[] }, { accessFlags := 24, nameIndex := 404, descriptorIndex := 84, attributes := #[] }, { accessFlags := 24, nameIndex := 405, descriptorIndex := 91, attributes := #[] }, { accessFlags := 24, nameIndex := 407, descriptorIndex := 91, attributes := #[] }, { accessFlags := 24, nameIndex := 409, descriptorIndex := 91, attributes := #[] }, { accessFlags := 128, nameIndex := 107, descriptorIndex := 108, attributes := #[] }, { accessFlags := 128, nameIndex := 123, descriptorIndex := 242, attributes := #[] }, { accessFlags := 128, nameIndex := 104, descriptorIndex := 91, attributes := #[] }, { accessFlags := 128, nameIndex := 204, descriptorIndex := 91, attributes := #[] }, { accessFlags := 0, nameIndex := 90, descriptorIndex := 91, attributes := #[] }, { accessFlags := 16, nameIndex := 83, descriptorIndex := 84, attributes := #[] }])
  fields := #[{ name := "serialVersionUID", type := .long, accessFlags := 26, slot := 0, constantValue := 0 }, { name := "DEFAULT_INITIAL_CAPACITY", type := .int, accessFlags := 24, slot := 1, constantValue := 0 }, { name := "MAXIMUM_CAPACITY", type := .int, accessFlags := 24, slot := 2, constantValue := 0 }, { name := "DEFAULT_LOAD_FACTOR", type := .float, accessFlags := 24, slot := 3, constantValue := 0 }, { name := "TREEIFY_THRESHOLD", type := .int, accessFlags := 24, slot := 4, constantValue := 0 }, { name := "UNTREEIFY_THRESHOLD", type := .int, accessFlags := 24, slot := 5, constantValue := 0 }, { name := "MIN_TREEIFY_CAPACITY", type := .int, accessFlags := 24, slot := 6, constantValue := 0 }, { name := "table", type := (.array (.object "java/util/HashMap$Node")), accessFlags := 128, slot := 2, constantValue := 0 }, { name := "entrySet", type := (.object "java/util/Set"), accessFlags := 128, slot := 3, constantValue := 0 }, { name := "size", type := .int, accessFlags := 128, slot := 4, constantValue := 0 }, { name := "modCount", type := .int, accessFlags := 128, slot := 5, constantValue := 0 }, { name := "threshold", type := .int, accessFlags := 0, slot := 6, constantValue := 0 }, { name := "loadFactor", type := .float, accessFlags := 16, slot := 7, constantValue := 0 }]
  methods := #[k19m0, k19m1]
  instanceTypes := #[(.object "java/util/Set"), (.object "java/util/Collection"), (.array (.object "java/util/HashMap$Node")), (.object "java/util/Set"), .int, .int, .int, .float]
  staticTypes := #[.long, .int, .int, .float, .int, .int, .int]
  resolved := Array.replicate 629 none
  statics := none }

def pool20 : Array CpInfo := pool [(1, .methodref 2 3), (0, .class_ 4), (0, .nameAndType 5 6), (0, u "java/lang/Object"), (0, u "<init>"), (0, u "()V"), (0, .fieldref 8 9), (0, .class_ 10), (0, .nameAndType 11 12), (0, u "com/example/usher/usher/protocol/Stat"), (0, u "czxid"), (0, u "J"), (0, .fieldref 8 14), (0, .nameAndType 15 12), (0, u "mzxid"), (0, .fieldref 8 17), (0, .nameAndType 18 12), (0, u "ctime"), (0, .fieldref 8 20), (0, .nameAndType 21 12), (0, u "mtime"), (0, .fieldref 8 23), (0, .nameAndType 24 25), (0, u "version"), (0, u "I"), (0, .fieldref 8 27), (0, .nameAndType 28 25), (0, u "cversion"), (0, .fieldref 8 30), (0, .nameAndType 31 25), (0, u "aversion"), (0, .fieldref 8 33), (0, .nameAndType 34 12), (0, u "ephemeralOwner"), (0, .fieldref 8 36), (0, .nameAndType 37 25), (0, u "dataLength"), (0, .fieldref 8 39), (0, .nameAndType 40 25), (0, u "numChildren"), (0, .fieldref 8 42), (0, .nameAndType 43 12), (0, u "pzxid"), (10, u "ANY_VERSION"), (2, u "(JJJJIIIJIIJ)V"), (4, u "()J"), (0, u "()I")] 2

def k20c0 : Code := { maxStack := 3, maxLocals := 18, code := prog_60_method_1_code, exceptionTable := #[], attributes := #[] }
def k20m0 : Method := { name := "<init>", desc := "(JJJJIIIJIIJ)V", sig := { parameters := [.long, .long, .long, .long, .int, .int, .int, .long, .int, .int, .long], returnType := none }, accessFlags := 1, code := some k20c0 }
def k20c1 : Code := { maxStack := 2, maxLocals := 1, code := prog_60_method_4_code, exceptionTable := #[], attributes := #[] }
def k20m1 : Method := { name := "mzxid", desc := "()J", sig := { parameters := [], returnType := some .long }, accessFlags := 1, code := some k20c1 }
def k20c2 : Code := { maxStack := 2, maxLocals := 1, code := prog_60_method_5_code, exceptionTable := #[], attributes := #[] }
def k20m2 : Method := { name := "ctime", desc := "()J", sig := { parameters := [], returnType := some .long }, accessFlags := 1, code := some k20c2 }
def k20c3 : Code := { maxStack := 2, maxLocals := 1, code := prog_60_method_6_code, exceptionTable := #[], attributes := #[] }
def k20m3 : Method := { name := "mtime", desc := "()J", sig := { parameters := [], returnType := some .long }, accessFlags := 1, code := some k20c3 }
def k20c4 : Code := { maxStack := 1, maxLocals := 1, code := prog_60_method_7_code, exceptionTable := #[], attributes := #[] }
def k20m4 : Method := { name := "version", desc := "()I", sig := { parameters := [], returnType := some .int }, accessFlags := 1, code := some k20c4 }
def k20c5 : Code := { maxStack := 1, maxLocals := 1, code := prog_60_method_11_code, exceptionTable := #[], attributes := #[] }
def k20m5 : Method := { name := "dataLength", desc := "()I", sig := { parameters := [], returnType := some .int }, accessFlags := 1, code := some k20c5 }
def k20c6 : Code := { maxStack := 2, maxLocals := 1, code := prog_60_method_13_code, exceptionTable := #[], attributes := #[] }
def k20m6 : Method := { name := "pzxid", desc := "()J", sig := { parameters := [], returnType := some .long }, accessFlags := 1, code := some k20c6 }
/-- com/example/usher/usher/protocol/Stat -/
def k20 : Class := { plain "com/example/usher/usher/protocol/Stat" (some 0) with
  accessFlags := 33
  interfaces := #[]
  cf := some (fileOf pool20 8 #[] #[{ accessFlags := 1, nameIndex := 5, descriptorIndex := 57, attributes := #[] }, { accessFlags := 1, nameIndex := 15, descriptorIndex := 62, attributes := #[] }, { accessFlags := 1, nameIndex := 18, descriptorIndex := 62, attributes := #[] }, { accessFlags := 1, nameIndex := 21, descriptorIndex := 62, attributes := #[] }, { accessFlags := 1, nameIndex := 24, descriptorIndex := 63, attributes := #[] }, { accessFlags := 1, nameIndex := 37, descriptorIndex := 63, attributes := #[] }, { accessFlags := 1, nameIndex := 43, descriptorIndex := 62, attributes := #[] }] 33 2 #[] #[{ accessFlags := 25, nameIndex := 54, descriptorIndex := 25, attributes := #[] }, { accessFlags := 18, nameIndex := 11, descriptorIndex := 12, attributes := #[] }, { accessFlags := 18, nameIndex := 15, descriptorIndex := 12, attributes := #[] }, { accessFlags := 18, nameIndex := 18, descriptorIndex := 12, attributes := #[] }, { accessFlags := 18, nameIndex := 21, descriptorIndex := 12, attributes := #[] }, { accessFlags := 18, nameIndex := 24, descriptorIndex := 25, attributes := #[] }, { accessFlags := 18, nameIndex := 28, descriptorIndex := 25, attributes := #[] }, { accessFlags := 18, nameIndex := 31, descriptorIndex := 25, attributes := #[] }, { accessFlags := 18, nameIndex := 34, descriptorIndex := 12, attributes := #[] }, { accessFlags := 18, nameIndex := 37, descriptorIndex := 25, attributes := #[] }, { accessFlags := 18, nameIndex := 40, descriptorIndex := 25, attributes := #[] }, { accessFlags := 18, nameIndex := 43, descriptorIndex := 12, attributes := #[] }])
  fields := #[{ name := "ANY_VERSION", type := .int, accessFlags := 25, slot := 0, constantValue := 0 }, { name := "czxid", type := .long, accessFlags := 18, slot := 0, constantValue := 0 }, { name := "mzxid", type := .long, accessFlags := 18, slot := 1, constantValue := 0 }, { name := "ctime", type := .long, accessFlags := 18, slot := 2, constantValue := 0 }, { name := "mtime", type := .long, accessFlags := 18, slot := 3, constantValue := 0 }, { name := "version", type := .int, accessFlags := 18, slot := 4, constantValue := 0 }, { name := "cversion", type := .int, accessFlags := 18, slot := 5, constantValue := 0 }, { name := "aversion", type := .int, accessFlags := 18, slot := 6, constantValue := 0 }, { name := "ephemeralOwner", type := .long, accessFlags := 18, slot := 7, constantValue := 0 }, { name := "dataLength", type := .int, accessFlags := 18, slot := 8, constantValue := 0 }, { name := "numChildren", type := .int, accessFlags := 18, slot := 9, constantValue := 0 }, { name := "pzxid", type := .long, accessFlags := 18, slot := 10, constantValue := 0 }]
  methods := #[k20m0, k20m1, k20m2, k20m3, k20m4, k20m5, k20m6]
  instanceTypes := #[.long, .long, .long, .long, .int, .int, .int, .long, .int, .int, .long]
  staticTypes := #[.int]
  resolved := Array.replicate 66 none
  statics := none }

/-- the primitive byte -/
def k21 : Class := { plain "byte" none with kind := .primitive 'B', accessFlags := 0x411 }
/-- [B -/
def k22 : Class := { plain "[B" (some 0) with kind := .array 21 .byte, interfaces := #[9, 10], accessFlags := 1041 }

/-- the primitive int -/
def k23 : Class := { plain "int" none with kind := .primitive 'I', accessFlags := 0x411 }
/-- [I -/
def k24 : Class := { plain "[I" (some 0) with kind := .array 23 .int, interfaces := #[9, 10], accessFlags := 1041 }

/-- [Ljava/lang/Object; -/
def k25 : Class := { plain "[Ljava/lang/Object;" (some 0) with kind := .array 0 (.object "java/lang/Object"), interfaces := #[9, 10], accessFlags := 1041 }

def heap : Heap := #[{ cls := 11, slots := #[.long 0, .int 0, .ref 1, .ref 2], vm := .statics 11 },
  { cls := 25, slots := #[], vm := .none },
  { cls := 25, slots := #[], vm := .none }]
def classes : Array Class := #[k0, k1, k2, k3, k4, k5, k6, k7, k8, k9, k10, k11, k12, k13, k14, k15, k16, k17, k18, k19, k20, k21, k22, k23, k24, k25]
def interned : List (Array UInt16 × Addr) := []
def slotsUsed : Nat := 4
def theMethod : MethodId := ⟨1, 1⟩
def args0 : Array Value := #[.long 5, .long 7, .long 3, .long 1, .long 9, .int 3]
def aboutOver (below : List Frame) : State where
  vm := { classes := classes, interned := interned.toArray }
  heap := heap
  slotsUsed := slotsUsed
  threads := #[{ frames := .invoking theMethod args0 :: below }]
def below0 : List Frame := [.native { method := ⟨0, 0⟩, args := #[] }]
def about1 : State := aboutOver below0
def p0 : Program := .bare "" "" ""
def e0 : Env := launch0.env 0 0 0
theorem w_frames : about1.frames = Frame.invoking theMethod args0 :: below0 := rfl
set_option maxRecDepth 65536 in
theorem w_args : argsFit about1.vm theMethod args0 = true := by decide +kernel
set_option maxRecDepth 65536 in
theorem w_heap : heapFits about1 = true := by decide +kernel
set_option maxRecDepth 65536 in
theorem w_runnable : about1.curStatus? = some .runnable := by decide +kernel
set_option maxRecDepth 65536 in
theorem w_alone : about1.alone = true := by decide +kernel
set_option maxRecDepth 65536 in
theorem w_named : about1.methodNamed? x = some theMethod := by decide +kernel
set_option maxRecDepth 65536 in
theorem w_hears : about1.hears theMethod below0 = true := by decide +kernel
set_option maxRecDepth 65536 in
theorem w_ripe : about1.ripe theMethod args0 below0 = true := by decide +kernel
theorem w_running : about1.status = .running := rfl
set_option maxRecDepth 65536 in
theorem w_room : about1.hasRoom e0.platform room_1 = true :=
  launch0.hasRoom_least _ room_1 (by decide +kernel) (by decide +kernel) (by decide +kernel) (by decide +kernel) (by decide +kernel) (by decide +kernel)
theorem allAtoms_all (ts : List Jvm.Cond) (a : Array Jvm.Value) (st : Jvm.State) : (allAtoms ts).before a st = ts.all (fun c => c.before a st) := by
  induction ts with
  | nil => rfl
  | cons c t ih =>
    show (Jvm.Cond.and c (allAtoms t)).before a st = _
    rw [Jvm.Cond.before_and, ih, List.all_cons]
def words1 : List Jvm.Cond := Jvm.Cond.code x code maxLocals ret :: tables_1
/-- a 'code' word, met by the world's own term for the bytes: nothing is compared byte by byte -/
theorem code_word {y : MethodName} {bytes : ByteArray} {mx : Nat} {rt : Option FieldType} {a : Array Value} {s : State} {m : MethodId} {meth : Method} {c : Code} (h1 : s.methodNamed? y = some m) (h2 : s.vm.method? m = some meth) (h3 : meth.code = some c) (h4 : c.code = bytes)
    (h5 : (c.maxLocals == mx && c.exceptionTable.isEmpty && decide (c.maxStack ≤ mostOperands) && decide (meth.sig.returnType = rt) && !meth.locks && decide (parseMethodDescriptor y.desc = some meth.sig)) = true) : (Jvm.Cond.code y bytes mx rt).before a s = true := by
  simp only [Bool.and_eq_true, beq_iff_eq, Bool.not_eq_true', decide_eq_true_eq] at h5
  obtain ⟨⟨⟨⟨⟨g1, g2⟩, g3⟩, g4⟩, g5⟩, g6⟩ := h5
  simp [Cond.before, Cond.holds, Cond.value, h1, h2, h3, h4, g1, g2, g3, g4, g5, g6]
def isCode : Jvm.Cond → Bool
  | .code _ _ _ _ => true
  | _ => false
theorem all_split {L : List Jvm.Cond} {P : Jvm.Cond → Bool} (h1 : L.all (fun c => isCode c || P c) = true) (h2 : ∀ c ∈ L.filter isCode, P c = true) : L.all P = true := by
  refine List.all_eq_true.mpr fun c hc => ?_
  have h := List.all_eq_true.mp h1 c hc
  rcases Bool.eq_false_or_eq_true (isCode c) with hi | hi
  · exact h2 c (List.mem_filter.mpr ⟨hc, hi⟩)
  · simpa [hi] using h
set_option maxRecDepth 65536 in
theorem w_c0 : (Jvm.Cond.code x code maxLocals ret).before args0 about1 = true := code_word (m := ⟨1, 1⟩) (meth := k1m1) (c := k1c1) (by decide +kernel) rfl rfl rfl (by decide +kernel)
set_option maxRecDepth 65536 in
theorem w_c1 : (Jvm.Cond.code ({ cls := "java/util/ArrayList", name := "<init>", desc := "()V" } : Jvm.MethodName) jdk_38_method_2_code (1 : Nat) (Option.none : Option Jvm.ClassFile.FieldType)).before args0 about1 = true := code_word (m := ⟨11, 0⟩) (meth := k11m0) (c := k11c0) (by decide +kernel) rfl rfl rfl (by decide +kernel)
set_option maxRecDepth 65536 in
theorem w_c2 : (Jvm.Cond.code ({ cls := "java/util/AbstractList", name := "<init>", desc := "()V" } : Jvm.MethodName) jdk_39_method_1_code (1 : Nat) (Option.none : Option Jvm.ClassFile.FieldType)).before args0 about1 = true := code_word (m := ⟨7, 0⟩) (meth := k7m0) (c := k7c0) (by decide +kernel) rfl rfl rfl (by decide +kernel)
set_option maxRecDepth 65536 in
theorem w_c3 : (Jvm.Cond.code ({ cls := "java/util/AbstractCollection", name := "<init>", desc := "()V" } : Jvm.MethodName) jdk_22_method_1_code (1 : Nat) (Option.none : Option Jvm.ClassFile.FieldType)).before args0 about1 = true := code_word (m := ⟨4, 0⟩) (meth := k4m0) (c := k4c0) (by decide +kernel) rfl rfl rfl (by decide +kernel)
set_option maxRecDepth 65536 in
theorem w_c4 : (Jvm.Cond.code ({ cls := "java/lang/Object", name := "<init>", desc := "()V" } : Jvm.MethodName) object_method_1_code (1 : Nat) (Option.none : Option Jvm.ClassFile.FieldType)).before args0 about1 = true := code_word (m := ⟨0, 0⟩) (meth := k0m0) (c := k0c0) (by decide +kernel) rfl rfl rfl (by decide +kernel)
set_option maxRecDepth 65536 in
theorem w_c5 : (Jvm.Cond.code ({ cls := "com/example/usher/usher/core/Node", name := "<init>", desc := "([BLjava/util/List;JJJ)V" } : Jvm.MethodName) prog_19_method_1_code (9 : Nat) (Option.none : Option Jvm.ClassFile.FieldType)).before args0 about1 = true := code_word (m := ⟨13, 0⟩) (meth := k13m0) (c := k13c0) (by decide +kernel) rfl rfl rfl (by decide +kernel)
set_option maxRecDepth 65536 in
theorem w_c6 : (Jvm.Cond.code ({ cls := "java/util/HashSet", name := "<init>", desc := "()V" } : Jvm.MethodName) jdk_93_method_1_code (1 : Nat) (Option.none : Option Jvm.ClassFile.FieldType)).before args0 about1 = true := code_word (m := ⟨16, 0⟩) (meth := k16m0) (c := k16c0) (by decide +kernel) rfl rfl rfl (by decide +kernel)
set_option maxRecDepth 65536 in
theorem w_c7 : (Jvm.Cond.code ({ cls := "java/util/AbstractSet", name := "<init>", desc := "()V" } : Jvm.MethodName) jdk_91_method_1_code (1 : Nat) (Option.none : Option Jvm.ClassFile.FieldType)).before args0 about1 = true := code_word (m := ⟨15, 0⟩) (meth := k15m0) (c := k15c0) (by decide +kernel) rfl rfl rfl (by decide +kernel)
set_option maxRecDepth 65536 in
theorem w_c8 : (Jvm.Cond.code ({ cls := "java/util/HashMap", name := "<init>", desc := "()V" } : Jvm.MethodName) jdk_69_method_7_code (1 : Nat) (Option.none : Option Jvm.ClassFile.FieldType)).before args0 about1 = true := code_word (m := ⟨19, 0⟩) (meth := k19m0) (c := k19c0) (by decide +kernel) rfl rfl rfl (by decide +kernel)
set_option maxRecDepth 65536 in
theorem w_c9 : (Jvm.Cond.code ({ cls := "java/util/AbstractMap", name := "<init>", desc := "()V" } : Jvm.MethodName) jdk_71_method_1_code (1 : Nat) (Option.none : Option Jvm.ClassFile.FieldType)).before args0 about1 = true := code_word (m := ⟨18, 0⟩) (meth := k18m0) (c := k18c0) (by decide +kernel) rfl rfl rfl (by decide +kernel)
set_option maxRecDepth 65536 in
theorem w_c10 : (Jvm.Cond.code ({ cls := "com/example/usher/usher/core/Node", name := "setData", desc := "([BJJ)V" } : Jvm.MethodName) prog_19_method_7_code (6 : Nat) (Option.none : Option Jvm.ClassFile.FieldType)).before args0 about1 = true := code_word (m := ⟨13, 3⟩) (meth := k13m3) (c := k13c3) (by decide +kernel) rfl rfl rfl (by decide +kernel)
set_option maxRecDepth 65536 in
theorem w_c11 : (Jvm.Cond.code ({ cls := "com/example/usher/usher/core/Node", name := "stat", desc := "()Lcom/example/usher/usher/protocol/Stat;" } : Jvm.MethodName) prog_19_method_4_code (2 : Nat) (Option.some (Jvm.ClassFile.FieldType.object "com/example/usher/usher/protocol/Stat"))).before args0 about1 = true := code_word (m := ⟨13, 1⟩) (meth := k13m1) (c := k13c1) (by decide +kernel) rfl rfl rfl (by decide +kernel)
set_option maxRecDepth 65536 in
theorem w_c12 : (Jvm.Cond.code ({ cls := "java/util/HashSet", name := "size", desc := "()I" } : Jvm.MethodName) jdk_93_method_7_code (1 : Nat) (Option.some Jvm.ClassFile.FieldType.int)).before args0 about1 = true := code_word (m := ⟨16, 1⟩) (meth := k16m1) (c := k16c1) (by decide +kernel) rfl rfl rfl (by decide +kernel)
set_option maxRecDepth 65536 in
theorem w_c13 : (Jvm.Cond.code ({ cls := "java/util/HashMap", name := "size", desc := "()I" } : Jvm.MethodName) jdk_69_method_10_code (1 : Nat) (Option.some Jvm.ClassFile.FieldType.int)).before args0 about1 = true := code_word (m := ⟨19, 1⟩) (meth := k19m1) (c := k19c1) (by decide +kernel) rfl rfl rfl (by decide +kernel)
set_option maxRecDepth 65536 in
theorem w_c14 : (Jvm.Cond.code ({ cls := "com/example/usher/usher/protocol/Stat", name := "<init>", desc := "(JJJJIIIJIIJ)V" } : Jvm.MethodName) prog_60_method_1_code (18 : Nat) (Option.none : Option Jvm.ClassFile.FieldType)).before args0 about1 = true := code_word (m := ⟨20, 0⟩) (meth := k20m0) (c := k20c0) (by decide +kernel) rfl rfl rfl (by decide +kernel)
set_option maxRecDepth 65536 in
theorem w_c15 : (Jvm.Cond.code ({ cls := "com/example/usher/usher/core/Node", name := "data", desc := "()[B" } : Jvm.MethodName) prog_19_method_6_code (1 : Nat) (Option.some (Jvm.ClassFile.FieldType.array Jvm.ClassFile.FieldType.byte))).before args0 about1 = true := code_word (m := ⟨13, 2⟩) (meth := k13m2) (c := k13c2) (by decide +kernel) rfl rfl rfl (by decide +kernel)
set_option maxRecDepth 65536 in
theorem w_c16 : (Jvm.Cond.code ({ cls := "com/example/usher/usher/protocol/Stat", name := "mzxid", desc := "()J" } : Jvm.MethodName) prog_60_method_4_code (1 : Nat) (Option.some Jvm.ClassFile.FieldType.long)).before args0 about1 = true := code_word (m := ⟨20, 1⟩) (meth := k20m1) (c := k20c1) (by decide +kernel) rfl rfl rfl (by decide +kernel)
set_option maxRecDepth 65536 in
theorem w_c17 : (Jvm.Cond.code ({ cls := "com/example/usher/usher/protocol/Stat", name := "mtime", desc := "()J" } : Jvm.MethodName) prog_60_method_6_code (1 : Nat) (Option.some Jvm.ClassFile.FieldType.long)).before args0 about1 = true := code_word (m := ⟨20, 3⟩) (meth := k20m3) (c := k20c3) (by decide +kernel) rfl rfl rfl (by decide +kernel)
set_option maxRecDepth 65536 in
theorem w_c18 : (Jvm.Cond.code ({ cls := "com/example/usher/usher/protocol/Stat", name := "version", desc := "()I" } : Jvm.MethodName) prog_60_method_7_code (1 : Nat) (Option.some Jvm.ClassFile.FieldType.int)).before args0 about1 = true := code_word (m := ⟨20, 4⟩) (meth := k20m4) (c := k20c4) (by decide +kernel) rfl rfl rfl (by decide +kernel)
set_option maxRecDepth 65536 in
theorem w_c19 : (Jvm.Cond.code ({ cls := "com/example/usher/usher/protocol/Stat", name := "dataLength", desc := "()I" } : Jvm.MethodName) prog_60_method_11_code (1 : Nat) (Option.some Jvm.ClassFile.FieldType.int)).before args0 about1 = true := code_word (m := ⟨20, 5⟩) (meth := k20m5) (c := k20c5) (by decide +kernel) rfl rfl rfl (by decide +kernel)
set_option maxRecDepth 65536 in
theorem w_c20 : (Jvm.Cond.code ({ cls := "com/example/usher/usher/protocol/Stat", name := "pzxid", desc := "()J" } : Jvm.MethodName) prog_60_method_13_code (1 : Nat) (Option.some Jvm.ClassFile.FieldType.long)).before args0 about1 = true := code_word (m := ⟨20, 6⟩) (meth := k20m6) (c := k20c6) (by decide +kernel) rfl rfl rfl (by decide +kernel)
set_option maxRecDepth 65536 in
theorem w_c21 : (Jvm.Cond.code ({ cls := "com/example/usher/usher/protocol/Stat", name := "ctime", desc := "()J" } : Jvm.MethodName) prog_60_method_5_code (1 : Nat) (Option.some Jvm.ClassFile.FieldType.long)).before args0 about1 = true := code_word (m := ⟨20, 2⟩) (meth := k20m2) (c := k20c2) (by decide +kernel) rfl rfl rfl (by decide +kernel)
def codes1 : List Jvm.Cond := [Jvm.Cond.code x code maxLocals ret, Jvm.Cond.code ({ cls := "java/util/ArrayList", name := "<init>", desc := "()V" } : Jvm.MethodName) jdk_38_method_2_code (1 : Nat) (Option.none : Option Jvm.ClassFile.FieldType), Jvm.Cond.code ({ cls := "java/util/AbstractList", name := "<init>", desc := "()V" } : Jvm.MethodName) jdk_39_method_1_code (1 : Nat) (Option.none : Option Jvm.ClassFile.FieldType), Jvm.Cond.code ({ cls := "java/util/AbstractCollection", name := "<init>", desc := "()V" } : Jvm.MethodName) jdk_22_method_1_code (1 : Nat) (Option.none : Option Jvm.ClassFile.FieldType), Jvm.Cond.code ({ cls := "java/lang/Object", name := "<init>", desc := "()V" } : Jvm.MethodName) object_method_1_code (1 : Nat) (Option.none : Option Jvm.ClassFile.FieldType), Jvm.Cond.code ({ cls := "com/example/usher/usher/core/Node", name := "<init>", desc := "([BLjava/util/List;JJJ)V" } : Jvm.MethodName) prog_19_method_1_code (9 : Nat) (Option.none : Option Jvm.ClassFile.FieldType), Jvm.Cond.code ({ cls := "java/util/HashSet", name := "<init>", desc := "()V" } : Jvm.MethodName) jdk_93_method_1_code (1 : Nat) (Option.none : Option Jvm.ClassFile.FieldType), Jvm.Cond.code ({ cls := "java/util/AbstractSet", name := "<init>", desc := "()V" } : Jvm.MethodName) jdk_91_method_1_code (1 : Nat) (Option.none : Option Jvm.ClassFile.FieldType), Jvm.Cond.code ({ cls := "java/util/HashMap", name := "<init>", desc := "()V" } : Jvm.MethodName) jdk_69_method_7_code (1 : Nat) (Option.none : Option Jvm.ClassFile.FieldType), Jvm.Cond.code ({ cls := "java/util/AbstractMap", name := "<init>", desc := "()V" } : Jvm.MethodName) jdk_71_method_1_code (1 : Nat) (Option.none : Option Jvm.ClassFile.FieldType), Jvm.Cond.code ({ cls := "com/example/usher/usher/core/Node", name := "setData", desc := "([BJJ)V" } : Jvm.MethodName) prog_19_method_7_code (6 : Nat) (Option.none : Option Jvm.ClassFile.FieldType), Jvm.Cond.code ({ cls := "com/example/usher/usher/core/Node", name := "stat", desc := "()Lcom/example/usher/usher/protocol/Stat;" } : Jvm.MethodName) prog_19_method_4_code (2 : Nat) (Option.some (Jvm.ClassFile.FieldType.object "com/example/usher/usher/protocol/Stat")), Jvm.Cond.code ({ cls := "java/util/HashSet", name := "size", desc := "()I" } : Jvm.MethodName) jdk_93_method_7_code (1 : Nat) (Option.some Jvm.ClassFile.FieldType.int), Jvm.Cond.code ({ cls := "java/util/HashMap", name := "size", desc := "()I" } : Jvm.MethodName) jdk_69_method_10_code (1 : Nat) (Option.some Jvm.ClassFile.FieldType.int), Jvm.Cond.code ({ cls := "com/example/usher/usher/protocol/Stat", name := "<init>", desc := "(JJJJIIIJIIJ)V" } : Jvm.MethodName) prog_60_method_1_code (18 : Nat) (Option.none : Option Jvm.ClassFile.FieldType), Jvm.Cond.code ({ cls := "com/example/usher/usher/core/Node", name := "data", desc := "()[B" } : Jvm.MethodName) prog_19_method_6_code (1 : Nat) (Option.some (Jvm.ClassFile.FieldType.array Jvm.ClassFile.FieldType.byte)), Jvm.Cond.code ({ cls := "com/example/usher/usher/protocol/Stat", name := "mzxid", desc := "()J" } : Jvm.MethodName) prog_60_method_4_code (1 : Nat) (Option.some Jvm.ClassFile.FieldType.long), Jvm.Cond.code ({ cls := "com/example/usher/usher/protocol/Stat", name := "mtime", desc := "()J" } : Jvm.MethodName) prog_60_method_6_code (1 : Nat) (Option.some Jvm.ClassFile.FieldType.long), Jvm.Cond.code ({ cls := "com/example/usher/usher/protocol/Stat", name := "version", desc := "()I" } : Jvm.MethodName) prog_60_method_7_code (1 : Nat) (Option.some Jvm.ClassFile.FieldType.int), Jvm.Cond.code ({ cls := "com/example/usher/usher/protocol/Stat", name := "dataLength", desc := "()I" } : Jvm.MethodName) prog_60_method_11_code (1 : Nat) (Option.some Jvm.ClassFile.FieldType.int), Jvm.Cond.code ({ cls := "com/example/usher/usher/protocol/Stat", name := "pzxid", desc := "()J" } : Jvm.MethodName) prog_60_method_13_code (1 : Nat) (Option.some Jvm.ClassFile.FieldType.long), Jvm.Cond.code ({ cls := "com/example/usher/usher/protocol/Stat", name := "ctime", desc := "()J" } : Jvm.MethodName) prog_60_method_5_code (1 : Nat) (Option.some Jvm.ClassFile.FieldType.long)]
set_option maxRecDepth 65536 in
theorem codes_eq : words1.filter isCode = codes1 := rfl
theorem w_codes : ∀ c ∈ words1.filter isCode, c.before args0 about1 = true := by
  rw [codes_eq]
  intro c hc
  simp only [codes1, List.mem_cons, List.not_mem_nil, or_false] at hc
  rcases hc with rfl | rfl | rfl | rfl | rfl | rfl | rfl | rfl | rfl | rfl | rfl | rfl | rfl | rfl | rfl | rfl | rfl | rfl | rfl | rfl | rfl | rfl
  · exact w_c0
  · exact w_c1
  · exact w_c2
  · exact w_c3
  · exact w_c4
  · exact w_c5
  · exact w_c6
  · exact w_c7
  · exact w_c8
  · exact w_c9
  · exact w_c10
  · exact w_c11
  · exact w_c12
  · exact w_c13
  · exact w_c14
  · exact w_c15
  · exact w_c16
  · exact w_c17
  · exact w_c18
  · exact w_c19
  · exact w_c20
  · exact w_c21
set_option maxRecDepth 65536 in
theorem w_t1 : (words1.take 24).all (fun c => isCode c || c.before args0 about1) = true := by decide +kernel
set_option maxRecDepth 65536 in
theorem w_t2 : ((words1.drop 24).take 24).all (fun c => isCode c || c.before args0 about1) = true := by decide +kernel
set_option maxRecDepth 65536 in
theorem w_t3 : (((words1.drop 24).drop 24).take 24).all (fun c => isCode c || c.before args0 about1) = true := by decide +kernel
set_option maxRecDepth 65536 in
theorem w_t4 : ((((words1.drop 24).drop 24).drop 24).take 24).all (fun c => isCode c || c.before args0 about1) = true := by decide +kernel
set_option maxRecDepth 65536 in
theorem w_t5 : (((((words1.drop 24).drop 24).drop 24).drop 24).take 24).all (fun c => isCode c || c.before args0 about1) = true := by decide +kernel
set_option maxRecDepth 65536 in
theorem w_t6 : ((((((words1.drop 24).drop 24).drop 24).drop 24).drop 24).take 24).all (fun c => isCode c || c.before args0 about1) = true := by decide +kernel
set_option maxRecDepth 65536 in
theorem w_t7 : (((((((words1.drop 24).drop 24).drop 24).drop 24).drop 24).drop 24).take 24).all (fun c => isCode c || c.before args0 about1) = true := by decide +kernel
set_option maxRecDepth 65536 in
theorem w_t8 : (((((((words1.drop 24).drop 24).drop 24).drop 24).drop 24).drop 24).drop 24).all (fun c => isCode c || c.before args0 about1) = true := by decide +kernel
theorem w_tables : (allAtoms (Jvm.Cond.code x code maxLocals ret :: tables_1)).before args0 about1 = true := by
  rw [allAtoms_all]
  show words1.all (fun c => c.before args0 about1) = true
  refine all_split ?_ w_codes
  rw [← List.take_append_drop 24 words1, List.all_append, w_t1, ← List.take_append_drop 24 (words1.drop 24), List.all_append, w_t2, ← List.take_append_drop 24 ((words1.drop 24).drop 24), List.all_append, w_t3, ← List.take_append_drop 24 (((words1.drop 24).drop 24).drop 24), List.all_append, w_t4, ← List.take_append_drop 24 ((((words1.drop 24).drop 24).drop 24).drop 24), List.all_append, w_t5, ← List.take_append_drop 24 (((((words1.drop 24).drop 24).drop 24).drop 24).drop 24), List.all_append, w_t6, ← List.take_append_drop 24 ((((((words1.drop 24).drop 24).drop 24).drop 24).drop 24).drop 24), List.all_append, w_t7, w_t8]
  rfl
set_option maxRecDepth 65536 in
theorem w_rest : rest_1_c.before args0 about1 = true := by decide +kernel
set_option maxRecDepth 65536 in
theorem w_case : (Jvm.Cond.and given_1 narrow_1).before args0 about1 = true := by decide +kernel
theorem w_applies : (headSpec (Jvm.Cond.code x code maxLocals ret :: tables_1) room_1).applies x e0.platform about1 = true :=
  (Spec.applies_iff w_frames).mpr ⟨w_running, w_runnable, w_alone, w_named, w_hears, w_ripe, w_room, w_tables⟩
theorem atStart : AtStart classFile x code maxLocals ret World_1 tables_1 room_1 Calls_1 rest_1 Pre_1 launch0 p0 e0 about1 theMethod args0 below0 :=
  ⟨lists_1, trivial, launch0.admits_env _ _ _, launch0.least_env, fairChoices_fair.cas, fairChoices_fair.clock, w_frames, w_args, w_heap, w_applies, trivial, w_rest, w_case⟩
end start1
theorem witness_1 : WitnessClaimed_1 := ⟨start1.p0, start1.e0, start1.about1, start1.theMethod, start1.args0, start1.below0, start1.atStart⟩
end Jvm.Pilot.@@N@@
