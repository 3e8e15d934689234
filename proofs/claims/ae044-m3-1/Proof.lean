import JvmDerived
import JvmDerived.Pilot.@@N@@Statement
import JvmDerived.Pilot.@@N@@Code
set_option linter.unusedVariables false
set_option linter.unusedSimpArgs false
namespace Jvm.RoadKit
open Sem ClassFile Op Lib Jvm.Stand Jvm.Free Jvm.LawKit
section New
variable {p : Program} {l : Launch} {e : Env} {R : Room} {s : State} {m : MethodId} {args : Array Value} {below : List Frame} {meth : Method} {c : Code} {T : State} {locs : List Loc} {cells slots : Nat}
theorem retI (X : Stand p l e R s m args below meth c T locs cells slots) (hx : p.tables.exec = Jvm.exec) {pc : Nat} {Ls : Array Slot} {z : Int32} {rest : List Value} (hret : meth.sig.returnType = some .int) (hd : decode c.code pc = .ok (.ireturn, 1)) {fs : List Frame}
    (hl : ∀ (f : JFrame) (acts : List Action), f.method = m → f.locked = none → f.entered = [] → (doReturn e (T.setTop f) acts (some (.int z))).1 = T.setFrames fs) : Steps p.tables e below (T.setTop (mkF m pc Ls (.int z :: rest))) (T.setFrames fs) := by
  have hm' : T.vm.method? m = some meth := X.method'
  have hn : narrow .int (.int z) = .int z := rfl
  show Steps p.tables e below (T.setTop { method := m, pc := pc, locals := Ls, stack := _ :: rest, locked := none }) _
  jvm_step X.here [X.here.top, hx, hd, hm', hret, hn]
  first | (intro acts; rw [hl _ acts rfl rfl rfl]) | rw [hl _ _ rfl rfl rfl]
  exact Steps.refl _
end New
end Jvm.RoadKit
namespace Jvm.Pilot.@@N@@
open Jvm Jvm.ClassFile Sem Op Lib Jvm.Free Jvm.Stand Jvm.LawKit Jvm.RoadKit Bundle Jvm.Pilot.@@N@@.Jvm.D
theorem own_more {p : Program} {l : Launch} {e : Env} {R : Room} {s : State} {m : MethodId} {args : Array Value} {below : List Frame} {meth : Method} {c : Code} {T : State} {locs : List Loc} {k n k' n' : Nat} (X : Stand p l e R s m args below meth c T locs k n) (hk : k ≤ k') (hn : n ≤ n') : Stand p l e R s m args below meth c T locs k' n' := { X with same := X.same.mono hk hn }
theorem own_nar {t : FieldType} {v : Value} (h : v.isRef = true) (ht : t.isReference = true := by rfl) : narrow t v = v := by
  rcases ref_cases h with rfl | ⟨a, rfl⟩ <;> cases t <;> first | rfl | (cases ht; done)
theorem own_fit {t : FieldType} {v : Value} (h : v.isRef = true) (ht : t.isReference = true := by rfl) : fits t v = true := by
  rcases ref_cases h with rfl | ⟨a, rfl⟩ <;> cases t <;> first | rfl | (cases ht; done)
theorem own_ifc {P Q : Prop} [Decidable P] [Decidable Q] {α : Type} {a b c d : α} (h : P ↔ Q) (h1 : a = c) (h2 : b = d) : (if P then a else b) = (if Q then c else d) := by
  subst h1 h2; by_cases q : Q
  · rw [if_pos q, if_pos (h.mpr q)]
  · rw [if_neg q, if_neg (fun p => q (h.mp p))]
theorem own_selp {Z s : State} {a0 args : Array Value} {y : MethodName} {n : Nat} (hZ : Z.Warmed39 s.vm) (wi : (Cond.instantiable y.cls n).before a0 Z = true) (wm : (Cond.instanceMethod y).before a0 Z = true) (wp : (Cond.privateMethod y).before a0 Z = true) (hy : y.cls ≠ "java/lang/invoke/MethodHandle" ∧ y.cls ≠ "java/lang/invoke/VarHandle") : (Cond.selects y.cls y y).before args s = true := by
  obtain ⟨c, k, h1, h2, -, h4, -⟩ := Cond.instantiable_spec (show (Cond.instantiable y.cls n).before args s = true from mvT hZ wi)
  exact selects_self_of_private h1 h2 (Bool.or_eq_false_iff.mp h4).1 (Cond.privateMethod_at (mvP hZ wp (args := #[]))) (mvT hZ wm) hy
theorem own_cat {v : Value} (h : v.isRef = true) : v.category = 1 := by rcases ref_cases h with rfl | ⟨a, rfl⟩ <;> rfl
abbrev lv (x : Int64) : Slot := .val (.long x)
abbrev sd : Slot := .second
abbrev un : Slot := .unset
abbrev Rch (p : Program) (e : Env) (below : List Frame) (A B : State) : Prop := ∀ t, Steps p.tables e below B t → Steps p.tables e below A t
def own_rec (rb e : Int32) : Int32 := (e &&& (((1 : Int32) <<< (rb &&& 31)) - (1 : Int32)))
def own_ent (rb r t : Int32) : Int32 := ((((t.toUInt32 >>> ((8 : Int32) &&& 31).toUInt32).toInt32) <<< (rb &&& 31)) ||| r)
def own_wid (rb nb e : Int32) : Int32 := ((((e.toUInt32 >>> (rb &&& 31).toUInt32).toInt32) <<< (nb &&& 31)) ||| (e &&& (((1 : Int32) <<< (rb &&& 31)) - (1 : Int32))))

theorem d1_0 : decode prog_4_method_1_code 0 = .ok (.aload_n 0, 1) := by decide +kernel
theorem d1_1 : decode prog_4_method_1_code 1 = .ok (.invokespecial 1, 3) := by decide +kernel
theorem d1_4 : decode prog_4_method_1_code 4 = .ok (.aload_n 0, 1) := by decide +kernel
theorem d1_5 : decode prog_4_method_1_code 5 = .ok (.bipush 16, 2) := by decide +kernel
theorem d1_7 : decode prog_4_method_1_code 7 = .ok (.putfield 9, 3) := by decide +kernel
theorem d1_10 : decode prog_4_method_1_code 10 = .ok (.aload_n 0, 1) := by decide +kernel
theorem d1_11 : decode prog_4_method_1_code 11 = .ok (.iload_n 2, 1) := by decide +kernel
theorem d1_12 : decode prog_4_method_1_code 12 = .ok (.bipush 64, 2) := by decide +kernel
theorem d1_14 : decode prog_4_method_1_code 14 = .ok (.if_icmp .ne 9, 3) := by decide +kernel
theorem d1_23 : decode prog_4_method_1_code 23 = .ok (.lconst 1, 1) := by decide +kernel
theorem d1_24 : decode prog_4_method_1_code 24 = .ok (.iload_n 2, 1) := by decide +kernel
theorem d1_25 : decode prog_4_method_1_code 25 = .ok (.lshl, 1) := by decide +kernel
theorem d1_26 : decode prog_4_method_1_code 26 = .ok (.lconst 1, 1) := by decide +kernel
theorem d1_27 : decode prog_4_method_1_code 27 = .ok (.lsub, 1) := by decide +kernel
theorem d1_28 : decode prog_4_method_1_code 28 = .ok (.iload_n 1, 1) := by decide +kernel
theorem d1_29 : decode prog_4_method_1_code 29 = .ok (.lshl, 1) := by decide +kernel
theorem d1_30 : decode prog_4_method_1_code 30 = .ok (.putfield 17, 3) := by decide +kernel
theorem d1_17 : decode prog_4_method_1_code 17 = .ok (.ldc2_w 15, 3) := by decide +kernel
theorem d1_20 : decode prog_4_method_1_code 20 = .ok (.goto 10, 3) := by decide +kernel
theorem d1_33 : decode prog_4_method_1_code 33 = .ok (.aload_n 0, 1) := by decide +kernel
theorem d1_34 : decode prog_4_method_1_code 34 = .ok (.iload_n 1, 1) := by decide +kernel
theorem d1_35 : decode prog_4_method_1_code 35 = .ok (.putfield 21, 3) := by decide +kernel
theorem d1_38 : decode prog_4_method_1_code 38 = .ok (.aload_n 0, 1) := by decide +kernel
theorem d1_39 : decode prog_4_method_1_code 39 = .ok (.iload_n 2, 1) := by decide +kernel
theorem d1_40 : decode prog_4_method_1_code 40 = .ok (.putfield 24, 3) := by decide +kernel
theorem d1_43 : decode prog_4_method_1_code 43 = .ok (.aload_n 0, 1) := by decide +kernel
theorem d1_44 : decode prog_4_method_1_code 44 = .ok (.iconst 1, 1) := by decide +kernel
theorem d1_45 : decode prog_4_method_1_code 45 = .ok (.newarray .int, 2) := by decide +kernel
theorem d1_47 : decode prog_4_method_1_code 47 = .ok (.putfield 27, 3) := by decide +kernel
theorem d1_50 : decode prog_4_method_1_code 50 = .ok (.aload_n 0, 1) := by decide +kernel
theorem d1_51 : decode prog_4_method_1_code 51 = .ok (.iconst 1, 1) := by decide +kernel
theorem d1_52 : decode prog_4_method_1_code 52 = .ok (.newarray .int, 2) := by decide +kernel
theorem d1_54 : decode prog_4_method_1_code 54 = .ok (.putfield 31, 3) := by decide +kernel
theorem d1_57 : decode prog_4_method_1_code 57 = .ok (.aload_n 0, 1) := by decide +kernel
theorem d1_58 : decode prog_4_method_1_code 58 = .ok (.iconst 1, 1) := by decide +kernel
theorem d1_59 : decode prog_4_method_1_code 59 = .ok (.newarray .int, 2) := by decide +kernel
theorem d1_61 : decode prog_4_method_1_code 61 = .ok (.putfield 34, 3) := by decide +kernel
theorem d1_64 : decode prog_4_method_1_code 64 = .ok (.aload_n 0, 1) := by decide +kernel
theorem d1_65 : decode prog_4_method_1_code 65 = .ok (.iconst 4, 1) := by decide +kernel
theorem d1_66 : decode prog_4_method_1_code 66 = .ok (.newarray .int, 2) := by decide +kernel
theorem d1_68 : decode prog_4_method_1_code 68 = .ok (.putfield 37, 3) := by decide +kernel
theorem d1_71 : decode prog_4_method_1_code 71 = .ok (.aload_n 0, 1) := by decide +kernel
theorem d1_72 : decode prog_4_method_1_code 72 = .ok (.iconst 4, 1) := by decide +kernel
theorem d1_73 : decode prog_4_method_1_code 73 = .ok (.newarray .byte, 2) := by decide +kernel
theorem d1_75 : decode prog_4_method_1_code 75 = .ok (.putfield 40, 3) := by decide +kernel
theorem d1_78 : decode prog_4_method_1_code 78 = .ok (.return_, 1) := by decide +kernel
theorem pn_0 : plainName "com/example/kinhash/kinhash/BlockTable" = true := by first | (simp [plainName, overriddenIn]; done) | decide +kernel
theorem d7_0 : decode jdk_29_method_65_code 0 = .ok (.iload_n 0, 1) := by decide +kernel
theorem d7_1 : decode jdk_29_method_65_code 1 = .ok (.iload_n 1, 1) := by decide +kernel
theorem d7_2 : decode jdk_29_method_65_code 2 = .ok (.if_icmp .lt 7, 3) := by decide +kernel
theorem d7_9 : decode jdk_29_method_65_code 9 = .ok (.iload_n 1, 1) := by decide +kernel
theorem d7_5 : decode jdk_29_method_65_code 5 = .ok (.iload_n 0, 1) := by decide +kernel
theorem d7_6 : decode jdk_29_method_65_code 6 = .ok (.goto 4, 3) := by decide +kernel
theorem d7_10 : decode jdk_29_method_65_code 10 = .ok (.ireturn, 1) := by decide +kernel
theorem d11_0 : decode jdk_35_method_52_code 0 = .ok (.lload_n 0, 1) := by decide +kernel
theorem d11_1 : decode jdk_35_method_52_code 1 = .ok (.iload_n 2, 1) := by decide +kernel
theorem d11_2 : decode jdk_35_method_52_code 2 = .ok (.lushr, 1) := by decide +kernel
theorem d11_3 : decode jdk_35_method_52_code 3 = .ok (.lload_n 0, 1) := by decide +kernel
theorem d11_4 : decode jdk_35_method_52_code 4 = .ok (.iload_n 2, 1) := by decide +kernel
theorem d11_5 : decode jdk_35_method_52_code 5 = .ok (.ineg, 1) := by decide +kernel
theorem d11_6 : decode jdk_35_method_52_code 6 = .ok (.lshl, 1) := by decide +kernel
theorem d11_7 : decode jdk_35_method_52_code 7 = .ok (.lor, 1) := by decide +kernel
theorem d11_8 : decode jdk_35_method_52_code 8 = .ok (.lreturn, 1) := by decide +kernel
theorem pn_1 : plainName "java/lang/Long" = true := by first | (simp [plainName, overriddenIn]; done) | decide +kernel
theorem d15_0 : decode jdk_33_method_47_code 0 = .ok (.iload_n 0, 1) := by decide +kernel
theorem d15_1 : decode jdk_33_method_47_code 1 = .ok (.ifCond .gt 14, 3) := by decide +kernel
theorem d15_15 : decode jdk_33_method_47_code 15 = .ok (.bipush 31, 2) := by decide +kernel
theorem d15_17 : decode jdk_33_method_47_code 17 = .ok (.istore_n 1, 1) := by decide +kernel
theorem d15_18 : decode jdk_33_method_47_code 18 = .ok (.iload_n 0, 1) := by decide +kernel
theorem d15_19 : decode jdk_33_method_47_code 19 = .ok (.ldc_w 264, 3) := by decide +kernel
theorem d15_22 : decode jdk_33_method_47_code 22 = .ok (.if_icmp .lt 11, 3) := by decide +kernel
theorem d15_33 : decode jdk_33_method_47_code 33 = .ok (.iload_n 0, 1) := by decide +kernel
theorem d15_34 : decode jdk_33_method_47_code 34 = .ok (.sipush 256, 3) := by decide +kernel
theorem d15_37 : decode jdk_33_method_47_code 37 = .ok (.if_icmp .lt 11, 3) := by decide +kernel
theorem d15_48 : decode jdk_33_method_47_code 48 = .ok (.iload_n 0, 1) := by decide +kernel
theorem d15_49 : decode jdk_33_method_47_code 49 = .ok (.bipush 16, 2) := by decide +kernel
theorem d15_51 : decode jdk_33_method_47_code 51 = .ok (.if_icmp .lt 10, 3) := by decide +kernel
theorem d15_61 : decode jdk_33_method_47_code 61 = .ok (.iload_n 0, 1) := by decide +kernel
theorem d15_62 : decode jdk_33_method_47_code 62 = .ok (.iconst 4, 1) := by decide +kernel
theorem d15_63 : decode jdk_33_method_47_code 63 = .ok (.if_icmp .lt 10, 3) := by decide +kernel
theorem d15_73 : decode jdk_33_method_47_code 73 = .ok (.iload_n 1, 1) := by decide +kernel
theorem d15_74 : decode jdk_33_method_47_code 74 = .ok (.iload_n 0, 1) := by decide +kernel
theorem d15_75 : decode jdk_33_method_47_code 75 = .ok (.iconst 1, 1) := by decide +kernel
theorem d15_76 : decode jdk_33_method_47_code 76 = .ok (.iushr, 1) := by decide +kernel
theorem d15_77 : decode jdk_33_method_47_code 77 = .ok (.isub, 1) := by decide +kernel
theorem d15_66 : decode jdk_33_method_47_code 66 = .ok (.iinc 1 (-2), 3) := by decide +kernel
theorem d15_69 : decode jdk_33_method_47_code 69 = .ok (.iload_n 0, 1) := by decide +kernel
theorem d15_70 : decode jdk_33_method_47_code 70 = .ok (.iconst 2, 1) := by decide +kernel
theorem d15_71 : decode jdk_33_method_47_code 71 = .ok (.iushr, 1) := by decide +kernel
theorem d15_72 : decode jdk_33_method_47_code 72 = .ok (.istore_n 0, 1) := by decide +kernel
theorem d15_54 : decode jdk_33_method_47_code 54 = .ok (.iinc 1 (-4), 3) := by decide +kernel
theorem d15_57 : decode jdk_33_method_47_code 57 = .ok (.iload_n 0, 1) := by decide +kernel
theorem d15_58 : decode jdk_33_method_47_code 58 = .ok (.iconst 4, 1) := by decide +kernel
theorem d15_59 : decode jdk_33_method_47_code 59 = .ok (.iushr, 1) := by decide +kernel
theorem d15_60 : decode jdk_33_method_47_code 60 = .ok (.istore_n 0, 1) := by decide +kernel
theorem d15_40 : decode jdk_33_method_47_code 40 = .ok (.iinc 1 (-8), 3) := by decide +kernel
theorem d15_43 : decode jdk_33_method_47_code 43 = .ok (.iload_n 0, 1) := by decide +kernel
theorem d15_44 : decode jdk_33_method_47_code 44 = .ok (.bipush 8, 2) := by decide +kernel
theorem d15_46 : decode jdk_33_method_47_code 46 = .ok (.iushr, 1) := by decide +kernel
theorem d15_47 : decode jdk_33_method_47_code 47 = .ok (.istore_n 0, 1) := by decide +kernel
theorem d15_25 : decode jdk_33_method_47_code 25 = .ok (.iinc 1 (-16), 3) := by decide +kernel
theorem d15_28 : decode jdk_33_method_47_code 28 = .ok (.iload_n 0, 1) := by decide +kernel
theorem d15_29 : decode jdk_33_method_47_code 29 = .ok (.bipush 16, 2) := by decide +kernel
theorem d15_31 : decode jdk_33_method_47_code 31 = .ok (.iushr, 1) := by decide +kernel
theorem d15_32 : decode jdk_33_method_47_code 32 = .ok (.istore_n 0, 1) := by decide +kernel
theorem d15_4 : decode jdk_33_method_47_code 4 = .ok (.iload_n 0, 1) := by decide +kernel
theorem d15_5 : decode jdk_33_method_47_code 5 = .ok (.ifCond .ne 8, 3) := by decide +kernel
theorem d15_13 : decode jdk_33_method_47_code 13 = .ok (.iconst 0, 1) := by decide +kernel
theorem d15_8 : decode jdk_33_method_47_code 8 = .ok (.bipush 32, 2) := by decide +kernel
theorem d15_10 : decode jdk_33_method_47_code 10 = .ok (.goto 4, 3) := by decide +kernel
theorem d15_78 : decode jdk_33_method_47_code 78 = .ok (.ireturn, 1) := by decide +kernel
theorem d15_14 : decode jdk_33_method_47_code 14 = .ok (.ireturn, 1) := by decide +kernel
theorem pn_2 : plainName "java/lang/Integer" = true := by first | (simp [plainName, overriddenIn]; done) | decide +kernel
theorem d5_0 : decode prog_4_method_16_code 0 = .ok (.lload_n 1, 1) := by decide +kernel
theorem d5_1 : decode prog_4_method_16_code 1 = .ok (.aload_n 0, 1) := by decide +kernel
theorem d5_2 : decode prog_4_method_16_code 2 = .ok (.getfield 17, 3) := by decide +kernel
theorem d5_5 : decode prog_4_method_16_code 5 = .ok (.land, 1) := by decide +kernel
theorem d5_6 : decode prog_4_method_16_code 6 = .ok (.aload_n 0, 1) := by decide +kernel
theorem d5_7 : decode prog_4_method_16_code 7 = .ok (.getfield 21, 3) := by decide +kernel
theorem d5_10 : decode prog_4_method_16_code 10 = .ok (.lushr, 1) := by decide +kernel
theorem d5_11 : decode prog_4_method_16_code 11 = .ok (.lconst 1, 1) := by decide +kernel
theorem d5_12 : decode prog_4_method_16_code 12 = .ok (.iload_n 3, 1) := by decide +kernel
theorem d5_13 : decode prog_4_method_16_code 13 = .ok (.lshl, 1) := by decide +kernel
theorem d5_14 : decode prog_4_method_16_code 14 = .ok (.lconst 1, 1) := by decide +kernel
theorem d5_15 : decode prog_4_method_16_code 15 = .ok (.lsub, 1) := by decide +kernel
theorem d5_16 : decode prog_4_method_16_code 16 = .ok (.land, 1) := by decide +kernel
theorem d5_17 : decode prog_4_method_16_code 17 = .ok (.l2i, 1) := by decide +kernel
theorem d5_18 : decode prog_4_method_16_code 18 = .ok (.ireturn, 1) := by decide +kernel
theorem d4_0 : decode prog_4_method_3_code 0 = .ok (.aload_n 0, 1) := by decide +kernel
theorem d4_1 : decode prog_4_method_3_code 1 = .ok (.lload_n 1, 1) := by decide +kernel
theorem d4_2 : decode prog_4_method_3_code 2 = .ok (.aload_n 0, 1) := by decide +kernel
theorem d4_3 : decode prog_4_method_3_code 3 = .ok (.getfield 44, 3) := by decide +kernel
theorem d4_6 : decode prog_4_method_3_code 6 = .ok (.invokevirtual 47, 3) := by decide +kernel
theorem d4_9 : decode prog_4_method_3_code 9 = .ok (.ireturn, 1) := by decide +kernel
theorem d10_0 : decode prog_4_method_17_code 0 = .ok (.bipush 40, 2) := by decide +kernel
theorem d10_2 : decode prog_4_method_17_code 2 = .ok (.aload_n 0, 1) := by decide +kernel
theorem d10_3 : decode prog_4_method_17_code 3 = .ok (.getfield 9, 3) := by decide +kernel
theorem d10_6 : decode prog_4_method_17_code 6 = .ok (.isub, 1) := by decide +kernel
theorem d10_7 : decode prog_4_method_17_code 7 = .ok (.istore 4, 2) := by decide +kernel
theorem d10_9 : decode prog_4_method_17_code 9 = .ok (.lload_n 1, 1) := by decide +kernel
theorem d10_10 : decode prog_4_method_17_code 10 = .ok (.aload_n 0, 1) := by decide +kernel
theorem d10_11 : decode prog_4_method_17_code 11 = .ok (.getfield 21, 3) := by decide +kernel
theorem d10_14 : decode prog_4_method_17_code 14 = .ok (.iload_n 3, 1) := by decide +kernel
theorem d10_15 : decode prog_4_method_17_code 15 = .ok (.iadd, 1) := by decide +kernel
theorem d10_16 : decode prog_4_method_17_code 16 = .ok (.invokestatic 136, 3) := by decide +kernel
theorem d10_19 : decode prog_4_method_17_code 19 = .ok (.l2i, 1) := by decide +kernel
theorem d10_20 : decode prog_4_method_17_code 20 = .ok (.iconst 1, 1) := by decide +kernel
theorem d10_21 : decode prog_4_method_17_code 21 = .ok (.iload 4, 2) := by decide +kernel
theorem d10_23 : decode prog_4_method_17_code 23 = .ok (.ishl, 1) := by decide +kernel
theorem d10_24 : decode prog_4_method_17_code 24 = .ok (.iconst 1, 1) := by decide +kernel
theorem d10_25 : decode prog_4_method_17_code 25 = .ok (.isub, 1) := by decide +kernel
theorem d10_26 : decode prog_4_method_17_code 26 = .ok (.iand, 1) := by decide +kernel
theorem d10_27 : decode prog_4_method_17_code 27 = .ok (.ireturn, 1) := by decide +kernel
theorem d9_0 : decode prog_4_method_4_code 0 = .ok (.aload_n 0, 1) := by decide +kernel
theorem d9_1 : decode prog_4_method_4_code 1 = .ok (.lload_n 1, 1) := by decide +kernel
theorem d9_2 : decode prog_4_method_4_code 2 = .ok (.aload_n 0, 1) := by decide +kernel
theorem d9_3 : decode prog_4_method_4_code 3 = .ok (.getfield 44, 3) := by decide +kernel
theorem d9_6 : decode prog_4_method_4_code 6 = .ok (.invokevirtual 51, 3) := by decide +kernel
theorem d9_9 : decode prog_4_method_4_code 9 = .ok (.ireturn, 1) := by decide +kernel
theorem d8_0 : decode prog_4_method_6_code 0 = .ok (.aload_n 0, 1) := by decide +kernel
theorem d8_1 : decode prog_4_method_6_code 1 = .ok (.getfield 27, 3) := by decide +kernel
theorem d8_4 : decode prog_4_method_6_code 4 = .ok (.iload_n 1, 1) := by decide +kernel
theorem d8_5 : decode prog_4_method_6_code 5 = .ok (.iaload, 1) := by decide +kernel
theorem d8_6 : decode prog_4_method_6_code 6 = .ok (.aload_n 0, 1) := by decide +kernel
theorem d8_7 : decode prog_4_method_6_code 7 = .ok (.getfield 31, 3) := by decide +kernel
theorem d8_10 : decode prog_4_method_6_code 10 = .ok (.iload_n 1, 1) := by decide +kernel
theorem d8_11 : decode prog_4_method_6_code 11 = .ok (.iaload, 1) := by decide +kernel
theorem d8_12 : decode prog_4_method_6_code 12 = .ok (.iadd, 1) := by decide +kernel
theorem d8_13 : decode prog_4_method_6_code 13 = .ok (.ireturn, 1) := by decide +kernel
theorem d13_0 : decode prog_4_method_5_code 0 = .ok (.aload_n 0, 1) := by decide +kernel
theorem d13_1 : decode prog_4_method_5_code 1 = .ok (.getfield 27, 3) := by decide +kernel
theorem d13_4 : decode prog_4_method_5_code 4 = .ok (.iload_n 1, 1) := by decide +kernel
theorem d13_5 : decode prog_4_method_5_code 5 = .ok (.iaload, 1) := by decide +kernel
theorem d13_6 : decode prog_4_method_5_code 6 = .ok (.ireturn, 1) := by decide +kernel
theorem d14_0 : decode prog_4_method_7_code 0 = .ok (.aload_n 0, 1) := by decide +kernel
theorem d14_1 : decode prog_4_method_7_code 1 = .ok (.getfield 37, 3) := by decide +kernel
theorem d14_4 : decode prog_4_method_7_code 4 = .ok (.iload_n 1, 1) := by decide +kernel
theorem d14_5 : decode prog_4_method_7_code 5 = .ok (.iaload, 1) := by decide +kernel
theorem d14_6 : decode prog_4_method_7_code 6 = .ok (.iconst 1, 1) := by decide +kernel
theorem d14_7 : decode prog_4_method_7_code 7 = .ok (.aload_n 0, 1) := by decide +kernel
theorem d14_8 : decode prog_4_method_7_code 8 = .ok (.getfield 9, 3) := by decide +kernel
theorem d14_11 : decode prog_4_method_7_code 11 = .ok (.ishl, 1) := by decide +kernel
theorem d14_12 : decode prog_4_method_7_code 12 = .ok (.iconst 1, 1) := by decide +kernel
theorem d14_13 : decode prog_4_method_7_code 13 = .ok (.isub, 1) := by decide +kernel
theorem d14_14 : decode prog_4_method_7_code 14 = .ok (.iand, 1) := by decide +kernel
theorem d14_15 : decode prog_4_method_7_code 15 = .ok (.ireturn, 1) := by decide +kernel
theorem d12_0 : decode prog_4_method_15_code 0 = .ok (.aload 4, 2) := by decide +kernel
theorem d12_2 : decode prog_4_method_15_code 2 = .ok (.iload_n 1, 1) := by decide +kernel
theorem d12_3 : decode prog_4_method_15_code 3 = .ok (.iload_n 3, 1) := by decide +kernel
theorem d12_4 : decode prog_4_method_15_code 4 = .ok (.bipush 8, 2) := by decide +kernel
theorem d12_6 : decode prog_4_method_15_code 6 = .ok (.iushr, 1) := by decide +kernel
theorem d12_7 : decode prog_4_method_15_code 7 = .ok (.aload_n 0, 1) := by decide +kernel
theorem d12_8 : decode prog_4_method_15_code 8 = .ok (.getfield 9, 3) := by decide +kernel
theorem d12_11 : decode prog_4_method_15_code 11 = .ok (.ishl, 1) := by decide +kernel
theorem d12_12 : decode prog_4_method_15_code 12 = .ok (.iload_n 2, 1) := by decide +kernel
theorem d12_13 : decode prog_4_method_15_code 13 = .ok (.ior, 1) := by decide +kernel
theorem d12_14 : decode prog_4_method_15_code 14 = .ok (.iastore, 1) := by decide +kernel
theorem d12_15 : decode prog_4_method_15_code 15 = .ok (.aload 5, 2) := by decide +kernel
theorem d12_17 : decode prog_4_method_15_code 17 = .ok (.iload_n 1, 1) := by decide +kernel
theorem d12_18 : decode prog_4_method_15_code 18 = .ok (.iload_n 3, 1) := by decide +kernel
theorem d12_19 : decode prog_4_method_15_code 19 = .ok (.i2b, 1) := by decide +kernel
theorem d12_20 : decode prog_4_method_15_code 20 = .ok (.bastore, 1) := by decide +kernel
theorem d12_21 : decode prog_4_method_15_code 21 = .ok (.return_, 1) := by decide +kernel
theorem d6_0 : decode prog_4_method_12_code 0 = .ok (.aload_n 0, 1) := by decide +kernel
theorem d6_1 : decode prog_4_method_12_code 1 = .ok (.getfield 31, 3) := by decide +kernel
theorem d6_4 : decode prog_4_method_12_code 4 = .ok (.iload_n 1, 1) := by decide +kernel
theorem d6_5 : decode prog_4_method_12_code 5 = .ok (.iaload, 1) := by decide +kernel
theorem d6_6 : decode prog_4_method_12_code 6 = .ok (.istore_n 2, 1) := by decide +kernel
theorem d6_7 : decode prog_4_method_12_code 7 = .ok (.iload_n 2, 1) := by decide +kernel
theorem d6_8 : decode prog_4_method_12_code 8 = .ok (.iconst 4, 1) := by decide +kernel
theorem d6_9 : decode prog_4_method_12_code 9 = .ok (.iload_n 2, 1) := by decide +kernel
theorem d6_10 : decode prog_4_method_12_code 10 = .ok (.iconst 2, 1) := by decide +kernel
theorem d6_11 : decode prog_4_method_12_code 11 = .ok (.idiv, 1) := by decide +kernel
theorem d6_12 : decode prog_4_method_12_code 12 = .ok (.invokestatic 101, 3) := by decide +kernel
theorem d6_15 : decode prog_4_method_12_code 15 = .ok (.iadd, 1) := by decide +kernel
theorem d6_16 : decode prog_4_method_12_code 16 = .ok (.istore_n 3, 1) := by decide +kernel
theorem d6_17 : decode prog_4_method_12_code 17 = .ok (.iload_n 3, 1) := by decide +kernel
theorem d6_18 : decode prog_4_method_12_code 18 = .ok (.aload_n 0, 1) := by decide +kernel
theorem d6_19 : decode prog_4_method_12_code 19 = .ok (.getfield 37, 3) := by decide +kernel
theorem d6_22 : decode prog_4_method_12_code 22 = .ok (.arraylength, 1) := by decide +kernel
theorem d6_23 : decode prog_4_method_12_code 23 = .ok (.aload_n 0, 1) := by decide +kernel
theorem d6_24 : decode prog_4_method_12_code 24 = .ok (.getfield 107, 3) := by decide +kernel
theorem d6_27 : decode prog_4_method_12_code 27 = .ok (.isub, 1) := by decide +kernel
theorem d6_28 : decode prog_4_method_12_code 28 = .ok (.if_icmp .le 5, 3) := by decide +kernel
theorem d6_33 : decode prog_4_method_12_code 33 = .ok (.aload_n 0, 1) := by decide +kernel
theorem d6_34 : decode prog_4_method_12_code 34 = .ok (.getfield 37, 3) := by decide +kernel
theorem d6_37 : decode prog_4_method_12_code 37 = .ok (.aload_n 0, 1) := by decide +kernel
theorem d6_38 : decode prog_4_method_12_code 38 = .ok (.getfield 27, 3) := by decide +kernel
theorem d6_41 : decode prog_4_method_12_code 41 = .ok (.iload_n 1, 1) := by decide +kernel
theorem d6_42 : decode prog_4_method_12_code 42 = .ok (.iaload, 1) := by decide +kernel
theorem d6_43 : decode prog_4_method_12_code 43 = .ok (.aload_n 0, 1) := by decide +kernel
theorem d6_44 : decode prog_4_method_12_code 44 = .ok (.getfield 37, 3) := by decide +kernel
theorem d6_47 : decode prog_4_method_12_code 47 = .ok (.aload_n 0, 1) := by decide +kernel
theorem d6_48 : decode prog_4_method_12_code 48 = .ok (.getfield 107, 3) := by decide +kernel
theorem d6_51 : decode prog_4_method_12_code 51 = .ok (.iload_n 2, 1) := by decide +kernel
theorem d6_52 : decode prog_4_method_12_code 52 = .ok (.invokestatic 110, 3) := by decide +kernel
theorem d6_55 : decode prog_4_method_12_code 55 = .ok (.aload_n 0, 1) := by decide +kernel
theorem d6_56 : decode prog_4_method_12_code 56 = .ok (.getfield 40, 3) := by decide +kernel
theorem d6_59 : decode prog_4_method_12_code 59 = .ok (.aload_n 0, 1) := by decide +kernel
theorem d6_60 : decode prog_4_method_12_code 60 = .ok (.getfield 27, 3) := by decide +kernel
theorem d6_63 : decode prog_4_method_12_code 63 = .ok (.iload_n 1, 1) := by decide +kernel
theorem d6_64 : decode prog_4_method_12_code 64 = .ok (.iaload, 1) := by decide +kernel
theorem d6_65 : decode prog_4_method_12_code 65 = .ok (.aload_n 0, 1) := by decide +kernel
theorem d6_66 : decode prog_4_method_12_code 66 = .ok (.getfield 40, 3) := by decide +kernel
theorem d6_69 : decode prog_4_method_12_code 69 = .ok (.aload_n 0, 1) := by decide +kernel
theorem d6_70 : decode prog_4_method_12_code 70 = .ok (.getfield 107, 3) := by decide +kernel
theorem d6_73 : decode prog_4_method_12_code 73 = .ok (.iload_n 2, 1) := by decide +kernel
theorem d6_74 : decode prog_4_method_12_code 74 = .ok (.invokestatic 110, 3) := by decide +kernel
theorem d6_77 : decode prog_4_method_12_code 77 = .ok (.aload_n 0, 1) := by decide +kernel
theorem d6_78 : decode prog_4_method_12_code 78 = .ok (.getfield 27, 3) := by decide +kernel
theorem d6_81 : decode prog_4_method_12_code 81 = .ok (.iload_n 1, 1) := by decide +kernel
theorem d6_82 : decode prog_4_method_12_code 82 = .ok (.aload_n 0, 1) := by decide +kernel
theorem d6_83 : decode prog_4_method_12_code 83 = .ok (.getfield 107, 3) := by decide +kernel
theorem d6_86 : decode prog_4_method_12_code 86 = .ok (.iastore, 1) := by decide +kernel
theorem d6_87 : decode prog_4_method_12_code 87 = .ok (.aload_n 0, 1) := by decide +kernel
theorem d6_88 : decode prog_4_method_12_code 88 = .ok (.getfield 34, 3) := by decide +kernel
theorem d6_91 : decode prog_4_method_12_code 91 = .ok (.iload_n 1, 1) := by decide +kernel
theorem d6_92 : decode prog_4_method_12_code 92 = .ok (.iload_n 3, 1) := by decide +kernel
theorem d6_93 : decode prog_4_method_12_code 93 = .ok (.iastore, 1) := by decide +kernel
theorem d6_94 : decode prog_4_method_12_code 94 = .ok (.aload_n 0, 1) := by decide +kernel
theorem d6_95 : decode prog_4_method_12_code 95 = .ok (.dup, 1) := by decide +kernel
theorem d6_96 : decode prog_4_method_12_code 96 = .ok (.getfield 107, 3) := by decide +kernel
theorem d6_99 : decode prog_4_method_12_code 99 = .ok (.iload_n 3, 1) := by decide +kernel
theorem d6_100 : decode prog_4_method_12_code 100 = .ok (.iadd, 1) := by decide +kernel
theorem d6_101 : decode prog_4_method_12_code 101 = .ok (.putfield 107, 3) := by decide +kernel
theorem d6_104 : decode prog_4_method_12_code 104 = .ok (.iconst 1, 1) := by decide +kernel
theorem d6_105 : decode prog_4_method_12_code 105 = .ok (.ireturn, 1) := by decide +kernel
theorem d16_0 : decode prog_4_method_11_code 0 = .ok (.iconst 1, 1) := by decide +kernel
theorem d16_1 : decode prog_4_method_11_code 1 = .ok (.aload_n 0, 1) := by decide +kernel
theorem d16_2 : decode prog_4_method_11_code 2 = .ok (.getfield 9, 3) := by decide +kernel
theorem d16_5 : decode prog_4_method_11_code 5 = .ok (.ishl, 1) := by decide +kernel
theorem d16_6 : decode prog_4_method_11_code 6 = .ok (.iconst 1, 1) := by decide +kernel
theorem d16_7 : decode prog_4_method_11_code 7 = .ok (.isub, 1) := by decide +kernel
theorem d16_8 : decode prog_4_method_11_code 8 = .ok (.istore_n 2, 1) := by decide +kernel
theorem d16_9 : decode prog_4_method_11_code 9 = .ok (.iconst 0, 1) := by decide +kernel
theorem d16_10 : decode prog_4_method_11_code 10 = .ok (.istore_n 3, 1) := by decide +kernel
theorem d16_11 : decode prog_4_method_11_code 11 = .ok (.iload_n 3, 1) := by decide +kernel
theorem d16_12 : decode prog_4_method_11_code 12 = .ok (.aload_n 0, 1) := by decide +kernel
theorem d16_13 : decode prog_4_method_11_code 13 = .ok (.getfield 31, 3) := by decide +kernel
theorem d16_16 : decode prog_4_method_11_code 16 = .ok (.arraylength, 1) := by decide +kernel
theorem d16_17 : decode prog_4_method_11_code 17 = .ok (.if_icmp .ge 63, 3) := by decide +kernel
theorem d16_20 : decode prog_4_method_11_code 20 = .ok (.aload_n 0, 1) := by decide +kernel
theorem d16_21 : decode prog_4_method_11_code 21 = .ok (.getfield 27, 3) := by decide +kernel
theorem d16_24 : decode prog_4_method_11_code 24 = .ok (.iload_n 3, 1) := by decide +kernel
theorem d16_25 : decode prog_4_method_11_code 25 = .ok (.iaload, 1) := by decide +kernel
theorem d16_26 : decode prog_4_method_11_code 26 = .ok (.istore 4, 2) := by decide +kernel
theorem d16_28 : decode prog_4_method_11_code 28 = .ok (.iload 4, 2) := by decide +kernel
theorem d16_30 : decode prog_4_method_11_code 30 = .ok (.aload_n 0, 1) := by decide +kernel
theorem d16_31 : decode prog_4_method_11_code 31 = .ok (.iload_n 3, 1) := by decide +kernel
theorem d16_32 : decode prog_4_method_11_code 32 = .ok (.invokevirtual 80, 3) := by decide +kernel
theorem d16_35 : decode prog_4_method_11_code 35 = .ok (.if_icmp .ge 39, 3) := by decide +kernel
theorem d16_74 : decode prog_4_method_11_code 74 = .ok (.iinc 3 1, 3) := by decide +kernel
theorem d16_77 : decode prog_4_method_11_code 77 = .ok (.goto (-66), 3) := by decide +kernel
theorem d16_80 : decode prog_4_method_11_code 80 = .ok (.aload_n 0, 1) := by decide +kernel
theorem d16_81 : decode prog_4_method_11_code 81 = .ok (.iload_n 1, 1) := by decide +kernel
theorem d16_82 : decode prog_4_method_11_code 82 = .ok (.putfield 9, 3) := by decide +kernel
theorem d16_85 : decode prog_4_method_11_code 85 = .ok (.return_, 1) := by decide +kernel
theorem d16_38 : decode prog_4_method_11_code 38 = .ok (.aload_n 0, 1) := by decide +kernel
theorem d16_39 : decode prog_4_method_11_code 39 = .ok (.getfield 37, 3) := by decide +kernel
theorem d16_42 : decode prog_4_method_11_code 42 = .ok (.iload 4, 2) := by decide +kernel
theorem d16_44 : decode prog_4_method_11_code 44 = .ok (.iaload, 1) := by decide +kernel
theorem d16_45 : decode prog_4_method_11_code 45 = .ok (.istore 5, 2) := by decide +kernel
theorem d16_47 : decode prog_4_method_11_code 47 = .ok (.aload_n 0, 1) := by decide +kernel
theorem d16_48 : decode prog_4_method_11_code 48 = .ok (.getfield 37, 3) := by decide +kernel
theorem d16_51 : decode prog_4_method_11_code 51 = .ok (.iload 4, 2) := by decide +kernel
theorem d16_53 : decode prog_4_method_11_code 53 = .ok (.iload 5, 2) := by decide +kernel
theorem d16_55 : decode prog_4_method_11_code 55 = .ok (.aload_n 0, 1) := by decide +kernel
theorem d16_56 : decode prog_4_method_11_code 56 = .ok (.getfield 9, 3) := by decide +kernel
theorem d16_59 : decode prog_4_method_11_code 59 = .ok (.iushr, 1) := by decide +kernel
theorem d16_60 : decode prog_4_method_11_code 60 = .ok (.iload_n 1, 1) := by decide +kernel
theorem d16_61 : decode prog_4_method_11_code 61 = .ok (.ishl, 1) := by decide +kernel
theorem d16_62 : decode prog_4_method_11_code 62 = .ok (.iload 5, 2) := by decide +kernel
theorem d16_64 : decode prog_4_method_11_code 64 = .ok (.iload_n 2, 1) := by decide +kernel
theorem d16_65 : decode prog_4_method_11_code 65 = .ok (.iand, 1) := by decide +kernel
theorem d16_66 : decode prog_4_method_11_code 66 = .ok (.ior, 1) := by decide +kernel
theorem d16_67 : decode prog_4_method_11_code 67 = .ok (.iastore, 1) := by decide +kernel
theorem d16_68 : decode prog_4_method_11_code 68 = .ok (.iinc 4 1, 3) := by decide +kernel
theorem d16_71 : decode prog_4_method_11_code 71 = .ok (.goto (-43), 3) := by decide +kernel
theorem d3_0 : decode prog_4_method_9_code 0 = .ok (.iload_n 1, 1) := by decide +kernel
theorem d3_1 : decode prog_4_method_9_code 1 = .ok (.aload_n 0, 1) := by decide +kernel
theorem d3_2 : decode prog_4_method_9_code 2 = .ok (.getfield 9, 3) := by decide +kernel
theorem d3_5 : decode prog_4_method_9_code 5 = .ok (.iushr, 1) := by decide +kernel
theorem d3_6 : decode prog_4_method_9_code 6 = .ok (.ifCond .eq 14, 3) := by decide +kernel
theorem d3_9 : decode prog_4_method_9_code 9 = .ok (.aload_n 0, 1) := by decide +kernel
theorem d3_10 : decode prog_4_method_9_code 10 = .ok (.bipush 32, 2) := by decide +kernel
theorem d3_12 : decode prog_4_method_9_code 12 = .ok (.iload_n 1, 1) := by decide +kernel
theorem d3_13 : decode prog_4_method_9_code 13 = .ok (.invokestatic 62, 3) := by decide +kernel
theorem d3_16 : decode prog_4_method_9_code 16 = .ok (.isub, 1) := by decide +kernel
theorem d3_17 : decode prog_4_method_9_code 17 = .ok (.invokevirtual 65, 3) := by decide +kernel
theorem d3_20 : decode prog_4_method_9_code 20 = .ok (.aload_n 0, 1) := by decide +kernel
theorem d3_21 : decode prog_4_method_9_code 21 = .ok (.lload_n 2, 1) := by decide +kernel
theorem d3_22 : decode prog_4_method_9_code 22 = .ok (.invokevirtual 69, 3) := by decide +kernel
theorem d3_25 : decode prog_4_method_9_code 25 = .ok (.istore 5, 2) := by decide +kernel
theorem d3_27 : decode prog_4_method_9_code 27 = .ok (.aload_n 0, 1) := by decide +kernel
theorem d3_28 : decode prog_4_method_9_code 28 = .ok (.getfield 31, 3) := by decide +kernel
theorem d3_31 : decode prog_4_method_9_code 31 = .ok (.iload 5, 2) := by decide +kernel
theorem d3_33 : decode prog_4_method_9_code 33 = .ok (.iaload, 1) := by decide +kernel
theorem d3_34 : decode prog_4_method_9_code 34 = .ok (.aload_n 0, 1) := by decide +kernel
theorem d3_35 : decode prog_4_method_9_code 35 = .ok (.getfield 34, 3) := by decide +kernel
theorem d3_38 : decode prog_4_method_9_code 38 = .ok (.iload 5, 2) := by decide +kernel
theorem d3_40 : decode prog_4_method_9_code 40 = .ok (.iaload, 1) := by decide +kernel
theorem d3_41 : decode prog_4_method_9_code 41 = .ok (.if_icmp .ne 25, 3) := by decide +kernel
theorem d3_44 : decode prog_4_method_9_code 44 = .ok (.aload_n 0, 1) := by decide +kernel
theorem d3_45 : decode prog_4_method_9_code 45 = .ok (.iload 5, 2) := by decide +kernel
theorem d3_47 : decode prog_4_method_9_code 47 = .ok (.invokevirtual 72, 3) := by decide +kernel
theorem d3_50 : decode prog_4_method_9_code 50 = .ok (.ifCond .ne 16, 3) := by decide +kernel
theorem d3_66 : decode prog_4_method_9_code 66 = .ok (.aload_n 0, 1) := by decide +kernel
theorem d3_67 : decode prog_4_method_9_code 67 = .ok (.aload_n 0, 1) := by decide +kernel
theorem d3_68 : decode prog_4_method_9_code 68 = .ok (.iload 5, 2) := by decide +kernel
theorem d3_70 : decode prog_4_method_9_code 70 = .ok (.invokevirtual 80, 3) := by decide +kernel
theorem d3_73 : decode prog_4_method_9_code 73 = .ok (.iload_n 1, 1) := by decide +kernel
theorem d3_74 : decode prog_4_method_9_code 74 = .ok (.aload_n 0, 1) := by decide +kernel
theorem d3_75 : decode prog_4_method_9_code 75 = .ok (.lload_n 2, 1) := by decide +kernel
theorem d3_76 : decode prog_4_method_9_code 76 = .ok (.invokevirtual 83, 3) := by decide +kernel
theorem d3_79 : decode prog_4_method_9_code 79 = .ok (.aload_n 0, 1) := by decide +kernel
theorem d3_80 : decode prog_4_method_9_code 80 = .ok (.getfield 37, 3) := by decide +kernel
theorem d3_83 : decode prog_4_method_9_code 83 = .ok (.aload_n 0, 1) := by decide +kernel
theorem d3_84 : decode prog_4_method_9_code 84 = .ok (.getfield 40, 3) := by decide +kernel
theorem d3_87 : decode prog_4_method_9_code 87 = .ok (.invokevirtual 85, 3) := by decide +kernel
theorem d3_90 : decode prog_4_method_9_code 90 = .ok (.aload_n 0, 1) := by decide +kernel
theorem d3_91 : decode prog_4_method_9_code 91 = .ok (.getfield 31, 3) := by decide +kernel
theorem d3_94 : decode prog_4_method_9_code 94 = .ok (.iload 5, 2) := by decide +kernel
theorem d3_96 : decode prog_4_method_9_code 96 = .ok (.dup2, 1) := by decide +kernel
theorem d3_97 : decode prog_4_method_9_code 97 = .ok (.iaload, 1) := by decide +kernel
theorem d3_98 : decode prog_4_method_9_code 98 = .ok (.iconst 1, 1) := by decide +kernel
theorem d3_99 : decode prog_4_method_9_code 99 = .ok (.iadd, 1) := by decide +kernel
theorem d3_100 : decode prog_4_method_9_code 100 = .ok (.iastore, 1) := by decide +kernel
theorem d3_101 : decode prog_4_method_9_code 101 = .ok (.return_, 1) := by decide +kernel
theorem pn_3 : plainName "com/example/kinhash/kinhash/BlockTableRecordPinLaw" = true := by first | (simp [plainName, overriddenIn]; done) | decide +kernel
theorem pd_0 : parseMethodDescriptor "(JI)I" = some ⟨[.long, .int], some .int⟩ := by decide +kernel
theorem pd_1 : parseMethodDescriptor "(JI)J" = some ⟨[.long, .int], some .long⟩ := by decide +kernel
theorem pd_2 : parseMethodDescriptor "(II)I" = some ⟨[.int, .int], some .int⟩ := by decide +kernel
theorem pd_3 : parseMethodDescriptor "(I)I" = some ⟨[.int], some .int⟩ := by decide +kernel
theorem pd_4 : parseMethodDescriptor "(I)V" = some ⟨[.int], none⟩ := by decide +kernel
theorem pd_5 : parseMethodDescriptor "(J)I" = some ⟨[.long], some .int⟩ := by decide +kernel
theorem pd_6 : parseMethodDescriptor "(I)Z" = some ⟨[.int], some .boolean⟩ := by decide +kernel
theorem pd_7 : parseMethodDescriptor "(III[I[B)V" = some ⟨[.int, .int, .int, (.array .int), (.array .byte)], none⟩ := by decide +kernel
theorem pd_8 : parseMethodDescriptor "(II)V" = some ⟨[.int, .int], none⟩ := by decide +kernel
theorem pd_9 : parseMethodDescriptor "(IJLjava/util/function/IntToLongFunction;)V" = some ⟨[.int, .long, (.object "java/util/function/IntToLongFunction")], none⟩ := by decide +kernel
def Q_rmI (Z : State) (a1 : Addr) (p2 : Int32) (p3 : Int32) (h0 : Heap) (n0 : Nat) (v : Option Value) (h : Heap) (L : List Loc) : Prop := ∃ (mk : Int64), ∃ (aS : Addr), ∃ (aL : Addr), ∃ (aR : Addr), ∃ (aE : Addr), ∃ (aT : Addr), ∃ (kS : ClassId), ∃ (kL : ClassId), ∃ (kR : ClassId), ∃ (kE : ClassId), ∃ (kT : ClassId), v = none ∧ Fr n0 L ∧ Keep h0 h [a1] ∧ (h0.size ≤ aS) ∧ (h0.size ≤ aL) ∧ (h0.size ≤ aR) ∧ (h0.size ≤ aE) ∧ (h0.size ≤ aT) ∧ (Exa Z h a1 "com/example/kinhash/kinhash/BlockTable") ∧ (Fld Z h a1 "com/example/kinhash/kinhash/BlockTable" "recordBits" "I" (.int (16 : Int32))) ∧ (Fld Z h a1 "com/example/kinhash/kinhash/BlockTable" "mask" "J" (.long mk)) ∧ (Fld Z h a1 "com/example/kinhash/kinhash/BlockTable" "lowestBit" "I" (.int p2)) ∧ (Fld Z h a1 "com/example/kinhash/kinhash/BlockTable" "bucketBits" "I" (.int (0 : Int32))) ∧ (Fld Z h a1 "com/example/kinhash/kinhash/BlockTable" "free" "I" (.int (0 : Int32))) ∧ (Fld Z h a1 "com/example/kinhash/kinhash/BlockTable" "start" "[I" (.ref aS)) ∧ (Fld Z h a1 "com/example/kinhash/kinhash/BlockTable" "length" "[I" (.ref aL)) ∧ (Fld Z h a1 "com/example/kinhash/kinhash/BlockTable" "room" "[I" (.ref aR)) ∧ (Fld Z h a1 "com/example/kinhash/kinhash/BlockTable" "entries" "[I" (.ref aE)) ∧ (Fld Z h a1 "com/example/kinhash/kinhash/BlockTable" "tags" "[B" (.ref aT)) ∧ (Arv Z h aS kS .int (1 : Int32) [(.int (0 : Int32))] (.int (0 : Int32))) ∧ (Arv Z h aL kL .int (1 : Int32) [(.int (0 : Int32))] (.int (0 : Int32))) ∧ (Arv Z h aR kR .int (1 : Int32) [(.int (0 : Int32))] (.int (0 : Int32))) ∧ (Arv Z h aE kE .int (4 : Int32) [(.int (0 : Int32)), (.int (0 : Int32)), (.int (0 : Int32)), (.int (0 : Int32))] (.int (0 : Int32))) ∧ (Arv Z h aT kT .byte (4 : Int32) [(.int (0 : Int32)), (.int (0 : Int32)), (.int (0 : Int32)), (.int (0 : Int32))] (.int (0 : Int32))) ∧ (aS ≠ aL) ∧ (aS ≠ aR) ∧ (aS ≠ aE) ∧ (aS ≠ aT) ∧ (aL ≠ aR) ∧ (aL ≠ aE) ∧ (aL ≠ aT) ∧ (aR ≠ aE) ∧ (aR ≠ aT) ∧ (aE ≠ aT)
set_option maxRecDepth 65536 in
set_option maxHeartbeats 40000000 in
theorem rmI (l : Launch) (Z : State) (a0 : Array Value) (hw : ∀ d ∈ tables_1, d.before a0 Z = true) (ws : List Jvm.Cond) (a1 : Addr) (p2 : Int32) (p3 : Int32) (h0 : Heap) (n0 : Nat) (Z0 : n0 ≤ h0.size) (E1 : Exa Z h0 a1 "com/example/kinhash/kinhash/BlockTable") (g1 : n0 ≤ a1) (F0 : Fld Z h0 a1 "com/example/kinhash/kinhash/BlockTable" "recordBits" "I" (.int (0 : Int32))) (F1 : Fld Z h0 a1 "com/example/kinhash/kinhash/BlockTable" "mask" "J" (.long (0 : Int64))) (F2 : Fld Z h0 a1 "com/example/kinhash/kinhash/BlockTable" "lowestBit" "I" (.int (0 : Int32))) (F3 : Fld Z h0 a1 "com/example/kinhash/kinhash/BlockTable" "width" "I" (.int (0 : Int32))) (F4 : Fld Z h0 a1 "com/example/kinhash/kinhash/BlockTable" "start" "[I" .null) (F5 : Fld Z h0 a1 "com/example/kinhash/kinhash/BlockTable" "length" "[I" .null) (F6 : Fld Z h0 a1 "com/example/kinhash/kinhash/BlockTable" "room" "[I" .null) (F7 : Fld Z h0 a1 "com/example/kinhash/kinhash/BlockTable" "entries" "[I" .null) (F8 : Fld Z h0 a1 "com/example/kinhash/kinhash/BlockTable" "tags" "[B" .null) (F9 : Fld Z h0 a1 "com/example/kinhash/kinhash/BlockTable" "bucketBits" "I" (.int (0 : Int32))) (F10 : Fld Z h0 a1 "com/example/kinhash/kinhash/BlockTable" "free" "I" (.int (0 : Int32))) :
    MetFree l (⟨"com/example/kinhash/kinhash/BlockTable", "<init>", "(II)V"⟩ : MethodName) (head1 (Jvm.Cond.code (⟨"com/example/kinhash/kinhash/BlockTable", "<init>", "(II)V"⟩ : MethodName) prog_4_method_1_code 3 none :: ws) ({ frames := 1, cells := 5, slots := 11, locals := 12 } : Room)) (fun a U => a = #[(.ref a1), (.int p2), (.int p3)] ∧ Z.Warmed39 U.vm ∧ U.heap = h0) (fun _ _ _ _ _ => True) (fun _ U o U' => ∃ v L, o = .returned v ∧ Q_rmI Z a1 p2 p3 h0 n0 v U'.heap L ∧ FrameEnd U o U' L ({ frames := 1, cells := 5, slots := 11, locals := 12 } : Room).cells ({ frames := 1, cells := 5, slots := 11, locals := 12 } : Room).slots) := by
  refine MetFree.of_bodySF (plainFor_of_name pn_0) hisR ?_
  intro p e s m args below meth c s₁ Bd hml0 hP hK
  obtain ⟨rfl, hZ, hh⟩ := hP
  have hx := Bd.exec
  have hby := Bd.bytes
  have hml : c.maxLocals = 3 := hml0
  have hown : s.vm.findClass "com/example/kinhash/kinhash/BlockTable" = some m.cls := findClass_of_methodNamed Bd.named
  have hnm := (name_of_methodNamed Bd.named Bd.method).1
  have X0 : Stand p l e ({ frames := 1, cells := 5, slots := 11, locals := 12 } : Room) s m #[(.ref a1), (.int p2), (.int p3)] below meth c s₁ [] 0 0 := Stand.of_body Bd
  have e0 : s₁.heap = h0 := by rw [← hh, Bd.state]; rfl
  have N0 := Fr.nil n0
  have P0 : Rch p e below (s₁.setTop (entryFrame m #[(.ref a1), (.int p2), (.int p3)] 3)) (s₁.setTop (mkF m 0 #[rv a1, iv p2, iv p3] [])) := fun t k => castTop (by first | (simp [entryFrame, mkF, argsToLocals, Value.category]; done) | rfl) k
  have P1 : Rch p e below (s₁.setTop (entryFrame m #[(.ref a1), (.int p2), (.int p3)] 3)) (s₁.setTop (mkF m 1 #[rv a1, iv p2, iv p3] [(.ref a1)])) := fun t k => P0 t (by
    show Steps p.tables e below (s₁.setTop (mkF m 0 #[rv a1, iv p2, iv p3] [])) t
    refine XS.aloadN X0.here hx rfl (hb hby d1_0) rfl rfl ?_
    exact k)
  obtain ⟨T2, X2, e2, st2⟩ := initO X0 hx hZ hown (hw _ (List.mem_of_getElem? (i := 8) rfl)) (hw _ (List.mem_of_getElem? (i := 9) rfl)) (hw _ (List.mem_of_getElem? (i := 10) rfl)) e0 (g := (mkF m 1 #[rv a1, iv p2, iv p3] [(.ref a1)])) rfl (by rw [hml]; rfl) rfl (hb hby d1_1) (by decide) (W := 0) (by show 2 * 0 + _ ≤ _; exact Nat.le_of_eq rfl) (by decide)
  have P3 : Rch p e below (s₁.setTop (entryFrame m #[(.ref a1), (.int p2), (.int p3)] 3)) (T2.setTop (mkF m 4 #[rv a1, iv p2, iv p3] [])) := fun t k => P1 t (st2 t k)
  have P4 : Rch p e below (s₁.setTop (entryFrame m #[(.ref a1), (.int p2), (.int p3)] 3)) (T2.setTop (mkF m 7 #[rv a1, iv p2, iv p3] [(.int (16 : Int32)), (.ref a1)])) := fun t k => P3 t (by
    show Steps p.tables e below (T2.setTop (mkF m 4 #[rv a1, iv p2, iv p3] [])) t
    refine XS.aloadN X2.here hx rfl (hb hby d1_4) rfl rfl ?_
    refine XS.bipush X2.here hx rfl (hb hby d1_5) ?_
    exact k)
  obtain ⟨T5, h5, X5, e5, W5, st5⟩ := putF X2 hx hZ hown (host := "") (Or.inl (hw _ (List.mem_of_getElem? (i := 11) rfl))) Via.refl e2 F0 E1 (Or.inl (hw _ (List.mem_of_getElem? (i := 12) rfl))) (hw _ (List.mem_of_getElem? (i := 3) rfl)) (ty := .int) (by decide) rfl rfl (g := (mkF m 7 #[rv a1, iv p2, iv p3] [(.int (16 : Int32)), (.ref a1)])) rfl rfl (hb hby d1_7)
  have Fw5 := F0.same W5
  have P6 : Rch p e below (s₁.setTop (entryFrame m #[(.ref a1), (.int p2), (.int p3)] 3)) (T5.setTop (mkF m 10 #[rv a1, iv p2, iv p3] [])) := fun t k => P4 t (st5 t k)
  have N5 := Fr.snoc X5 N0 g1
  have P7 : Rch p e below (s₁.setTop (entryFrame m #[(.ref a1), (.int p2), (.int p3)] 3)) (T5.setTop (mkF m 14 #[rv a1, iv p2, iv p3] [(.int (64 : Int32)), (.int p3), (.ref a1)])) := fun t k => P6 t (by
    show Steps p.tables e below (T5.setTop (mkF m 10 #[rv a1, iv p2, iv p3] [])) t
    refine XS.aloadN X5.here hx rfl (hb hby d1_10) rfl rfl ?_
    refine XS.iloadN X5.here hx rfl (hb hby d1_11) rfl ?_
    refine XS.bipush X5.here hx rfl (hb hby d1_12) ?_
    exact k)
  obtain ⟨v9, hv9, P10⟩ : ∃ (v9 : Int64), v9 = (if p3 = (64 : Int32) then (-1 : Int64) else ((((1 : Int64) <<< (p3 &&& 0x3f).toInt64) - (1 : Int64)) <<< (p2 &&& 0x3f).toInt64)) ∧ Rch p e below (s₁.setTop (entryFrame m #[(.ref a1), (.int p2), (.int p3)] 3)) (T5.setTop (mkF m 30 #[rv a1, iv p2, iv p3] [(.long v9), (.ref a1)])) := by
    by_cases c8 : p3 = (64 : Int32)
    · refine ⟨(-1 : Int64), (by first | rw [if_pos c8] | simp only [if_pos c8] | rfl), fun t k => P7 t ?_⟩
      show Steps p.tables e below (T5.setTop (mkF m 14 #[rv a1, iv p2, iv p3] [(.int (64 : Int32)), (.int p3), (.ref a1)])) t
      refine XS.icmpNo X5.here hx rfl (hb hby d1_14) rfl (teq c8).2 ?_
      refine X5.ldc2Long hx hown (mvT hZ (hw _ (List.mem_of_getElem? (i := 102) rfl))) (g := (mkF m 17 #[rv a1, iv p2, iv p3] [(.ref a1)])) rfl (hb hby d1_17) _ ?_
      refine XS.goto X5.here hx rfl (pc0 := 20) (pc' := 30) rfl (hb hby d1_20) (by decide) (by decide) ?_
      exact k
    · refine ⟨((((1 : Int64) <<< (p3 &&& 0x3f).toInt64) - (1 : Int64)) <<< (p2 &&& 0x3f).toInt64), (by first | rw [if_neg c8] | simp only [if_neg c8] | rfl), fun t k => P7 t ?_⟩
      show Steps p.tables e below (T5.setTop (mkF m 14 #[rv a1, iv p2, iv p3] [(.int (64 : Int32)), (.int p3), (.ref a1)])) t
      refine XS.icmpYes X5.here hx rfl (pc0 := 14) (pc' := 23) rfl (hb hby d1_14) rfl (feq c8).2 (by decide) (by decide) ?_
      refine XS.lconst X5.here hx rfl (hb hby d1_23) ?_
      refine XS.iloadN X5.here hx rfl (hb hby d1_24) rfl ?_
      show Steps p.tables e below (T5.setTop (mkF m 25 #[rv a1, iv p2, iv p3] [(.int p3), (.long (1 : Int64)), (.ref a1)])) t
      refine XS.lshl X5.here hx rfl (hb hby d1_25) rfl ?_
      refine XS.lconst X5.here hx rfl (hb hby d1_26) ?_
      refine XS.lsub X5.here hx rfl (hb hby d1_27) rfl ?_
      refine XS.iloadN X5.here hx rfl (hb hby d1_28) rfl ?_
      show Steps p.tables e below (T5.setTop (mkF m 29 #[rv a1, iv p2, iv p3] [(.int p2), (.long (((1 : Int64) <<< (p3 &&& 0x3f).toInt64) - (1 : Int64))), (.ref a1)])) t
      refine XS.lshl X5.here hx rfl (hb hby d1_29) rfl ?_
      exact k
  have f12 : Fld Z h5 a1 "com/example/kinhash/kinhash/BlockTable" "mask" "J" (.long (0 : Int64)) := (F1.other W5 (Or.inr (slot_ne (Or.inr (hw _ (List.mem_of_getElem? (i := 14) rfl))) (Or.inl (hw _ (List.mem_of_getElem? (i := 12) rfl))) (by decide) (t := .long) (t' := .int) (by decide) (by decide))))
  obtain ⟨T11, h11, X11, e11, W11, st11⟩ := putF X5 hx hZ hown (host := "") (Or.inl (hw _ (List.mem_of_getElem? (i := 13) rfl))) Via.refl e5 f12 (E1.wr W5) (Or.inr ⟨(hw _ (List.mem_of_getElem? (i := 14) rfl)), rfl, hnm⟩) (hw _ (List.mem_of_getElem? (i := 3) rfl)) (ty := .long) (by decide) rfl rfl (g := (mkF m 30 #[rv a1, iv p2, iv p3] [(.long v9), (.ref a1)])) rfl rfl (hb hby d1_30)
  have Fw11 := f12.same W11
  have P13 : Rch p e below (s₁.setTop (entryFrame m #[(.ref a1), (.int p2), (.int p3)] 3)) (T11.setTop (mkF m 33 #[rv a1, iv p2, iv p3] [])) := fun t k => P10 t (st11 t k)
  have N11 := Fr.snoc X11 N5 g1
  have P14 : Rch p e below (s₁.setTop (entryFrame m #[(.ref a1), (.int p2), (.int p3)] 3)) (T11.setTop (mkF m 35 #[rv a1, iv p2, iv p3] [(.int p2), (.ref a1)])) := fun t k => P13 t (by
    show Steps p.tables e below (T11.setTop (mkF m 33 #[rv a1, iv p2, iv p3] [])) t
    refine XS.aloadN X11.here hx rfl (hb hby d1_33) rfl rfl ?_
    refine XS.iloadN X11.here hx rfl (hb hby d1_34) rfl ?_
    exact k)
  have f16 : Fld Z h11 a1 "com/example/kinhash/kinhash/BlockTable" "lowestBit" "I" (.int (0 : Int32)) := ((F2.other W5 (Or.inr (slot_ne (Or.inr (hw _ (List.mem_of_getElem? (i := 16) rfl))) (Or.inl (hw _ (List.mem_of_getElem? (i := 12) rfl))) (by decide) (t := .int) (t' := .int) (by decide) (by decide)))).other W11 (Or.inr (slot_ne (Or.inr (hw _ (List.mem_of_getElem? (i := 16) rfl))) (Or.inr (hw _ (List.mem_of_getElem? (i := 14) rfl))) (by decide) (t := .int) (t' := .long) (by decide) (by decide))))
  obtain ⟨T15, h15, X15, e15, W15, st15⟩ := putF X11 hx hZ hown (host := "") (Or.inl (hw _ (List.mem_of_getElem? (i := 15) rfl))) Via.refl e11 f16 ((E1.wr W5).wr W11) (Or.inr ⟨(hw _ (List.mem_of_getElem? (i := 16) rfl)), rfl, hnm⟩) (hw _ (List.mem_of_getElem? (i := 3) rfl)) (ty := .int) (by decide) rfl rfl (g := (mkF m 35 #[rv a1, iv p2, iv p3] [(.int p2), (.ref a1)])) rfl rfl (hb hby d1_35)
  have Fw15 := f16.same W15
  have P17 : Rch p e below (s₁.setTop (entryFrame m #[(.ref a1), (.int p2), (.int p3)] 3)) (T15.setTop (mkF m 38 #[rv a1, iv p2, iv p3] [])) := fun t k => P14 t (st15 t k)
  have N15 := Fr.snoc X15 N11 g1
  have P18 : Rch p e below (s₁.setTop (entryFrame m #[(.ref a1), (.int p2), (.int p3)] 3)) (T15.setTop (mkF m 40 #[rv a1, iv p2, iv p3] [(.int p3), (.ref a1)])) := fun t k => P17 t (by
    show Steps p.tables e below (T15.setTop (mkF m 38 #[rv a1, iv p2, iv p3] [])) t
    refine XS.aloadN X15.here hx rfl (hb hby d1_38) rfl rfl ?_
    refine XS.iloadN X15.here hx rfl (hb hby d1_39) rfl ?_
    exact k)
  have f20 : Fld Z h15 a1 "com/example/kinhash/kinhash/BlockTable" "width" "I" (.int (0 : Int32)) := (((F3.other W5 (Or.inr (slot_ne (Or.inr (hw _ (List.mem_of_getElem? (i := 18) rfl))) (Or.inl (hw _ (List.mem_of_getElem? (i := 12) rfl))) (by decide) (t := .int) (t' := .int) (by decide) (by decide)))).other W11 (Or.inr (slot_ne (Or.inr (hw _ (List.mem_of_getElem? (i := 18) rfl))) (Or.inr (hw _ (List.mem_of_getElem? (i := 14) rfl))) (by decide) (t := .int) (t' := .long) (by decide) (by decide)))).other W15 (Or.inr (slot_ne (Or.inr (hw _ (List.mem_of_getElem? (i := 18) rfl))) (Or.inr (hw _ (List.mem_of_getElem? (i := 16) rfl))) (by decide) (t := .int) (t' := .int) (by decide) (by decide))))
  obtain ⟨T19, h19, X19, e19, W19, st19⟩ := putF X15 hx hZ hown (host := "") (Or.inl (hw _ (List.mem_of_getElem? (i := 17) rfl))) Via.refl e15 f20 (((E1.wr W5).wr W11).wr W15) (Or.inr ⟨(hw _ (List.mem_of_getElem? (i := 18) rfl)), rfl, hnm⟩) (hw _ (List.mem_of_getElem? (i := 3) rfl)) (ty := .int) (by decide) rfl rfl (g := (mkF m 40 #[rv a1, iv p2, iv p3] [(.int p3), (.ref a1)])) rfl rfl (hb hby d1_40)
  have Fw19 := f20.same W19
  have P21 : Rch p e below (s₁.setTop (entryFrame m #[(.ref a1), (.int p2), (.int p3)] 3)) (T19.setTop (mkF m 43 #[rv a1, iv p2, iv p3] [])) := fun t k => P18 t (st19 t k)
  have N19 := Fr.snoc X19 N15 g1
  have P22 : Rch p e below (s₁.setTop (entryFrame m #[(.ref a1), (.int p2), (.int p3)] 3)) (T19.setTop (mkF m 45 #[rv a1, iv p2, iv p3] [(.int (1 : Int32)), (.ref a1)])) := fun t k => P21 t (by
    show Steps p.tables e below (T19.setTop (mkF m 43 #[rv a1, iv p2, iv p3] [])) t
    refine XS.aloadN X19.here hx rfl (hb hby d1_43) rfl rfl ?_
    refine XS.iconst X19.here hx rfl (hb hby d1_44) ?_
    exact k)
  have f24 : n0 ≤ h19.size := (Nat.le_trans (Nat.le_trans (Nat.le_trans (Nat.le_trans Z0 (Keep.of_wr W5).1) (Keep.of_wr W11).1) (Keep.of_wr W15).1) (Keep.of_wr W19).1)
  have f25 : Keep h0 h19 [a1] := (((((Keep.refl h0 [a1]).wr W5 (Or.inl (List.mem_of_getElem? (i := 0) rfl))).wr W11 (Or.inl (List.mem_of_getElem? (i := 0) rfl))).wr W15 (Or.inl (List.mem_of_getElem? (i := 0) rfl))).wr W19 (Or.inl (List.mem_of_getElem? (i := 0) rfl)))
  obtain ⟨T23, h23, k23, X23, e23, E23, A23, st23⟩ := newP X19 hx hZ (hw _ (List.mem_of_getElem? (i := 19) rfl)) e19 (g := (mkF m 45 #[rv a1, iv p2, iv p3] [(.int (1 : Int32)), (.ref a1)])) rfl (hb hby d1_45) rfl (by decide) (cap := 1) (by decide) (by decide) (by decide) (by decide)
  obtain ⟨b23, g23⟩ : ∃ z, z = h19.size := ⟨_, rfl⟩
  rw [← g23] at A23 st23
  have g_b23 : n0 ≤ b23 := Nat.le_trans f24 (Nat.le_of_eq g23.symm)
  have sz_b23 : h0.size ≤ b23 := Nat.le_trans f25.1 (Nat.le_of_eq g23.symm)
  have ne_a1_b23 : a1 ≠ b23 := Nat.ne_of_lt (Nat.lt_of_lt_of_le ((((E1.wr W5).wr W11).wr W15).wr W19).lt (Nat.le_of_eq g23.symm))
  have V23 : Arv Z h23 b23 k23 .int (1 : Int32) [(.int (0 : Int32))] (.int (0 : Int32)) := (Arv.new A23 (by decide)).pad (pad_rep [] (.int (0 : Int32)) 1)
  have P26 : Rch p e below (s₁.setTop (entryFrame m #[(.ref a1), (.int p2), (.int p3)] 3)) (T23.setTop (mkF m 47 #[rv a1, iv p2, iv p3] [(.ref b23), (.ref a1)])) := fun t k => P22 t (st23 t k)
  have f28 : Fld Z h23 a1 "com/example/kinhash/kinhash/BlockTable" "start" "[I" .null := (((((F4.other W5 (Or.inr (slot_ne (Or.inl (hw _ (List.mem_of_getElem? (i := 21) rfl))) (Or.inl (hw _ (List.mem_of_getElem? (i := 12) rfl))) (by decide) (t := (.array .int)) (t' := .int) (by decide) (by decide)))).other W11 (Or.inr (slot_ne (Or.inl (hw _ (List.mem_of_getElem? (i := 21) rfl))) (Or.inr (hw _ (List.mem_of_getElem? (i := 14) rfl))) (by decide) (t := (.array .int)) (t' := .long) (by decide) (by decide)))).other W15 (Or.inr (slot_ne (Or.inl (hw _ (List.mem_of_getElem? (i := 21) rfl))) (Or.inr (hw _ (List.mem_of_getElem? (i := 16) rfl))) (by decide) (t := (.array .int)) (t' := .int) (by decide) (by decide)))).other W19 (Or.inr (slot_ne (Or.inl (hw _ (List.mem_of_getElem? (i := 21) rfl))) (Or.inr (hw _ (List.mem_of_getElem? (i := 18) rfl))) (by decide) (t := (.array .int)) (t' := .int) (by decide) (by decide)))).ext E23)
  obtain ⟨T27, h27, X27, e27, W27, st27⟩ := putF X23 hx hZ hown (host := "") (Or.inl (hw _ (List.mem_of_getElem? (i := 20) rfl))) Via.refl e23 f28 (((((E1.wr W5).wr W11).wr W15).wr W19).ext E23) (Or.inl (hw _ (List.mem_of_getElem? (i := 21) rfl))) (hw _ (List.mem_of_getElem? (i := 3) rfl)) (ty := (.array .int)) (by decide) rfl rfl (g := (mkF m 47 #[rv a1, iv p2, iv p3] [(.ref b23), (.ref a1)])) rfl rfl (hb hby d1_47)
  have Fw27 := f28.same W27
  have P29 : Rch p e below (s₁.setTop (entryFrame m #[(.ref a1), (.int p2), (.int p3)] 3)) (T27.setTop (mkF m 50 #[rv a1, iv p2, iv p3] [])) := fun t k => P26 t (st27 t k)
  have N27 := Fr.snoc X27 N19 g1
  have P30 : Rch p e below (s₁.setTop (entryFrame m #[(.ref a1), (.int p2), (.int p3)] 3)) (T27.setTop (mkF m 52 #[rv a1, iv p2, iv p3] [(.int (1 : Int32)), (.ref a1)])) := fun t k => P29 t (by
    show Steps p.tables e below (T27.setTop (mkF m 50 #[rv a1, iv p2, iv p3] [])) t
    refine XS.aloadN X27.here hx rfl (hb hby d1_50) rfl rfl ?_
    refine XS.iconst X27.here hx rfl (hb hby d1_51) ?_
    exact k)
  have f32 : n0 ≤ h27.size := (Nat.le_trans (Nat.le_trans f24 E23.1) (Keep.of_wr W27).1)
  have f33 : Keep h0 h27 [a1] := ((f25.ext E23).wr W27 (Or.inl (List.mem_of_getElem? (i := 0) rfl)))
  obtain ⟨T31, h31, k31, X31, e31, E31, A31, st31⟩ := newP X27 hx hZ (hw _ (List.mem_of_getElem? (i := 19) rfl)) e27 (g := (mkF m 52 #[rv a1, iv p2, iv p3] [(.int (1 : Int32)), (.ref a1)])) rfl (hb hby d1_52) rfl (by decide) (cap := 1) (by decide) (by decide) (by decide) (by decide)
  obtain ⟨b31, g31⟩ : ∃ z, z = h27.size := ⟨_, rfl⟩
  rw [← g31] at A31 st31
  have g_b31 : n0 ≤ b31 := Nat.le_trans f32 (Nat.le_of_eq g31.symm)
  have sz_b31 : h0.size ≤ b31 := Nat.le_trans f33.1 (Nat.le_of_eq g31.symm)
  have ne_a1_b31 : a1 ≠ b31 := Nat.ne_of_lt (Nat.lt_of_lt_of_le ((((((E1.wr W5).wr W11).wr W15).wr W19).ext E23).wr W27).lt (Nat.le_of_eq g31.symm))
  have ne_b23_b31 : b23 ≠ b31 := Nat.ne_of_lt (Nat.lt_of_lt_of_le (V23.other W27 (Ne.symm ne_a1_b23)).lt (Nat.le_of_eq g31.symm))
  have V31 : Arv Z h31 b31 k31 .int (1 : Int32) [(.int (0 : Int32))] (.int (0 : Int32)) := (Arv.new A31 (by decide)).pad (pad_rep [] (.int (0 : Int32)) 1)
  have P34 : Rch p e below (s₁.setTop (entryFrame m #[(.ref a1), (.int p2), (.int p3)] 3)) (T31.setTop (mkF m 54 #[rv a1, iv p2, iv p3] [(.ref b31), (.ref a1)])) := fun t k => P30 t (st31 t k)
  have f36 : Exa Z h31 a1 "com/example/kinhash/kinhash/BlockTable" := (((((((E1.wr W5).wr W11).wr W15).wr W19).ext E23).wr W27).ext E31)
  have f37 : Fld Z h31 a1 "com/example/kinhash/kinhash/BlockTable" "length" "[I" .null := (((((((F5.other W5 (Or.inr (slot_ne (Or.inl (hw _ (List.mem_of_getElem? (i := 23) rfl))) (Or.inl (hw _ (List.mem_of_getElem? (i := 12) rfl))) (by decide) (t := (.array .int)) (t' := .int) (by decide) (by decide)))).other W11 (Or.inr (slot_ne (Or.inl (hw _ (List.mem_of_getElem? (i := 23) rfl))) (Or.inr (hw _ (List.mem_of_getElem? (i := 14) rfl))) (by decide) (t := (.array .int)) (t' := .long) (by decide) (by decide)))).other W15 (Or.inr (slot_ne (Or.inl (hw _ (List.mem_of_getElem? (i := 23) rfl))) (Or.inr (hw _ (List.mem_of_getElem? (i := 16) rfl))) (by decide) (t := (.array .int)) (t' := .int) (by decide) (by decide)))).other W19 (Or.inr (slot_ne (Or.inl (hw _ (List.mem_of_getElem? (i := 23) rfl))) (Or.inr (hw _ (List.mem_of_getElem? (i := 18) rfl))) (by decide) (t := (.array .int)) (t' := .int) (by decide) (by decide)))).ext E23).other W27 (Or.inr (slot_ne (Or.inl (hw _ (List.mem_of_getElem? (i := 23) rfl))) (Or.inl (hw _ (List.mem_of_getElem? (i := 21) rfl))) (by decide) (t := (.array .int)) (t' := (.array .int)) (by decide) (by decide)))).ext E31)
  obtain ⟨T35, h35, X35, e35, W35, st35⟩ := putF X31 hx hZ hown (host := "") (Or.inl (hw _ (List.mem_of_getElem? (i := 22) rfl))) Via.refl e31 f37 f36 (Or.inl (hw _ (List.mem_of_getElem? (i := 23) rfl))) (hw _ (List.mem_of_getElem? (i := 3) rfl)) (ty := (.array .int)) (by decide) rfl rfl (g := (mkF m 54 #[rv a1, iv p2, iv p3] [(.ref b31), (.ref a1)])) rfl rfl (hb hby d1_54)
  have Fw35 := f37.same W35
  have P38 : Rch p e below (s₁.setTop (entryFrame m #[(.ref a1), (.int p2), (.int p3)] 3)) (T35.setTop (mkF m 57 #[rv a1, iv p2, iv p3] [])) := fun t k => P34 t (st35 t k)
  have N35 := Fr.snoc X35 N27 g1
  have P39 : Rch p e below (s₁.setTop (entryFrame m #[(.ref a1), (.int p2), (.int p3)] 3)) (T35.setTop (mkF m 59 #[rv a1, iv p2, iv p3] [(.int (1 : Int32)), (.ref a1)])) := fun t k => P38 t (by
    show Steps p.tables e below (T35.setTop (mkF m 57 #[rv a1, iv p2, iv p3] [])) t
    refine XS.aloadN X35.here hx rfl (hb hby d1_57) rfl rfl ?_
    refine XS.iconst X35.here hx rfl (hb hby d1_58) ?_
    exact k)
  have f41 : Arv Z h35 b23 k23 .int (1 : Int32) [(.int (0 : Int32))] (.int (0 : Int32)) := (((V23.other W27 (Ne.symm ne_a1_b23)).ext E31).other W35 (Ne.symm ne_a1_b23))
  have f42 : n0 ≤ h35.size := (Nat.le_trans (Nat.le_trans f32 E31.1) (Keep.of_wr W35).1)
  have f43 : Keep h0 h35 [a1] := ((f33.ext E31).wr W35 (Or.inl (List.mem_of_getElem? (i := 0) rfl)))
  obtain ⟨T40, h40, k40, X40, e40, E40, A40, st40⟩ := newP X35 hx hZ (hw _ (List.mem_of_getElem? (i := 19) rfl)) e35 (g := (mkF m 59 #[rv a1, iv p2, iv p3] [(.int (1 : Int32)), (.ref a1)])) rfl (hb hby d1_59) rfl (by decide) (cap := 1) (by decide) (by decide) (by decide) (by decide)
  obtain ⟨b40, g40⟩ : ∃ z, z = h35.size := ⟨_, rfl⟩
  rw [← g40] at A40 st40
  have g_b40 : n0 ≤ b40 := Nat.le_trans f42 (Nat.le_of_eq g40.symm)
  have sz_b40 : h0.size ≤ b40 := Nat.le_trans f43.1 (Nat.le_of_eq g40.symm)
  have ne_a1_b40 : a1 ≠ b40 := Nat.ne_of_lt (Nat.lt_of_lt_of_le (f36.wr W35).lt (Nat.le_of_eq g40.symm))
  have ne_b23_b40 : b23 ≠ b40 := Nat.ne_of_lt (Nat.lt_of_lt_of_le f41.lt (Nat.le_of_eq g40.symm))
  have ne_b31_b40 : b31 ≠ b40 := Nat.ne_of_lt (Nat.lt_of_lt_of_le (V31.other W35 (Ne.symm ne_a1_b31)).lt (Nat.le_of_eq g40.symm))
  have V40 : Arv Z h40 b40 k40 .int (1 : Int32) [(.int (0 : Int32))] (.int (0 : Int32)) := (Arv.new A40 (by decide)).pad (pad_rep [] (.int (0 : Int32)) 1)
  have P44 : Rch p e below (s₁.setTop (entryFrame m #[(.ref a1), (.int p2), (.int p3)] 3)) (T40.setTop (mkF m 61 #[rv a1, iv p2, iv p3] [(.ref b40), (.ref a1)])) := fun t k => P39 t (st40 t k)
  have f46 : Fld Z h40 a1 "com/example/kinhash/kinhash/BlockTable" "room" "[I" .null := (((((((((F6.other W5 (Or.inr (slot_ne (Or.inl (hw _ (List.mem_of_getElem? (i := 25) rfl))) (Or.inl (hw _ (List.mem_of_getElem? (i := 12) rfl))) (by decide) (t := (.array .int)) (t' := .int) (by decide) (by decide)))).other W11 (Or.inr (slot_ne (Or.inl (hw _ (List.mem_of_getElem? (i := 25) rfl))) (Or.inr (hw _ (List.mem_of_getElem? (i := 14) rfl))) (by decide) (t := (.array .int)) (t' := .long) (by decide) (by decide)))).other W15 (Or.inr (slot_ne (Or.inl (hw _ (List.mem_of_getElem? (i := 25) rfl))) (Or.inr (hw _ (List.mem_of_getElem? (i := 16) rfl))) (by decide) (t := (.array .int)) (t' := .int) (by decide) (by decide)))).other W19 (Or.inr (slot_ne (Or.inl (hw _ (List.mem_of_getElem? (i := 25) rfl))) (Or.inr (hw _ (List.mem_of_getElem? (i := 18) rfl))) (by decide) (t := (.array .int)) (t' := .int) (by decide) (by decide)))).ext E23).other W27 (Or.inr (slot_ne (Or.inl (hw _ (List.mem_of_getElem? (i := 25) rfl))) (Or.inl (hw _ (List.mem_of_getElem? (i := 21) rfl))) (by decide) (t := (.array .int)) (t' := (.array .int)) (by decide) (by decide)))).ext E31).other W35 (Or.inr (slot_ne (Or.inl (hw _ (List.mem_of_getElem? (i := 25) rfl))) (Or.inl (hw _ (List.mem_of_getElem? (i := 23) rfl))) (by decide) (t := (.array .int)) (t' := (.array .int)) (by decide) (by decide)))).ext E40)
  obtain ⟨T45, h45, X45, e45, W45, st45⟩ := putF X40 hx hZ hown (host := "") (Or.inl (hw _ (List.mem_of_getElem? (i := 24) rfl))) Via.refl e40 f46 ((f36.wr W35).ext E40) (Or.inl (hw _ (List.mem_of_getElem? (i := 25) rfl))) (hw _ (List.mem_of_getElem? (i := 3) rfl)) (ty := (.array .int)) (by decide) rfl rfl (g := (mkF m 61 #[rv a1, iv p2, iv p3] [(.ref b40), (.ref a1)])) rfl rfl (hb hby d1_61)
  have Fw45 := f46.same W45
  have P47 : Rch p e below (s₁.setTop (entryFrame m #[(.ref a1), (.int p2), (.int p3)] 3)) (T45.setTop (mkF m 64 #[rv a1, iv p2, iv p3] [])) := fun t k => P44 t (st45 t k)
  have N45 := Fr.snoc X45 N35 g1
  have P48 : Rch p e below (s₁.setTop (entryFrame m #[(.ref a1), (.int p2), (.int p3)] 3)) (T45.setTop (mkF m 66 #[rv a1, iv p2, iv p3] [(.int (4 : Int32)), (.ref a1)])) := fun t k => P47 t (by
    show Steps p.tables e below (T45.setTop (mkF m 64 #[rv a1, iv p2, iv p3] [])) t
    refine XS.aloadN X45.here hx rfl (hb hby d1_64) rfl rfl ?_
    refine XS.iconst X45.here hx rfl (hb hby d1_65) ?_
    exact k)
  have f50 : Arv Z h45 b31 k31 .int (1 : Int32) [(.int (0 : Int32))] (.int (0 : Int32)) := (((V31.other W35 (Ne.symm ne_a1_b31)).ext E40).other W45 (Ne.symm ne_a1_b31))
  have f51 : n0 ≤ h45.size := (Nat.le_trans (Nat.le_trans f42 E40.1) (Keep.of_wr W45).1)
  have f52 : Keep h0 h45 [a1] := ((f43.ext E40).wr W45 (Or.inl (List.mem_of_getElem? (i := 0) rfl)))
  obtain ⟨T49, h49, k49, X49, e49, E49, A49, st49⟩ := newP X45 hx hZ (hw _ (List.mem_of_getElem? (i := 19) rfl)) e45 (g := (mkF m 66 #[rv a1, iv p2, iv p3] [(.int (4 : Int32)), (.ref a1)])) rfl (hb hby d1_66) rfl (by decide) (cap := 4) (by decide) (by decide) (by decide) (by decide)
  obtain ⟨b49, g49⟩ : ∃ z, z = h45.size := ⟨_, rfl⟩
  rw [← g49] at A49 st49
  have g_b49 : n0 ≤ b49 := Nat.le_trans f51 (Nat.le_of_eq g49.symm)
  have sz_b49 : h0.size ≤ b49 := Nat.le_trans f52.1 (Nat.le_of_eq g49.symm)
  have ne_a1_b49 : a1 ≠ b49 := Nat.ne_of_lt (Nat.lt_of_lt_of_le (((f36.wr W35).ext E40).wr W45).lt (Nat.le_of_eq g49.symm))
  have ne_b23_b49 : b23 ≠ b49 := Nat.ne_of_lt (Nat.lt_of_lt_of_le ((f41.ext E40).other W45 (Ne.symm ne_a1_b23)).lt (Nat.le_of_eq g49.symm))
  have ne_b31_b49 : b31 ≠ b49 := Nat.ne_of_lt (Nat.lt_of_lt_of_le f50.lt (Nat.le_of_eq g49.symm))
  have ne_b40_b49 : b40 ≠ b49 := Nat.ne_of_lt (Nat.lt_of_lt_of_le (V40.other W45 (Ne.symm ne_a1_b40)).lt (Nat.le_of_eq g49.symm))
  have V49 : Arv Z h49 b49 k49 .int (4 : Int32) [(.int (0 : Int32)), (.int (0 : Int32)), (.int (0 : Int32)), (.int (0 : Int32))] (.int (0 : Int32)) := (Arv.new A49 (by decide)).pad (pad_rep [] (.int (0 : Int32)) 4)
  have P53 : Rch p e below (s₁.setTop (entryFrame m #[(.ref a1), (.int p2), (.int p3)] 3)) (T49.setTop (mkF m 68 #[rv a1, iv p2, iv p3] [(.ref b49), (.ref a1)])) := fun t k => P48 t (st49 t k)
  have f55 : Fld Z h49 a1 "com/example/kinhash/kinhash/BlockTable" "entries" "[I" .null := (((((((((((F7.other W5 (Or.inr (slot_ne (Or.inl (hw _ (List.mem_of_getElem? (i := 27) rfl))) (Or.inl (hw _ (List.mem_of_getElem? (i := 12) rfl))) (by decide) (t := (.array .int)) (t' := .int) (by decide) (by decide)))).other W11 (Or.inr (slot_ne (Or.inl (hw _ (List.mem_of_getElem? (i := 27) rfl))) (Or.inr (hw _ (List.mem_of_getElem? (i := 14) rfl))) (by decide) (t := (.array .int)) (t' := .long) (by decide) (by decide)))).other W15 (Or.inr (slot_ne (Or.inl (hw _ (List.mem_of_getElem? (i := 27) rfl))) (Or.inr (hw _ (List.mem_of_getElem? (i := 16) rfl))) (by decide) (t := (.array .int)) (t' := .int) (by decide) (by decide)))).other W19 (Or.inr (slot_ne (Or.inl (hw _ (List.mem_of_getElem? (i := 27) rfl))) (Or.inr (hw _ (List.mem_of_getElem? (i := 18) rfl))) (by decide) (t := (.array .int)) (t' := .int) (by decide) (by decide)))).ext E23).other W27 (Or.inr (slot_ne (Or.inl (hw _ (List.mem_of_getElem? (i := 27) rfl))) (Or.inl (hw _ (List.mem_of_getElem? (i := 21) rfl))) (by decide) (t := (.array .int)) (t' := (.array .int)) (by decide) (by decide)))).ext E31).other W35 (Or.inr (slot_ne (Or.inl (hw _ (List.mem_of_getElem? (i := 27) rfl))) (Or.inl (hw _ (List.mem_of_getElem? (i := 23) rfl))) (by decide) (t := (.array .int)) (t' := (.array .int)) (by decide) (by decide)))).ext E40).other W45 (Or.inr (slot_ne (Or.inl (hw _ (List.mem_of_getElem? (i := 27) rfl))) (Or.inl (hw _ (List.mem_of_getElem? (i := 25) rfl))) (by decide) (t := (.array .int)) (t' := (.array .int)) (by decide) (by decide)))).ext E49)
  obtain ⟨T54, h54, X54, e54, W54, st54⟩ := putF X49 hx hZ hown (host := "") (Or.inl (hw _ (List.mem_of_getElem? (i := 26) rfl))) Via.refl e49 f55 ((((f36.wr W35).ext E40).wr W45).ext E49) (Or.inl (hw _ (List.mem_of_getElem? (i := 27) rfl))) (hw _ (List.mem_of_getElem? (i := 3) rfl)) (ty := (.array .int)) (by decide) rfl rfl (g := (mkF m 68 #[rv a1, iv p2, iv p3] [(.ref b49), (.ref a1)])) rfl rfl (hb hby d1_68)
  have Fw54 := f55.same W54
  have P56 : Rch p e below (s₁.setTop (entryFrame m #[(.ref a1), (.int p2), (.int p3)] 3)) (T54.setTop (mkF m 71 #[rv a1, iv p2, iv p3] [])) := fun t k => P53 t (st54 t k)
  have N54 := Fr.snoc X54 N45 g1
  have P57 : Rch p e below (s₁.setTop (entryFrame m #[(.ref a1), (.int p2), (.int p3)] 3)) (T54.setTop (mkF m 73 #[rv a1, iv p2, iv p3] [(.int (4 : Int32)), (.ref a1)])) := fun t k => P56 t (by
    show Steps p.tables e below (T54.setTop (mkF m 71 #[rv a1, iv p2, iv p3] [])) t
    refine XS.aloadN X54.here hx rfl (hb hby d1_71) rfl rfl ?_
    refine XS.iconst X54.here hx rfl (hb hby d1_72) ?_
    exact k)
  have f59 : Arv Z h54 b23 k23 .int (1 : Int32) [(.int (0 : Int32))] (.int (0 : Int32)) := ((((f41.ext E40).other W45 (Ne.symm ne_a1_b23)).ext E49).other W54 (Ne.symm ne_a1_b23))
  have f60 : Arv Z h54 b40 k40 .int (1 : Int32) [(.int (0 : Int32))] (.int (0 : Int32)) := (((V40.other W45 (Ne.symm ne_a1_b40)).ext E49).other W54 (Ne.symm ne_a1_b40))
  have f61 : n0 ≤ h54.size := (Nat.le_trans (Nat.le_trans f51 E49.1) (Keep.of_wr W54).1)
  have f62 : Keep h0 h54 [a1] := ((f52.ext E49).wr W54 (Or.inl (List.mem_of_getElem? (i := 0) rfl)))
  obtain ⟨T58, h58, k58, X58, e58, E58, A58, st58⟩ := newP X54 hx hZ (hw _ (List.mem_of_getElem? (i := 28) rfl)) e54 (g := (mkF m 73 #[rv a1, iv p2, iv p3] [(.int (4 : Int32)), (.ref a1)])) rfl (hb hby d1_73) rfl (by decide) (cap := 4) (by decide) (by decide) (by decide) (by decide)
  obtain ⟨b58, g58⟩ : ∃ z, z = h54.size := ⟨_, rfl⟩
  rw [← g58] at A58 st58
  have g_b58 : n0 ≤ b58 := Nat.le_trans f61 (Nat.le_of_eq g58.symm)
  have sz_b58 : h0.size ≤ b58 := Nat.le_trans f62.1 (Nat.le_of_eq g58.symm)
  have ne_a1_b58 : a1 ≠ b58 := Nat.ne_of_lt (Nat.lt_of_lt_of_le (((((f36.wr W35).ext E40).wr W45).ext E49).wr W54).lt (Nat.le_of_eq g58.symm))
  have ne_b23_b58 : b23 ≠ b58 := Nat.ne_of_lt (Nat.lt_of_lt_of_le f59.lt (Nat.le_of_eq g58.symm))
  have ne_b31_b58 : b31 ≠ b58 := Nat.ne_of_lt (Nat.lt_of_lt_of_le ((f50.ext E49).other W54 (Ne.symm ne_a1_b31)).lt (Nat.le_of_eq g58.symm))
  have ne_b40_b58 : b40 ≠ b58 := Nat.ne_of_lt (Nat.lt_of_lt_of_le f60.lt (Nat.le_of_eq g58.symm))
  have ne_b49_b58 : b49 ≠ b58 := Nat.ne_of_lt (Nat.lt_of_lt_of_le (V49.other W54 (Ne.symm ne_a1_b49)).lt (Nat.le_of_eq g58.symm))
  have V58 : Arv Z h58 b58 k58 .byte (4 : Int32) [(.int (0 : Int32)), (.int (0 : Int32)), (.int (0 : Int32)), (.int (0 : Int32))] (.int (0 : Int32)) := (Arv.new A58 (by decide)).pad (pad_rep [] (.int (0 : Int32)) 4)
  have P63 : Rch p e below (s₁.setTop (entryFrame m #[(.ref a1), (.int p2), (.int p3)] 3)) (T58.setTop (mkF m 75 #[rv a1, iv p2, iv p3] [(.ref b58), (.ref a1)])) := fun t k => P57 t (st58 t k)
  have f65 : Fld Z h58 a1 "com/example/kinhash/kinhash/BlockTable" "tags" "[B" .null := (((((((((((((F8.other W5 (Or.inr (slot_ne (Or.inl (hw _ (List.mem_of_getElem? (i := 30) rfl))) (Or.inl (hw _ (List.mem_of_getElem? (i := 12) rfl))) (by decide) (t := (.array .byte)) (t' := .int) (by decide) (by decide)))).other W11 (Or.inr (slot_ne (Or.inl (hw _ (List.mem_of_getElem? (i := 30) rfl))) (Or.inr (hw _ (List.mem_of_getElem? (i := 14) rfl))) (by decide) (t := (.array .byte)) (t' := .long) (by decide) (by decide)))).other W15 (Or.inr (slot_ne (Or.inl (hw _ (List.mem_of_getElem? (i := 30) rfl))) (Or.inr (hw _ (List.mem_of_getElem? (i := 16) rfl))) (by decide) (t := (.array .byte)) (t' := .int) (by decide) (by decide)))).other W19 (Or.inr (slot_ne (Or.inl (hw _ (List.mem_of_getElem? (i := 30) rfl))) (Or.inr (hw _ (List.mem_of_getElem? (i := 18) rfl))) (by decide) (t := (.array .byte)) (t' := .int) (by decide) (by decide)))).ext E23).other W27 (Or.inr (slot_ne (Or.inl (hw _ (List.mem_of_getElem? (i := 30) rfl))) (Or.inl (hw _ (List.mem_of_getElem? (i := 21) rfl))) (by decide) (t := (.array .byte)) (t' := (.array .int)) (by decide) (by decide)))).ext E31).other W35 (Or.inr (slot_ne (Or.inl (hw _ (List.mem_of_getElem? (i := 30) rfl))) (Or.inl (hw _ (List.mem_of_getElem? (i := 23) rfl))) (by decide) (t := (.array .byte)) (t' := (.array .int)) (by decide) (by decide)))).ext E40).other W45 (Or.inr (slot_ne (Or.inl (hw _ (List.mem_of_getElem? (i := 30) rfl))) (Or.inl (hw _ (List.mem_of_getElem? (i := 25) rfl))) (by decide) (t := (.array .byte)) (t' := (.array .int)) (by decide) (by decide)))).ext E49).other W54 (Or.inr (slot_ne (Or.inl (hw _ (List.mem_of_getElem? (i := 30) rfl))) (Or.inl (hw _ (List.mem_of_getElem? (i := 27) rfl))) (by decide) (t := (.array .byte)) (t' := (.array .int)) (by decide) (by decide)))).ext E58)
  obtain ⟨T64, h64, X64, e64, W64, st64⟩ := putF X58 hx hZ hown (host := "") (Or.inl (hw _ (List.mem_of_getElem? (i := 29) rfl))) Via.refl e58 f65 ((((((f36.wr W35).ext E40).wr W45).ext E49).wr W54).ext E58) (Or.inl (hw _ (List.mem_of_getElem? (i := 30) rfl))) (hw _ (List.mem_of_getElem? (i := 3) rfl)) (ty := (.array .byte)) (by decide) rfl rfl (g := (mkF m 75 #[rv a1, iv p2, iv p3] [(.ref b58), (.ref a1)])) rfl rfl (hb hby d1_75)
  have Fw64 := f65.same W64
  have P66 : Rch p e below (s₁.setTop (entryFrame m #[(.ref a1), (.int p2), (.int p3)] 3)) (T64.setTop (mkF m 78 #[rv a1, iv p2, iv p3] [])) := fun t k => P63 t (st64 t k)
  have N64 := Fr.snoc X64 N54 g1
  obtain ⟨fs, hr, hrun, hended, hW, hsame⟩ := X64.leave (v := none) (fun _ => rfl)
  refine ⟨_, _, P66 _ ?_, hrun, hended, _, _, rfl, ?_, ⟨_, rfl⟩, hW, hsame.mono (by decide) (by decide)⟩
  · exact X64.returnOut hx Bd.returns (hb hby d1_78) hr
  · show Q_rmI Z a1 p2 p3 h0 n0 _ T64.heap _
    rw [e64]
    have f67 : Fld Z h64 a1 "com/example/kinhash/kinhash/BlockTable" "start" "[I" (.ref b23) := ((((((((Fw27.ext E31).other W35 (Or.inr (slot_ne (Or.inl (hw _ (List.mem_of_getElem? (i := 21) rfl))) (Or.inl (hw _ (List.mem_of_getElem? (i := 23) rfl))) (by decide) (t := (.array .int)) (t' := (.array .int)) (by decide) (by decide)))).ext E40).other W45 (Or.inr (slot_ne (Or.inl (hw _ (List.mem_of_getElem? (i := 21) rfl))) (Or.inl (hw _ (List.mem_of_getElem? (i := 25) rfl))) (by decide) (t := (.array .int)) (t' := (.array .int)) (by decide) (by decide)))).ext E49).other W54 (Or.inr (slot_ne (Or.inl (hw _ (List.mem_of_getElem? (i := 21) rfl))) (Or.inl (hw _ (List.mem_of_getElem? (i := 27) rfl))) (by decide) (t := (.array .int)) (t' := (.array .int)) (by decide) (by decide)))).ext E58).other W64 (Or.inr (slot_ne (Or.inl (hw _ (List.mem_of_getElem? (i := 21) rfl))) (Or.inl (hw _ (List.mem_of_getElem? (i := 30) rfl))) (by decide) (t := (.array .int)) (t' := (.array .byte)) (by decide) (by decide))))
    have f68 : Fld Z h64 a1 "com/example/kinhash/kinhash/BlockTable" "length" "[I" (.ref b31) := ((((((Fw35.ext E40).other W45 (Or.inr (slot_ne (Or.inl (hw _ (List.mem_of_getElem? (i := 23) rfl))) (Or.inl (hw _ (List.mem_of_getElem? (i := 25) rfl))) (by decide) (t := (.array .int)) (t' := (.array .int)) (by decide) (by decide)))).ext E49).other W54 (Or.inr (slot_ne (Or.inl (hw _ (List.mem_of_getElem? (i := 23) rfl))) (Or.inl (hw _ (List.mem_of_getElem? (i := 27) rfl))) (by decide) (t := (.array .int)) (t' := (.array .int)) (by decide) (by decide)))).ext E58).other W64 (Or.inr (slot_ne (Or.inl (hw _ (List.mem_of_getElem? (i := 23) rfl))) (Or.inl (hw _ (List.mem_of_getElem? (i := 30) rfl))) (by decide) (t := (.array .int)) (t' := (.array .byte)) (by decide) (by decide))))
    have f69 : Fld Z h64 a1 "com/example/kinhash/kinhash/BlockTable" "room" "[I" (.ref b40) := ((((Fw45.ext E49).other W54 (Or.inr (slot_ne (Or.inl (hw _ (List.mem_of_getElem? (i := 25) rfl))) (Or.inl (hw _ (List.mem_of_getElem? (i := 27) rfl))) (by decide) (t := (.array .int)) (t' := (.array .int)) (by decide) (by decide)))).ext E58).other W64 (Or.inr (slot_ne (Or.inl (hw _ (List.mem_of_getElem? (i := 25) rfl))) (Or.inl (hw _ (List.mem_of_getElem? (i := 30) rfl))) (by decide) (t := (.array .int)) (t' := (.array .byte)) (by decide) (by decide))))
    have f70 : Fld Z h64 a1 "com/example/kinhash/kinhash/BlockTable" "entries" "[I" (.ref b49) := ((Fw54.ext E58).other W64 (Or.inr (slot_ne (Or.inl (hw _ (List.mem_of_getElem? (i := 27) rfl))) (Or.inl (hw _ (List.mem_of_getElem? (i := 30) rfl))) (by decide) (t := (.array .int)) (t' := (.array .byte)) (by decide) (by decide))))
    have f71 : Arv Z h64 b31 k31 .int (1 : Int32) [(.int (0 : Int32))] (.int (0 : Int32)) := ((((f50.ext E49).other W54 (Ne.symm ne_a1_b31)).ext E58).other W64 (Ne.symm ne_a1_b31))
    have f72 : Arv Z h64 b49 k49 .int (4 : Int32) [(.int (0 : Int32)), (.int (0 : Int32)), (.int (0 : Int32)), (.int (0 : Int32))] (.int (0 : Int32)) := (((V49.other W54 (Ne.symm ne_a1_b49)).ext E58).other W64 (Ne.symm ne_a1_b49))
    have f73 : Fld Z h64 a1 "com/example/kinhash/kinhash/BlockTable" "mask" "J" (.long v9) := ((((((((((((Fw11.other W15 (Or.inr (slot_ne (Or.inr (hw _ (List.mem_of_getElem? (i := 14) rfl))) (Or.inr (hw _ (List.mem_of_getElem? (i := 16) rfl))) (by decide) (t := .long) (t' := .int) (by decide) (by decide)))).other W19 (Or.inr (slot_ne (Or.inr (hw _ (List.mem_of_getElem? (i := 14) rfl))) (Or.inr (hw _ (List.mem_of_getElem? (i := 18) rfl))) (by decide) (t := .long) (t' := .int) (by decide) (by decide)))).ext E23).other W27 (Or.inr (slot_ne (Or.inr (hw _ (List.mem_of_getElem? (i := 14) rfl))) (Or.inl (hw _ (List.mem_of_getElem? (i := 21) rfl))) (by decide) (t := .long) (t' := (.array .int)) (by decide) (by decide)))).ext E31).other W35 (Or.inr (slot_ne (Or.inr (hw _ (List.mem_of_getElem? (i := 14) rfl))) (Or.inl (hw _ (List.mem_of_getElem? (i := 23) rfl))) (by decide) (t := .long) (t' := (.array .int)) (by decide) (by decide)))).ext E40).other W45 (Or.inr (slot_ne (Or.inr (hw _ (List.mem_of_getElem? (i := 14) rfl))) (Or.inl (hw _ (List.mem_of_getElem? (i := 25) rfl))) (by decide) (t := .long) (t' := (.array .int)) (by decide) (by decide)))).ext E49).other W54 (Or.inr (slot_ne (Or.inr (hw _ (List.mem_of_getElem? (i := 14) rfl))) (Or.inl (hw _ (List.mem_of_getElem? (i := 27) rfl))) (by decide) (t := .long) (t' := (.array .int)) (by decide) (by decide)))).ext E58).other W64 (Or.inr (slot_ne (Or.inr (hw _ (List.mem_of_getElem? (i := 14) rfl))) (Or.inl (hw _ (List.mem_of_getElem? (i := 30) rfl))) (by decide) (t := .long) (t' := (.array .byte)) (by decide) (by decide))))
    have f74 : Keep h0 h64 [a1] := ((f62.ext E58).wr W64 (Or.inl (List.mem_of_getElem? (i := 0) rfl)))
    have f75 : Exa Z h64 a1 "com/example/kinhash/kinhash/BlockTable" := (((((((f36.wr W35).ext E40).wr W45).ext E49).wr W54).ext E58).wr W64)
    have f76 : Fld Z h64 a1 "com/example/kinhash/kinhash/BlockTable" "recordBits" "I" (.int (16 : Int32)) := (((((((((((((Fw5.other W11 (Or.inr (slot_ne (Or.inl (hw _ (List.mem_of_getElem? (i := 12) rfl))) (Or.inr (hw _ (List.mem_of_getElem? (i := 14) rfl))) (by decide) (t := .int) (t' := .long) (by decide) (by decide)))).other W15 (Or.inr (slot_ne (Or.inl (hw _ (List.mem_of_getElem? (i := 12) rfl))) (Or.inr (hw _ (List.mem_of_getElem? (i := 16) rfl))) (by decide) (t := .int) (t' := .int) (by decide) (by decide)))).other W19 (Or.inr (slot_ne (Or.inl (hw _ (List.mem_of_getElem? (i := 12) rfl))) (Or.inr (hw _ (List.mem_of_getElem? (i := 18) rfl))) (by decide) (t := .int) (t' := .int) (by decide) (by decide)))).ext E23).other W27 (Or.inr (slot_ne (Or.inl (hw _ (List.mem_of_getElem? (i := 12) rfl))) (Or.inl (hw _ (List.mem_of_getElem? (i := 21) rfl))) (by decide) (t := .int) (t' := (.array .int)) (by decide) (by decide)))).ext E31).other W35 (Or.inr (slot_ne (Or.inl (hw _ (List.mem_of_getElem? (i := 12) rfl))) (Or.inl (hw _ (List.mem_of_getElem? (i := 23) rfl))) (by decide) (t := .int) (t' := (.array .int)) (by decide) (by decide)))).ext E40).other W45 (Or.inr (slot_ne (Or.inl (hw _ (List.mem_of_getElem? (i := 12) rfl))) (Or.inl (hw _ (List.mem_of_getElem? (i := 25) rfl))) (by decide) (t := .int) (t' := (.array .int)) (by decide) (by decide)))).ext E49).other W54 (Or.inr (slot_ne (Or.inl (hw _ (List.mem_of_getElem? (i := 12) rfl))) (Or.inl (hw _ (List.mem_of_getElem? (i := 27) rfl))) (by decide) (t := .int) (t' := (.array .int)) (by decide) (by decide)))).ext E58).other W64 (Or.inr (slot_ne (Or.inl (hw _ (List.mem_of_getElem? (i := 12) rfl))) (Or.inl (hw _ (List.mem_of_getElem? (i := 30) rfl))) (by decide) (t := .int) (t' := (.array .byte)) (by decide) (by decide))))
    have f77 : Fld Z h64 a1 "com/example/kinhash/kinhash/BlockTable" "lowestBit" "I" (.int p2) := (((((((((((Fw15.other W19 (Or.inr (slot_ne (Or.inr (hw _ (List.mem_of_getElem? (i := 16) rfl))) (Or.inr (hw _ (List.mem_of_getElem? (i := 18) rfl))) (by decide) (t := .int) (t' := .int) (by decide) (by decide)))).ext E23).other W27 (Or.inr (slot_ne (Or.inr (hw _ (List.mem_of_getElem? (i := 16) rfl))) (Or.inl (hw _ (List.mem_of_getElem? (i := 21) rfl))) (by decide) (t := .int) (t' := (.array .int)) (by decide) (by decide)))).ext E31).other W35 (Or.inr (slot_ne (Or.inr (hw _ (List.mem_of_getElem? (i := 16) rfl))) (Or.inl (hw _ (List.mem_of_getElem? (i := 23) rfl))) (by decide) (t := .int) (t' := (.array .int)) (by decide) (by decide)))).ext E40).other W45 (Or.inr (slot_ne (Or.inr (hw _ (List.mem_of_getElem? (i := 16) rfl))) (Or.inl (hw _ (List.mem_of_getElem? (i := 25) rfl))) (by decide) (t := .int) (t' := (.array .int)) (by decide) (by decide)))).ext E49).other W54 (Or.inr (slot_ne (Or.inr (hw _ (List.mem_of_getElem? (i := 16) rfl))) (Or.inl (hw _ (List.mem_of_getElem? (i := 27) rfl))) (by decide) (t := .int) (t' := (.array .int)) (by decide) (by decide)))).ext E58).other W64 (Or.inr (slot_ne (Or.inr (hw _ (List.mem_of_getElem? (i := 16) rfl))) (Or.inl (hw _ (List.mem_of_getElem? (i := 30) rfl))) (by decide) (t := .int) (t' := (.array .byte)) (by decide) (by decide))))
    have f78 : Fld Z h64 a1 "com/example/kinhash/kinhash/BlockTable" "bucketBits" "I" (.int (0 : Int32)) := ((((((((((((((F9.other W5 (Or.inr (slot_ne (Or.inl (hw _ (List.mem_of_getElem? (i := 42) rfl))) (Or.inl (hw _ (List.mem_of_getElem? (i := 12) rfl))) (by decide) (t := .int) (t' := .int) (by decide) (by decide)))).other W11 (Or.inr (slot_ne (Or.inl (hw _ (List.mem_of_getElem? (i := 42) rfl))) (Or.inr (hw _ (List.mem_of_getElem? (i := 14) rfl))) (by decide) (t := .int) (t' := .long) (by decide) (by decide)))).other W15 (Or.inr (slot_ne (Or.inl (hw _ (List.mem_of_getElem? (i := 42) rfl))) (Or.inr (hw _ (List.mem_of_getElem? (i := 16) rfl))) (by decide) (t := .int) (t' := .int) (by decide) (by decide)))).other W19 (Or.inr (slot_ne (Or.inl (hw _ (List.mem_of_getElem? (i := 42) rfl))) (Or.inr (hw _ (List.mem_of_getElem? (i := 18) rfl))) (by decide) (t := .int) (t' := .int) (by decide) (by decide)))).ext E23).other W27 (Or.inr (slot_ne (Or.inl (hw _ (List.mem_of_getElem? (i := 42) rfl))) (Or.inl (hw _ (List.mem_of_getElem? (i := 21) rfl))) (by decide) (t := .int) (t' := (.array .int)) (by decide) (by decide)))).ext E31).other W35 (Or.inr (slot_ne (Or.inl (hw _ (List.mem_of_getElem? (i := 42) rfl))) (Or.inl (hw _ (List.mem_of_getElem? (i := 23) rfl))) (by decide) (t := .int) (t' := (.array .int)) (by decide) (by decide)))).ext E40).other W45 (Or.inr (slot_ne (Or.inl (hw _ (List.mem_of_getElem? (i := 42) rfl))) (Or.inl (hw _ (List.mem_of_getElem? (i := 25) rfl))) (by decide) (t := .int) (t' := (.array .int)) (by decide) (by decide)))).ext E49).other W54 (Or.inr (slot_ne (Or.inl (hw _ (List.mem_of_getElem? (i := 42) rfl))) (Or.inl (hw _ (List.mem_of_getElem? (i := 27) rfl))) (by decide) (t := .int) (t' := (.array .int)) (by decide) (by decide)))).ext E58).other W64 (Or.inr (slot_ne (Or.inl (hw _ (List.mem_of_getElem? (i := 42) rfl))) (Or.inl (hw _ (List.mem_of_getElem? (i := 30) rfl))) (by decide) (t := .int) (t' := (.array .byte)) (by decide) (by decide))))
    have f79 : Fld Z h64 a1 "com/example/kinhash/kinhash/BlockTable" "free" "I" (.int (0 : Int32)) := ((((((((((((((F10.other W5 (Or.inr (slot_ne (Or.inl (hw _ (List.mem_of_getElem? (i := 56) rfl))) (Or.inl (hw _ (List.mem_of_getElem? (i := 12) rfl))) (by decide) (t := .int) (t' := .int) (by decide) (by decide)))).other W11 (Or.inr (slot_ne (Or.inl (hw _ (List.mem_of_getElem? (i := 56) rfl))) (Or.inr (hw _ (List.mem_of_getElem? (i := 14) rfl))) (by decide) (t := .int) (t' := .long) (by decide) (by decide)))).other W15 (Or.inr (slot_ne (Or.inl (hw _ (List.mem_of_getElem? (i := 56) rfl))) (Or.inr (hw _ (List.mem_of_getElem? (i := 16) rfl))) (by decide) (t := .int) (t' := .int) (by decide) (by decide)))).other W19 (Or.inr (slot_ne (Or.inl (hw _ (List.mem_of_getElem? (i := 56) rfl))) (Or.inr (hw _ (List.mem_of_getElem? (i := 18) rfl))) (by decide) (t := .int) (t' := .int) (by decide) (by decide)))).ext E23).other W27 (Or.inr (slot_ne (Or.inl (hw _ (List.mem_of_getElem? (i := 56) rfl))) (Or.inl (hw _ (List.mem_of_getElem? (i := 21) rfl))) (by decide) (t := .int) (t' := (.array .int)) (by decide) (by decide)))).ext E31).other W35 (Or.inr (slot_ne (Or.inl (hw _ (List.mem_of_getElem? (i := 56) rfl))) (Or.inl (hw _ (List.mem_of_getElem? (i := 23) rfl))) (by decide) (t := .int) (t' := (.array .int)) (by decide) (by decide)))).ext E40).other W45 (Or.inr (slot_ne (Or.inl (hw _ (List.mem_of_getElem? (i := 56) rfl))) (Or.inl (hw _ (List.mem_of_getElem? (i := 25) rfl))) (by decide) (t := .int) (t' := (.array .int)) (by decide) (by decide)))).ext E49).other W54 (Or.inr (slot_ne (Or.inl (hw _ (List.mem_of_getElem? (i := 56) rfl))) (Or.inl (hw _ (List.mem_of_getElem? (i := 27) rfl))) (by decide) (t := .int) (t' := (.array .int)) (by decide) (by decide)))).ext E58).other W64 (Or.inr (slot_ne (Or.inl (hw _ (List.mem_of_getElem? (i := 56) rfl))) (Or.inl (hw _ (List.mem_of_getElem? (i := 30) rfl))) (by decide) (t := .int) (t' := (.array .byte)) (by decide) (by decide))))
    exact ⟨v9, b23, b31, b40, b49, b58, k23, k31, k40, k49, k58, rfl, N64, f74, sz_b23, sz_b31, sz_b40, sz_b49, sz_b58, f75, f76, f73, f77, f78, f79, f67, f68, f69, f70, Fw64, ((f59.ext E58).other W64 (Ne.symm ne_a1_b23)), f71, ((f60.ext E58).other W64 (Ne.symm ne_a1_b40)), f72, (V58.other W64 (Ne.symm ne_a1_b58)), ne_b23_b31, ne_b23_b40, ne_b23_b49, ne_b23_b58, ne_b31_b40, ne_b31_b49, ne_b31_b58, ne_b40_b49, ne_b40_b58, ne_b49_b58⟩
def own_mx (p1 : Int32) (p2 : Int32) : Int32 := (if p1 < p2 then p2 else p1)
def Q_rmMx (Z : State) (p1 : Int32) (p2 : Int32) (h0 : Heap) (n0 : Nat) (v : Option Value) (h : Heap) (L : List Loc) : Prop := v = some (.int (own_mx p1 p2)) ∧ Fr n0 L ∧ h = h0
set_option maxRecDepth 65536 in
set_option maxHeartbeats 40000000 in
theorem rmMx (l : Launch) (Z : State) (a0 : Array Value) (hw : ∀ d ∈ tables_1, d.before a0 Z = true) (ws : List Jvm.Cond) (p1 : Int32) (p2 : Int32) (h0 : Heap) (n0 : Nat) (Z0 : n0 ≤ h0.size) :
    MetFree l (⟨"java/lang/Math", "max", "(II)I"⟩ : MethodName) (head1 (Jvm.Cond.code (⟨"java/lang/Math", "max", "(II)I"⟩ : MethodName) jdk_29_method_65_code 2 (some .int) :: ws) ({ frames := 0, cells := 0, slots := 0, locals := 0 } : Room)) (fun a U => a = #[(.int p1), (.int p2)] ∧ Z.Warmed39 U.vm ∧ U.heap = h0) (fun _ _ _ _ _ => True) (fun _ U o U' => ∃ v L, o = .returned v ∧ Q_rmMx Z p1 p2 h0 n0 v U'.heap L ∧ FrameEnd U o U' L ({ frames := 0, cells := 0, slots := 0, locals := 0 } : Room).cells ({ frames := 0, cells := 0, slots := 0, locals := 0 } : Room).slots) := by
  refine MetFree.of_bodySF (Jvm.Free.JP.mathPlain rfl (by decide +kernel)) hisR ?_
  intro p e s m args below meth c s₁ Bd hml0 hP hK
  obtain ⟨rfl, hZ, hh⟩ := hP
  have hx := Bd.exec
  have hby := Bd.bytes
  have hml : c.maxLocals = 2 := hml0
  have hown : s.vm.findClass "java/lang/Math" = some m.cls := findClass_of_methodNamed Bd.named
  have hnm := (name_of_methodNamed Bd.named Bd.method).1
  have X0 : Stand p l e ({ frames := 0, cells := 0, slots := 0, locals := 0 } : Room) s m #[(.int p1), (.int p2)] below meth c s₁ [] 0 0 := Stand.of_body Bd
  have e0 : s₁.heap = h0 := by rw [← hh, Bd.state]; rfl
  have N0 := Fr.nil n0
  have P0 : Rch p e below (s₁.setTop (entryFrame m #[(.int p1), (.int p2)] 2)) (s₁.setTop (mkF m 0 #[iv p1, iv p2] [])) := fun t k => castTop (by first | (simp [entryFrame, mkF, argsToLocals, Value.category]; done) | rfl) k
  have P1 : Rch p e below (s₁.setTop (entryFrame m #[(.int p1), (.int p2)] 2)) (s₁.setTop (mkF m 2 #[iv p1, iv p2] [(.int p2), (.int p1)])) := fun t k => P0 t (by
    show Steps p.tables e below (s₁.setTop (mkF m 0 #[iv p1, iv p2] [])) t
    refine XS.iloadN X0.here hx rfl (hb hby d7_0) rfl ?_
    refine XS.iloadN X0.here hx rfl (hb hby d7_1) rfl ?_
    exact k)
  obtain ⟨v3, hv3, P4⟩ : ∃ (v3 : Int32), v3 = (if p1 < p2 then p2 else p1) ∧ Rch p e below (s₁.setTop (entryFrame m #[(.int p1), (.int p2)] 2)) (s₁.setTop (mkF m 10 #[iv p1, iv p2] [(.int v3)])) := by
    by_cases c2 : p1 < p2
    · refine ⟨p2, (by first | rw [if_pos c2] | simp only [if_pos c2] | rfl), fun t k => P1 t ?_⟩
      show Steps p.tables e below (s₁.setTop (mkF m 2 #[iv p1, iv p2] [(.int p2), (.int p1)])) t
      refine XS.icmpYes X0.here hx rfl (pc0 := 2) (pc' := 9) rfl (hb hby d7_2) rfl (tlt c2).1 (by decide) (by decide) ?_
      refine XS.iloadN X0.here hx rfl (hb hby d7_9) rfl ?_
      exact k
    · refine ⟨p1, (by first | rw [if_neg c2] | simp only [if_neg c2] | rfl), fun t k => P1 t ?_⟩
      show Steps p.tables e below (s₁.setTop (mkF m 2 #[iv p1, iv p2] [(.int p2), (.int p1)])) t
      refine XS.icmpNo X0.here hx rfl (hb hby d7_2) rfl (flt c2).1 ?_
      refine XS.iloadN X0.here hx rfl (hb hby d7_5) rfl ?_
      refine XS.goto X0.here hx rfl (pc0 := 6) (pc' := 10) rfl (hb hby d7_6) (by decide) (by decide) ?_
      exact k
  obtain ⟨fs, hr, hrun, hended, hW, hsame⟩ := X0.leave (v := some (.int v3)) (fun h => by rw [Bd.returns] at h; cases h)
  refine ⟨_, _, P4 _ ?_, hrun, hended, _, _, rfl, ?_, ⟨_, rfl⟩, hW, hsame.mono (by decide) (by decide)⟩
  · exact retI X0 hx Bd.returns (hb hby d7_10) hr
  · show Q_rmMx Z p1 p2 h0 n0 _ s₁.heap _
    rw [e0]
    exact ⟨(by unfold own_mx; subst hv3; first | rfl | rw [] | simp only [] | simp [*]), N0, rfl⟩
def own_rr (q1 : Int64) (p2 : Int32) : Int64 := (((q1.toUInt64 >>> (p2 &&& 0x3f).toInt64.toUInt64).toInt64) ||| (q1 <<< ((-p2) &&& 0x3f).toInt64))
def Q_rmRr (Z : State) (q1 : Int64) (p2 : Int32) (h0 : Heap) (n0 : Nat) (v : Option Value) (h : Heap) (L : List Loc) : Prop := v = some (.long (own_rr q1 p2)) ∧ Fr n0 L ∧ h = h0
set_option maxRecDepth 65536 in
set_option maxHeartbeats 40000000 in
theorem rmRr (l : Launch) (Z : State) (a0 : Array Value) (hw : ∀ d ∈ tables_1, d.before a0 Z = true) (ws : List Jvm.Cond) (q1 : Int64) (p2 : Int32) (h0 : Heap) (n0 : Nat) (Z0 : n0 ≤ h0.size) :
    MetFree l (⟨"java/lang/Long", "rotateRight", "(JI)J"⟩ : MethodName) (head1 (Jvm.Cond.code (⟨"java/lang/Long", "rotateRight", "(JI)J"⟩ : MethodName) jdk_35_method_52_code 3 (some .long) :: ws) ({ frames := 0, cells := 0, slots := 0, locals := 0 } : Room)) (fun a U => a = #[(.long q1), (.int p2)] ∧ Z.Warmed39 U.vm ∧ U.heap = h0) (fun _ _ _ _ _ => True) (fun _ U o U' => ∃ v L, o = .returned v ∧ Q_rmRr Z q1 p2 h0 n0 v U'.heap L ∧ FrameEnd U o U' L ({ frames := 0, cells := 0, slots := 0, locals := 0 } : Room).cells ({ frames := 0, cells := 0, slots := 0, locals := 0 } : Room).slots) := by
  refine MetFree.of_bodySF (plainFor_of_name pn_1) hisR ?_
  intro p e s m args below meth c s₁ Bd hml0 hP hK
  obtain ⟨rfl, hZ, hh⟩ := hP
  have hx := Bd.exec
  have hby := Bd.bytes
  have hml : c.maxLocals = 3 := hml0
  have hown : s.vm.findClass "java/lang/Long" = some m.cls := findClass_of_methodNamed Bd.named
  have hnm := (name_of_methodNamed Bd.named Bd.method).1
  have X0 : Stand p l e ({ frames := 0, cells := 0, slots := 0, locals := 0 } : Room) s m #[(.long q1), (.int p2)] below meth c s₁ [] 0 0 := Stand.of_body Bd
  have e0 : s₁.heap = h0 := by rw [← hh, Bd.state]; rfl
  have N0 := Fr.nil n0
  have P0 : Rch p e below (s₁.setTop (entryFrame m #[(.long q1), (.int p2)] 3)) (s₁.setTop (mkF m 0 #[lv q1, sd, iv p2] [])) := fun t k => castTop (by first | (simp [entryFrame, mkF, argsToLocals, Value.category]; done) | rfl) k
  obtain ⟨y1, hy1⟩ : ∃ z : Int64, z = (((q1.toUInt64 >>> (p2 &&& 0x3f).toInt64.toUInt64).toInt64) ||| (q1 <<< ((-p2) &&& 0x3f).toInt64)) := ⟨_, rfl⟩
  have P2 : Rch p e below (s₁.setTop (entryFrame m #[(.long q1), (.int p2)] 3)) (s₁.setTop (mkF m 8 #[lv q1, sd, iv p2] [(.long y1)])) := fun t k => P0 t (by
    subst hy1
    show Steps p.tables e below (s₁.setTop (mkF m 0 #[lv q1, sd, iv p2] [])) t
    refine XS.lloadN X0.here hx rfl (hb hby d11_0) rfl ?_
    refine XS.iloadN X0.here hx rfl (hb hby d11_1) rfl ?_
    refine XS.lushr X0.here hx rfl (hb hby d11_2) rfl ?_
    show Steps p.tables e below (s₁.setTop (mkF m 3 #[lv q1, sd, iv p2] [(.long ((q1.toUInt64 >>> (p2 &&& 0x3f).toInt64.toUInt64).toInt64))])) t
    refine XS.lloadN X0.here hx rfl (hb hby d11_3) rfl ?_
    refine XS.iloadN X0.here hx rfl (hb hby d11_4) rfl ?_
    refine XS.ineg X0.here hx rfl (hb hby d11_5) rfl ?_
    refine XS.lshl X0.here hx rfl (hb hby d11_6) rfl ?_
    show Steps p.tables e below (s₁.setTop (mkF m 7 #[lv q1, sd, iv p2] [(.long (q1 <<< ((-p2) &&& 0x3f).toInt64)), (.long ((q1.toUInt64 >>> (p2 &&& 0x3f).toInt64.toUInt64).toInt64))])) t
    refine XS.lor X0.here hx rfl (hb hby d11_7) rfl ?_
    exact k)
  obtain ⟨fs, hr, hrun, hended, hW, hsame⟩ := X0.leave (v := some (.long y1)) (fun h => by rw [Bd.returns] at h; cases h)
  refine ⟨_, _, P2 _ ?_, hrun, hended, _, _, rfl, ?_, ⟨_, rfl⟩, hW, hsame.mono (by decide) (by decide)⟩
  · exact retOut X0 hx Bd.returns rfl (Or.inr (Or.inl ⟨rfl, rfl, _, rfl⟩)) (hb hby d11_8) hr
  · show Q_rmRr Z q1 p2 h0 n0 _ s₁.heap _
    rw [e0]
    exact ⟨(by unfold own_rr; subst hy1; first | rfl | rw [] | simp only [] | simp [*]), N0, rfl⟩
def own_nlz (p1 : Int32) : Int32 := (if (0 : Int32) < p1 then ((if (if (if (if p1 < (65536 : Int32) then p1 else ((p1.toUInt32 >>> ((16 : Int32) &&& 31).toUInt32).toInt32)) < (256 : Int32) then (if p1 < (65536 : Int32) then p1 else ((p1.toUInt32 >>> ((16 : Int32) &&& 31).toUInt32).toInt32)) else (((if p1 < (65536 : Int32) then p1 else ((p1.toUInt32 >>> ((16 : Int32) &&& 31).toUInt32).toInt32)).toUInt32 >>> ((8 : Int32) &&& 31).toUInt32).toInt32)) < (16 : Int32) then (if (if p1 < (65536 : Int32) then p1 else ((p1.toUInt32 >>> ((16 : Int32) &&& 31).toUInt32).toInt32)) < (256 : Int32) then (if p1 < (65536 : Int32) then p1 else ((p1.toUInt32 >>> ((16 : Int32) &&& 31).toUInt32).toInt32)) else (((if p1 < (65536 : Int32) then p1 else ((p1.toUInt32 >>> ((16 : Int32) &&& 31).toUInt32).toInt32)).toUInt32 >>> ((8 : Int32) &&& 31).toUInt32).toInt32)) else (((if (if p1 < (65536 : Int32) then p1 else ((p1.toUInt32 >>> ((16 : Int32) &&& 31).toUInt32).toInt32)) < (256 : Int32) then (if p1 < (65536 : Int32) then p1 else ((p1.toUInt32 >>> ((16 : Int32) &&& 31).toUInt32).toInt32)) else (((if p1 < (65536 : Int32) then p1 else ((p1.toUInt32 >>> ((16 : Int32) &&& 31).toUInt32).toInt32)).toUInt32 >>> ((8 : Int32) &&& 31).toUInt32).toInt32)).toUInt32 >>> ((4 : Int32) &&& 31).toUInt32).toInt32)) < (4 : Int32) then (if (if (if p1 < (65536 : Int32) then p1 else ((p1.toUInt32 >>> ((16 : Int32) &&& 31).toUInt32).toInt32)) < (256 : Int32) then (if p1 < (65536 : Int32) then p1 else ((p1.toUInt32 >>> ((16 : Int32) &&& 31).toUInt32).toInt32)) else (((if p1 < (65536 : Int32) then p1 else ((p1.toUInt32 >>> ((16 : Int32) &&& 31).toUInt32).toInt32)).toUInt32 >>> ((8 : Int32) &&& 31).toUInt32).toInt32)) < (16 : Int32) then (if (if p1 < (65536 : Int32) then p1 else ((p1.toUInt32 >>> ((16 : Int32) &&& 31).toUInt32).toInt32)) < (256 : Int32) then (if p1 < (65536 : Int32) then (31 : Int32) else ((31 : Int32) + (-16 : Int32))) else ((if p1 < (65536 : Int32) then (31 : Int32) else ((31 : Int32) + (-16 : Int32))) + (-8 : Int32))) else ((if (if p1 < (65536 : Int32) then p1 else ((p1.toUInt32 >>> ((16 : Int32) &&& 31).toUInt32).toInt32)) < (256 : Int32) then (if p1 < (65536 : Int32) then (31 : Int32) else ((31 : Int32) + (-16 : Int32))) else ((if p1 < (65536 : Int32) then (31 : Int32) else ((31 : Int32) + (-16 : Int32))) + (-8 : Int32))) + (-4 : Int32))) else ((if (if (if p1 < (65536 : Int32) then p1 else ((p1.toUInt32 >>> ((16 : Int32) &&& 31).toUInt32).toInt32)) < (256 : Int32) then (if p1 < (65536 : Int32) then p1 else ((p1.toUInt32 >>> ((16 : Int32) &&& 31).toUInt32).toInt32)) else (((if p1 < (65536 : Int32) then p1 else ((p1.toUInt32 >>> ((16 : Int32) &&& 31).toUInt32).toInt32)).toUInt32 >>> ((8 : Int32) &&& 31).toUInt32).toInt32)) < (16 : Int32) then (if (if p1 < (65536 : Int32) then p1 else ((p1.toUInt32 >>> ((16 : Int32) &&& 31).toUInt32).toInt32)) < (256 : Int32) then (if p1 < (65536 : Int32) then (31 : Int32) else ((31 : Int32) + (-16 : Int32))) else ((if p1 < (65536 : Int32) then (31 : Int32) else ((31 : Int32) + (-16 : Int32))) + (-8 : Int32))) else ((if (if p1 < (65536 : Int32) then p1 else ((p1.toUInt32 >>> ((16 : Int32) &&& 31).toUInt32).toInt32)) < (256 : Int32) then (if p1 < (65536 : Int32) then (31 : Int32) else ((31 : Int32) + (-16 : Int32))) else ((if p1 < (65536 : Int32) then (31 : Int32) else ((31 : Int32) + (-16 : Int32))) + (-8 : Int32))) + (-4 : Int32))) + (-2 : Int32))) - (((if (if (if (if p1 < (65536 : Int32) then p1 else ((p1.toUInt32 >>> ((16 : Int32) &&& 31).toUInt32).toInt32)) < (256 : Int32) then (if p1 < (65536 : Int32) then p1 else ((p1.toUInt32 >>> ((16 : Int32) &&& 31).toUInt32).toInt32)) else (((if p1 < (65536 : Int32) then p1 else ((p1.toUInt32 >>> ((16 : Int32) &&& 31).toUInt32).toInt32)).toUInt32 >>> ((8 : Int32) &&& 31).toUInt32).toInt32)) < (16 : Int32) then (if (if p1 < (65536 : Int32) then p1 else ((p1.toUInt32 >>> ((16 : Int32) &&& 31).toUInt32).toInt32)) < (256 : Int32) then (if p1 < (65536 : Int32) then p1 else ((p1.toUInt32 >>> ((16 : Int32) &&& 31).toUInt32).toInt32)) else (((if p1 < (65536 : Int32) then p1 else ((p1.toUInt32 >>> ((16 : Int32) &&& 31).toUInt32).toInt32)).toUInt32 >>> ((8 : Int32) &&& 31).toUInt32).toInt32)) else (((if (if p1 < (65536 : Int32) then p1 else ((p1.toUInt32 >>> ((16 : Int32) &&& 31).toUInt32).toInt32)) < (256 : Int32) then (if p1 < (65536 : Int32) then p1 else ((p1.toUInt32 >>> ((16 : Int32) &&& 31).toUInt32).toInt32)) else (((if p1 < (65536 : Int32) then p1 else ((p1.toUInt32 >>> ((16 : Int32) &&& 31).toUInt32).toInt32)).toUInt32 >>> ((8 : Int32) &&& 31).toUInt32).toInt32)).toUInt32 >>> ((4 : Int32) &&& 31).toUInt32).toInt32)) < (4 : Int32) then (if (if (if p1 < (65536 : Int32) then p1 else ((p1.toUInt32 >>> ((16 : Int32) &&& 31).toUInt32).toInt32)) < (256 : Int32) then (if p1 < (65536 : Int32) then p1 else ((p1.toUInt32 >>> ((16 : Int32) &&& 31).toUInt32).toInt32)) else (((if p1 < (65536 : Int32) then p1 else ((p1.toUInt32 >>> ((16 : Int32) &&& 31).toUInt32).toInt32)).toUInt32 >>> ((8 : Int32) &&& 31).toUInt32).toInt32)) < (16 : Int32) then (if (if p1 < (65536 : Int32) then p1 else ((p1.toUInt32 >>> ((16 : Int32) &&& 31).toUInt32).toInt32)) < (256 : Int32) then (if p1 < (65536 : Int32) then p1 else ((p1.toUInt32 >>> ((16 : Int32) &&& 31).toUInt32).toInt32)) else (((if p1 < (65536 : Int32) then p1 else ((p1.toUInt32 >>> ((16 : Int32) &&& 31).toUInt32).toInt32)).toUInt32 >>> ((8 : Int32) &&& 31).toUInt32).toInt32)) else (((if (if p1 < (65536 : Int32) then p1 else ((p1.toUInt32 >>> ((16 : Int32) &&& 31).toUInt32).toInt32)) < (256 : Int32) then (if p1 < (65536 : Int32) then p1 else ((p1.toUInt32 >>> ((16 : Int32) &&& 31).toUInt32).toInt32)) else (((if p1 < (65536 : Int32) then p1 else ((p1.toUInt32 >>> ((16 : Int32) &&& 31).toUInt32).toInt32)).toUInt32 >>> ((8 : Int32) &&& 31).toUInt32).toInt32)).toUInt32 >>> ((4 : Int32) &&& 31).toUInt32).toInt32)) else (((if (if (if p1 < (65536 : Int32) then p1 else ((p1.toUInt32 >>> ((16 : Int32) &&& 31).toUInt32).toInt32)) < (256 : Int32) then (if p1 < (65536 : Int32) then p1 else ((p1.toUInt32 >>> ((16 : Int32) &&& 31).toUInt32).toInt32)) else (((if p1 < (65536 : Int32) then p1 else ((p1.toUInt32 >>> ((16 : Int32) &&& 31).toUInt32).toInt32)).toUInt32 >>> ((8 : Int32) &&& 31).toUInt32).toInt32)) < (16 : Int32) then (if (if p1 < (65536 : Int32) then p1 else ((p1.toUInt32 >>> ((16 : Int32) &&& 31).toUInt32).toInt32)) < (256 : Int32) then (if p1 < (65536 : Int32) then p1 else ((p1.toUInt32 >>> ((16 : Int32) &&& 31).toUInt32).toInt32)) else (((if p1 < (65536 : Int32) then p1 else ((p1.toUInt32 >>> ((16 : Int32) &&& 31).toUInt32).toInt32)).toUInt32 >>> ((8 : Int32) &&& 31).toUInt32).toInt32)) else (((if (if p1 < (65536 : Int32) then p1 else ((p1.toUInt32 >>> ((16 : Int32) &&& 31).toUInt32).toInt32)) < (256 : Int32) then (if p1 < (65536 : Int32) then p1 else ((p1.toUInt32 >>> ((16 : Int32) &&& 31).toUInt32).toInt32)) else (((if p1 < (65536 : Int32) then p1 else ((p1.toUInt32 >>> ((16 : Int32) &&& 31).toUInt32).toInt32)).toUInt32 >>> ((8 : Int32) &&& 31).toUInt32).toInt32)).toUInt32 >>> ((4 : Int32) &&& 31).toUInt32).toInt32)).toUInt32 >>> ((2 : Int32) &&& 31).toUInt32).toInt32)).toUInt32 >>> ((1 : Int32) &&& 31).toUInt32).toInt32)) else (if p1 = (0 : Int32) then (32 : Int32) else (0 : Int32)))
def Q_rmNl (Z : State) (p1 : Int32) (h0 : Heap) (n0 : Nat) (v : Option Value) (h : Heap) (L : List Loc) : Prop := v = some (.int (own_nlz p1)) ∧ Fr n0 L ∧ h = h0
set_option maxRecDepth 65536 in
set_option maxHeartbeats 40000000 in
theorem rmNl (l : Launch) (Z : State) (a0 : Array Value) (hw : ∀ d ∈ tables_1, d.before a0 Z = true) (ws : List Jvm.Cond) (p1 : Int32) (h0 : Heap) (n0 : Nat) (Z0 : n0 ≤ h0.size) :
    MetFree l (⟨"java/lang/Integer", "numberOfLeadingZeros", "(I)I"⟩ : MethodName) (head1 (Jvm.Cond.code (⟨"java/lang/Integer", "numberOfLeadingZeros", "(I)I"⟩ : MethodName) jdk_33_method_47_code 2 (some .int) :: ws) ({ frames := 0, cells := 0, slots := 0, locals := 0 } : Room)) (fun a U => a = #[(.int p1)] ∧ Z.Warmed39 U.vm ∧ U.heap = h0) (fun _ _ _ _ _ => True) (fun _ U o U' => ∃ v L, o = .returned v ∧ Q_rmNl Z p1 h0 n0 v U'.heap L ∧ FrameEnd U o U' L ({ frames := 0, cells := 0, slots := 0, locals := 0 } : Room).cells ({ frames := 0, cells := 0, slots := 0, locals := 0 } : Room).slots) := by
  refine MetFree.of_bodySF (plainFor_of_name pn_2) hisR ?_
  intro p e s m args below meth c s₁ Bd hml0 hP hK
  obtain ⟨rfl, hZ, hh⟩ := hP
  have hx := Bd.exec
  have hby := Bd.bytes
  have hml : c.maxLocals = 2 := hml0
  have hown : s.vm.findClass "java/lang/Integer" = some m.cls := findClass_of_methodNamed Bd.named
  have hnm := (name_of_methodNamed Bd.named Bd.method).1
  have X0 : Stand p l e ({ frames := 0, cells := 0, slots := 0, locals := 0 } : Room) s m #[(.int p1)] below meth c s₁ [] 0 0 := Stand.of_body Bd
  have e0 : s₁.heap = h0 := by rw [← hh, Bd.state]; rfl
  have N0 := Fr.nil n0
  have P0 : Rch p e below (s₁.setTop (entryFrame m #[(.int p1)] 2)) (s₁.setTop (mkF m 0 #[iv p1, un] [])) := fun t k => castTop (by first | (simp [entryFrame, mkF, argsToLocals, Value.category]; done) | rfl) k
  have P1 : Rch p e below (s₁.setTop (entryFrame m #[(.int p1)] 2)) (s₁.setTop (mkF m 1 #[iv p1, un] [(.int p1)])) := fun t k => P0 t (by
    show Steps p.tables e below (s₁.setTop (mkF m 0 #[iv p1, un] [])) t
    refine XS.iloadN X0.here hx rfl (hb hby d15_0) rfl ?_
    exact k)
  by_cases c2 : (0 : Int32) < p1
  · have P3 : Rch p e below (s₁.setTop (entryFrame m #[(.int p1)] 2)) (s₁.setTop (mkF m 22 #[iv p1, iv (31 : Int32)] [(.int (65536 : Int32)), (.int p1)])) := fun t k => P1 t (by
      show Steps p.tables e below (s₁.setTop (mkF m 1 #[iv p1, un] [(.int p1)])) t
      refine XS.ifYes X0.here hx rfl (pc0 := 1) (pc' := 15) rfl (hb hby d15_1) rfl ((if0 _ _).trans (tlt c2).2.2.1) (by decide) (by decide) ?_
      refine XS.bipush X0.here hx rfl (hb hby d15_15) ?_
      refine XS.istoreN X0.here hx rfl (hb hby d15_17) rfl (l' := #[iv p1, iv (31 : Int32)]) rfl ?_
      show Steps p.tables e below (s₁.setTop (mkF m 18 #[iv p1, iv (31 : Int32)] [])) t
      refine XS.iloadN X0.here hx rfl (hb hby d15_18) rfl ?_
      refine X0.ldcwInt hx hown (mvT hZ (hw _ (List.mem_of_getElem? (i := 97) rfl))) (g := (mkF m 19 #[iv p1, iv (31 : Int32)] [(.int p1)])) rfl (hb hby d15_19) _ ?_
      exact k)
    obtain ⟨v5, v6, hv5, hv6, P7⟩ : ∃ (v5 : Int32) (v6 : Int32), v5 = (if p1 < (65536 : Int32) then p1 else ((p1.toUInt32 >>> ((16 : Int32) &&& 31).toUInt32).toInt32)) ∧ v6 = (if p1 < (65536 : Int32) then (31 : Int32) else ((31 : Int32) + (-16 : Int32))) ∧ Rch p e below (s₁.setTop (entryFrame m #[(.int p1)] 2)) (s₁.setTop (mkF m 33 #[iv v5, iv v6] [])) := by
      by_cases c4 : p1 < (65536 : Int32)
      · refine ⟨p1, (31 : Int32), (by first | rw [if_pos c4] | simp only [if_pos c4] | rfl), (by first | rw [if_pos c4] | simp only [if_pos c4] | rfl), fun t k => P3 t ?_⟩
        show Steps p.tables e below (s₁.setTop (mkF m 22 #[iv p1, iv (31 : Int32)] [(.int (65536 : Int32)), (.int p1)])) t
        refine XS.icmpYes X0.here hx rfl (pc0 := 22) (pc' := 33) rfl (hb hby d15_22) rfl (tlt c4).1 (by decide) (by decide) ?_
        exact k
      · refine ⟨((p1.toUInt32 >>> ((16 : Int32) &&& 31).toUInt32).toInt32), ((31 : Int32) + (-16 : Int32)), (by first | rw [if_neg c4] | simp only [if_neg c4] | rfl), (by first | rw [if_neg c4] | simp only [if_neg c4] | rfl), fun t k => P3 t ?_⟩
        show Steps p.tables e below (s₁.setTop (mkF m 22 #[iv p1, iv (31 : Int32)] [(.int (65536 : Int32)), (.int p1)])) t
        refine XS.icmpNo X0.here hx rfl (hb hby d15_22) rfl (flt c4).1 ?_
        refine XS.iinc X0.here hx rfl (hb hby d15_25) rfl (l' := #[iv p1, iv ((31 : Int32) + (-16 : Int32))]) rfl ?_
        refine XS.iloadN X0.here hx rfl (hb hby d15_28) rfl ?_
        show Steps p.tables e below (s₁.setTop (mkF m 29 #[iv p1, iv ((31 : Int32) + (-16 : Int32))] [(.int p1)])) t
        refine XS.bipush X0.here hx rfl (hb hby d15_29) ?_
        refine XS.iushr X0.here hx rfl (hb hby d15_31) rfl ?_
        refine XS.istoreN X0.here hx rfl (hb hby d15_32) rfl (l' := #[iv ((p1.toUInt32 >>> ((16 : Int32) &&& 31).toUInt32).toInt32), iv ((31 : Int32) + (-16 : Int32))]) rfl ?_
        exact k
    have P8 : Rch p e below (s₁.setTop (entryFrame m #[(.int p1)] 2)) (s₁.setTop (mkF m 37 #[iv v5, iv v6] [(.int (256 : Int32)), (.int v5)])) := fun t k => P7 t (by
      show Steps p.tables e below (s₁.setTop (mkF m 33 #[iv v5, iv v6] [])) t
      refine XS.iloadN X0.here hx rfl (hb hby d15_33) rfl ?_
      refine XS.sipush X0.here hx rfl (hb hby d15_34) ?_
      exact k)
    obtain ⟨v10, v11, hv10, hv11, P12⟩ : ∃ (v10 : Int32) (v11 : Int32), v10 = (if v5 < (256 : Int32) then v5 else ((v5.toUInt32 >>> ((8 : Int32) &&& 31).toUInt32).toInt32)) ∧ v11 = (if v5 < (256 : Int32) then v6 else (v6 + (-8 : Int32))) ∧ Rch p e below (s₁.setTop (entryFrame m #[(.int p1)] 2)) (s₁.setTop (mkF m 48 #[iv v10, iv v11] [])) := by
      by_cases c9 : v5 < (256 : Int32)
      · refine ⟨v5, v6, (by first | rw [if_pos c9] | simp only [if_pos c9] | rfl), (by first | rw [if_pos c9] | simp only [if_pos c9] | rfl), fun t k => P8 t ?_⟩
        show Steps p.tables e below (s₁.setTop (mkF m 37 #[iv v5, iv v6] [(.int (256 : Int32)), (.int v5)])) t
        refine XS.icmpYes X0.here hx rfl (pc0 := 37) (pc' := 48) rfl (hb hby d15_37) rfl (tlt c9).1 (by decide) (by decide) ?_
        exact k
      · refine ⟨((v5.toUInt32 >>> ((8 : Int32) &&& 31).toUInt32).toInt32), (v6 + (-8 : Int32)), (by first | rw [if_neg c9] | simp only [if_neg c9] | rfl), (by first | rw [if_neg c9] | simp only [if_neg c9] | rfl), fun t k => P8 t ?_⟩
        show Steps p.tables e below (s₁.setTop (mkF m 37 #[iv v5, iv v6] [(.int (256 : Int32)), (.int v5)])) t
        refine XS.icmpNo X0.here hx rfl (hb hby d15_37) rfl (flt c9).1 ?_
        refine XS.iinc X0.here hx rfl (hb hby d15_40) rfl (l' := #[iv v5, iv (v6 + (-8 : Int32))]) rfl ?_
        refine XS.iloadN X0.here hx rfl (hb hby d15_43) rfl ?_
        show Steps p.tables e below (s₁.setTop (mkF m 44 #[iv v5, iv (v6 + (-8 : Int32))] [(.int v5)])) t
        refine XS.bipush X0.here hx rfl (hb hby d15_44) ?_
        refine XS.iushr X0.here hx rfl (hb hby d15_46) rfl ?_
        refine XS.istoreN X0.here hx rfl (hb hby d15_47) rfl (l' := #[iv ((v5.toUInt32 >>> ((8 : Int32) &&& 31).toUInt32).toInt32), iv (v6 + (-8 : Int32))]) rfl ?_
        exact k
    have P13 : Rch p e below (s₁.setTop (entryFrame m #[(.int p1)] 2)) (s₁.setTop (mkF m 51 #[iv v10, iv v11] [(.int (16 : Int32)), (.int v10)])) := fun t k => P12 t (by
      show Steps p.tables e below (s₁.setTop (mkF m 48 #[iv v10, iv v11] [])) t
      refine XS.iloadN X0.here hx rfl (hb hby d15_48) rfl ?_
      refine XS.bipush X0.here hx rfl (hb hby d15_49) ?_
      exact k)
    obtain ⟨v15, v16, hv15, hv16, P17⟩ : ∃ (v15 : Int32) (v16 : Int32), v15 = (if v10 < (16 : Int32) then v10 else ((v10.toUInt32 >>> ((4 : Int32) &&& 31).toUInt32).toInt32)) ∧ v16 = (if v10 < (16 : Int32) then v11 else (v11 + (-4 : Int32))) ∧ Rch p e below (s₁.setTop (entryFrame m #[(.int p1)] 2)) (s₁.setTop (mkF m 61 #[iv v15, iv v16] [])) := by
      by_cases c14 : v10 < (16 : Int32)
      · refine ⟨v10, v11, (by first | rw [if_pos c14] | simp only [if_pos c14] | rfl), (by first | rw [if_pos c14] | simp only [if_pos c14] | rfl), fun t k => P13 t ?_⟩
        show Steps p.tables e below (s₁.setTop (mkF m 51 #[iv v10, iv v11] [(.int (16 : Int32)), (.int v10)])) t
        refine XS.icmpYes X0.here hx rfl (pc0 := 51) (pc' := 61) rfl (hb hby d15_51) rfl (tlt c14).1 (by decide) (by decide) ?_
        exact k
      · refine ⟨((v10.toUInt32 >>> ((4 : Int32) &&& 31).toUInt32).toInt32), (v11 + (-4 : Int32)), (by first | rw [if_neg c14] | simp only [if_neg c14] | rfl), (by first | rw [if_neg c14] | simp only [if_neg c14] | rfl), fun t k => P13 t ?_⟩
        show Steps p.tables e below (s₁.setTop (mkF m 51 #[iv v10, iv v11] [(.int (16 : Int32)), (.int v10)])) t
        refine XS.icmpNo X0.here hx rfl (hb hby d15_51) rfl (flt c14).1 ?_
        refine XS.iinc X0.here hx rfl (hb hby d15_54) rfl (l' := #[iv v10, iv (v11 + (-4 : Int32))]) rfl ?_
        refine XS.iloadN X0.here hx rfl (hb hby d15_57) rfl ?_
        show Steps p.tables e below (s₁.setTop (mkF m 58 #[iv v10, iv (v11 + (-4 : Int32))] [(.int v10)])) t
        refine XS.iconst X0.here hx rfl (hb hby d15_58) ?_
        refine XS.iushr X0.here hx rfl (hb hby d15_59) rfl ?_
        refine XS.istoreN X0.here hx rfl (hb hby d15_60) rfl (l' := #[iv ((v10.toUInt32 >>> ((4 : Int32) &&& 31).toUInt32).toInt32), iv (v11 + (-4 : Int32))]) rfl ?_
        exact k
    have P18 : Rch p e below (s₁.setTop (entryFrame m #[(.int p1)] 2)) (s₁.setTop (mkF m 63 #[iv v15, iv v16] [(.int (4 : Int32)), (.int v15)])) := fun t k => P17 t (by
      show Steps p.tables e below (s₁.setTop (mkF m 61 #[iv v15, iv v16] [])) t
      refine XS.iloadN X0.here hx rfl (hb hby d15_61) rfl ?_
      refine XS.iconst X0.here hx rfl (hb hby d15_62) ?_
      exact k)
    obtain ⟨v20, v21, hv20, hv21, P22⟩ : ∃ (v20 : Int32) (v21 : Int32), v20 = (if v15 < (4 : Int32) then v15 else ((v15.toUInt32 >>> ((2 : Int32) &&& 31).toUInt32).toInt32)) ∧ v21 = (if v15 < (4 : Int32) then v16 else (v16 + (-2 : Int32))) ∧ Rch p e below (s₁.setTop (entryFrame m #[(.int p1)] 2)) (s₁.setTop (mkF m 73 #[iv v20, iv v21] [])) := by
      by_cases c19 : v15 < (4 : Int32)
      · refine ⟨v15, v16, (by first | rw [if_pos c19] | simp only [if_pos c19] | rfl), (by first | rw [if_pos c19] | simp only [if_pos c19] | rfl), fun t k => P18 t ?_⟩
        show Steps p.tables e below (s₁.setTop (mkF m 63 #[iv v15, iv v16] [(.int (4 : Int32)), (.int v15)])) t
        refine XS.icmpYes X0.here hx rfl (pc0 := 63) (pc' := 73) rfl (hb hby d15_63) rfl (tlt c19).1 (by decide) (by decide) ?_
        exact k
      · refine ⟨((v15.toUInt32 >>> ((2 : Int32) &&& 31).toUInt32).toInt32), (v16 + (-2 : Int32)), (by first | rw [if_neg c19] | simp only [if_neg c19] | rfl), (by first | rw [if_neg c19] | simp only [if_neg c19] | rfl), fun t k => P18 t ?_⟩
        show Steps p.tables e below (s₁.setTop (mkF m 63 #[iv v15, iv v16] [(.int (4 : Int32)), (.int v15)])) t
        refine XS.icmpNo X0.here hx rfl (hb hby d15_63) rfl (flt c19).1 ?_
        refine XS.iinc X0.here hx rfl (hb hby d15_66) rfl (l' := #[iv v15, iv (v16 + (-2 : Int32))]) rfl ?_
        refine XS.iloadN X0.here hx rfl (hb hby d15_69) rfl ?_
        show Steps p.tables e below (s₁.setTop (mkF m 70 #[iv v15, iv (v16 + (-2 : Int32))] [(.int v15)])) t
        refine XS.iconst X0.here hx rfl (hb hby d15_70) ?_
        refine XS.iushr X0.here hx rfl (hb hby d15_71) rfl ?_
        refine XS.istoreN X0.here hx rfl (hb hby d15_72) rfl (l' := #[iv ((v15.toUInt32 >>> ((2 : Int32) &&& 31).toUInt32).toInt32), iv (v16 + (-2 : Int32))]) rfl ?_
        exact k
    obtain ⟨x23, hx23⟩ : ∃ z : Int32, z = (v21 - ((v20.toUInt32 >>> ((1 : Int32) &&& 31).toUInt32).toInt32)) := ⟨_, rfl⟩
    have P24 : Rch p e below (s₁.setTop (entryFrame m #[(.int p1)] 2)) (s₁.setTop (mkF m 78 #[iv v20, iv v21] [(.int x23)])) := fun t k => P22 t (by
      subst hx23
      show Steps p.tables e below (s₁.setTop (mkF m 73 #[iv v20, iv v21] [])) t
      refine XS.iloadN X0.here hx rfl (hb hby d15_73) rfl ?_
      refine XS.iloadN X0.here hx rfl (hb hby d15_74) rfl ?_
      refine XS.iconst X0.here hx rfl (hb hby d15_75) ?_
      show Steps p.tables e below (s₁.setTop (mkF m 76 #[iv v20, iv v21] [(.int (1 : Int32)), (.int v20), (.int v21)])) t
      refine XS.iushr X0.here hx rfl (hb hby d15_76) rfl ?_
      refine XS.isub X0.here hx rfl (hb hby d15_77) rfl ?_
      exact k)
    obtain ⟨fs, hr, hrun, hended, hW, hsame⟩ := X0.leave (v := some (.int x23)) (fun h => by rw [Bd.returns] at h; cases h)
    refine ⟨_, _, P24 _ ?_, hrun, hended, _, _, rfl, ?_, ⟨_, rfl⟩, hW, hsame.mono (by decide) (by decide)⟩
    · exact retI X0 hx Bd.returns (hb hby d15_78) hr
    · show Q_rmNl Z p1 h0 n0 _ s₁.heap _
      rw [e0]
      exact ⟨(by unfold own_nlz; subst hx23 hv21 hv20 hv16 hv15 hv11 hv10 hv6 hv5; first | rfl | rw [if_pos c2] | simp only [if_pos c2] | simp [*]), N0, rfl⟩
  · have P25 : Rch p e below (s₁.setTop (entryFrame m #[(.int p1)] 2)) (s₁.setTop (mkF m 5 #[iv p1, un] [(.int p1)])) := fun t k => P1 t (by
      show Steps p.tables e below (s₁.setTop (mkF m 1 #[iv p1, un] [(.int p1)])) t
      refine XS.ifNo X0.here hx rfl (hb hby d15_1) rfl ((if0 _ _).trans (flt c2).2.2.1) ?_
      refine XS.iloadN X0.here hx rfl (hb hby d15_4) rfl ?_
      exact k)
    obtain ⟨v27, hv27, P28⟩ : ∃ (v27 : Int32), v27 = (if p1 = (0 : Int32) then (32 : Int32) else (0 : Int32)) ∧ Rch p e below (s₁.setTop (entryFrame m #[(.int p1)] 2)) (s₁.setTop (mkF m 14 #[iv p1, un] [(.int v27)])) := by
      by_cases c26 : p1 = (0 : Int32)
      · refine ⟨(32 : Int32), (by first | rw [if_pos c26] | simp only [if_pos c26] | rfl), fun t k => P25 t ?_⟩
        show Steps p.tables e below (s₁.setTop (mkF m 5 #[iv p1, un] [(.int p1)])) t
        refine XS.ifNo X0.here hx rfl (hb hby d15_5) rfl ((if0 _ _).trans (teq c26).2) ?_
        refine XS.bipush X0.here hx rfl (hb hby d15_8) ?_
        refine XS.goto X0.here hx rfl (pc0 := 10) (pc' := 14) rfl (hb hby d15_10) (by decide) (by decide) ?_
        exact k
      · refine ⟨(0 : Int32), (by first | rw [if_neg c26] | simp only [if_neg c26] | rfl), fun t k => P25 t ?_⟩
        show Steps p.tables e below (s₁.setTop (mkF m 5 #[iv p1, un] [(.int p1)])) t
        refine XS.ifYes X0.here hx rfl (pc0 := 5) (pc' := 13) rfl (hb hby d15_5) rfl ((if0 _ _).trans (feq c26).2) (by decide) (by decide) ?_
        refine XS.iconst X0.here hx rfl (hb hby d15_13) ?_
        exact k
    obtain ⟨fs, hr, hrun, hended, hW, hsame⟩ := X0.leave (v := some (.int v27)) (fun h => by rw [Bd.returns] at h; cases h)
    refine ⟨_, _, P28 _ ?_, hrun, hended, _, _, rfl, ?_, ⟨_, rfl⟩, hW, hsame.mono (by decide) (by decide)⟩
    · exact retI X0 hx Bd.returns (hb hby d15_14) hr
    · show Q_rmNl Z p1 h0 n0 _ s₁.heap _
      rw [e0]
      exact ⟨(by unfold own_nlz; subst hv27; first | rfl | rw [if_neg c2] | simp only [if_neg c2] | simp [*]), N0, rfl⟩
def own_bk (q2 : Int64) (p3 : Int32) (mk : Int64) (lb : Int32) : Int32 := (((((q2 &&& mk).toUInt64 >>> (lb &&& 0x3f).toInt64.toUInt64).toInt64) &&& (((1 : Int64) <<< (p3 &&& 0x3f).toInt64) - (1 : Int64))).toInt32)
def Q_rmB2 (Z : State) (a1 : Addr) (q2 : Int64) (p3 : Int32) (mk : Int64) (lb : Int32) (h0 : Heap) (n0 : Nat) (v : Option Value) (h : Heap) (L : List Loc) : Prop := v = some (.int (own_bk q2 p3 mk lb)) ∧ Fr n0 L ∧ h = h0
set_option maxRecDepth 65536 in
set_option maxHeartbeats 40000000 in
theorem rmB2 (l : Launch) (Z : State) (a0 : Array Value) (hw : ∀ d ∈ tables_1, d.before a0 Z = true) (ws : List Jvm.Cond) (a1 : Addr) (q2 : Int64) (p3 : Int32) (mk : Int64) (lb : Int32) (h0 : Heap) (n0 : Nat) (Z0 : n0 ≤ h0.size) (F1 : Fld Z h0 a1 "com/example/kinhash/kinhash/BlockTable" "mask" "J" (.long mk)) (F2 : Fld Z h0 a1 "com/example/kinhash/kinhash/BlockTable" "lowestBit" "I" (.int lb)) :
    MetFree l (⟨"com/example/kinhash/kinhash/BlockTable", "bucket", "(JI)I"⟩ : MethodName) (head1 (Jvm.Cond.code (⟨"com/example/kinhash/kinhash/BlockTable", "bucket", "(JI)I"⟩ : MethodName) prog_4_method_16_code 4 (some .int) :: ws) ({ frames := 0, cells := 0, slots := 0, locals := 0 } : Room)) (fun a U => a = #[(.ref a1), (.long q2), (.int p3)] ∧ Z.Warmed39 U.vm ∧ U.heap = h0) (fun _ _ _ _ _ => True) (fun _ U o U' => ∃ v L, o = .returned v ∧ Q_rmB2 Z a1 q2 p3 mk lb h0 n0 v U'.heap L ∧ FrameEnd U o U' L ({ frames := 0, cells := 0, slots := 0, locals := 0 } : Room).cells ({ frames := 0, cells := 0, slots := 0, locals := 0 } : Room).slots) := by
  refine MetFree.of_bodySF (plainFor_of_name pn_0) hisR ?_
  intro p e s m args below meth c s₁ Bd hml0 hP hK
  obtain ⟨rfl, hZ, hh⟩ := hP
  have hx := Bd.exec
  have hby := Bd.bytes
  have hml : c.maxLocals = 4 := hml0
  have hown : s.vm.findClass "com/example/kinhash/kinhash/BlockTable" = some m.cls := findClass_of_methodNamed Bd.named
  have hnm := (name_of_methodNamed Bd.named Bd.method).1
  have X0 : Stand p l e ({ frames := 0, cells := 0, slots := 0, locals := 0 } : Room) s m #[(.ref a1), (.long q2), (.int p3)] below meth c s₁ [] 0 0 := Stand.of_body Bd
  have e0 : s₁.heap = h0 := by rw [← hh, Bd.state]; rfl
  have N0 := Fr.nil n0
  have P0 : Rch p e below (s₁.setTop (entryFrame m #[(.ref a1), (.long q2), (.int p3)] 4)) (s₁.setTop (mkF m 0 #[rv a1, lv q2, sd, iv p3] [])) := fun t k => castTop (by first | (simp [entryFrame, mkF, argsToLocals, Value.category]; done) | rfl) k
  have P1 : Rch p e below (s₁.setTop (entryFrame m #[(.ref a1), (.long q2), (.int p3)] 4)) (s₁.setTop (mkF m 2 #[rv a1, lv q2, sd, iv p3] [(.ref a1), (.long q2)])) := fun t k => P0 t (by
    show Steps p.tables e below (s₁.setTop (mkF m 0 #[rv a1, lv q2, sd, iv p3] [])) t
    refine XS.lloadN X0.here hx rfl (hb hby d5_0) rfl ?_
    refine XS.aloadN X0.here hx rfl (hb hby d5_1) rfl rfl ?_
    exact k)
  obtain ⟨T2, X2, e2, st2⟩ := getF X0 hx hZ hown (host := "") (Or.inl (hw _ (List.mem_of_getElem? (i := 13) rfl))) Via.refl e0 F1 (g := (mkF m 2 #[rv a1, lv q2, sd, iv p3] [(.ref a1), (.long q2)])) rfl rfl (hb hby d5_2)
  have P3 : Rch p e below (s₁.setTop (entryFrame m #[(.ref a1), (.long q2), (.int p3)] 4)) (T2.setTop (mkF m 5 #[rv a1, lv q2, sd, iv p3] [(.long mk), (.long q2)])) := fun t k => P1 t (st2 t k)
  obtain ⟨y4, hy4⟩ : ∃ z : Int64, z = (q2 &&& mk) := ⟨_, rfl⟩
  have P5 : Rch p e below (s₁.setTop (entryFrame m #[(.ref a1), (.long q2), (.int p3)] 4)) (T2.setTop (mkF m 7 #[rv a1, lv q2, sd, iv p3] [(.ref a1), (.long y4)])) := fun t k => P3 t (by
    subst hy4
    show Steps p.tables e below (T2.setTop (mkF m 5 #[rv a1, lv q2, sd, iv p3] [(.long mk), (.long q2)])) t
    refine XS.land X2.here hx rfl (hb hby d5_5) rfl ?_
    refine XS.aloadN X2.here hx rfl (hb hby d5_6) rfl rfl ?_
    exact k)
  obtain ⟨T6, X6, e6, st6⟩ := getF X2 hx hZ hown (host := "") (Or.inl (hw _ (List.mem_of_getElem? (i := 15) rfl))) Via.refl e2 F2 (g := (mkF m 7 #[rv a1, lv q2, sd, iv p3] [(.ref a1), (.long y4)])) rfl rfl (hb hby d5_7)
  have P7 : Rch p e below (s₁.setTop (entryFrame m #[(.ref a1), (.long q2), (.int p3)] 4)) (T6.setTop (mkF m 10 #[rv a1, lv q2, sd, iv p3] [(.int lb), (.long y4)])) := fun t k => P5 t (st6 t k)
  obtain ⟨x8, hx8⟩ : ∃ z : Int32, z = ((((y4.toUInt64 >>> (lb &&& 0x3f).toInt64.toUInt64).toInt64) &&& (((1 : Int64) <<< (p3 &&& 0x3f).toInt64) - (1 : Int64))).toInt32) := ⟨_, rfl⟩
  have P9 : Rch p e below (s₁.setTop (entryFrame m #[(.ref a1), (.long q2), (.int p3)] 4)) (T6.setTop (mkF m 18 #[rv a1, lv q2, sd, iv p3] [(.int x8)])) := fun t k => P7 t (by
    subst hx8
    show Steps p.tables e below (T6.setTop (mkF m 10 #[rv a1, lv q2, sd, iv p3] [(.int lb), (.long y4)])) t
    refine XS.lushr X6.here hx rfl (hb hby d5_10) rfl ?_
    refine XS.lconst X6.here hx rfl (hb hby d5_11) ?_
    refine XS.iloadN X6.here hx rfl (hb hby d5_12) rfl ?_
    show Steps p.tables e below (T6.setTop (mkF m 13 #[rv a1, lv q2, sd, iv p3] [(.int p3), (.long (1 : Int64)), (.long ((y4.toUInt64 >>> (lb &&& 0x3f).toInt64.toUInt64).toInt64))])) t
    refine XS.lshl X6.here hx rfl (hb hby d5_13) rfl ?_
    refine XS.lconst X6.here hx rfl (hb hby d5_14) ?_
    refine XS.lsub X6.here hx rfl (hb hby d5_15) rfl ?_
    refine XS.land X6.here hx rfl (hb hby d5_16) rfl ?_
    show Steps p.tables e below (T6.setTop (mkF m 17 #[rv a1, lv q2, sd, iv p3] [(.long (((y4.toUInt64 >>> (lb &&& 0x3f).toInt64.toUInt64).toInt64) &&& (((1 : Int64) <<< (p3 &&& 0x3f).toInt64) - (1 : Int64))))])) t
    refine XS.l2i X6.here hx rfl (hb hby d5_17) rfl ?_
    exact k)
  obtain ⟨fs, hr, hrun, hended, hW, hsame⟩ := X6.leave (v := some (.int x8)) (fun h => by rw [Bd.returns] at h; cases h)
  refine ⟨_, _, P9 _ ?_, hrun, hended, _, _, rfl, ?_, ⟨_, rfl⟩, hW, hsame.mono (by decide) (by decide)⟩
  · exact retI X6 hx Bd.returns (hb hby d5_18) hr
  · show Q_rmB2 Z a1 q2 p3 mk lb h0 n0 _ T6.heap _
    rw [e6]
    exact ⟨(by unfold own_bk; subst hx8 hy4; first | rfl | rw [] | simp only [] | simp [*]), N0, rfl⟩
theorem own_bk0 (q mk : Int64) (lb : Int32) : own_bk q (0 : Int32) mk lb = 0 := by
  unfold own_bk
  have e : (((1 : Int64) <<< ((0 : Int32) &&& 0x3f).toInt64) - (1 : Int64)) = 0 := by decide
  rw [e, Int64.and_zero]; rfl
def Q_rmB1 (Z : State) (a1 : Addr) (q2 : Int64) (mk : Int64) (lb : Int32) (h0 : Heap) (n0 : Nat) (v : Option Value) (h : Heap) (L : List Loc) : Prop := v = some (.int (0 : Int32)) ∧ Fr n0 L ∧ h = h0
set_option maxRecDepth 65536 in
set_option maxHeartbeats 40000000 in
theorem rmB1 (l : Launch) (Z : State) (a0 : Array Value) (hw : ∀ d ∈ tables_1, d.before a0 Z = true) (ws : List Jvm.Cond) (a1 : Addr) (q2 : Int64) (mk : Int64) (lb : Int32) (h0 : Heap) (n0 : Nat) (Z0 : n0 ≤ h0.size) (E1 : Exa Z h0 a1 "com/example/kinhash/kinhash/BlockTable") (F1 : Fld Z h0 a1 "com/example/kinhash/kinhash/BlockTable" "mask" "J" (.long mk)) (F2 : Fld Z h0 a1 "com/example/kinhash/kinhash/BlockTable" "lowestBit" "I" (.int lb)) (F3 : Fld Z h0 a1 "com/example/kinhash/kinhash/BlockTable" "bucketBits" "I" (.int (0 : Int32))) :
    MetFree l (⟨"com/example/kinhash/kinhash/BlockTable", "bucket", "(J)I"⟩ : MethodName) (head1 (Jvm.Cond.code (⟨"com/example/kinhash/kinhash/BlockTable", "bucket", "(J)I"⟩ : MethodName) prog_4_method_3_code 3 (some .int) :: ws) ({ frames := 1, cells := 0, slots := 0, locals := 15 } : Room)) (fun a U => a = #[(.ref a1), (.long q2)] ∧ Z.Warmed39 U.vm ∧ U.heap = h0) (fun _ _ _ _ _ => True) (fun _ U o U' => ∃ v L, o = .returned v ∧ Q_rmB1 Z a1 q2 mk lb h0 n0 v U'.heap L ∧ FrameEnd U o U' L ({ frames := 1, cells := 0, slots := 0, locals := 15 } : Room).cells ({ frames := 1, cells := 0, slots := 0, locals := 15 } : Room).slots) := by
  refine MetFree.of_bodySF (plainFor_of_name pn_0) hisR ?_
  intro p e s m args below meth c s₁ Bd hml0 hP hK
  obtain ⟨rfl, hZ, hh⟩ := hP
  have hx := Bd.exec
  have hby := Bd.bytes
  have hml : c.maxLocals = 3 := hml0
  have hown : s.vm.findClass "com/example/kinhash/kinhash/BlockTable" = some m.cls := findClass_of_methodNamed Bd.named
  have hnm := (name_of_methodNamed Bd.named Bd.method).1
  have X0 : Stand p l e ({ frames := 1, cells := 0, slots := 0, locals := 15 } : Room) s m #[(.ref a1), (.long q2)] below meth c s₁ [] 0 0 := Stand.of_body Bd
  have e0 : s₁.heap = h0 := by rw [← hh, Bd.state]; rfl
  have N0 := Fr.nil n0
  have P0 : Rch p e below (s₁.setTop (entryFrame m #[(.ref a1), (.long q2)] 3)) (s₁.setTop (mkF m 0 #[rv a1, lv q2, sd] [])) := fun t k => castTop (by first | (simp [entryFrame, mkF, argsToLocals, Value.category]; done) | rfl) k
  have P1 : Rch p e below (s₁.setTop (entryFrame m #[(.ref a1), (.long q2)] 3)) (s₁.setTop (mkF m 3 #[rv a1, lv q2, sd] [(.ref a1), (.long q2), (.ref a1)])) := fun t k => P0 t (by
    show Steps p.tables e below (s₁.setTop (mkF m 0 #[rv a1, lv q2, sd] [])) t
    refine XS.aloadN X0.here hx rfl (hb hby d4_0) rfl rfl ?_
    refine XS.lloadN X0.here hx rfl (hb hby d4_1) rfl ?_
    refine XS.aloadN X0.here hx rfl (hb hby d4_2) rfl rfl ?_
    exact k)
  obtain ⟨T2, X2, e2, st2⟩ := getF X0 hx hZ hown (host := "") (Or.inl (hw _ (List.mem_of_getElem? (i := 41) rfl))) Via.refl e0 F3 (g := (mkF m 3 #[rv a1, lv q2, sd] [(.ref a1), (.long q2), (.ref a1)])) rfl rfl (hb hby d4_3)
  have P3 : Rch p e below (s₁.setTop (entryFrame m #[(.ref a1), (.long q2)] 3)) (T2.setTop (mkF m 6 #[rv a1, lv q2, sd] [(.int (0 : Int32)), (.long q2), (.ref a1)])) := fun t k => P1 t (st2 t k)
  obtain ⟨cq4, q4, q4'⟩ := E1.cell
  obtain ⟨_, _, ⟨T4, L4, k4, n4⟩, -, X4, ⟨Lc4, hQ4, l4, y4, z4⟩, st4⟩ := X2.privateBack hx (y := (⟨"com/example/kinhash/kinhash/BlockTable", "bucket", "(JI)I"⟩ : MethodName)) hown (mvT hZ (hw _ (List.mem_of_getElem? (i := 43) rfl))) (mvT hZ (hw _ (List.mem_of_getElem? (i := 44) rfl))) (own_selp hZ (hw _ (List.mem_of_getElem? (i := 3) rfl)) (hw _ (List.mem_of_getElem? (i := 44) rfl)) (hw _ (List.mem_of_getElem? (i := 45) rfl)) (by decide)) (Cond.privateMethod_at (mvP hZ (hw _ (List.mem_of_getElem? (i := 45) rfl)) (args := #[]))) (mvT hZ (hw _ (List.mem_of_getElem? (i := 46) rfl))) (by decide) (backOf (W := 0) (rmB2 l Z a0 hw [] a1 q2 (0 : Int32) mk lb h0 n0 Z0 F1 F2) hZ (hw _ (List.mem_of_getElem? (i := 46) rfl)) (hw _ (List.mem_of_getElem? (i := 4) rfl)) (by decide) (by decide)) (g := (mkF m 6 #[rv a1, lv q2, sd] [(.int (0 : Int32)), (.long q2), (.ref a1)])) rfl (by rw [hml]; rfl) (Steps.refl _) (a := a1) (by rw [e2]; exact q4) q4' (argsL := [(.long q2), (.int (0 : Int32))]) (rest := []) (lenOf pd_0 rfl) rfl (by show 2 * 0 + _ ≤ _; exact Nat.le_of_eq rfl) (hb hby d4_6) (fun _ _ => ⟨rfl, e2, (by decide : 0 + 0 ≤ _), (by decide : 0 + 0 ≤ _)⟩)
  dsimp only [Pt.U, Pt.locs, Pt.cells, Pt.slots] at X4 l4 y4 z4 st4 hQ4
  subst y4 z4
  obtain ⟨rfl, N4q, e4⟩ := hQ4
  have N4 : Fr n0 L4 := by rw [l4]; exact Fr.app N0 N4q
  have P5 : Rch p e below (s₁.setTop (entryFrame m #[(.ref a1), (.long q2)] 3)) (T4.setTop (mkF m 9 #[rv a1, lv q2, sd] [(.int (own_bk q2 (0 : Int32) mk lb))])) := fun t k => P3 t (st4.trans k)
  obtain ⟨x6, hx6⟩ : ∃ z : Int32, z = (own_bk q2 (0 : Int32) mk lb) := ⟨_, rfl⟩
  rw [← hx6] at P5
  obtain ⟨fs, hr, hrun, hended, hW, hsame⟩ := X4.leave (v := some (.int x6)) (fun h => by rw [Bd.returns] at h; cases h)
  refine ⟨_, _, P5 _ ?_, hrun, hended, _, _, rfl, ?_, ⟨_, rfl⟩, hW, hsame.mono (by decide) (by decide)⟩
  · exact retI X4 hx Bd.returns (hb hby d4_9) hr
  · show Q_rmB1 Z a1 q2 mk lb h0 n0 _ T4.heap _
    rw [e4]
    exact ⟨(by rw [hx6, own_bk0]), N4, rfl⟩
def own_tg (q2 : Int64) (p3 : Int32) (rb : Int32) (lb : Int32) : Int32 := (((own_rr q2 (lb + p3)).toInt32) &&& (((1 : Int32) <<< (((40 : Int32) - rb) &&& 31)) - (1 : Int32)))
def Q_rmT2 (Z : State) (a1 : Addr) (q2 : Int64) (p3 : Int32) (rb : Int32) (lb : Int32) (h0 : Heap) (n0 : Nat) (v : Option Value) (h : Heap) (L : List Loc) : Prop := v = some (.int (own_tg q2 p3 rb lb)) ∧ Fr n0 L ∧ h = h0
set_option maxRecDepth 65536 in
set_option maxHeartbeats 40000000 in
theorem rmT2 (l : Launch) (Z : State) (a0 : Array Value) (hw : ∀ d ∈ tables_1, d.before a0 Z = true) (ws : List Jvm.Cond) (a1 : Addr) (q2 : Int64) (p3 : Int32) (rb : Int32) (lb : Int32) (h0 : Heap) (n0 : Nat) (Z0 : n0 ≤ h0.size) (F1 : Fld Z h0 a1 "com/example/kinhash/kinhash/BlockTable" "recordBits" "I" (.int rb)) (F2 : Fld Z h0 a1 "com/example/kinhash/kinhash/BlockTable" "lowestBit" "I" (.int lb)) :
    MetFree l (⟨"com/example/kinhash/kinhash/BlockTable", "tag", "(JI)I"⟩ : MethodName) (head1 (Jvm.Cond.code (⟨"com/example/kinhash/kinhash/BlockTable", "tag", "(JI)I"⟩ : MethodName) prog_4_method_17_code 5 (some .int) :: ws) ({ frames := 1, cells := 0, slots := 0, locals := 14 } : Room)) (fun a U => a = #[(.ref a1), (.long q2), (.int p3)] ∧ Z.Warmed39 U.vm ∧ U.heap = h0) (fun _ _ _ _ _ => True) (fun _ U o U' => ∃ v L, o = .returned v ∧ Q_rmT2 Z a1 q2 p3 rb lb h0 n0 v U'.heap L ∧ FrameEnd U o U' L ({ frames := 1, cells := 0, slots := 0, locals := 14 } : Room).cells ({ frames := 1, cells := 0, slots := 0, locals := 14 } : Room).slots) := by
  refine MetFree.of_bodySF (plainFor_of_name pn_0) hisR ?_
  intro p e s m args below meth c s₁ Bd hml0 hP hK
  obtain ⟨rfl, hZ, hh⟩ := hP
  have hx := Bd.exec
  have hby := Bd.bytes
  have hml : c.maxLocals = 5 := hml0
  have hown : s.vm.findClass "com/example/kinhash/kinhash/BlockTable" = some m.cls := findClass_of_methodNamed Bd.named
  have hnm := (name_of_methodNamed Bd.named Bd.method).1
  have X0 : Stand p l e ({ frames := 1, cells := 0, slots := 0, locals := 14 } : Room) s m #[(.ref a1), (.long q2), (.int p3)] below meth c s₁ [] 0 0 := Stand.of_body Bd
  have e0 : s₁.heap = h0 := by rw [← hh, Bd.state]; rfl
  have N0 := Fr.nil n0
  have P0 : Rch p e below (s₁.setTop (entryFrame m #[(.ref a1), (.long q2), (.int p3)] 5)) (s₁.setTop (mkF m 0 #[rv a1, lv q2, sd, iv p3, un] [])) := fun t k => castTop (by first | (simp [entryFrame, mkF, argsToLocals, Value.category]; done) | rfl) k
  have P1 : Rch p e below (s₁.setTop (entryFrame m #[(.ref a1), (.long q2), (.int p3)] 5)) (s₁.setTop (mkF m 3 #[rv a1, lv q2, sd, iv p3, un] [(.ref a1), (.int (40 : Int32))])) := fun t k => P0 t (by
    show Steps p.tables e below (s₁.setTop (mkF m 0 #[rv a1, lv q2, sd, iv p3, un] [])) t
    refine XS.bipush X0.here hx rfl (hb hby d10_0) ?_
    refine XS.aloadN X0.here hx rfl (hb hby d10_2) rfl rfl ?_
    exact k)
  obtain ⟨T2, X2, e2, st2⟩ := getF X0 hx hZ hown (host := "") (Or.inl (hw _ (List.mem_of_getElem? (i := 11) rfl))) Via.refl e0 F1 (g := (mkF m 3 #[rv a1, lv q2, sd, iv p3, un] [(.ref a1), (.int (40 : Int32))])) rfl rfl (hb hby d10_3)
  have P3 : Rch p e below (s₁.setTop (entryFrame m #[(.ref a1), (.long q2), (.int p3)] 5)) (T2.setTop (mkF m 6 #[rv a1, lv q2, sd, iv p3, un] [(.int rb), (.int (40 : Int32))])) := fun t k => P1 t (st2 t k)
  obtain ⟨x4, hx4⟩ : ∃ z : Int32, z = ((40 : Int32) - rb) := ⟨_, rfl⟩
  have P5 : Rch p e below (s₁.setTop (entryFrame m #[(.ref a1), (.long q2), (.int p3)] 5)) (T2.setTop (mkF m 11 #[rv a1, lv q2, sd, iv p3, iv x4] [(.ref a1), (.long q2)])) := fun t k => P3 t (by
    subst hx4
    show Steps p.tables e below (T2.setTop (mkF m 6 #[rv a1, lv q2, sd, iv p3, un] [(.int rb), (.int (40 : Int32))])) t
    refine XS.isub X2.here hx rfl (hb hby d10_6) rfl ?_
    refine XS.istore X2.here hx rfl (hb hby d10_7) rfl (l' := #[rv a1, lv q2, sd, iv p3, iv ((40 : Int32) - rb)]) rfl ?_
    refine XS.lloadN X2.here hx rfl (hb hby d10_9) rfl ?_
    show Steps p.tables e below (T2.setTop (mkF m 10 #[rv a1, lv q2, sd, iv p3, iv ((40 : Int32) - rb)] [(.long q2)])) t
    refine XS.aloadN X2.here hx rfl (hb hby d10_10) rfl rfl ?_
    exact k)
  obtain ⟨T6, X6, e6, st6⟩ := getF X2 hx hZ hown (host := "") (Or.inl (hw _ (List.mem_of_getElem? (i := 15) rfl))) Via.refl e2 F2 (g := (mkF m 11 #[rv a1, lv q2, sd, iv p3, iv x4] [(.ref a1), (.long q2)])) rfl rfl (hb hby d10_11)
  have P7 : Rch p e below (s₁.setTop (entryFrame m #[(.ref a1), (.long q2), (.int p3)] 5)) (T6.setTop (mkF m 14 #[rv a1, lv q2, sd, iv p3, iv x4] [(.int lb), (.long q2)])) := fun t k => P5 t (st6 t k)
  obtain ⟨x8, hx8⟩ : ∃ z : Int32, z = (lb + p3) := ⟨_, rfl⟩
  have P9 : Rch p e below (s₁.setTop (entryFrame m #[(.ref a1), (.long q2), (.int p3)] 5)) (T6.setTop (mkF m 16 #[rv a1, lv q2, sd, iv p3, iv x4] [(.int x8), (.long q2)])) := fun t k => P7 t (by
    subst hx8
    show Steps p.tables e below (T6.setTop (mkF m 14 #[rv a1, lv q2, sd, iv p3, iv x4] [(.int lb), (.long q2)])) t
    refine XS.iloadN X6.here hx rfl (hb hby d10_14) rfl ?_
    refine XS.iadd X6.here hx rfl (hb hby d10_15) rfl ?_
    exact k)
  obtain ⟨_, _, ⟨T10, L10, k10, n10⟩, -, X10, ⟨Lc10, hQ10, l10, y10, z10⟩, st10⟩ := Jvm.LawKit.callS X6 hx (y := (⟨"java/lang/Long", "rotateRight", "(JI)J"⟩ : MethodName)) hown (mvT hZ (hw _ (List.mem_of_getElem? (i := 75) rfl))) (mvT hZ (hw _ (List.mem_of_getElem? (i := 76) rfl))) (mvT hZ (hw _ (List.mem_of_getElem? (i := 77) rfl))) (mvT hZ (hw _ (List.mem_of_getElem? (i := 78) rfl))) (by decide) (backOf (W := 0) (rmRr l Z a0 hw [] q2 x8 h0 n0 Z0 ) hZ (hw _ (List.mem_of_getElem? (i := 78) rfl)) (hw _ (List.mem_of_getElem? (i := 77) rfl)) (by decide) (by decide)) (g := (mkF m 16 #[rv a1, lv q2, sd, iv p3, iv x4] [(.int x8), (.long q2)])) rfl (by rw [hml]; rfl) (argsL := [(.long q2), (.int x8)]) (rest := []) (lenOf pd_1 rfl) rfl (by show 2 * 0 + _ ≤ _; exact Nat.le_of_eq rfl) (hb hby d10_16) (fun _ _ => ⟨rfl, e6, (by decide : 0 + 0 ≤ _), (by decide : 0 + 0 ≤ _)⟩)
  dsimp only [Pt.U, Pt.locs, Pt.cells, Pt.slots] at X10 l10 y10 z10 st10 hQ10
  subst y10 z10
  obtain ⟨rfl, N10q, e10⟩ := hQ10
  have N10 : Fr n0 L10 := by rw [l10]; exact Fr.app N0 N10q
  have P11 : Rch p e below (s₁.setTop (entryFrame m #[(.ref a1), (.long q2), (.int p3)] 5)) (T10.setTop (mkF m 19 #[rv a1, lv q2, sd, iv p3, iv x4] [(.long (own_rr q2 x8))])) := fun t k => P9 t (st10 t k)
  obtain ⟨y12, hy12⟩ : ∃ z : Int64, z = (own_rr q2 x8) := ⟨_, rfl⟩
  rw [← hy12] at P11
  obtain ⟨x13, hx13⟩ : ∃ z : Int32, z = ((y12.toInt32) &&& (((1 : Int32) <<< (x4 &&& 31)) - (1 : Int32))) := ⟨_, rfl⟩
  have P14 : Rch p e below (s₁.setTop (entryFrame m #[(.ref a1), (.long q2), (.int p3)] 5)) (T10.setTop (mkF m 27 #[rv a1, lv q2, sd, iv p3, iv x4] [(.int x13)])) := fun t k => P11 t (by
    subst hx13
    show Steps p.tables e below (T10.setTop (mkF m 19 #[rv a1, lv q2, sd, iv p3, iv x4] [(.long y12)])) t
    refine XS.l2i X10.here hx rfl (hb hby d10_19) rfl ?_
    refine XS.iconst X10.here hx rfl (hb hby d10_20) ?_
    refine XS.iload X10.here hx rfl (hb hby d10_21) rfl ?_
    show Steps p.tables e below (T10.setTop (mkF m 23 #[rv a1, lv q2, sd, iv p3, iv x4] [(.int x4), (.int (1 : Int32)), (.int (y12.toInt32))])) t
    refine XS.ishl X10.here hx rfl (hb hby d10_23) rfl ?_
    refine XS.iconst X10.here hx rfl (hb hby d10_24) ?_
    refine XS.isub X10.here hx rfl (hb hby d10_25) rfl ?_
    refine XS.iand X10.here hx rfl (hb hby d10_26) rfl ?_
    exact k)
  obtain ⟨fs, hr, hrun, hended, hW, hsame⟩ := X10.leave (v := some (.int x13)) (fun h => by rw [Bd.returns] at h; cases h)
  refine ⟨_, _, P14 _ ?_, hrun, hended, _, _, rfl, ?_, ⟨_, rfl⟩, hW, hsame.mono (by decide) (by decide)⟩
  · exact retI X10 hx Bd.returns (hb hby d10_27) hr
  · show Q_rmT2 Z a1 q2 p3 rb lb h0 n0 _ T10.heap _
    rw [e10]
    exact ⟨(by unfold own_tg; subst hx13 hy12 hx8 hx4; first | rfl | rw [] | simp only [] | simp [*]), N10, rfl⟩
def own_tg1 (q2 : Int64) (rb : Int32) (lb : Int32) : Int32 := (own_tg q2 (0 : Int32) rb lb)
def Q_rmT1 (Z : State) (a1 : Addr) (q2 : Int64) (rb : Int32) (lb : Int32) (h0 : Heap) (n0 : Nat) (v : Option Value) (h : Heap) (L : List Loc) : Prop := v = some (.int (own_tg1 q2 rb lb)) ∧ Fr n0 L ∧ h = h0
set_option maxRecDepth 65536 in
set_option maxHeartbeats 40000000 in
theorem rmT1 (l : Launch) (Z : State) (a0 : Array Value) (hw : ∀ d ∈ tables_1, d.before a0 Z = true) (ws : List Jvm.Cond) (a1 : Addr) (q2 : Int64) (rb : Int32) (lb : Int32) (h0 : Heap) (n0 : Nat) (Z0 : n0 ≤ h0.size) (E1 : Exa Z h0 a1 "com/example/kinhash/kinhash/BlockTable") (F1 : Fld Z h0 a1 "com/example/kinhash/kinhash/BlockTable" "recordBits" "I" (.int rb)) (F2 : Fld Z h0 a1 "com/example/kinhash/kinhash/BlockTable" "lowestBit" "I" (.int lb)) (F3 : Fld Z h0 a1 "com/example/kinhash/kinhash/BlockTable" "bucketBits" "I" (.int (0 : Int32))) :
    MetFree l (⟨"com/example/kinhash/kinhash/BlockTable", "tag", "(J)I"⟩ : MethodName) (head1 (Jvm.Cond.code (⟨"com/example/kinhash/kinhash/BlockTable", "tag", "(J)I"⟩ : MethodName) prog_4_method_4_code 3 (some .int) :: ws) ({ frames := 2, cells := 0, slots := 0, locals := 30 } : Room)) (fun a U => a = #[(.ref a1), (.long q2)] ∧ Z.Warmed39 U.vm ∧ U.heap = h0) (fun _ _ _ _ _ => True) (fun _ U o U' => ∃ v L, o = .returned v ∧ Q_rmT1 Z a1 q2 rb lb h0 n0 v U'.heap L ∧ FrameEnd U o U' L ({ frames := 2, cells := 0, slots := 0, locals := 30 } : Room).cells ({ frames := 2, cells := 0, slots := 0, locals := 30 } : Room).slots) := by
  refine MetFree.of_bodySF (plainFor_of_name pn_0) hisR ?_
  intro p e s m args below meth c s₁ Bd hml0 hP hK
  obtain ⟨rfl, hZ, hh⟩ := hP
  have hx := Bd.exec
  have hby := Bd.bytes
  have hml : c.maxLocals = 3 := hml0
  have hown : s.vm.findClass "com/example/kinhash/kinhash/BlockTable" = some m.cls := findClass_of_methodNamed Bd.named
  have hnm := (name_of_methodNamed Bd.named Bd.method).1
  have X0 : Stand p l e ({ frames := 2, cells := 0, slots := 0, locals := 30 } : Room) s m #[(.ref a1), (.long q2)] below meth c s₁ [] 0 0 := Stand.of_body Bd
  have e0 : s₁.heap = h0 := by rw [← hh, Bd.state]; rfl
  have N0 := Fr.nil n0
  have P0 : Rch p e below (s₁.setTop (entryFrame m #[(.ref a1), (.long q2)] 3)) (s₁.setTop (mkF m 0 #[rv a1, lv q2, sd] [])) := fun t k => castTop (by first | (simp [entryFrame, mkF, argsToLocals, Value.category]; done) | rfl) k
  have P1 : Rch p e below (s₁.setTop (entryFrame m #[(.ref a1), (.long q2)] 3)) (s₁.setTop (mkF m 3 #[rv a1, lv q2, sd] [(.ref a1), (.long q2), (.ref a1)])) := fun t k => P0 t (by
    show Steps p.tables e below (s₁.setTop (mkF m 0 #[rv a1, lv q2, sd] [])) t
    refine XS.aloadN X0.here hx rfl (hb hby d9_0) rfl rfl ?_
    refine XS.lloadN X0.here hx rfl (hb hby d9_1) rfl ?_
    refine XS.aloadN X0.here hx rfl (hb hby d9_2) rfl rfl ?_
    exact k)
  obtain ⟨T2, X2, e2, st2⟩ := getF X0 hx hZ hown (host := "") (Or.inl (hw _ (List.mem_of_getElem? (i := 41) rfl))) Via.refl e0 F3 (g := (mkF m 3 #[rv a1, lv q2, sd] [(.ref a1), (.long q2), (.ref a1)])) rfl rfl (hb hby d9_3)
  have P3 : Rch p e below (s₁.setTop (entryFrame m #[(.ref a1), (.long q2)] 3)) (T2.setTop (mkF m 6 #[rv a1, lv q2, sd] [(.int (0 : Int32)), (.long q2), (.ref a1)])) := fun t k => P1 t (st2 t k)
  obtain ⟨cq4, q4, q4'⟩ := E1.cell
  obtain ⟨_, _, ⟨T4, L4, k4, n4⟩, -, X4, ⟨Lc4, hQ4, l4, y4, z4⟩, st4⟩ := X2.privateBack hx (y := (⟨"com/example/kinhash/kinhash/BlockTable", "tag", "(JI)I"⟩ : MethodName)) hown (mvT hZ (hw _ (List.mem_of_getElem? (i := 71) rfl))) (mvT hZ (hw _ (List.mem_of_getElem? (i := 72) rfl))) (own_selp hZ (hw _ (List.mem_of_getElem? (i := 3) rfl)) (hw _ (List.mem_of_getElem? (i := 72) rfl)) (hw _ (List.mem_of_getElem? (i := 73) rfl)) (by decide)) (Cond.privateMethod_at (mvP hZ (hw _ (List.mem_of_getElem? (i := 73) rfl)) (args := #[]))) (mvT hZ (hw _ (List.mem_of_getElem? (i := 74) rfl))) (by decide) (backOf (W := 0) (rmT2 l Z a0 hw [] a1 q2 (0 : Int32) rb lb h0 n0 Z0 F1 F2) hZ (hw _ (List.mem_of_getElem? (i := 74) rfl)) (hw _ (List.mem_of_getElem? (i := 4) rfl)) (by decide) (by decide)) (g := (mkF m 6 #[rv a1, lv q2, sd] [(.int (0 : Int32)), (.long q2), (.ref a1)])) rfl (by rw [hml]; rfl) (Steps.refl _) (a := a1) (by rw [e2]; exact q4) q4' (argsL := [(.long q2), (.int (0 : Int32))]) (rest := []) (lenOf pd_0 rfl) rfl (by show 2 * 0 + _ ≤ _; exact Nat.le_of_eq rfl) (hb hby d9_6) (fun _ _ => ⟨rfl, e2, (by decide : 0 + 0 ≤ _), (by decide : 0 + 0 ≤ _)⟩)
  dsimp only [Pt.U, Pt.locs, Pt.cells, Pt.slots] at X4 l4 y4 z4 st4 hQ4
  subst y4 z4
  obtain ⟨rfl, N4q, e4⟩ := hQ4
  have N4 : Fr n0 L4 := by rw [l4]; exact Fr.app N0 N4q
  have P5 : Rch p e below (s₁.setTop (entryFrame m #[(.ref a1), (.long q2)] 3)) (T4.setTop (mkF m 9 #[rv a1, lv q2, sd] [(.int (own_tg q2 (0 : Int32) rb lb))])) := fun t k => P3 t (st4.trans k)
  obtain ⟨x6, hx6⟩ : ∃ z : Int32, z = (own_tg q2 (0 : Int32) rb lb) := ⟨_, rfl⟩
  rw [← hx6] at P5
  obtain ⟨fs, hr, hrun, hended, hW, hsame⟩ := X4.leave (v := some (.int x6)) (fun h => by rw [Bd.returns] at h; cases h)
  refine ⟨_, _, P5 _ ?_, hrun, hended, _, _, rfl, ?_, ⟨_, rfl⟩, hW, hsame.mono (by decide) (by decide)⟩
  · exact retI X4 hx Bd.returns (hb hby d9_9) hr
  · show Q_rmT1 Z a1 q2 rb lb h0 n0 _ T4.heap _
    rw [e4]
    exact ⟨(by unfold own_tg1; subst hx6; first | rfl | rw [] | simp only [] | simp [*]), N4, rfl⟩
def Q_rmE (Z : State) (a1 : Addr) (aS : Addr) (kS : ClassId) (aL : Addr) (kL : ClassId) (sv : Int32) (ln : Int32) (h0 : Heap) (n0 : Nat) (v : Option Value) (h : Heap) (L : List Loc) : Prop := v = some (.int (sv + ln)) ∧ Fr n0 L ∧ h = h0
set_option maxRecDepth 65536 in
set_option maxHeartbeats 40000000 in
theorem rmE (l : Launch) (Z : State) (a0 : Array Value) (hw : ∀ d ∈ tables_1, d.before a0 Z = true) (ws : List Jvm.Cond) (a1 : Addr) (aS : Addr) (kS : ClassId) (aL : Addr) (kL : ClassId) (sv : Int32) (ln : Int32) (h0 : Heap) (n0 : Nat) (Z0 : n0 ≤ h0.size) (F1 : Fld Z h0 a1 "com/example/kinhash/kinhash/BlockTable" "start" "[I" (.ref aS)) (F2 : Fld Z h0 a1 "com/example/kinhash/kinhash/BlockTable" "length" "[I" (.ref aL)) (V1 : Arv Z h0 aS kS .int (1 : Int32) [(.int sv)] (.int (0 : Int32))) (V2 : Arv Z h0 aL kL .int (1 : Int32) [(.int ln)] (.int (0 : Int32))) :
    MetFree l (⟨"com/example/kinhash/kinhash/BlockTable", "end", "(I)I"⟩ : MethodName) (head1 (Jvm.Cond.code (⟨"com/example/kinhash/kinhash/BlockTable", "end", "(I)I"⟩ : MethodName) prog_4_method_6_code 2 (some .int) :: ws) ({ frames := 0, cells := 0, slots := 0, locals := 0 } : Room)) (fun a U => a = #[(.ref a1), (.int (0 : Int32))] ∧ Z.Warmed39 U.vm ∧ U.heap = h0) (fun _ _ _ _ _ => True) (fun _ U o U' => ∃ v L, o = .returned v ∧ Q_rmE Z a1 aS kS aL kL sv ln h0 n0 v U'.heap L ∧ FrameEnd U o U' L ({ frames := 0, cells := 0, slots := 0, locals := 0 } : Room).cells ({ frames := 0, cells := 0, slots := 0, locals := 0 } : Room).slots) := by
  refine MetFree.of_bodySF (plainFor_of_name pn_0) hisR ?_
  intro p e s m args below meth c s₁ Bd hml0 hP hK
  obtain ⟨rfl, hZ, hh⟩ := hP
  have hx := Bd.exec
  have hby := Bd.bytes
  have hml : c.maxLocals = 2 := hml0
  have hown : s.vm.findClass "com/example/kinhash/kinhash/BlockTable" = some m.cls := findClass_of_methodNamed Bd.named
  have hnm := (name_of_methodNamed Bd.named Bd.method).1
  have X0 : Stand p l e ({ frames := 0, cells := 0, slots := 0, locals := 0 } : Room) s m #[(.ref a1), (.int (0 : Int32))] below meth c s₁ [] 0 0 := Stand.of_body Bd
  have e0 : s₁.heap = h0 := by rw [← hh, Bd.state]; rfl
  have N0 := Fr.nil n0
  have P0 : Rch p e below (s₁.setTop (entryFrame m #[(.ref a1), (.int (0 : Int32))] 2)) (s₁.setTop (mkF m 0 #[rv a1, iv (0 : Int32)] [])) := fun t k => castTop (by first | (simp [entryFrame, mkF, argsToLocals, Value.category]; done) | rfl) k
  have P1 : Rch p e below (s₁.setTop (entryFrame m #[(.ref a1), (.int (0 : Int32))] 2)) (s₁.setTop (mkF m 1 #[rv a1, iv (0 : Int32)] [(.ref a1)])) := fun t k => P0 t (by
    show Steps p.tables e below (s₁.setTop (mkF m 0 #[rv a1, iv (0 : Int32)] [])) t
    refine XS.aloadN X0.here hx rfl (hb hby d8_0) rfl rfl ?_
    exact k)
  obtain ⟨T2, X2, e2, st2⟩ := getF X0 hx hZ hown (host := "") (Or.inl (hw _ (List.mem_of_getElem? (i := 20) rfl))) Via.refl e0 F1 (g := (mkF m 1 #[rv a1, iv (0 : Int32)] [(.ref a1)])) rfl rfl (hb hby d8_1)
  have P3 : Rch p e below (s₁.setTop (entryFrame m #[(.ref a1), (.int (0 : Int32))] 2)) (T2.setTop (mkF m 4 #[rv a1, iv (0 : Int32)] [(.ref aS)])) := fun t k => P1 t (st2 t k)
  have P4 : Rch p e below (s₁.setTop (entryFrame m #[(.ref a1), (.int (0 : Int32))] 2)) (T2.setTop (mkF m 5 #[rv a1, iv (0 : Int32)] [(.int (0 : Int32)), (.ref aS)])) := fun t k => P3 t (by
    show Steps p.tables e below (T2.setTop (mkF m 4 #[rv a1, iv (0 : Int32)] [(.ref aS)])) t
    refine XS.iloadN X2.here hx rfl (hb hby d8_4) rfl ?_
    exact k)
  have V_o5 := V1
  obtain ⟨co5, Aro5, qo5, So5, Mo5, Ho5, Go5⟩ := V_o5
  have hin6 : ¬ ((0 : Int32) < 0 ∨ co5.slots.size ≤ ((0 : Int32)).toNatClampNeg) := inb_of So5 ⟨by decide, by decide⟩
  have hat6 : co5.slots[((0 : Int32)).toNatClampNeg]? = some (.int sv) := Has.at Ho5 hin6 rfl
  have P7 : Rch p e below (s₁.setTop (entryFrame m #[(.ref a1), (.int (0 : Int32))] 2)) (T2.setTop (mkF m 6 #[rv a1, iv (0 : Int32)] [(.int sv)])) := fun t k => P4 t (X2.iaload hx (j := (0 : Int32)) (v := (.int sv)) (by rw [e2]; exact Aro5.1) (State.isArrayOf_alike hZ.alike Aro5.2.1) Aro5.2.2 hin6 hat6 (g := (mkF m 5 #[rv a1, iv (0 : Int32)] [(.int (0 : Int32)), (.ref aS)])) rfl rfl (hb hby d8_5) t k)
  have P8 : Rch p e below (s₁.setTop (entryFrame m #[(.ref a1), (.int (0 : Int32))] 2)) (T2.setTop (mkF m 7 #[rv a1, iv (0 : Int32)] [(.ref a1), (.int sv)])) := fun t k => P7 t (by
    show Steps p.tables e below (T2.setTop (mkF m 6 #[rv a1, iv (0 : Int32)] [(.int sv)])) t
    refine XS.aloadN X2.here hx rfl (hb hby d8_6) rfl rfl ?_
    exact k)
  obtain ⟨T9, X9, e9, st9⟩ := getF X2 hx hZ hown (host := "") (Or.inl (hw _ (List.mem_of_getElem? (i := 22) rfl))) Via.refl e2 F2 (g := (mkF m 7 #[rv a1, iv (0 : Int32)] [(.ref a1), (.int sv)])) rfl rfl (hb hby d8_7)
  have P10 : Rch p e below (s₁.setTop (entryFrame m #[(.ref a1), (.int (0 : Int32))] 2)) (T9.setTop (mkF m 10 #[rv a1, iv (0 : Int32)] [(.ref aL), (.int sv)])) := fun t k => P8 t (st9 t k)
  have P11 : Rch p e below (s₁.setTop (entryFrame m #[(.ref a1), (.int (0 : Int32))] 2)) (T9.setTop (mkF m 11 #[rv a1, iv (0 : Int32)] [(.int (0 : Int32)), (.ref aL), (.int sv)])) := fun t k => P10 t (by
    show Steps p.tables e below (T9.setTop (mkF m 10 #[rv a1, iv (0 : Int32)] [(.ref aL), (.int sv)])) t
    refine XS.iloadN X9.here hx rfl (hb hby d8_10) rfl ?_
    exact k)
  have V_o12 := V2
  obtain ⟨co12, Aro12, qo12, So12, Mo12, Ho12, Go12⟩ := V_o12
  have hin13 : ¬ ((0 : Int32) < 0 ∨ co12.slots.size ≤ ((0 : Int32)).toNatClampNeg) := inb_of So12 ⟨by decide, by decide⟩
  have hat13 : co12.slots[((0 : Int32)).toNatClampNeg]? = some (.int ln) := Has.at Ho12 hin13 rfl
  have P14 : Rch p e below (s₁.setTop (entryFrame m #[(.ref a1), (.int (0 : Int32))] 2)) (T9.setTop (mkF m 12 #[rv a1, iv (0 : Int32)] [(.int ln), (.int sv)])) := fun t k => P11 t (X9.iaload hx (j := (0 : Int32)) (v := (.int ln)) (by rw [e9]; exact Aro12.1) (State.isArrayOf_alike hZ.alike Aro12.2.1) Aro12.2.2 hin13 hat13 (g := (mkF m 11 #[rv a1, iv (0 : Int32)] [(.int (0 : Int32)), (.ref aL), (.int sv)])) rfl rfl (hb hby d8_11) t k)
  obtain ⟨x15, hx15⟩ : ∃ z : Int32, z = (sv + ln) := ⟨_, rfl⟩
  have P16 : Rch p e below (s₁.setTop (entryFrame m #[(.ref a1), (.int (0 : Int32))] 2)) (T9.setTop (mkF m 13 #[rv a1, iv (0 : Int32)] [(.int x15)])) := fun t k => P14 t (by
    subst hx15
    show Steps p.tables e below (T9.setTop (mkF m 12 #[rv a1, iv (0 : Int32)] [(.int ln), (.int sv)])) t
    refine XS.iadd X9.here hx rfl (hb hby d8_12) rfl ?_
    exact k)
  obtain ⟨fs, hr, hrun, hended, hW, hsame⟩ := X9.leave (v := some (.int x15)) (fun h => by rw [Bd.returns] at h; cases h)
  refine ⟨_, _, P16 _ ?_, hrun, hended, _, _, rfl, ?_, ⟨_, rfl⟩, hW, hsame.mono (by decide) (by decide)⟩
  · exact retI X9 hx Bd.returns (hb hby d8_13) hr
  · show Q_rmE Z a1 aS kS aL kL sv ln h0 n0 _ T9.heap _
    rw [e9]
    exact ⟨(by rw [hx15]), N0, rfl⟩
def Q_rmSt (Z : State) (a1 : Addr) (aS : Addr) (kS : ClassId) (sv : Int32) (h0 : Heap) (n0 : Nat) (v : Option Value) (h : Heap) (L : List Loc) : Prop := v = some (.int sv) ∧ Fr n0 L ∧ h = h0
set_option maxRecDepth 65536 in
set_option maxHeartbeats 40000000 in
theorem rmSt (l : Launch) (Z : State) (a0 : Array Value) (hw : ∀ d ∈ tables_1, d.before a0 Z = true) (ws : List Jvm.Cond) (a1 : Addr) (aS : Addr) (kS : ClassId) (sv : Int32) (h0 : Heap) (n0 : Nat) (Z0 : n0 ≤ h0.size) (F1 : Fld Z h0 a1 "com/example/kinhash/kinhash/BlockTable" "start" "[I" (.ref aS)) (V1 : Arv Z h0 aS kS .int (1 : Int32) [(.int sv)] (.int (0 : Int32))) :
    MetFree l (⟨"com/example/kinhash/kinhash/BlockTable", "start", "(I)I"⟩ : MethodName) (head1 (Jvm.Cond.code (⟨"com/example/kinhash/kinhash/BlockTable", "start", "(I)I"⟩ : MethodName) prog_4_method_5_code 2 (some .int) :: ws) ({ frames := 0, cells := 0, slots := 0, locals := 0 } : Room)) (fun a U => a = #[(.ref a1), (.int (0 : Int32))] ∧ Z.Warmed39 U.vm ∧ U.heap = h0) (fun _ _ _ _ _ => True) (fun _ U o U' => ∃ v L, o = .returned v ∧ Q_rmSt Z a1 aS kS sv h0 n0 v U'.heap L ∧ FrameEnd U o U' L ({ frames := 0, cells := 0, slots := 0, locals := 0 } : Room).cells ({ frames := 0, cells := 0, slots := 0, locals := 0 } : Room).slots) := by
  refine MetFree.of_bodySF (plainFor_of_name pn_0) hisR ?_
  intro p e s m args below meth c s₁ Bd hml0 hP hK
  obtain ⟨rfl, hZ, hh⟩ := hP
  have hx := Bd.exec
  have hby := Bd.bytes
  have hml : c.maxLocals = 2 := hml0
  have hown : s.vm.findClass "com/example/kinhash/kinhash/BlockTable" = some m.cls := findClass_of_methodNamed Bd.named
  have hnm := (name_of_methodNamed Bd.named Bd.method).1
  have X0 : Stand p l e ({ frames := 0, cells := 0, slots := 0, locals := 0 } : Room) s m #[(.ref a1), (.int (0 : Int32))] below meth c s₁ [] 0 0 := Stand.of_body Bd
  have e0 : s₁.heap = h0 := by rw [← hh, Bd.state]; rfl
  have N0 := Fr.nil n0
  have P0 : Rch p e below (s₁.setTop (entryFrame m #[(.ref a1), (.int (0 : Int32))] 2)) (s₁.setTop (mkF m 0 #[rv a1, iv (0 : Int32)] [])) := fun t k => castTop (by first | (simp [entryFrame, mkF, argsToLocals, Value.category]; done) | rfl) k
  have P1 : Rch p e below (s₁.setTop (entryFrame m #[(.ref a1), (.int (0 : Int32))] 2)) (s₁.setTop (mkF m 1 #[rv a1, iv (0 : Int32)] [(.ref a1)])) := fun t k => P0 t (by
    show Steps p.tables e below (s₁.setTop (mkF m 0 #[rv a1, iv (0 : Int32)] [])) t
    refine XS.aloadN X0.here hx rfl (hb hby d13_0) rfl rfl ?_
    exact k)
  obtain ⟨T2, X2, e2, st2⟩ := getF X0 hx hZ hown (host := "") (Or.inl (hw _ (List.mem_of_getElem? (i := 20) rfl))) Via.refl e0 F1 (g := (mkF m 1 #[rv a1, iv (0 : Int32)] [(.ref a1)])) rfl rfl (hb hby d13_1)
  have P3 : Rch p e below (s₁.setTop (entryFrame m #[(.ref a1), (.int (0 : Int32))] 2)) (T2.setTop (mkF m 4 #[rv a1, iv (0 : Int32)] [(.ref aS)])) := fun t k => P1 t (st2 t k)
  have P4 : Rch p e below (s₁.setTop (entryFrame m #[(.ref a1), (.int (0 : Int32))] 2)) (T2.setTop (mkF m 5 #[rv a1, iv (0 : Int32)] [(.int (0 : Int32)), (.ref aS)])) := fun t k => P3 t (by
    show Steps p.tables e below (T2.setTop (mkF m 4 #[rv a1, iv (0 : Int32)] [(.ref aS)])) t
    refine XS.iloadN X2.here hx rfl (hb hby d13_4) rfl ?_
    exact k)
  have V_o5 := V1
  obtain ⟨co5, Aro5, qo5, So5, Mo5, Ho5, Go5⟩ := V_o5
  have hin6 : ¬ ((0 : Int32) < 0 ∨ co5.slots.size ≤ ((0 : Int32)).toNatClampNeg) := inb_of So5 ⟨by decide, by decide⟩
  have hat6 : co5.slots[((0 : Int32)).toNatClampNeg]? = some (.int sv) := Has.at Ho5 hin6 rfl
  have P7 : Rch p e below (s₁.setTop (entryFrame m #[(.ref a1), (.int (0 : Int32))] 2)) (T2.setTop (mkF m 6 #[rv a1, iv (0 : Int32)] [(.int sv)])) := fun t k => P4 t (X2.iaload hx (j := (0 : Int32)) (v := (.int sv)) (by rw [e2]; exact Aro5.1) (State.isArrayOf_alike hZ.alike Aro5.2.1) Aro5.2.2 hin6 hat6 (g := (mkF m 5 #[rv a1, iv (0 : Int32)] [(.int (0 : Int32)), (.ref aS)])) rfl rfl (hb hby d13_5) t k)
  obtain ⟨fs, hr, hrun, hended, hW, hsame⟩ := X2.leave (v := some (.int sv)) (fun h => by rw [Bd.returns] at h; cases h)
  refine ⟨_, _, P7 _ ?_, hrun, hended, _, _, rfl, ?_, ⟨_, rfl⟩, hW, hsame.mono (by decide) (by decide)⟩
  · exact retI X2 hx Bd.returns (hb hby d13_6) hr
  · show Q_rmSt Z a1 aS kS sv h0 n0 _ T2.heap _
    rw [e2]
    exact ⟨rfl, N0, rfl⟩
def Q_rmRec0 (Z : State) (a1 : Addr) (rb : Int32) (aE : Addr) (kE : ClassId) (en0 : Int32) (en1 : Int32) (en2 : Int32) (en3 : Int32) (h0 : Heap) (n0 : Nat) (v : Option Value) (h : Heap) (L : List Loc) : Prop := v = some (.int (own_rec rb en0)) ∧ Fr n0 L ∧ h = h0
set_option maxRecDepth 65536 in
set_option maxHeartbeats 40000000 in
theorem rmRec0 (l : Launch) (Z : State) (a0 : Array Value) (hw : ∀ d ∈ tables_1, d.before a0 Z = true) (ws : List Jvm.Cond) (a1 : Addr) (rb : Int32) (aE : Addr) (kE : ClassId) (en0 : Int32) (en1 : Int32) (en2 : Int32) (en3 : Int32) (h0 : Heap) (n0 : Nat) (Z0 : n0 ≤ h0.size) (F1 : Fld Z h0 a1 "com/example/kinhash/kinhash/BlockTable" "entries" "[I" (.ref aE)) (F2 : Fld Z h0 a1 "com/example/kinhash/kinhash/BlockTable" "recordBits" "I" (.int rb)) (V1 : Arv Z h0 aE kE .int (4 : Int32) [(.int en0), (.int en1), (.int en2), (.int en3)] (.int (0 : Int32))) :
    MetFree l (⟨"com/example/kinhash/kinhash/BlockTable", "record", "(I)I"⟩ : MethodName) (head1 (Jvm.Cond.code (⟨"com/example/kinhash/kinhash/BlockTable", "record", "(I)I"⟩ : MethodName) prog_4_method_7_code 2 (some .int) :: ws) ({ frames := 0, cells := 0, slots := 0, locals := 0 } : Room)) (fun a U => a = #[(.ref a1), (.int (0 : Int32))] ∧ Z.Warmed39 U.vm ∧ U.heap = h0) (fun _ _ _ _ _ => True) (fun _ U o U' => ∃ v L, o = .returned v ∧ Q_rmRec0 Z a1 rb aE kE en0 en1 en2 en3 h0 n0 v U'.heap L ∧ FrameEnd U o U' L ({ frames := 0, cells := 0, slots := 0, locals := 0 } : Room).cells ({ frames := 0, cells := 0, slots := 0, locals := 0 } : Room).slots) := by
  refine MetFree.of_bodySF (plainFor_of_name pn_0) hisR ?_
  intro p e s m args below meth c s₁ Bd hml0 hP hK
  obtain ⟨rfl, hZ, hh⟩ := hP
  have hx := Bd.exec
  have hby := Bd.bytes
  have hml : c.maxLocals = 2 := hml0
  have hown : s.vm.findClass "com/example/kinhash/kinhash/BlockTable" = some m.cls := findClass_of_methodNamed Bd.named
  have hnm := (name_of_methodNamed Bd.named Bd.method).1
  have X0 : Stand p l e ({ frames := 0, cells := 0, slots := 0, locals := 0 } : Room) s m #[(.ref a1), (.int (0 : Int32))] below meth c s₁ [] 0 0 := Stand.of_body Bd
  have e0 : s₁.heap = h0 := by rw [← hh, Bd.state]; rfl
  have N0 := Fr.nil n0
  have P0 : Rch p e below (s₁.setTop (entryFrame m #[(.ref a1), (.int (0 : Int32))] 2)) (s₁.setTop (mkF m 0 #[rv a1, iv (0 : Int32)] [])) := fun t k => castTop (by first | (simp [entryFrame, mkF, argsToLocals, Value.category]; done) | rfl) k
  have P1 : Rch p e below (s₁.setTop (entryFrame m #[(.ref a1), (.int (0 : Int32))] 2)) (s₁.setTop (mkF m 1 #[rv a1, iv (0 : Int32)] [(.ref a1)])) := fun t k => P0 t (by
    show Steps p.tables e below (s₁.setTop (mkF m 0 #[rv a1, iv (0 : Int32)] [])) t
    refine XS.aloadN X0.here hx rfl (hb hby d14_0) rfl rfl ?_
    exact k)
  obtain ⟨T2, X2, e2, st2⟩ := getF X0 hx hZ hown (host := "") (Or.inl (hw _ (List.mem_of_getElem? (i := 26) rfl))) Via.refl e0 F1 (g := (mkF m 1 #[rv a1, iv (0 : Int32)] [(.ref a1)])) rfl rfl (hb hby d14_1)
  have P3 : Rch p e below (s₁.setTop (entryFrame m #[(.ref a1), (.int (0 : Int32))] 2)) (T2.setTop (mkF m 4 #[rv a1, iv (0 : Int32)] [(.ref aE)])) := fun t k => P1 t (st2 t k)
  have P4 : Rch p e below (s₁.setTop (entryFrame m #[(.ref a1), (.int (0 : Int32))] 2)) (T2.setTop (mkF m 5 #[rv a1, iv (0 : Int32)] [(.int (0 : Int32)), (.ref aE)])) := fun t k => P3 t (by
    show Steps p.tables e below (T2.setTop (mkF m 4 #[rv a1, iv (0 : Int32)] [(.ref aE)])) t
    refine XS.iloadN X2.here hx rfl (hb hby d14_4) rfl ?_
    exact k)
  have V_o5 := V1
  obtain ⟨co5, Aro5, qo5, So5, Mo5, Ho5, Go5⟩ := V_o5
  have hin6 : ¬ ((0 : Int32) < 0 ∨ co5.slots.size ≤ ((0 : Int32)).toNatClampNeg) := inb_of So5 ⟨by decide, by decide⟩
  have hat6 : co5.slots[((0 : Int32)).toNatClampNeg]? = some (.int en0) := Has.at Ho5 hin6 rfl
  have P7 : Rch p e below (s₁.setTop (entryFrame m #[(.ref a1), (.int (0 : Int32))] 2)) (T2.setTop (mkF m 6 #[rv a1, iv (0 : Int32)] [(.int en0)])) := fun t k => P4 t (X2.iaload hx (j := (0 : Int32)) (v := (.int en0)) (by rw [e2]; exact Aro5.1) (State.isArrayOf_alike hZ.alike Aro5.2.1) Aro5.2.2 hin6 hat6 (g := (mkF m 5 #[rv a1, iv (0 : Int32)] [(.int (0 : Int32)), (.ref aE)])) rfl rfl (hb hby d14_5) t k)
  have P8 : Rch p e below (s₁.setTop (entryFrame m #[(.ref a1), (.int (0 : Int32))] 2)) (T2.setTop (mkF m 8 #[rv a1, iv (0 : Int32)] [(.ref a1), (.int (1 : Int32)), (.int en0)])) := fun t k => P7 t (by
    show Steps p.tables e below (T2.setTop (mkF m 6 #[rv a1, iv (0 : Int32)] [(.int en0)])) t
    refine XS.iconst X2.here hx rfl (hb hby d14_6) ?_
    refine XS.aloadN X2.here hx rfl (hb hby d14_7) rfl rfl ?_
    exact k)
  obtain ⟨T9, X9, e9, st9⟩ := getF X2 hx hZ hown (host := "") (Or.inl (hw _ (List.mem_of_getElem? (i := 11) rfl))) Via.refl e2 F2 (g := (mkF m 8 #[rv a1, iv (0 : Int32)] [(.ref a1), (.int (1 : Int32)), (.int en0)])) rfl rfl (hb hby d14_8)
  have P10 : Rch p e below (s₁.setTop (entryFrame m #[(.ref a1), (.int (0 : Int32))] 2)) (T9.setTop (mkF m 11 #[rv a1, iv (0 : Int32)] [(.int rb), (.int (1 : Int32)), (.int en0)])) := fun t k => P8 t (st9 t k)
  obtain ⟨x11, hx11⟩ : ∃ z : Int32, z = (en0 &&& (((1 : Int32) <<< (rb &&& 31)) - (1 : Int32))) := ⟨_, rfl⟩
  have P12 : Rch p e below (s₁.setTop (entryFrame m #[(.ref a1), (.int (0 : Int32))] 2)) (T9.setTop (mkF m 15 #[rv a1, iv (0 : Int32)] [(.int x11)])) := fun t k => P10 t (by
    subst hx11
    show Steps p.tables e below (T9.setTop (mkF m 11 #[rv a1, iv (0 : Int32)] [(.int rb), (.int (1 : Int32)), (.int en0)])) t
    refine XS.ishl X9.here hx rfl (hb hby d14_11) rfl ?_
    refine XS.iconst X9.here hx rfl (hb hby d14_12) ?_
    refine XS.isub X9.here hx rfl (hb hby d14_13) rfl ?_
    show Steps p.tables e below (T9.setTop (mkF m 14 #[rv a1, iv (0 : Int32)] [(.int (((1 : Int32) <<< (rb &&& 31)) - (1 : Int32))), (.int en0)])) t
    refine XS.iand X9.here hx rfl (hb hby d14_14) rfl ?_
    exact k)
  obtain ⟨fs, hr, hrun, hended, hW, hsame⟩ := X9.leave (v := some (.int x11)) (fun h => by rw [Bd.returns] at h; cases h)
  refine ⟨_, _, P12 _ ?_, hrun, hended, _, _, rfl, ?_, ⟨_, rfl⟩, hW, hsame.mono (by decide) (by decide)⟩
  · exact retI X9 hx Bd.returns (hb hby d14_15) hr
  · show Q_rmRec0 Z a1 rb aE kE en0 en1 en2 en3 h0 n0 _ T9.heap _
    rw [e9]
    exact ⟨(by subst hx11; rfl), N0, rfl⟩
def Q_rmRec1 (Z : State) (a1 : Addr) (rb : Int32) (aE : Addr) (kE : ClassId) (en0 : Int32) (en1 : Int32) (en2 : Int32) (en3 : Int32) (h0 : Heap) (n0 : Nat) (v : Option Value) (h : Heap) (L : List Loc) : Prop := v = some (.int (own_rec rb en1)) ∧ Fr n0 L ∧ h = h0
set_option maxRecDepth 65536 in
set_option maxHeartbeats 40000000 in
theorem rmRec1 (l : Launch) (Z : State) (a0 : Array Value) (hw : ∀ d ∈ tables_1, d.before a0 Z = true) (ws : List Jvm.Cond) (a1 : Addr) (rb : Int32) (aE : Addr) (kE : ClassId) (en0 : Int32) (en1 : Int32) (en2 : Int32) (en3 : Int32) (h0 : Heap) (n0 : Nat) (Z0 : n0 ≤ h0.size) (F1 : Fld Z h0 a1 "com/example/kinhash/kinhash/BlockTable" "entries" "[I" (.ref aE)) (F2 : Fld Z h0 a1 "com/example/kinhash/kinhash/BlockTable" "recordBits" "I" (.int rb)) (V1 : Arv Z h0 aE kE .int (4 : Int32) [(.int en0), (.int en1), (.int en2), (.int en3)] (.int (0 : Int32))) :
    MetFree l (⟨"com/example/kinhash/kinhash/BlockTable", "record", "(I)I"⟩ : MethodName) (head1 (Jvm.Cond.code (⟨"com/example/kinhash/kinhash/BlockTable", "record", "(I)I"⟩ : MethodName) prog_4_method_7_code 2 (some .int) :: ws) ({ frames := 0, cells := 0, slots := 0, locals := 0 } : Room)) (fun a U => a = #[(.ref a1), (.int (1 : Int32))] ∧ Z.Warmed39 U.vm ∧ U.heap = h0) (fun _ _ _ _ _ => True) (fun _ U o U' => ∃ v L, o = .returned v ∧ Q_rmRec1 Z a1 rb aE kE en0 en1 en2 en3 h0 n0 v U'.heap L ∧ FrameEnd U o U' L ({ frames := 0, cells := 0, slots := 0, locals := 0 } : Room).cells ({ frames := 0, cells := 0, slots := 0, locals := 0 } : Room).slots) := by
  refine MetFree.of_bodySF (plainFor_of_name pn_0) hisR ?_
  intro p e s m args below meth c s₁ Bd hml0 hP hK
  obtain ⟨rfl, hZ, hh⟩ := hP
  have hx := Bd.exec
  have hby := Bd.bytes
  have hml : c.maxLocals = 2 := hml0
  have hown : s.vm.findClass "com/example/kinhash/kinhash/BlockTable" = some m.cls := findClass_of_methodNamed Bd.named
  have hnm := (name_of_methodNamed Bd.named Bd.method).1
  have X0 : Stand p l e ({ frames := 0, cells := 0, slots := 0, locals := 0 } : Room) s m #[(.ref a1), (.int (1 : Int32))] below meth c s₁ [] 0 0 := Stand.of_body Bd
  have e0 : s₁.heap = h0 := by rw [← hh, Bd.state]; rfl
  have N0 := Fr.nil n0
  have P0 : Rch p e below (s₁.setTop (entryFrame m #[(.ref a1), (.int (1 : Int32))] 2)) (s₁.setTop (mkF m 0 #[rv a1, iv (1 : Int32)] [])) := fun t k => castTop (by first | (simp [entryFrame, mkF, argsToLocals, Value.category]; done) | rfl) k
  have P1 : Rch p e below (s₁.setTop (entryFrame m #[(.ref a1), (.int (1 : Int32))] 2)) (s₁.setTop (mkF m 1 #[rv a1, iv (1 : Int32)] [(.ref a1)])) := fun t k => P0 t (by
    show Steps p.tables e below (s₁.setTop (mkF m 0 #[rv a1, iv (1 : Int32)] [])) t
    refine XS.aloadN X0.here hx rfl (hb hby d14_0) rfl rfl ?_
    exact k)
  obtain ⟨T2, X2, e2, st2⟩ := getF X0 hx hZ hown (host := "") (Or.inl (hw _ (List.mem_of_getElem? (i := 26) rfl))) Via.refl e0 F1 (g := (mkF m 1 #[rv a1, iv (1 : Int32)] [(.ref a1)])) rfl rfl (hb hby d14_1)
  have P3 : Rch p e below (s₁.setTop (entryFrame m #[(.ref a1), (.int (1 : Int32))] 2)) (T2.setTop (mkF m 4 #[rv a1, iv (1 : Int32)] [(.ref aE)])) := fun t k => P1 t (st2 t k)
  have P4 : Rch p e below (s₁.setTop (entryFrame m #[(.ref a1), (.int (1 : Int32))] 2)) (T2.setTop (mkF m 5 #[rv a1, iv (1 : Int32)] [(.int (1 : Int32)), (.ref aE)])) := fun t k => P3 t (by
    show Steps p.tables e below (T2.setTop (mkF m 4 #[rv a1, iv (1 : Int32)] [(.ref aE)])) t
    refine XS.iloadN X2.here hx rfl (hb hby d14_4) rfl ?_
    exact k)
  have V_o5 := V1
  obtain ⟨co5, Aro5, qo5, So5, Mo5, Ho5, Go5⟩ := V_o5
  have hin6 : ¬ ((1 : Int32) < 0 ∨ co5.slots.size ≤ ((1 : Int32)).toNatClampNeg) := inb_of So5 ⟨by decide, by decide⟩
  have hat6 : co5.slots[((1 : Int32)).toNatClampNeg]? = some (.int en1) := Has.at Ho5 hin6 rfl
  have P7 : Rch p e below (s₁.setTop (entryFrame m #[(.ref a1), (.int (1 : Int32))] 2)) (T2.setTop (mkF m 6 #[rv a1, iv (1 : Int32)] [(.int en1)])) := fun t k => P4 t (X2.iaload hx (j := (1 : Int32)) (v := (.int en1)) (by rw [e2]; exact Aro5.1) (State.isArrayOf_alike hZ.alike Aro5.2.1) Aro5.2.2 hin6 hat6 (g := (mkF m 5 #[rv a1, iv (1 : Int32)] [(.int (1 : Int32)), (.ref aE)])) rfl rfl (hb hby d14_5) t k)
  have P8 : Rch p e below (s₁.setTop (entryFrame m #[(.ref a1), (.int (1 : Int32))] 2)) (T2.setTop (mkF m 8 #[rv a1, iv (1 : Int32)] [(.ref a1), (.int (1 : Int32)), (.int en1)])) := fun t k => P7 t (by
    show Steps p.tables e below (T2.setTop (mkF m 6 #[rv a1, iv (1 : Int32)] [(.int en1)])) t
    refine XS.iconst X2.here hx rfl (hb hby d14_6) ?_
    refine XS.aloadN X2.here hx rfl (hb hby d14_7) rfl rfl ?_
    exact k)
  obtain ⟨T9, X9, e9, st9⟩ := getF X2 hx hZ hown (host := "") (Or.inl (hw _ (List.mem_of_getElem? (i := 11) rfl))) Via.refl e2 F2 (g := (mkF m 8 #[rv a1, iv (1 : Int32)] [(.ref a1), (.int (1 : Int32)), (.int en1)])) rfl rfl (hb hby d14_8)
  have P10 : Rch p e below (s₁.setTop (entryFrame m #[(.ref a1), (.int (1 : Int32))] 2)) (T9.setTop (mkF m 11 #[rv a1, iv (1 : Int32)] [(.int rb), (.int (1 : Int32)), (.int en1)])) := fun t k => P8 t (st9 t k)
  obtain ⟨x11, hx11⟩ : ∃ z : Int32, z = (en1 &&& (((1 : Int32) <<< (rb &&& 31)) - (1 : Int32))) := ⟨_, rfl⟩
  have P12 : Rch p e below (s₁.setTop (entryFrame m #[(.ref a1), (.int (1 : Int32))] 2)) (T9.setTop (mkF m 15 #[rv a1, iv (1 : Int32)] [(.int x11)])) := fun t k => P10 t (by
    subst hx11
    show Steps p.tables e below (T9.setTop (mkF m 11 #[rv a1, iv (1 : Int32)] [(.int rb), (.int (1 : Int32)), (.int en1)])) t
    refine XS.ishl X9.here hx rfl (hb hby d14_11) rfl ?_
    refine XS.iconst X9.here hx rfl (hb hby d14_12) ?_
    refine XS.isub X9.here hx rfl (hb hby d14_13) rfl ?_
    show Steps p.tables e below (T9.setTop (mkF m 14 #[rv a1, iv (1 : Int32)] [(.int (((1 : Int32) <<< (rb &&& 31)) - (1 : Int32))), (.int en1)])) t
    refine XS.iand X9.here hx rfl (hb hby d14_14) rfl ?_
    exact k)
  obtain ⟨fs, hr, hrun, hended, hW, hsame⟩ := X9.leave (v := some (.int x11)) (fun h => by rw [Bd.returns] at h; cases h)
  refine ⟨_, _, P12 _ ?_, hrun, hended, _, _, rfl, ?_, ⟨_, rfl⟩, hW, hsame.mono (by decide) (by decide)⟩
  · exact retI X9 hx Bd.returns (hb hby d14_15) hr
  · show Q_rmRec1 Z a1 rb aE kE en0 en1 en2 en3 h0 n0 _ T9.heap _
    rw [e9]
    exact ⟨(by subst hx11; rfl), N0, rfl⟩
def Q_rmRec2 (Z : State) (a1 : Addr) (rb : Int32) (aE : Addr) (kE : ClassId) (en0 : Int32) (en1 : Int32) (en2 : Int32) (en3 : Int32) (h0 : Heap) (n0 : Nat) (v : Option Value) (h : Heap) (L : List Loc) : Prop := v = some (.int (own_rec rb en2)) ∧ Fr n0 L ∧ h = h0
set_option maxRecDepth 65536 in
set_option maxHeartbeats 40000000 in
theorem rmRec2 (l : Launch) (Z : State) (a0 : Array Value) (hw : ∀ d ∈ tables_1, d.before a0 Z = true) (ws : List Jvm.Cond) (a1 : Addr) (rb : Int32) (aE : Addr) (kE : ClassId) (en0 : Int32) (en1 : Int32) (en2 : Int32) (en3 : Int32) (h0 : Heap) (n0 : Nat) (Z0 : n0 ≤ h0.size) (F1 : Fld Z h0 a1 "com/example/kinhash/kinhash/BlockTable" "entries" "[I" (.ref aE)) (F2 : Fld Z h0 a1 "com/example/kinhash/kinhash/BlockTable" "recordBits" "I" (.int rb)) (V1 : Arv Z h0 aE kE .int (4 : Int32) [(.int en0), (.int en1), (.int en2), (.int en3)] (.int (0 : Int32))) :
    MetFree l (⟨"com/example/kinhash/kinhash/BlockTable", "record", "(I)I"⟩ : MethodName) (head1 (Jvm.Cond.code (⟨"com/example/kinhash/kinhash/BlockTable", "record", "(I)I"⟩ : MethodName) prog_4_method_7_code 2 (some .int) :: ws) ({ frames := 0, cells := 0, slots := 0, locals := 0 } : Room)) (fun a U => a = #[(.ref a1), (.int (2 : Int32))] ∧ Z.Warmed39 U.vm ∧ U.heap = h0) (fun _ _ _ _ _ => True) (fun _ U o U' => ∃ v L, o = .returned v ∧ Q_rmRec2 Z a1 rb aE kE en0 en1 en2 en3 h0 n0 v U'.heap L ∧ FrameEnd U o U' L ({ frames := 0, cells := 0, slots := 0, locals := 0 } : Room).cells ({ frames := 0, cells := 0, slots := 0, locals := 0 } : Room).slots) := by
  refine MetFree.of_bodySF (plainFor_of_name pn_0) hisR ?_
  intro p e s m args below meth c s₁ Bd hml0 hP hK
  obtain ⟨rfl, hZ, hh⟩ := hP
  have hx := Bd.exec
  have hby := Bd.bytes
  have hml : c.maxLocals = 2 := hml0
  have hown : s.vm.findClass "com/example/kinhash/kinhash/BlockTable" = some m.cls := findClass_of_methodNamed Bd.named
  have hnm := (name_of_methodNamed Bd.named Bd.method).1
  have X0 : Stand p l e ({ frames := 0, cells := 0, slots := 0, locals := 0 } : Room) s m #[(.ref a1), (.int (2 : Int32))] below meth c s₁ [] 0 0 := Stand.of_body Bd
  have e0 : s₁.heap = h0 := by rw [← hh, Bd.state]; rfl
  have N0 := Fr.nil n0
  have P0 : Rch p e below (s₁.setTop (entryFrame m #[(.ref a1), (.int (2 : Int32))] 2)) (s₁.setTop (mkF m 0 #[rv a1, iv (2 : Int32)] [])) := fun t k => castTop (by first | (simp [entryFrame, mkF, argsToLocals, Value.category]; done) | rfl) k
  have P1 : Rch p e below (s₁.setTop (entryFrame m #[(.ref a1), (.int (2 : Int32))] 2)) (s₁.setTop (mkF m 1 #[rv a1, iv (2 : Int32)] [(.ref a1)])) := fun t k => P0 t (by
    show Steps p.tables e below (s₁.setTop (mkF m 0 #[rv a1, iv (2 : Int32)] [])) t
    refine XS.aloadN X0.here hx rfl (hb hby d14_0) rfl rfl ?_
    exact k)
  obtain ⟨T2, X2, e2, st2⟩ := getF X0 hx hZ hown (host := "") (Or.inl (hw _ (List.mem_of_getElem? (i := 26) rfl))) Via.refl e0 F1 (g := (mkF m 1 #[rv a1, iv (2 : Int32)] [(.ref a1)])) rfl rfl (hb hby d14_1)
  have P3 : Rch p e below (s₁.setTop (entryFrame m #[(.ref a1), (.int (2 : Int32))] 2)) (T2.setTop (mkF m 4 #[rv a1, iv (2 : Int32)] [(.ref aE)])) := fun t k => P1 t (st2 t k)
  have P4 : Rch p e below (s₁.setTop (entryFrame m #[(.ref a1), (.int (2 : Int32))] 2)) (T2.setTop (mkF m 5 #[rv a1, iv (2 : Int32)] [(.int (2 : Int32)), (.ref aE)])) := fun t k => P3 t (by
    show Steps p.tables e below (T2.setTop (mkF m 4 #[rv a1, iv (2 : Int32)] [(.ref aE)])) t
    refine XS.iloadN X2.here hx rfl (hb hby d14_4) rfl ?_
    exact k)
  have V_o5 := V1
  obtain ⟨co5, Aro5, qo5, So5, Mo5, Ho5, Go5⟩ := V_o5
  have hin6 : ¬ ((2 : Int32) < 0 ∨ co5.slots.size ≤ ((2 : Int32)).toNatClampNeg) := inb_of So5 ⟨by decide, by decide⟩
  have hat6 : co5.slots[((2 : Int32)).toNatClampNeg]? = some (.int en2) := Has.at Ho5 hin6 rfl
  have P7 : Rch p e below (s₁.setTop (entryFrame m #[(.ref a1), (.int (2 : Int32))] 2)) (T2.setTop (mkF m 6 #[rv a1, iv (2 : Int32)] [(.int en2)])) := fun t k => P4 t (X2.iaload hx (j := (2 : Int32)) (v := (.int en2)) (by rw [e2]; exact Aro5.1) (State.isArrayOf_alike hZ.alike Aro5.2.1) Aro5.2.2 hin6 hat6 (g := (mkF m 5 #[rv a1, iv (2 : Int32)] [(.int (2 : Int32)), (.ref aE)])) rfl rfl (hb hby d14_5) t k)
  have P8 : Rch p e below (s₁.setTop (entryFrame m #[(.ref a1), (.int (2 : Int32))] 2)) (T2.setTop (mkF m 8 #[rv a1, iv (2 : Int32)] [(.ref a1), (.int (1 : Int32)), (.int en2)])) := fun t k => P7 t (by
    show Steps p.tables e below (T2.setTop (mkF m 6 #[rv a1, iv (2 : Int32)] [(.int en2)])) t
    refine XS.iconst X2.here hx rfl (hb hby d14_6) ?_
    refine XS.aloadN X2.here hx rfl (hb hby d14_7) rfl rfl ?_
    exact k)
  obtain ⟨T9, X9, e9, st9⟩ := getF X2 hx hZ hown (host := "") (Or.inl (hw _ (List.mem_of_getElem? (i := 11) rfl))) Via.refl e2 F2 (g := (mkF m 8 #[rv a1, iv (2 : Int32)] [(.ref a1), (.int (1 : Int32)), (.int en2)])) rfl rfl (hb hby d14_8)
  have P10 : Rch p e below (s₁.setTop (entryFrame m #[(.ref a1), (.int (2 : Int32))] 2)) (T9.setTop (mkF m 11 #[rv a1, iv (2 : Int32)] [(.int rb), (.int (1 : Int32)), (.int en2)])) := fun t k => P8 t (st9 t k)
  obtain ⟨x11, hx11⟩ : ∃ z : Int32, z = (en2 &&& (((1 : Int32) <<< (rb &&& 31)) - (1 : Int32))) := ⟨_, rfl⟩
  have P12 : Rch p e below (s₁.setTop (entryFrame m #[(.ref a1), (.int (2 : Int32))] 2)) (T9.setTop (mkF m 15 #[rv a1, iv (2 : Int32)] [(.int x11)])) := fun t k => P10 t (by
    subst hx11
    show Steps p.tables e below (T9.setTop (mkF m 11 #[rv a1, iv (2 : Int32)] [(.int rb), (.int (1 : Int32)), (.int en2)])) t
    refine XS.ishl X9.here hx rfl (hb hby d14_11) rfl ?_
    refine XS.iconst X9.here hx rfl (hb hby d14_12) ?_
    refine XS.isub X9.here hx rfl (hb hby d14_13) rfl ?_
    show Steps p.tables e below (T9.setTop (mkF m 14 #[rv a1, iv (2 : Int32)] [(.int (((1 : Int32) <<< (rb &&& 31)) - (1 : Int32))), (.int en2)])) t
    refine XS.iand X9.here hx rfl (hb hby d14_14) rfl ?_
    exact k)
  obtain ⟨fs, hr, hrun, hended, hW, hsame⟩ := X9.leave (v := some (.int x11)) (fun h => by rw [Bd.returns] at h; cases h)
  refine ⟨_, _, P12 _ ?_, hrun, hended, _, _, rfl, ?_, ⟨_, rfl⟩, hW, hsame.mono (by decide) (by decide)⟩
  · exact retI X9 hx Bd.returns (hb hby d14_15) hr
  · show Q_rmRec2 Z a1 rb aE kE en0 en1 en2 en3 h0 n0 _ T9.heap _
    rw [e9]
    exact ⟨(by subst hx11; rfl), N0, rfl⟩
def Q_rmPut0 (Z : State) (a1 : Addr) (p3 : Int32) (p4 : Int32) (aE : Addr) (aT : Addr) (rb : Int32) (kE : ClassId) (kT : ClassId) (en0 : Int32) (en1 : Int32) (en2 : Int32) (en3 : Int32) (tg0 : Int32) (tg1 : Int32) (tg2 : Int32) (tg3 : Int32) (h0 : Heap) (n0 : Nat) (v : Option Value) (h : Heap) (L : List Loc) : Prop := v = none ∧ Fr n0 L ∧ Keep h0 h [aE, aT] ∧ (Arv Z h aE kE .int (4 : Int32) [(.int (own_ent rb p3 p4)), (.int en1), (.int en2), (.int en3)] (.int (0 : Int32))) ∧ (Arv Z h aT kT .byte (4 : Int32) [(.int (nar .byte (p4.toInt8.toInt32))), (.int tg1), (.int tg2), (.int tg3)] (.int (0 : Int32)))
set_option maxRecDepth 65536 in
set_option maxHeartbeats 40000000 in
theorem rmPut0 (l : Launch) (Z : State) (a0 : Array Value) (hw : ∀ d ∈ tables_1, d.before a0 Z = true) (ws : List Jvm.Cond) (a1 : Addr) (p3 : Int32) (p4 : Int32) (aE : Addr) (aT : Addr) (rb : Int32) (kE : ClassId) (kT : ClassId) (en0 : Int32) (en1 : Int32) (en2 : Int32) (en3 : Int32) (tg0 : Int32) (tg1 : Int32) (tg2 : Int32) (tg3 : Int32) (h0 : Heap) (n0 : Nat) (Z0 : n0 ≤ h0.size) (F2 : Fld Z h0 a1 "com/example/kinhash/kinhash/BlockTable" "recordBits" "I" (.int rb)) (V1 : Arv Z h0 aE kE .int (4 : Int32) [(.int en0), (.int en1), (.int en2), (.int en3)] (.int (0 : Int32))) (V2 : Arv Z h0 aT kT .byte (4 : Int32) [(.int tg0), (.int tg1), (.int tg2), (.int tg3)] (.int (0 : Int32))) (g2 : n0 ≤ aE) (g3 : n0 ≤ aT) (n1 : a1 ≠ aE) (n2 : a1 ≠ aT) (n3 : aE ≠ aT) :
    MetFree l (⟨"com/example/kinhash/kinhash/BlockTable", "put", "(III[I[B)V"⟩ : MethodName) (head1 (Jvm.Cond.code (⟨"com/example/kinhash/kinhash/BlockTable", "put", "(III[I[B)V"⟩ : MethodName) prog_4_method_15_code 6 none :: ws) ({ frames := 0, cells := 0, slots := 0, locals := 0 } : Room)) (fun a U => a = #[(.ref a1), (.int (0 : Int32)), (.int p3), (.int p4), (.ref aE), (.ref aT)] ∧ Z.Warmed39 U.vm ∧ U.heap = h0) (fun _ _ _ _ _ => True) (fun _ U o U' => ∃ v L, o = .returned v ∧ Q_rmPut0 Z a1 p3 p4 aE aT rb kE kT en0 en1 en2 en3 tg0 tg1 tg2 tg3 h0 n0 v U'.heap L ∧ FrameEnd U o U' L ({ frames := 0, cells := 0, slots := 0, locals := 0 } : Room).cells ({ frames := 0, cells := 0, slots := 0, locals := 0 } : Room).slots) := by
  refine MetFree.of_bodySF (plainFor_of_name pn_0) hisR ?_
  intro p e s m args below meth c s₁ Bd hml0 hP hK
  obtain ⟨rfl, hZ, hh⟩ := hP
  have hx := Bd.exec
  have hby := Bd.bytes
  have hml : c.maxLocals = 6 := hml0
  have hown : s.vm.findClass "com/example/kinhash/kinhash/BlockTable" = some m.cls := findClass_of_methodNamed Bd.named
  have hnm := (name_of_methodNamed Bd.named Bd.method).1
  have X0 : Stand p l e ({ frames := 0, cells := 0, slots := 0, locals := 0 } : Room) s m #[(.ref a1), (.int (0 : Int32)), (.int p3), (.int p4), (.ref aE), (.ref aT)] below meth c s₁ [] 0 0 := Stand.of_body Bd
  have e0 : s₁.heap = h0 := by rw [← hh, Bd.state]; rfl
  have N0 := Fr.nil n0
  have P0 : Rch p e below (s₁.setTop (entryFrame m #[(.ref a1), (.int (0 : Int32)), (.int p3), (.int p4), (.ref aE), (.ref aT)] 6)) (s₁.setTop (mkF m 0 #[rv a1, iv (0 : Int32), iv p3, iv p4, rv aE, rv aT] [])) := fun t k => castTop (by first | (simp [entryFrame, mkF, argsToLocals, Value.category]; done) | rfl) k
  obtain ⟨x1, hx1⟩ : ∃ z : Int32, z = ((p4.toUInt32 >>> ((8 : Int32) &&& 31).toUInt32).toInt32) := ⟨_, rfl⟩
  have P2 : Rch p e below (s₁.setTop (entryFrame m #[(.ref a1), (.int (0 : Int32)), (.int p3), (.int p4), (.ref aE), (.ref aT)] 6)) (s₁.setTop (mkF m 8 #[rv a1, iv (0 : Int32), iv p3, iv p4, rv aE, rv aT] [(.ref a1), (.int x1), (.int (0 : Int32)), (.ref aE)])) := fun t k => P0 t (by
    subst hx1
    show Steps p.tables e below (s₁.setTop (mkF m 0 #[rv a1, iv (0 : Int32), iv p3, iv p4, rv aE, rv aT] [])) t
    refine XS.aload X0.here hx rfl (hb hby d12_0) rfl rfl ?_
    refine XS.iloadN X0.here hx rfl (hb hby d12_2) rfl ?_
    refine XS.iloadN X0.here hx rfl (hb hby d12_3) rfl ?_
    show Steps p.tables e below (s₁.setTop (mkF m 4 #[rv a1, iv (0 : Int32), iv p3, iv p4, rv aE, rv aT] [(.int p4), (.int (0 : Int32)), (.ref aE)])) t
    refine XS.bipush X0.here hx rfl (hb hby d12_4) ?_
    refine XS.iushr X0.here hx rfl (hb hby d12_6) rfl ?_
    refine XS.aloadN X0.here hx rfl (hb hby d12_7) rfl rfl ?_
    exact k)
  obtain ⟨T3, X3, e3, st3⟩ := getF X0 hx hZ hown (host := "") (Or.inl (hw _ (List.mem_of_getElem? (i := 11) rfl))) Via.refl e0 F2 (g := (mkF m 8 #[rv a1, iv (0 : Int32), iv p3, iv p4, rv aE, rv aT] [(.ref a1), (.int x1), (.int (0 : Int32)), (.ref aE)])) rfl rfl (hb hby d12_8)
  have P4 : Rch p e below (s₁.setTop (entryFrame m #[(.ref a1), (.int (0 : Int32)), (.int p3), (.int p4), (.ref aE), (.ref aT)] 6)) (T3.setTop (mkF m 11 #[rv a1, iv (0 : Int32), iv p3, iv p4, rv aE, rv aT] [(.int rb), (.int x1), (.int (0 : Int32)), (.ref aE)])) := fun t k => P2 t (st3 t k)
  obtain ⟨x5, hx5⟩ : ∃ z : Int32, z = ((x1 <<< (rb &&& 31)) ||| p3) := ⟨_, rfl⟩
  have P6 : Rch p e below (s₁.setTop (entryFrame m #[(.ref a1), (.int (0 : Int32)), (.int p3), (.int p4), (.ref aE), (.ref aT)] 6)) (T3.setTop (mkF m 14 #[rv a1, iv (0 : Int32), iv p3, iv p4, rv aE, rv aT] [(.int x5), (.int (0 : Int32)), (.ref aE)])) := fun t k => P4 t (by
    subst hx5
    show Steps p.tables e below (T3.setTop (mkF m 11 #[rv a1, iv (0 : Int32), iv p3, iv p4, rv aE, rv aT] [(.int rb), (.int x1), (.int (0 : Int32)), (.ref aE)])) t
    refine XS.ishl X3.here hx rfl (hb hby d12_11) rfl ?_
    refine XS.iloadN X3.here hx rfl (hb hby d12_12) rfl ?_
    refine XS.ior X3.here hx rfl (hb hby d12_13) rfl ?_
    exact k)
  have V_o7 := V1
  obtain ⟨co7, Aro7, qo7, So7, Mo7, Ho7, Go7⟩ := V_o7
  have hin8 : ¬ ((0 : Int32) < 0 ∨ co7.slots.size ≤ ((0 : Int32)).toNatClampNeg) := inb_of So7 ⟨by decide, by decide⟩
  obtain ⟨T8, h8, X8, e8, W8, st8⟩ := stI X3 hx hZ e3 Aro7 (j := (0 : Int32)) hin8 (g := (mkF m 14 #[rv a1, iv (0 : Int32), iv p3, iv p4, rv aE, rv aT] [(.int x5), (.int (0 : Int32)), (.ref aE)])) rfl rfl (hb hby d12_14)
  have V8 : Arv Z h8 aE kE .int (4 : Int32) [(.int x5), (.int en1), (.int en2), (.int en3)] (.int (0 : Int32)) := Arv.set Aro7 qo7 So7 Mo7 Ho7 Go7 rfl W8 0 rfl (Nat.le_of_ble_eq_true rfl)
  have P9 : Rch p e below (s₁.setTop (entryFrame m #[(.ref a1), (.int (0 : Int32)), (.int p3), (.int p4), (.ref aE), (.ref aT)] 6)) (T8.setTop (mkF m 15 #[rv a1, iv (0 : Int32), iv p3, iv p4, rv aE, rv aT] [])) := fun t k => P6 t (st8 t k)
  have N8 := Fr.snoc X8 N0 g2
  obtain ⟨x10, hx10⟩ : ∃ z : Int32, z = (p4.toInt8.toInt32) := ⟨_, rfl⟩
  have P11 : Rch p e below (s₁.setTop (entryFrame m #[(.ref a1), (.int (0 : Int32)), (.int p3), (.int p4), (.ref aE), (.ref aT)] 6)) (T8.setTop (mkF m 20 #[rv a1, iv (0 : Int32), iv p3, iv p4, rv aE, rv aT] [(.int x10), (.int (0 : Int32)), (.ref aT)])) := fun t k => P9 t (by
    subst hx10
    show Steps p.tables e below (T8.setTop (mkF m 15 #[rv a1, iv (0 : Int32), iv p3, iv p4, rv aE, rv aT] [])) t
    refine XS.aload X8.here hx rfl (hb hby d12_15) rfl rfl ?_
    refine XS.iloadN X8.here hx rfl (hb hby d12_17) rfl ?_
    refine XS.iloadN X8.here hx rfl (hb hby d12_18) rfl ?_
    show Steps p.tables e below (T8.setTop (mkF m 19 #[rv a1, iv (0 : Int32), iv p3, iv p4, rv aE, rv aT] [(.int p4), (.int (0 : Int32)), (.ref aT)])) t
    refine XS.i2b X8.here hx rfl (hb hby d12_19) rfl ?_
    exact k)
  have V_o12 := (V2.other W8 (Ne.symm n3))
  obtain ⟨co12, Aro12, qo12, So12, Mo12, Ho12, Go12⟩ := V_o12
  have hin13 : ¬ ((0 : Int32) < 0 ∨ co12.slots.size ≤ ((0 : Int32)).toNatClampNeg) := inb_of So12 ⟨by decide, by decide⟩
  obtain ⟨T13, h13, X13, e13, W13, st13⟩ := stB X8 hx hZ e8 Aro12 (j := (0 : Int32)) hin13 (g := (mkF m 20 #[rv a1, iv (0 : Int32), iv p3, iv p4, rv aE, rv aT] [(.int x10), (.int (0 : Int32)), (.ref aT)])) rfl rfl (hb hby d12_20)
  have V13 : Arv Z h13 aT kT .byte (4 : Int32) [(.int (nar .byte x10)), (.int tg1), (.int tg2), (.int tg3)] (.int (0 : Int32)) := Arv.set Aro12 qo12 So12 Mo12 Ho12 Go12 (fits_nar_byte _) W13 0 rfl (Nat.le_of_ble_eq_true rfl)
  have P14 : Rch p e below (s₁.setTop (entryFrame m #[(.ref a1), (.int (0 : Int32)), (.int p3), (.int p4), (.ref aE), (.ref aT)] 6)) (T13.setTop (mkF m 21 #[rv a1, iv (0 : Int32), iv p3, iv p4, rv aE, rv aT] [])) := fun t k => P11 t (st13 t k)
  have N13 := Fr.snoc X13 N8 g3
  obtain ⟨fs, hr, hrun, hended, hW, hsame⟩ := X13.leave (v := none) (fun _ => rfl)
  refine ⟨_, _, P14 _ ?_, hrun, hended, _, _, rfl, ?_, ⟨_, rfl⟩, hW, hsame.mono (by decide) (by decide)⟩
  · exact X13.returnOut hx Bd.returns (hb hby d12_21) hr
  · show Q_rmPut0 Z a1 p3 p4 aE aT rb kE kT en0 en1 en2 en3 tg0 tg1 tg2 tg3 h0 n0 _ T13.heap _
    rw [e13]
    have f15 : Keep h0 h13 [aE, aT] := (((Keep.refl h0 [aE, aT]).wr W8 (Or.inl (List.mem_of_getElem? (i := 0) rfl))).wr W13 (Or.inl (List.mem_of_getElem? (i := 1) rfl)))
    exact ⟨rfl, N13, f15, (by subst hx10 hx5 hx1; exact (V8.other W13 n3)), (by subst hx10 hx5 hx1; exact V13)⟩
def Q_rmPut1 (Z : State) (a1 : Addr) (p3 : Int32) (p4 : Int32) (aE : Addr) (aT : Addr) (rb : Int32) (kE : ClassId) (kT : ClassId) (en0 : Int32) (en1 : Int32) (en2 : Int32) (en3 : Int32) (tg0 : Int32) (tg1 : Int32) (tg2 : Int32) (tg3 : Int32) (h0 : Heap) (n0 : Nat) (v : Option Value) (h : Heap) (L : List Loc) : Prop := v = none ∧ Fr n0 L ∧ Keep h0 h [aE, aT] ∧ (Arv Z h aE kE .int (4 : Int32) [(.int en0), (.int (own_ent rb p3 p4)), (.int en2), (.int en3)] (.int (0 : Int32))) ∧ (Arv Z h aT kT .byte (4 : Int32) [(.int tg0), (.int (nar .byte (p4.toInt8.toInt32))), (.int tg2), (.int tg3)] (.int (0 : Int32)))
set_option maxRecDepth 65536 in
set_option maxHeartbeats 40000000 in
theorem rmPut1 (l : Launch) (Z : State) (a0 : Array Value) (hw : ∀ d ∈ tables_1, d.before a0 Z = true) (ws : List Jvm.Cond) (a1 : Addr) (p3 : Int32) (p4 : Int32) (aE : Addr) (aT : Addr) (rb : Int32) (kE : ClassId) (kT : ClassId) (en0 : Int32) (en1 : Int32) (en2 : Int32) (en3 : Int32) (tg0 : Int32) (tg1 : Int32) (tg2 : Int32) (tg3 : Int32) (h0 : Heap) (n0 : Nat) (Z0 : n0 ≤ h0.size) (F2 : Fld Z h0 a1 "com/example/kinhash/kinhash/BlockTable" "recordBits" "I" (.int rb)) (V1 : Arv Z h0 aE kE .int (4 : Int32) [(.int en0), (.int en1), (.int en2), (.int en3)] (.int (0 : Int32))) (V2 : Arv Z h0 aT kT .byte (4 : Int32) [(.int tg0), (.int tg1), (.int tg2), (.int tg3)] (.int (0 : Int32))) (g2 : n0 ≤ aE) (g3 : n0 ≤ aT) (n1 : a1 ≠ aE) (n2 : a1 ≠ aT) (n3 : aE ≠ aT) :
    MetFree l (⟨"com/example/kinhash/kinhash/BlockTable", "put", "(III[I[B)V"⟩ : MethodName) (head1 (Jvm.Cond.code (⟨"com/example/kinhash/kinhash/BlockTable", "put", "(III[I[B)V"⟩ : MethodName) prog_4_method_15_code 6 none :: ws) ({ frames := 0, cells := 0, slots := 0, locals := 0 } : Room)) (fun a U => a = #[(.ref a1), (.int (1 : Int32)), (.int p3), (.int p4), (.ref aE), (.ref aT)] ∧ Z.Warmed39 U.vm ∧ U.heap = h0) (fun _ _ _ _ _ => True) (fun _ U o U' => ∃ v L, o = .returned v ∧ Q_rmPut1 Z a1 p3 p4 aE aT rb kE kT en0 en1 en2 en3 tg0 tg1 tg2 tg3 h0 n0 v U'.heap L ∧ FrameEnd U o U' L ({ frames := 0, cells := 0, slots := 0, locals := 0 } : Room).cells ({ frames := 0, cells := 0, slots := 0, locals := 0 } : Room).slots) := by
  refine MetFree.of_bodySF (plainFor_of_name pn_0) hisR ?_
  intro p e s m args below meth c s₁ Bd hml0 hP hK
  obtain ⟨rfl, hZ, hh⟩ := hP
  have hx := Bd.exec
  have hby := Bd.bytes
  have hml : c.maxLocals = 6 := hml0
  have hown : s.vm.findClass "com/example/kinhash/kinhash/BlockTable" = some m.cls := findClass_of_methodNamed Bd.named
  have hnm := (name_of_methodNamed Bd.named Bd.method).1
  have X0 : Stand p l e ({ frames := 0, cells := 0, slots := 0, locals := 0 } : Room) s m #[(.ref a1), (.int (1 : Int32)), (.int p3), (.int p4), (.ref aE), (.ref aT)] below meth c s₁ [] 0 0 := Stand.of_body Bd
  have e0 : s₁.heap = h0 := by rw [← hh, Bd.state]; rfl
  have N0 := Fr.nil n0
  have P0 : Rch p e below (s₁.setTop (entryFrame m #[(.ref a1), (.int (1 : Int32)), (.int p3), (.int p4), (.ref aE), (.ref aT)] 6)) (s₁.setTop (mkF m 0 #[rv a1, iv (1 : Int32), iv p3, iv p4, rv aE, rv aT] [])) := fun t k => castTop (by first | (simp [entryFrame, mkF, argsToLocals, Value.category]; done) | rfl) k
  obtain ⟨x1, hx1⟩ : ∃ z : Int32, z = ((p4.toUInt32 >>> ((8 : Int32) &&& 31).toUInt32).toInt32) := ⟨_, rfl⟩
  have P2 : Rch p e below (s₁.setTop (entryFrame m #[(.ref a1), (.int (1 : Int32)), (.int p3), (.int p4), (.ref aE), (.ref aT)] 6)) (s₁.setTop (mkF m 8 #[rv a1, iv (1 : Int32), iv p3, iv p4, rv aE, rv aT] [(.ref a1), (.int x1), (.int (1 : Int32)), (.ref aE)])) := fun t k => P0 t (by
    subst hx1
    show Steps p.tables e below (s₁.setTop (mkF m 0 #[rv a1, iv (1 : Int32), iv p3, iv p4, rv aE, rv aT] [])) t
    refine XS.aload X0.here hx rfl (hb hby d12_0) rfl rfl ?_
    refine XS.iloadN X0.here hx rfl (hb hby d12_2) rfl ?_
    refine XS.iloadN X0.here hx rfl (hb hby d12_3) rfl ?_
    show Steps p.tables e below (s₁.setTop (mkF m 4 #[rv a1, iv (1 : Int32), iv p3, iv p4, rv aE, rv aT] [(.int p4), (.int (1 : Int32)), (.ref aE)])) t
    refine XS.bipush X0.here hx rfl (hb hby d12_4) ?_
    refine XS.iushr X0.here hx rfl (hb hby d12_6) rfl ?_
    refine XS.aloadN X0.here hx rfl (hb hby d12_7) rfl rfl ?_
    exact k)
  obtain ⟨T3, X3, e3, st3⟩ := getF X0 hx hZ hown (host := "") (Or.inl (hw _ (List.mem_of_getElem? (i := 11) rfl))) Via.refl e0 F2 (g := (mkF m 8 #[rv a1, iv (1 : Int32), iv p3, iv p4, rv aE, rv aT] [(.ref a1), (.int x1), (.int (1 : Int32)), (.ref aE)])) rfl rfl (hb hby d12_8)
  have P4 : Rch p e below (s₁.setTop (entryFrame m #[(.ref a1), (.int (1 : Int32)), (.int p3), (.int p4), (.ref aE), (.ref aT)] 6)) (T3.setTop (mkF m 11 #[rv a1, iv (1 : Int32), iv p3, iv p4, rv aE, rv aT] [(.int rb), (.int x1), (.int (1 : Int32)), (.ref aE)])) := fun t k => P2 t (st3 t k)
  obtain ⟨x5, hx5⟩ : ∃ z : Int32, z = ((x1 <<< (rb &&& 31)) ||| p3) := ⟨_, rfl⟩
  have P6 : Rch p e below (s₁.setTop (entryFrame m #[(.ref a1), (.int (1 : Int32)), (.int p3), (.int p4), (.ref aE), (.ref aT)] 6)) (T3.setTop (mkF m 14 #[rv a1, iv (1 : Int32), iv p3, iv p4, rv aE, rv aT] [(.int x5), (.int (1 : Int32)), (.ref aE)])) := fun t k => P4 t (by
    subst hx5
    show Steps p.tables e below (T3.setTop (mkF m 11 #[rv a1, iv (1 : Int32), iv p3, iv p4, rv aE, rv aT] [(.int rb), (.int x1), (.int (1 : Int32)), (.ref aE)])) t
    refine XS.ishl X3.here hx rfl (hb hby d12_11) rfl ?_
    refine XS.iloadN X3.here hx rfl (hb hby d12_12) rfl ?_
    refine XS.ior X3.here hx rfl (hb hby d12_13) rfl ?_
    exact k)
  have V_o7 := V1
  obtain ⟨co7, Aro7, qo7, So7, Mo7, Ho7, Go7⟩ := V_o7
  have hin8 : ¬ ((1 : Int32) < 0 ∨ co7.slots.size ≤ ((1 : Int32)).toNatClampNeg) := inb_of So7 ⟨by decide, by decide⟩
  obtain ⟨T8, h8, X8, e8, W8, st8⟩ := stI X3 hx hZ e3 Aro7 (j := (1 : Int32)) hin8 (g := (mkF m 14 #[rv a1, iv (1 : Int32), iv p3, iv p4, rv aE, rv aT] [(.int x5), (.int (1 : Int32)), (.ref aE)])) rfl rfl (hb hby d12_14)
  have V8 : Arv Z h8 aE kE .int (4 : Int32) [(.int en0), (.int x5), (.int en2), (.int en3)] (.int (0 : Int32)) := Arv.set Aro7 qo7 So7 Mo7 Ho7 Go7 rfl W8 1 rfl (Nat.le_of_ble_eq_true rfl)
  have P9 : Rch p e below (s₁.setTop (entryFrame m #[(.ref a1), (.int (1 : Int32)), (.int p3), (.int p4), (.ref aE), (.ref aT)] 6)) (T8.setTop (mkF m 15 #[rv a1, iv (1 : Int32), iv p3, iv p4, rv aE, rv aT] [])) := fun t k => P6 t (st8 t k)
  have N8 := Fr.snoc X8 N0 g2
  obtain ⟨x10, hx10⟩ : ∃ z : Int32, z = (p4.toInt8.toInt32) := ⟨_, rfl⟩
  have P11 : Rch p e below (s₁.setTop (entryFrame m #[(.ref a1), (.int (1 : Int32)), (.int p3), (.int p4), (.ref aE), (.ref aT)] 6)) (T8.setTop (mkF m 20 #[rv a1, iv (1 : Int32), iv p3, iv p4, rv aE, rv aT] [(.int x10), (.int (1 : Int32)), (.ref aT)])) := fun t k => P9 t (by
    subst hx10
    show Steps p.tables e below (T8.setTop (mkF m 15 #[rv a1, iv (1 : Int32), iv p3, iv p4, rv aE, rv aT] [])) t
    refine XS.aload X8.here hx rfl (hb hby d12_15) rfl rfl ?_
    refine XS.iloadN X8.here hx rfl (hb hby d12_17) rfl ?_
    refine XS.iloadN X8.here hx rfl (hb hby d12_18) rfl ?_
    show Steps p.tables e below (T8.setTop (mkF m 19 #[rv a1, iv (1 : Int32), iv p3, iv p4, rv aE, rv aT] [(.int p4), (.int (1 : Int32)), (.ref aT)])) t
    refine XS.i2b X8.here hx rfl (hb hby d12_19) rfl ?_
    exact k)
  have V_o12 := (V2.other W8 (Ne.symm n3))
  obtain ⟨co12, Aro12, qo12, So12, Mo12, Ho12, Go12⟩ := V_o12
  have hin13 : ¬ ((1 : Int32) < 0 ∨ co12.slots.size ≤ ((1 : Int32)).toNatClampNeg) := inb_of So12 ⟨by decide, by decide⟩
  obtain ⟨T13, h13, X13, e13, W13, st13⟩ := stB X8 hx hZ e8 Aro12 (j := (1 : Int32)) hin13 (g := (mkF m 20 #[rv a1, iv (1 : Int32), iv p3, iv p4, rv aE, rv aT] [(.int x10), (.int (1 : Int32)), (.ref aT)])) rfl rfl (hb hby d12_20)
  have V13 : Arv Z h13 aT kT .byte (4 : Int32) [(.int tg0), (.int (nar .byte x10)), (.int tg2), (.int tg3)] (.int (0 : Int32)) := Arv.set Aro12 qo12 So12 Mo12 Ho12 Go12 (fits_nar_byte _) W13 1 rfl (Nat.le_of_ble_eq_true rfl)
  have P14 : Rch p e below (s₁.setTop (entryFrame m #[(.ref a1), (.int (1 : Int32)), (.int p3), (.int p4), (.ref aE), (.ref aT)] 6)) (T13.setTop (mkF m 21 #[rv a1, iv (1 : Int32), iv p3, iv p4, rv aE, rv aT] [])) := fun t k => P11 t (st13 t k)
  have N13 := Fr.snoc X13 N8 g3
  obtain ⟨fs, hr, hrun, hended, hW, hsame⟩ := X13.leave (v := none) (fun _ => rfl)
  refine ⟨_, _, P14 _ ?_, hrun, hended, _, _, rfl, ?_, ⟨_, rfl⟩, hW, hsame.mono (by decide) (by decide)⟩
  · exact X13.returnOut hx Bd.returns (hb hby d12_21) hr
  · show Q_rmPut1 Z a1 p3 p4 aE aT rb kE kT en0 en1 en2 en3 tg0 tg1 tg2 tg3 h0 n0 _ T13.heap _
    rw [e13]
    have f15 : Keep h0 h13 [aE, aT] := (((Keep.refl h0 [aE, aT]).wr W8 (Or.inl (List.mem_of_getElem? (i := 0) rfl))).wr W13 (Or.inl (List.mem_of_getElem? (i := 1) rfl)))
    exact ⟨rfl, N13, f15, (by subst hx10 hx5 hx1; exact (V8.other W13 n3)), (by subst hx10 hx5 hx1; exact V13)⟩
def Q_rmPut2 (Z : State) (a1 : Addr) (p3 : Int32) (p4 : Int32) (aE : Addr) (aT : Addr) (rb : Int32) (kE : ClassId) (kT : ClassId) (en0 : Int32) (en1 : Int32) (en2 : Int32) (en3 : Int32) (tg0 : Int32) (tg1 : Int32) (tg2 : Int32) (tg3 : Int32) (h0 : Heap) (n0 : Nat) (v : Option Value) (h : Heap) (L : List Loc) : Prop := v = none ∧ Fr n0 L ∧ Keep h0 h [aE, aT] ∧ (Arv Z h aE kE .int (4 : Int32) [(.int en0), (.int en1), (.int (own_ent rb p3 p4)), (.int en3)] (.int (0 : Int32))) ∧ (Arv Z h aT kT .byte (4 : Int32) [(.int tg0), (.int tg1), (.int (nar .byte (p4.toInt8.toInt32))), (.int tg3)] (.int (0 : Int32)))
set_option maxRecDepth 65536 in
set_option maxHeartbeats 40000000 in
theorem rmPut2 (l : Launch) (Z : State) (a0 : Array Value) (hw : ∀ d ∈ tables_1, d.before a0 Z = true) (ws : List Jvm.Cond) (a1 : Addr) (p3 : Int32) (p4 : Int32) (aE : Addr) (aT : Addr) (rb : Int32) (kE : ClassId) (kT : ClassId) (en0 : Int32) (en1 : Int32) (en2 : Int32) (en3 : Int32) (tg0 : Int32) (tg1 : Int32) (tg2 : Int32) (tg3 : Int32) (h0 : Heap) (n0 : Nat) (Z0 : n0 ≤ h0.size) (F2 : Fld Z h0 a1 "com/example/kinhash/kinhash/BlockTable" "recordBits" "I" (.int rb)) (V1 : Arv Z h0 aE kE .int (4 : Int32) [(.int en0), (.int en1), (.int en2), (.int en3)] (.int (0 : Int32))) (V2 : Arv Z h0 aT kT .byte (4 : Int32) [(.int tg0), (.int tg1), (.int tg2), (.int tg3)] (.int (0 : Int32))) (g2 : n0 ≤ aE) (g3 : n0 ≤ aT) (n1 : a1 ≠ aE) (n2 : a1 ≠ aT) (n3 : aE ≠ aT) :
    MetFree l (⟨"com/example/kinhash/kinhash/BlockTable", "put", "(III[I[B)V"⟩ : MethodName) (head1 (Jvm.Cond.code (⟨"com/example/kinhash/kinhash/BlockTable", "put", "(III[I[B)V"⟩ : MethodName) prog_4_method_15_code 6 none :: ws) ({ frames := 0, cells := 0, slots := 0, locals := 0 } : Room)) (fun a U => a = #[(.ref a1), (.int (2 : Int32)), (.int p3), (.int p4), (.ref aE), (.ref aT)] ∧ Z.Warmed39 U.vm ∧ U.heap = h0) (fun _ _ _ _ _ => True) (fun _ U o U' => ∃ v L, o = .returned v ∧ Q_rmPut2 Z a1 p3 p4 aE aT rb kE kT en0 en1 en2 en3 tg0 tg1 tg2 tg3 h0 n0 v U'.heap L ∧ FrameEnd U o U' L ({ frames := 0, cells := 0, slots := 0, locals := 0 } : Room).cells ({ frames := 0, cells := 0, slots := 0, locals := 0 } : Room).slots) := by
  refine MetFree.of_bodySF (plainFor_of_name pn_0) hisR ?_
  intro p e s m args below meth c s₁ Bd hml0 hP hK
  obtain ⟨rfl, hZ, hh⟩ := hP
  have hx := Bd.exec
  have hby := Bd.bytes
  have hml : c.maxLocals = 6 := hml0
  have hown : s.vm.findClass "com/example/kinhash/kinhash/BlockTable" = some m.cls := findClass_of_methodNamed Bd.named
  have hnm := (name_of_methodNamed Bd.named Bd.method).1
  have X0 : Stand p l e ({ frames := 0, cells := 0, slots := 0, locals := 0 } : Room) s m #[(.ref a1), (.int (2 : Int32)), (.int p3), (.int p4), (.ref aE), (.ref aT)] below meth c s₁ [] 0 0 := Stand.of_body Bd
  have e0 : s₁.heap = h0 := by rw [← hh, Bd.state]; rfl
  have N0 := Fr.nil n0
  have P0 : Rch p e below (s₁.setTop (entryFrame m #[(.ref a1), (.int (2 : Int32)), (.int p3), (.int p4), (.ref aE), (.ref aT)] 6)) (s₁.setTop (mkF m 0 #[rv a1, iv (2 : Int32), iv p3, iv p4, rv aE, rv aT] [])) := fun t k => castTop (by first | (simp [entryFrame, mkF, argsToLocals, Value.category]; done) | rfl) k
  obtain ⟨x1, hx1⟩ : ∃ z : Int32, z = ((p4.toUInt32 >>> ((8 : Int32) &&& 31).toUInt32).toInt32) := ⟨_, rfl⟩
  have P2 : Rch p e below (s₁.setTop (entryFrame m #[(.ref a1), (.int (2 : Int32)), (.int p3), (.int p4), (.ref aE), (.ref aT)] 6)) (s₁.setTop (mkF m 8 #[rv a1, iv (2 : Int32), iv p3, iv p4, rv aE, rv aT] [(.ref a1), (.int x1), (.int (2 : Int32)), (.ref aE)])) := fun t k => P0 t (by
    subst hx1
    show Steps p.tables e below (s₁.setTop (mkF m 0 #[rv a1, iv (2 : Int32), iv p3, iv p4, rv aE, rv aT] [])) t
    refine XS.aload X0.here hx rfl (hb hby d12_0) rfl rfl ?_
    refine XS.iloadN X0.here hx rfl (hb hby d12_2) rfl ?_
    refine XS.iloadN X0.here hx rfl (hb hby d12_3) rfl ?_
    show Steps p.tables e below (s₁.setTop (mkF m 4 #[rv a1, iv (2 : Int32), iv p3, iv p4, rv aE, rv aT] [(.int p4), (.int (2 : Int32)), (.ref aE)])) t
    refine XS.bipush X0.here hx rfl (hb hby d12_4) ?_
    refine XS.iushr X0.here hx rfl (hb hby d12_6) rfl ?_
    refine XS.aloadN X0.here hx rfl (hb hby d12_7) rfl rfl ?_
    exact k)
  obtain ⟨T3, X3, e3, st3⟩ := getF X0 hx hZ hown (host := "") (Or.inl (hw _ (List.mem_of_getElem? (i := 11) rfl))) Via.refl e0 F2 (g := (mkF m 8 #[rv a1, iv (2 : Int32), iv p3, iv p4, rv aE, rv aT] [(.ref a1), (.int x1), (.int (2 : Int32)), (.ref aE)])) rfl rfl (hb hby d12_8)
  have P4 : Rch p e below (s₁.setTop (entryFrame m #[(.ref a1), (.int (2 : Int32)), (.int p3), (.int p4), (.ref aE), (.ref aT)] 6)) (T3.setTop (mkF m 11 #[rv a1, iv (2 : Int32), iv p3, iv p4, rv aE, rv aT] [(.int rb), (.int x1), (.int (2 : Int32)), (.ref aE)])) := fun t k => P2 t (st3 t k)
  obtain ⟨x5, hx5⟩ : ∃ z : Int32, z = ((x1 <<< (rb &&& 31)) ||| p3) := ⟨_, rfl⟩
  have P6 : Rch p e below (s₁.setTop (entryFrame m #[(.ref a1), (.int (2 : Int32)), (.int p3), (.int p4), (.ref aE), (.ref aT)] 6)) (T3.setTop (mkF m 14 #[rv a1, iv (2 : Int32), iv p3, iv p4, rv aE, rv aT] [(.int x5), (.int (2 : Int32)), (.ref aE)])) := fun t k => P4 t (by
    subst hx5
    show Steps p.tables e below (T3.setTop (mkF m 11 #[rv a1, iv (2 : Int32), iv p3, iv p4, rv aE, rv aT] [(.int rb), (.int x1), (.int (2 : Int32)), (.ref aE)])) t
    refine XS.ishl X3.here hx rfl (hb hby d12_11) rfl ?_
    refine XS.iloadN X3.here hx rfl (hb hby d12_12) rfl ?_
    refine XS.ior X3.here hx rfl (hb hby d12_13) rfl ?_
    exact k)
  have V_o7 := V1
  obtain ⟨co7, Aro7, qo7, So7, Mo7, Ho7, Go7⟩ := V_o7
  have hin8 : ¬ ((2 : Int32) < 0 ∨ co7.slots.size ≤ ((2 : Int32)).toNatClampNeg) := inb_of So7 ⟨by decide, by decide⟩
  obtain ⟨T8, h8, X8, e8, W8, st8⟩ := stI X3 hx hZ e3 Aro7 (j := (2 : Int32)) hin8 (g := (mkF m 14 #[rv a1, iv (2 : Int32), iv p3, iv p4, rv aE, rv aT] [(.int x5), (.int (2 : Int32)), (.ref aE)])) rfl rfl (hb hby d12_14)
  have V8 : Arv Z h8 aE kE .int (4 : Int32) [(.int en0), (.int en1), (.int x5), (.int en3)] (.int (0 : Int32)) := Arv.set Aro7 qo7 So7 Mo7 Ho7 Go7 rfl W8 2 rfl (Nat.le_of_ble_eq_true rfl)
  have P9 : Rch p e below (s₁.setTop (entryFrame m #[(.ref a1), (.int (2 : Int32)), (.int p3), (.int p4), (.ref aE), (.ref aT)] 6)) (T8.setTop (mkF m 15 #[rv a1, iv (2 : Int32), iv p3, iv p4, rv aE, rv aT] [])) := fun t k => P6 t (st8 t k)
  have N8 := Fr.snoc X8 N0 g2
  obtain ⟨x10, hx10⟩ : ∃ z : Int32, z = (p4.toInt8.toInt32) := ⟨_, rfl⟩
  have P11 : Rch p e below (s₁.setTop (entryFrame m #[(.ref a1), (.int (2 : Int32)), (.int p3), (.int p4), (.ref aE), (.ref aT)] 6)) (T8.setTop (mkF m 20 #[rv a1, iv (2 : Int32), iv p3, iv p4, rv aE, rv aT] [(.int x10), (.int (2 : Int32)), (.ref aT)])) := fun t k => P9 t (by
    subst hx10
    show Steps p.tables e below (T8.setTop (mkF m 15 #[rv a1, iv (2 : Int32), iv p3, iv p4, rv aE, rv aT] [])) t
    refine XS.aload X8.here hx rfl (hb hby d12_15) rfl rfl ?_
    refine XS.iloadN X8.here hx rfl (hb hby d12_17) rfl ?_
    refine XS.iloadN X8.here hx rfl (hb hby d12_18) rfl ?_
    show Steps p.tables e below (T8.setTop (mkF m 19 #[rv a1, iv (2 : Int32), iv p3, iv p4, rv aE, rv aT] [(.int p4), (.int (2 : Int32)), (.ref aT)])) t
    refine XS.i2b X8.here hx rfl (hb hby d12_19) rfl ?_
    exact k)
  have V_o12 := (V2.other W8 (Ne.symm n3))
  obtain ⟨co12, Aro12, qo12, So12, Mo12, Ho12, Go12⟩ := V_o12
  have hin13 : ¬ ((2 : Int32) < 0 ∨ co12.slots.size ≤ ((2 : Int32)).toNatClampNeg) := inb_of So12 ⟨by decide, by decide⟩
  obtain ⟨T13, h13, X13, e13, W13, st13⟩ := stB X8 hx hZ e8 Aro12 (j := (2 : Int32)) hin13 (g := (mkF m 20 #[rv a1, iv (2 : Int32), iv p3, iv p4, rv aE, rv aT] [(.int x10), (.int (2 : Int32)), (.ref aT)])) rfl rfl (hb hby d12_20)
  have V13 : Arv Z h13 aT kT .byte (4 : Int32) [(.int tg0), (.int tg1), (.int (nar .byte x10)), (.int tg3)] (.int (0 : Int32)) := Arv.set Aro12 qo12 So12 Mo12 Ho12 Go12 (fits_nar_byte _) W13 2 rfl (Nat.le_of_ble_eq_true rfl)
  have P14 : Rch p e below (s₁.setTop (entryFrame m #[(.ref a1), (.int (2 : Int32)), (.int p3), (.int p4), (.ref aE), (.ref aT)] 6)) (T13.setTop (mkF m 21 #[rv a1, iv (2 : Int32), iv p3, iv p4, rv aE, rv aT] [])) := fun t k => P11 t (st13 t k)
  have N13 := Fr.snoc X13 N8 g3
  obtain ⟨fs, hr, hrun, hended, hW, hsame⟩ := X13.leave (v := none) (fun _ => rfl)
  refine ⟨_, _, P14 _ ?_, hrun, hended, _, _, rfl, ?_, ⟨_, rfl⟩, hW, hsame.mono (by decide) (by decide)⟩
  · exact X13.returnOut hx Bd.returns (hb hby d12_21) hr
  · show Q_rmPut2 Z a1 p3 p4 aE aT rb kE kT en0 en1 en2 en3 tg0 tg1 tg2 tg3 h0 n0 _ T13.heap _
    rw [e13]
    have f15 : Keep h0 h13 [aE, aT] := (((Keep.refl h0 [aE, aT]).wr W8 (Or.inl (List.mem_of_getElem? (i := 0) rfl))).wr W13 (Or.inl (List.mem_of_getElem? (i := 1) rfl)))
    exact ⟨rfl, N13, f15, (by subst hx10 hx5 hx1; exact (V8.other W13 n3)), (by subst hx10 hx5 hx1; exact V13)⟩
def Q_rmMv (Z : State) (a1 : Addr) (aS : Addr) (aL : Addr) (aR : Addr) (aE : Addr) (aT : Addr) (kS : ClassId) (kL : ClassId) (kR : ClassId) (kE : ClassId) (kT : ClassId) (rb : Int32) (lb : Int32) (en0 : Int32) (en1 : Int32) (en2 : Int32) (en3 : Int32) (tg0 : Int32) (tg1 : Int32) (tg2 : Int32) (tg3 : Int32) (mk : Int64) (h0 : Heap) (n0 : Nat) (v : Option Value) (h : Heap) (L : List Loc) : Prop := v = some (.int (1 : Int32)) ∧ Fr n0 L ∧ Keep h0 h [a1, aS, aR, aE, aT] ∧ (Exa Z h a1 "com/example/kinhash/kinhash/BlockTable") ∧ (Fld Z h a1 "com/example/kinhash/kinhash/BlockTable" "recordBits" "I" (.int rb)) ∧ (Fld Z h a1 "com/example/kinhash/kinhash/BlockTable" "mask" "J" (.long mk)) ∧ (Fld Z h a1 "com/example/kinhash/kinhash/BlockTable" "lowestBit" "I" (.int lb)) ∧ (Fld Z h a1 "com/example/kinhash/kinhash/BlockTable" "bucketBits" "I" (.int (0 : Int32))) ∧ (Fld Z h a1 "com/example/kinhash/kinhash/BlockTable" "free" "I" (.int (4 : Int32))) ∧ (Fld Z h a1 "com/example/kinhash/kinhash/BlockTable" "start" "[I" (.ref aS)) ∧ (Fld Z h a1 "com/example/kinhash/kinhash/BlockTable" "length" "[I" (.ref aL)) ∧ (Fld Z h a1 "com/example/kinhash/kinhash/BlockTable" "room" "[I" (.ref aR)) ∧ (Fld Z h a1 "com/example/kinhash/kinhash/BlockTable" "entries" "[I" (.ref aE)) ∧ (Fld Z h a1 "com/example/kinhash/kinhash/BlockTable" "tags" "[B" (.ref aT)) ∧ (Arv Z h aS kS .int (1 : Int32) [(.int (0 : Int32))] (.int (0 : Int32))) ∧ (Arv Z h aL kL .int (1 : Int32) [(.int (0 : Int32))] (.int (0 : Int32))) ∧ (Arv Z h aR kR .int (1 : Int32) [(.int (4 : Int32))] (.int (0 : Int32))) ∧ (Arv Z h aE kE .int (4 : Int32) [(.int en0), (.int en1), (.int en2), (.int en3)] (.int (0 : Int32))) ∧ (Arv Z h aT kT .byte (4 : Int32) [(.int tg0), (.int tg1), (.int tg2), (.int tg3)] (.int (0 : Int32)))
set_option maxRecDepth 65536 in
set_option maxHeartbeats 40000000 in
theorem rmMv (l : Launch) (Z : State) (a0 : Array Value) (hw : ∀ d ∈ tables_1, d.before a0 Z = true) (ws : List Jvm.Cond) (a1 : Addr) (aS : Addr) (aL : Addr) (aR : Addr) (aE : Addr) (aT : Addr) (kS : ClassId) (kL : ClassId) (kR : ClassId) (kE : ClassId) (kT : ClassId) (rb : Int32) (lb : Int32) (en0 : Int32) (en1 : Int32) (en2 : Int32) (en3 : Int32) (tg0 : Int32) (tg1 : Int32) (tg2 : Int32) (tg3 : Int32) (mk : Int64) (h0 : Heap) (n0 : Nat) (Z0 : n0 ≤ h0.size) (E1 : Exa Z h0 a1 "com/example/kinhash/kinhash/BlockTable") (g_a1 : n0 ≤ a1) (g_aS : n0 ≤ aS) (g_aL : n0 ≤ aL) (g_aR : n0 ≤ aR) (g_aE : n0 ≤ aE) (g_aT : n0 ≤ aT) (n_a1_aS : a1 ≠ aS) (n_a1_aL : a1 ≠ aL) (n_a1_aR : a1 ≠ aR) (n_a1_aE : a1 ≠ aE) (n_a1_aT : a1 ≠ aT) (n_aS_aL : aS ≠ aL) (n_aS_aR : aS ≠ aR) (n_aS_aE : aS ≠ aE) (n_aS_aT : aS ≠ aT) (n_aL_aR : aL ≠ aR) (n_aL_aE : aL ≠ aE) (n_aL_aT : aL ≠ aT) (n_aR_aE : aR ≠ aE) (n_aR_aT : aR ≠ aT) (n_aE_aT : aE ≠ aT) (Frb : Fld Z h0 a1 "com/example/kinhash/kinhash/BlockTable" "recordBits" "I" (.int rb)) (Fmk : Fld Z h0 a1 "com/example/kinhash/kinhash/BlockTable" "mask" "J" (.long mk)) (Flb : Fld Z h0 a1 "com/example/kinhash/kinhash/BlockTable" "lowestBit" "I" (.int lb)) (Fbb : Fld Z h0 a1 "com/example/kinhash/kinhash/BlockTable" "bucketBits" "I" (.int (0 : Int32))) (Ffr : Fld Z h0 a1 "com/example/kinhash/kinhash/BlockTable" "free" "I" (.int (0 : Int32))) (Fa_aS : Fld Z h0 a1 "com/example/kinhash/kinhash/BlockTable" "start" "[I" (.ref aS)) (Fa_aL : Fld Z h0 a1 "com/example/kinhash/kinhash/BlockTable" "length" "[I" (.ref aL)) (Fa_aR : Fld Z h0 a1 "com/example/kinhash/kinhash/BlockTable" "room" "[I" (.ref aR)) (Fa_aE : Fld Z h0 a1 "com/example/kinhash/kinhash/BlockTable" "entries" "[I" (.ref aE)) (Fa_aT : Fld Z h0 a1 "com/example/kinhash/kinhash/BlockTable" "tags" "[B" (.ref aT)) (V_aS : Arv Z h0 aS kS .int (1 : Int32) [(.int (0 : Int32))] (.int (0 : Int32))) (V_aL : Arv Z h0 aL kL .int (1 : Int32) [(.int (0 : Int32))] (.int (0 : Int32))) (V_aR : Arv Z h0 aR kR .int (1 : Int32) [(.int (0 : Int32))] (.int (0 : Int32))) (V_aE : Arv Z h0 aE kE .int (4 : Int32) [(.int en0), (.int en1), (.int en2), (.int en3)] (.int (0 : Int32))) (V_aT : Arv Z h0 aT kT .byte (4 : Int32) [(.int tg0), (.int tg1), (.int tg2), (.int tg3)] (.int (0 : Int32))) :
    MetFree l (⟨"com/example/kinhash/kinhash/BlockTable", "move", "(I)Z"⟩ : MethodName) (head1 (Jvm.Cond.code (⟨"com/example/kinhash/kinhash/BlockTable", "move", "(I)Z"⟩ : MethodName) prog_4_method_12_code 4 (some .boolean) :: ws) ({ frames := 1, cells := 0, slots := 0, locals := 18 } : Room)) (fun a U => a = #[(.ref a1), (.int (0 : Int32))] ∧ Z.Warmed39 U.vm ∧ U.heap = h0) (fun _ _ _ _ _ => True) (fun _ U o U' => ∃ v L, o = .returned v ∧ Q_rmMv Z a1 aS aL aR aE aT kS kL kR kE kT rb lb en0 en1 en2 en3 tg0 tg1 tg2 tg3 mk h0 n0 v U'.heap L ∧ FrameEnd U o U' L ({ frames := 1, cells := 0, slots := 0, locals := 18 } : Room).cells ({ frames := 1, cells := 0, slots := 0, locals := 18 } : Room).slots) := by
  refine MetFree.of_bodySF (plainFor_of_name pn_0) hisR ?_
  intro p e s m args below meth c s₁ Bd hml0 hP hK
  obtain ⟨rfl, hZ, hh⟩ := hP
  have hx := Bd.exec
  have hby := Bd.bytes
  have hml : c.maxLocals = 4 := hml0
  have hown : s.vm.findClass "com/example/kinhash/kinhash/BlockTable" = some m.cls := findClass_of_methodNamed Bd.named
  have hnm := (name_of_methodNamed Bd.named Bd.method).1
  have X0 : Stand p l e ({ frames := 1, cells := 0, slots := 0, locals := 18 } : Room) s m #[(.ref a1), (.int (0 : Int32))] below meth c s₁ [] 0 0 := Stand.of_body Bd
  have e0 : s₁.heap = h0 := by rw [← hh, Bd.state]; rfl
  have N0 := Fr.nil n0
  have P0 : Rch p e below (s₁.setTop (entryFrame m #[(.ref a1), (.int (0 : Int32))] 4)) (s₁.setTop (mkF m 0 #[rv a1, iv (0 : Int32), un, un] [])) := fun t k => castTop (by first | (simp [entryFrame, mkF, argsToLocals, Value.category]; done) | rfl) k
  have P1 : Rch p e below (s₁.setTop (entryFrame m #[(.ref a1), (.int (0 : Int32))] 4)) (s₁.setTop (mkF m 1 #[rv a1, iv (0 : Int32), un, un] [(.ref a1)])) := fun t k => P0 t (by
    show Steps p.tables e below (s₁.setTop (mkF m 0 #[rv a1, iv (0 : Int32), un, un] [])) t
    refine XS.aloadN X0.here hx rfl (hb hby d6_0) rfl rfl ?_
    exact k)
  obtain ⟨T2, X2, e2, st2⟩ := getF X0 hx hZ hown (host := "") (Or.inl (hw _ (List.mem_of_getElem? (i := 22) rfl))) Via.refl e0 Fa_aL (g := (mkF m 1 #[rv a1, iv (0 : Int32), un, un] [(.ref a1)])) rfl rfl (hb hby d6_1)
  have P3 : Rch p e below (s₁.setTop (entryFrame m #[(.ref a1), (.int (0 : Int32))] 4)) (T2.setTop (mkF m 4 #[rv a1, iv (0 : Int32), un, un] [(.ref aL)])) := fun t k => P1 t (st2 t k)
  have P4 : Rch p e below (s₁.setTop (entryFrame m #[(.ref a1), (.int (0 : Int32))] 4)) (T2.setTop (mkF m 5 #[rv a1, iv (0 : Int32), un, un] [(.int (0 : Int32)), (.ref aL)])) := fun t k => P3 t (by
    show Steps p.tables e below (T2.setTop (mkF m 4 #[rv a1, iv (0 : Int32), un, un] [(.ref aL)])) t
    refine XS.iloadN X2.here hx rfl (hb hby d6_4) rfl ?_
    exact k)
  have V_o5 := V_aL
  obtain ⟨co5, Aro5, qo5, So5, Mo5, Ho5, Go5⟩ := V_o5
  have hin6 : ¬ ((0 : Int32) < 0 ∨ co5.slots.size ≤ ((0 : Int32)).toNatClampNeg) := inb_of So5 ⟨by decide, by decide⟩
  have hat6 : co5.slots[((0 : Int32)).toNatClampNeg]? = some (.int (0 : Int32)) := Has.at Ho5 hin6 rfl
  have P7 : Rch p e below (s₁.setTop (entryFrame m #[(.ref a1), (.int (0 : Int32))] 4)) (T2.setTop (mkF m 6 #[rv a1, iv (0 : Int32), un, un] [(.int (0 : Int32))])) := fun t k => P4 t (X2.iaload hx (j := (0 : Int32)) (v := (.int (0 : Int32))) (by rw [e2]; exact Aro5.1) (State.isArrayOf_alike hZ.alike Aro5.2.1) Aro5.2.2 hin6 hat6 (g := (mkF m 5 #[rv a1, iv (0 : Int32), un, un] [(.int (0 : Int32)), (.ref aL)])) rfl rfl (hb hby d6_5) t k)
  have P8 : Rch p e below (s₁.setTop (entryFrame m #[(.ref a1), (.int (0 : Int32))] 4)) (T2.setTop (mkF m 12 #[rv a1, iv (0 : Int32), iv (0 : Int32), un] [(.int (0 : Int32)), (.int (4 : Int32)), (.int (0 : Int32))])) := fun t k => P7 t (by
    show Steps p.tables e below (T2.setTop (mkF m 6 #[rv a1, iv (0 : Int32), un, un] [(.int (0 : Int32))])) t
    refine XS.istoreN X2.here hx rfl (hb hby d6_6) rfl (l' := #[rv a1, iv (0 : Int32), iv (0 : Int32), un]) rfl ?_
    refine XS.iloadN X2.here hx rfl (hb hby d6_7) rfl ?_
    refine XS.iconst X2.here hx rfl (hb hby d6_8) ?_
    show Steps p.tables e below (T2.setTop (mkF m 9 #[rv a1, iv (0 : Int32), iv (0 : Int32), un] [(.int (4 : Int32)), (.int (0 : Int32))])) t
    refine XS.iloadN X2.here hx rfl (hb hby d6_9) rfl ?_
    refine XS.iconst X2.here hx rfl (hb hby d6_10) ?_
    refine XS.idiv X2.here hx rfl (hb hby d6_11) rfl (by decide) ?_
    exact k)
  obtain ⟨_, _, ⟨T9, L9, k9, n9⟩, -, X9, ⟨Lc9, hQ9, l9, y9, z9⟩, st9⟩ := Jvm.LawKit.callS X2 hx (y := (⟨"java/lang/Math", "max", "(II)I"⟩ : MethodName)) hown (mvT hZ (hw _ (List.mem_of_getElem? (i := 51) rfl))) (mvT hZ (hw _ (List.mem_of_getElem? (i := 52) rfl))) (mvT hZ (hw _ (List.mem_of_getElem? (i := 53) rfl))) (mvT hZ (hw _ (List.mem_of_getElem? (i := 54) rfl))) (by decide) (backOf (W := 1) (rmMx l Z a0 hw [] (4 : Int32) (0 : Int32) h0 n0 Z0 ) hZ (hw _ (List.mem_of_getElem? (i := 54) rfl)) (hw _ (List.mem_of_getElem? (i := 53) rfl)) (by decide) (by decide)) (g := (mkF m 12 #[rv a1, iv (0 : Int32), iv (0 : Int32), un] [(.int (0 : Int32)), (.int (4 : Int32)), (.int (0 : Int32))])) rfl (by rw [hml]; rfl) (argsL := [(.int (4 : Int32)), (.int (0 : Int32))]) (rest := [(.int (0 : Int32))]) (lenOf pd_2 rfl) rfl (by show 2 * 0 + _ ≤ _; exact Nat.le_of_eq rfl) (hb hby d6_12) (fun _ _ => ⟨rfl, e2, (by decide : 0 + 0 ≤ _), (by decide : 0 + 0 ≤ _)⟩)
  dsimp only [Pt.U, Pt.locs, Pt.cells, Pt.slots] at X9 l9 y9 z9 st9 hQ9
  subst y9 z9
  obtain ⟨rfl, N9q, e9⟩ := hQ9
  have N9 : Fr n0 L9 := by rw [l9]; exact Fr.app N0 N9q
  have P10 : Rch p e below (s₁.setTop (entryFrame m #[(.ref a1), (.int (0 : Int32))] 4)) (T9.setTop (mkF m 15 #[rv a1, iv (0 : Int32), iv (0 : Int32), un] [(.int (own_mx (4 : Int32) (0 : Int32))), (.int (0 : Int32))])) := fun t k => P8 t (st9 t k)
  obtain ⟨x11, hx11⟩ : ∃ z : Int32, z = (own_mx (4 : Int32) (0 : Int32)) := ⟨_, rfl⟩
  rw [← hx11] at P10
  have hmx : x11 = (4 : Int32) := by rw [hx11]; decide
  have P12 : Rch p e below (s₁.setTop (entryFrame m #[(.ref a1), (.int (0 : Int32))] 4)) (T9.setTop (mkF m 15 #[rv a1, iv (0 : Int32), iv (0 : Int32), un] [(.int (4 : Int32)), (.int (0 : Int32))])) := by have q_ := P10; rw [hmx] at q_; exact q_
  have P13 : Rch p e below (s₁.setTop (entryFrame m #[(.ref a1), (.int (0 : Int32))] 4)) (T9.setTop (mkF m 19 #[rv a1, iv (0 : Int32), iv (0 : Int32), iv (4 : Int32)] [(.ref a1), (.int (4 : Int32))])) := fun t k => P12 t (by
    show Steps p.tables e below (T9.setTop (mkF m 15 #[rv a1, iv (0 : Int32), iv (0 : Int32), un] [(.int (4 : Int32)), (.int (0 : Int32))])) t
    refine XS.iadd X9.here hx rfl (hb hby d6_15) rfl ?_
    refine XS.istoreN X9.here hx rfl (hb hby d6_16) rfl (l' := #[rv a1, iv (0 : Int32), iv (0 : Int32), iv (4 : Int32)]) rfl ?_
    refine XS.iloadN X9.here hx rfl (hb hby d6_17) rfl ?_
    show Steps p.tables e below (T9.setTop (mkF m 18 #[rv a1, iv (0 : Int32), iv (0 : Int32), iv (4 : Int32)] [(.int (4 : Int32))])) t
    refine XS.aloadN X9.here hx rfl (hb hby d6_18) rfl rfl ?_
    exact k)
  obtain ⟨T14, X14, e14, st14⟩ := getF X9 hx hZ hown (host := "") (Or.inl (hw _ (List.mem_of_getElem? (i := 26) rfl))) Via.refl e9 Fa_aE (g := (mkF m 19 #[rv a1, iv (0 : Int32), iv (0 : Int32), iv (4 : Int32)] [(.ref a1), (.int (4 : Int32))])) rfl rfl (hb hby d6_19)
  have P15 : Rch p e below (s₁.setTop (entryFrame m #[(.ref a1), (.int (0 : Int32))] 4)) (T14.setTop (mkF m 22 #[rv a1, iv (0 : Int32), iv (0 : Int32), iv (4 : Int32)] [(.ref aE), (.int (4 : Int32))])) := fun t k => P13 t (st14 t k)
  have V_o16 := V_aE
  obtain ⟨co16, Aro16, qo16, So16, Mo16, Ho16, Go16⟩ := V_o16
  have P17 : Rch p e below (s₁.setTop (entryFrame m #[(.ref a1), (.int (0 : Int32))] 4)) (T14.setTop (mkF m 23 #[rv a1, iv (0 : Int32), iv (0 : Int32), iv (4 : Int32)] [(.int (4 : Int32)), (.int (4 : Int32))])) := fun t k => P15 t (by
    refine X14.arraylength hx (by rw [e14]; exact Aro16.1) (State.isArrayOf_alike hZ.alike Aro16.2.1) (g := (mkF m 22 #[rv a1, iv (0 : Int32), iv (0 : Int32), iv (4 : Int32)] [(.ref aE), (.int (4 : Int32))])) rfl rfl (hb hby d6_22) _ ?_
    rw [len_of So16 Mo16]; exact k)
  have P18 : Rch p e below (s₁.setTop (entryFrame m #[(.ref a1), (.int (0 : Int32))] 4)) (T14.setTop (mkF m 24 #[rv a1, iv (0 : Int32), iv (0 : Int32), iv (4 : Int32)] [(.ref a1), (.int (4 : Int32)), (.int (4 : Int32))])) := fun t k => P17 t (by
    show Steps p.tables e below (T14.setTop (mkF m 23 #[rv a1, iv (0 : Int32), iv (0 : Int32), iv (4 : Int32)] [(.int (4 : Int32)), (.int (4 : Int32))])) t
    refine XS.aloadN X14.here hx rfl (hb hby d6_23) rfl rfl ?_
    exact k)
  obtain ⟨T19, X19, e19, st19⟩ := getF X14 hx hZ hown (host := "") (Or.inl (hw _ (List.mem_of_getElem? (i := 55) rfl))) Via.refl e14 Ffr (g := (mkF m 24 #[rv a1, iv (0 : Int32), iv (0 : Int32), iv (4 : Int32)] [(.ref a1), (.int (4 : Int32)), (.int (4 : Int32))])) rfl rfl (hb hby d6_24)
  have P20 : Rch p e below (s₁.setTop (entryFrame m #[(.ref a1), (.int (0 : Int32))] 4)) (T19.setTop (mkF m 27 #[rv a1, iv (0 : Int32), iv (0 : Int32), iv (4 : Int32)] [(.int (0 : Int32)), (.int (4 : Int32)), (.int (4 : Int32))])) := fun t k => P18 t (st19 t k)
  have P21 : Rch p e below (s₁.setTop (entryFrame m #[(.ref a1), (.int (0 : Int32))] 4)) (T19.setTop (mkF m 34 #[rv a1, iv (0 : Int32), iv (0 : Int32), iv (4 : Int32)] [(.ref a1)])) := fun t k => P20 t (by
    show Steps p.tables e below (T19.setTop (mkF m 27 #[rv a1, iv (0 : Int32), iv (0 : Int32), iv (4 : Int32)] [(.int (0 : Int32)), (.int (4 : Int32)), (.int (4 : Int32))])) t
    refine XS.isub X19.here hx rfl (hb hby d6_27) rfl ?_
    refine XS.icmpYes X19.here hx rfl (pc0 := 28) (pc' := 33) rfl (hb hby d6_28) rfl (flt (by decide)).2.2.2 (by decide) (by decide) ?_
    refine XS.aloadN X19.here hx rfl (hb hby d6_33) rfl rfl ?_
    exact k)
  obtain ⟨T22, X22, e22, st22⟩ := getF X19 hx hZ hown (host := "") (Or.inl (hw _ (List.mem_of_getElem? (i := 26) rfl))) Via.refl e19 Fa_aE (g := (mkF m 34 #[rv a1, iv (0 : Int32), iv (0 : Int32), iv (4 : Int32)] [(.ref a1)])) rfl rfl (hb hby d6_34)
  have P23 : Rch p e below (s₁.setTop (entryFrame m #[(.ref a1), (.int (0 : Int32))] 4)) (T22.setTop (mkF m 37 #[rv a1, iv (0 : Int32), iv (0 : Int32), iv (4 : Int32)] [(.ref aE)])) := fun t k => P21 t (st22 t k)
  have P24 : Rch p e below (s₁.setTop (entryFrame m #[(.ref a1), (.int (0 : Int32))] 4)) (T22.setTop (mkF m 38 #[rv a1, iv (0 : Int32), iv (0 : Int32), iv (4 : Int32)] [(.ref a1), (.ref aE)])) := fun t k => P23 t (by
    show Steps p.tables e below (T22.setTop (mkF m 37 #[rv a1, iv (0 : Int32), iv (0 : Int32), iv (4 : Int32)] [(.ref aE)])) t
    refine XS.aloadN X22.here hx rfl (hb hby d6_37) rfl rfl ?_
    exact k)
  obtain ⟨T25, X25, e25, st25⟩ := getF X22 hx hZ hown (host := "") (Or.inl (hw _ (List.mem_of_getElem? (i := 20) rfl))) Via.refl e22 Fa_aS (g := (mkF m 38 #[rv a1, iv (0 : Int32), iv (0 : Int32), iv (4 : Int32)] [(.ref a1), (.ref aE)])) rfl rfl (hb hby d6_38)
  have P26 : Rch p e below (s₁.setTop (entryFrame m #[(.ref a1), (.int (0 : Int32))] 4)) (T25.setTop (mkF m 41 #[rv a1, iv (0 : Int32), iv (0 : Int32), iv (4 : Int32)] [(.ref aS), (.ref aE)])) := fun t k => P24 t (st25 t k)
  have P27 : Rch p e below (s₁.setTop (entryFrame m #[(.ref a1), (.int (0 : Int32))] 4)) (T25.setTop (mkF m 42 #[rv a1, iv (0 : Int32), iv (0 : Int32), iv (4 : Int32)] [(.int (0 : Int32)), (.ref aS), (.ref aE)])) := fun t k => P26 t (by
    show Steps p.tables e below (T25.setTop (mkF m 41 #[rv a1, iv (0 : Int32), iv (0 : Int32), iv (4 : Int32)] [(.ref aS), (.ref aE)])) t
    refine XS.iloadN X25.here hx rfl (hb hby d6_41) rfl ?_
    exact k)
  have V_o28 := V_aS
  obtain ⟨co28, Aro28, qo28, So28, Mo28, Ho28, Go28⟩ := V_o28
  have hin29 : ¬ ((0 : Int32) < 0 ∨ co28.slots.size ≤ ((0 : Int32)).toNatClampNeg) := inb_of So28 ⟨by decide, by decide⟩
  have hat29 : co28.slots[((0 : Int32)).toNatClampNeg]? = some (.int (0 : Int32)) := Has.at Ho28 hin29 rfl
  have P30 : Rch p e below (s₁.setTop (entryFrame m #[(.ref a1), (.int (0 : Int32))] 4)) (T25.setTop (mkF m 43 #[rv a1, iv (0 : Int32), iv (0 : Int32), iv (4 : Int32)] [(.int (0 : Int32)), (.ref aE)])) := fun t k => P27 t (X25.iaload hx (j := (0 : Int32)) (v := (.int (0 : Int32))) (by rw [e25]; exact Aro28.1) (State.isArrayOf_alike hZ.alike Aro28.2.1) Aro28.2.2 hin29 hat29 (g := (mkF m 42 #[rv a1, iv (0 : Int32), iv (0 : Int32), iv (4 : Int32)] [(.int (0 : Int32)), (.ref aS), (.ref aE)])) rfl rfl (hb hby d6_42) t k)
  have P31 : Rch p e below (s₁.setTop (entryFrame m #[(.ref a1), (.int (0 : Int32))] 4)) (T25.setTop (mkF m 44 #[rv a1, iv (0 : Int32), iv (0 : Int32), iv (4 : Int32)] [(.ref a1), (.int (0 : Int32)), (.ref aE)])) := fun t k => P30 t (by
    show Steps p.tables e below (T25.setTop (mkF m 43 #[rv a1, iv (0 : Int32), iv (0 : Int32), iv (4 : Int32)] [(.int (0 : Int32)), (.ref aE)])) t
    refine XS.aloadN X25.here hx rfl (hb hby d6_43) rfl rfl ?_
    exact k)
  obtain ⟨T32, X32, e32, st32⟩ := getF X25 hx hZ hown (host := "") (Or.inl (hw _ (List.mem_of_getElem? (i := 26) rfl))) Via.refl e25 Fa_aE (g := (mkF m 44 #[rv a1, iv (0 : Int32), iv (0 : Int32), iv (4 : Int32)] [(.ref a1), (.int (0 : Int32)), (.ref aE)])) rfl rfl (hb hby d6_44)
  have P33 : Rch p e below (s₁.setTop (entryFrame m #[(.ref a1), (.int (0 : Int32))] 4)) (T32.setTop (mkF m 47 #[rv a1, iv (0 : Int32), iv (0 : Int32), iv (4 : Int32)] [(.ref aE), (.int (0 : Int32)), (.ref aE)])) := fun t k => P31 t (st32 t k)
  have P34 : Rch p e below (s₁.setTop (entryFrame m #[(.ref a1), (.int (0 : Int32))] 4)) (T32.setTop (mkF m 48 #[rv a1, iv (0 : Int32), iv (0 : Int32), iv (4 : Int32)] [(.ref a1), (.ref aE), (.int (0 : Int32)), (.ref aE)])) := fun t k => P33 t (by
    show Steps p.tables e below (T32.setTop (mkF m 47 #[rv a1, iv (0 : Int32), iv (0 : Int32), iv (4 : Int32)] [(.ref aE), (.int (0 : Int32)), (.ref aE)])) t
    refine XS.aloadN X32.here hx rfl (hb hby d6_47) rfl rfl ?_
    exact k)
  obtain ⟨T35, X35, e35, st35⟩ := getF X32 hx hZ hown (host := "") (Or.inl (hw _ (List.mem_of_getElem? (i := 55) rfl))) Via.refl e32 Ffr (g := (mkF m 48 #[rv a1, iv (0 : Int32), iv (0 : Int32), iv (4 : Int32)] [(.ref a1), (.ref aE), (.int (0 : Int32)), (.ref aE)])) rfl rfl (hb hby d6_48)
  have P36 : Rch p e below (s₁.setTop (entryFrame m #[(.ref a1), (.int (0 : Int32))] 4)) (T35.setTop (mkF m 51 #[rv a1, iv (0 : Int32), iv (0 : Int32), iv (4 : Int32)] [(.int (0 : Int32)), (.ref aE), (.int (0 : Int32)), (.ref aE)])) := fun t k => P34 t (st35 t k)
  have P37 : Rch p e below (s₁.setTop (entryFrame m #[(.ref a1), (.int (0 : Int32))] 4)) (T35.setTop (mkF m 52 #[rv a1, iv (0 : Int32), iv (0 : Int32), iv (4 : Int32)] [(.int (0 : Int32)), (.int (0 : Int32)), (.ref aE), (.int (0 : Int32)), (.ref aE)])) := fun t k => P36 t (by
    show Steps p.tables e below (T35.setTop (mkF m 51 #[rv a1, iv (0 : Int32), iv (0 : Int32), iv (4 : Int32)] [(.int (0 : Int32)), (.ref aE), (.int (0 : Int32)), (.ref aE)])) t
    refine XS.iloadN X35.here hx rfl (hb hby d6_51) rfl ?_
    exact k)
  obtain ⟨T38, h38, L38, X38, e38, N38, K38, A38, st38⟩ := cpA X35 hx hZ hown (hw _ (List.mem_of_getElem? (i := 57) rfl)) (hw _ (List.mem_of_getElem? (i := 60) rfl)) (hw _ (List.mem_of_getElem? (i := 58) rfl)) (hw _ (List.mem_of_getElem? (i := 59) rfl)) e35 V_aE V_aE (us := []) (Or.inl ⟨rfl, rfl⟩) (by decide) (by decide) (by decide) (by decide) (by decide) rfl (by first | decide | exact Nat.le_of_ble_eq_true rfl) N9 g_aE (g := (mkF m 52 #[rv a1, iv (0 : Int32), iv (0 : Int32), iv (4 : Int32)] [(.int (0 : Int32)), (.int (0 : Int32)), (.ref aE), (.int (0 : Int32)), (.ref aE)])) rfl (by rw [hml]; rfl) rfl (hb hby d6_52) (by decide) (W := 0) (by show 2 * 0 + _ ≤ _; exact Nat.le_of_eq rfl) (by decide)
  have V38 : Arv Z h38 aE kE .int (4 : Int32) [(.int en0), (.int en1), (.int en2), (.int en3)] (.int (0 : Int32)) := A38
  have P39 : Rch p e below (s₁.setTop (entryFrame m #[(.ref a1), (.int (0 : Int32))] 4)) (T38.setTop (mkF m 55 #[rv a1, iv (0 : Int32), iv (0 : Int32), iv (4 : Int32)] [])) := fun t k => P37 t (st38 t k)
  have P40 : Rch p e below (s₁.setTop (entryFrame m #[(.ref a1), (.int (0 : Int32))] 4)) (T38.setTop (mkF m 56 #[rv a1, iv (0 : Int32), iv (0 : Int32), iv (4 : Int32)] [(.ref a1)])) := fun t k => P39 t (by
    show Steps p.tables e below (T38.setTop (mkF m 55 #[rv a1, iv (0 : Int32), iv (0 : Int32), iv (4 : Int32)] [])) t
    refine XS.aloadN X38.here hx rfl (hb hby d6_55) rfl rfl ?_
    exact k)
  obtain ⟨T41, X41, e41, st41⟩ := getF X38 hx hZ hown (host := "") (Or.inl (hw _ (List.mem_of_getElem? (i := 29) rfl))) Via.refl e38 (Fa_aT.keep K38 (ninS n_a1_aE nin0)) (g := (mkF m 56 #[rv a1, iv (0 : Int32), iv (0 : Int32), iv (4 : Int32)] [(.ref a1)])) rfl rfl (hb hby d6_56)
  have P42 : Rch p e below (s₁.setTop (entryFrame m #[(.ref a1), (.int (0 : Int32))] 4)) (T41.setTop (mkF m 59 #[rv a1, iv (0 : Int32), iv (0 : Int32), iv (4 : Int32)] [(.ref aT)])) := fun t k => P40 t (st41 t k)
  have P43 : Rch p e below (s₁.setTop (entryFrame m #[(.ref a1), (.int (0 : Int32))] 4)) (T41.setTop (mkF m 60 #[rv a1, iv (0 : Int32), iv (0 : Int32), iv (4 : Int32)] [(.ref a1), (.ref aT)])) := fun t k => P42 t (by
    show Steps p.tables e below (T41.setTop (mkF m 59 #[rv a1, iv (0 : Int32), iv (0 : Int32), iv (4 : Int32)] [(.ref aT)])) t
    refine XS.aloadN X41.here hx rfl (hb hby d6_59) rfl rfl ?_
    exact k)
  obtain ⟨T44, X44, e44, st44⟩ := getF X41 hx hZ hown (host := "") (Or.inl (hw _ (List.mem_of_getElem? (i := 20) rfl))) Via.refl e41 (Fa_aS.keep K38 (ninS n_a1_aE nin0)) (g := (mkF m 60 #[rv a1, iv (0 : Int32), iv (0 : Int32), iv (4 : Int32)] [(.ref a1), (.ref aT)])) rfl rfl (hb hby d6_60)
  have P45 : Rch p e below (s₁.setTop (entryFrame m #[(.ref a1), (.int (0 : Int32))] 4)) (T44.setTop (mkF m 63 #[rv a1, iv (0 : Int32), iv (0 : Int32), iv (4 : Int32)] [(.ref aS), (.ref aT)])) := fun t k => P43 t (st44 t k)
  have P46 : Rch p e below (s₁.setTop (entryFrame m #[(.ref a1), (.int (0 : Int32))] 4)) (T44.setTop (mkF m 64 #[rv a1, iv (0 : Int32), iv (0 : Int32), iv (4 : Int32)] [(.int (0 : Int32)), (.ref aS), (.ref aT)])) := fun t k => P45 t (by
    show Steps p.tables e below (T44.setTop (mkF m 63 #[rv a1, iv (0 : Int32), iv (0 : Int32), iv (4 : Int32)] [(.ref aS), (.ref aT)])) t
    refine XS.iloadN X44.here hx rfl (hb hby d6_63) rfl ?_
    exact k)
  have V_o47 := (V_aS.keep K38 (ninS n_aS_aE nin0))
  obtain ⟨co47, Aro47, qo47, So47, Mo47, Ho47, Go47⟩ := V_o47
  have hin48 : ¬ ((0 : Int32) < 0 ∨ co47.slots.size ≤ ((0 : Int32)).toNatClampNeg) := inb_of So47 ⟨by decide, by decide⟩
  have hat48 : co47.slots[((0 : Int32)).toNatClampNeg]? = some (.int (0 : Int32)) := Has.at Ho47 hin48 rfl
  have P49 : Rch p e below (s₁.setTop (entryFrame m #[(.ref a1), (.int (0 : Int32))] 4)) (T44.setTop (mkF m 65 #[rv a1, iv (0 : Int32), iv (0 : Int32), iv (4 : Int32)] [(.int (0 : Int32)), (.ref aT)])) := fun t k => P46 t (X44.iaload hx (j := (0 : Int32)) (v := (.int (0 : Int32))) (by rw [e44]; exact Aro47.1) (State.isArrayOf_alike hZ.alike Aro47.2.1) Aro47.2.2 hin48 hat48 (g := (mkF m 64 #[rv a1, iv (0 : Int32), iv (0 : Int32), iv (4 : Int32)] [(.int (0 : Int32)), (.ref aS), (.ref aT)])) rfl rfl (hb hby d6_64) t k)
  have P50 : Rch p e below (s₁.setTop (entryFrame m #[(.ref a1), (.int (0 : Int32))] 4)) (T44.setTop (mkF m 66 #[rv a1, iv (0 : Int32), iv (0 : Int32), iv (4 : Int32)] [(.ref a1), (.int (0 : Int32)), (.ref aT)])) := fun t k => P49 t (by
    show Steps p.tables e below (T44.setTop (mkF m 65 #[rv a1, iv (0 : Int32), iv (0 : Int32), iv (4 : Int32)] [(.int (0 : Int32)), (.ref aT)])) t
    refine XS.aloadN X44.here hx rfl (hb hby d6_65) rfl rfl ?_
    exact k)
  obtain ⟨T51, X51, e51, st51⟩ := getF X44 hx hZ hown (host := "") (Or.inl (hw _ (List.mem_of_getElem? (i := 29) rfl))) Via.refl e44 (Fa_aT.keep K38 (ninS n_a1_aE nin0)) (g := (mkF m 66 #[rv a1, iv (0 : Int32), iv (0 : Int32), iv (4 : Int32)] [(.ref a1), (.int (0 : Int32)), (.ref aT)])) rfl rfl (hb hby d6_66)
  have P52 : Rch p e below (s₁.setTop (entryFrame m #[(.ref a1), (.int (0 : Int32))] 4)) (T51.setTop (mkF m 69 #[rv a1, iv (0 : Int32), iv (0 : Int32), iv (4 : Int32)] [(.ref aT), (.int (0 : Int32)), (.ref aT)])) := fun t k => P50 t (st51 t k)
  have P53 : Rch p e below (s₁.setTop (entryFrame m #[(.ref a1), (.int (0 : Int32))] 4)) (T51.setTop (mkF m 70 #[rv a1, iv (0 : Int32), iv (0 : Int32), iv (4 : Int32)] [(.ref a1), (.ref aT), (.int (0 : Int32)), (.ref aT)])) := fun t k => P52 t (by
    show Steps p.tables e below (T51.setTop (mkF m 69 #[rv a1, iv (0 : Int32), iv (0 : Int32), iv (4 : Int32)] [(.ref aT), (.int (0 : Int32)), (.ref aT)])) t
    refine XS.aloadN X51.here hx rfl (hb hby d6_69) rfl rfl ?_
    exact k)
  obtain ⟨T54, X54, e54, st54⟩ := getF X51 hx hZ hown (host := "") (Or.inl (hw _ (List.mem_of_getElem? (i := 55) rfl))) Via.refl e51 (Ffr.keep K38 (ninS n_a1_aE nin0)) (g := (mkF m 70 #[rv a1, iv (0 : Int32), iv (0 : Int32), iv (4 : Int32)] [(.ref a1), (.ref aT), (.int (0 : Int32)), (.ref aT)])) rfl rfl (hb hby d6_70)
  have P55 : Rch p e below (s₁.setTop (entryFrame m #[(.ref a1), (.int (0 : Int32))] 4)) (T54.setTop (mkF m 73 #[rv a1, iv (0 : Int32), iv (0 : Int32), iv (4 : Int32)] [(.int (0 : Int32)), (.ref aT), (.int (0 : Int32)), (.ref aT)])) := fun t k => P53 t (st54 t k)
  have P56 : Rch p e below (s₁.setTop (entryFrame m #[(.ref a1), (.int (0 : Int32))] 4)) (T54.setTop (mkF m 74 #[rv a1, iv (0 : Int32), iv (0 : Int32), iv (4 : Int32)] [(.int (0 : Int32)), (.int (0 : Int32)), (.ref aT), (.int (0 : Int32)), (.ref aT)])) := fun t k => P55 t (by
    show Steps p.tables e below (T54.setTop (mkF m 73 #[rv a1, iv (0 : Int32), iv (0 : Int32), iv (4 : Int32)] [(.int (0 : Int32)), (.ref aT), (.int (0 : Int32)), (.ref aT)])) t
    refine XS.iloadN X54.here hx rfl (hb hby d6_73) rfl ?_
    exact k)
  obtain ⟨T57, h57, L57, X57, e57, N57, K57, A57, st57⟩ := cpA X54 hx hZ hown (hw _ (List.mem_of_getElem? (i := 57) rfl)) (hw _ (List.mem_of_getElem? (i := 60) rfl)) (hw _ (List.mem_of_getElem? (i := 58) rfl)) (hw _ (List.mem_of_getElem? (i := 59) rfl)) e54 (V_aT.keep K38 (ninS (Ne.symm n_aE_aT) nin0)) (V_aT.keep K38 (ninS (Ne.symm n_aE_aT) nin0)) (us := []) (Or.inl ⟨rfl, rfl⟩) (by decide) (by decide) (by decide) (by decide) (by decide) rfl (by first | decide | exact Nat.le_of_ble_eq_true rfl) N38 g_aT (g := (mkF m 74 #[rv a1, iv (0 : Int32), iv (0 : Int32), iv (4 : Int32)] [(.int (0 : Int32)), (.int (0 : Int32)), (.ref aT), (.int (0 : Int32)), (.ref aT)])) rfl (by rw [hml]; rfl) rfl (hb hby d6_74) (by decide) (W := 0) (by show 2 * 0 + _ ≤ _; exact Nat.le_of_eq rfl) (by decide)
  have V57 : Arv Z h57 aT kT .byte (4 : Int32) [(.int tg0), (.int tg1), (.int tg2), (.int tg3)] (.int (0 : Int32)) := A57
  have P58 : Rch p e below (s₁.setTop (entryFrame m #[(.ref a1), (.int (0 : Int32))] 4)) (T57.setTop (mkF m 77 #[rv a1, iv (0 : Int32), iv (0 : Int32), iv (4 : Int32)] [])) := fun t k => P56 t (st57 t k)
  have P59 : Rch p e below (s₁.setTop (entryFrame m #[(.ref a1), (.int (0 : Int32))] 4)) (T57.setTop (mkF m 78 #[rv a1, iv (0 : Int32), iv (0 : Int32), iv (4 : Int32)] [(.ref a1)])) := fun t k => P58 t (by
    show Steps p.tables e below (T57.setTop (mkF m 77 #[rv a1, iv (0 : Int32), iv (0 : Int32), iv (4 : Int32)] [])) t
    refine XS.aloadN X57.here hx rfl (hb hby d6_77) rfl rfl ?_
    exact k)
  have f60 : Fld Z h57 a1 "com/example/kinhash/kinhash/BlockTable" "start" "[I" (.ref aS) := ((Fa_aS.keep K38 (ninS n_a1_aE nin0)).keep K57 (ninS n_a1_aT nin0))
  obtain ⟨T61, X61, e61, st61⟩ := getF X57 hx hZ hown (host := "") (Or.inl (hw _ (List.mem_of_getElem? (i := 20) rfl))) Via.refl e57 f60 (g := (mkF m 78 #[rv a1, iv (0 : Int32), iv (0 : Int32), iv (4 : Int32)] [(.ref a1)])) rfl rfl (hb hby d6_78)
  have P62 : Rch p e below (s₁.setTop (entryFrame m #[(.ref a1), (.int (0 : Int32))] 4)) (T61.setTop (mkF m 81 #[rv a1, iv (0 : Int32), iv (0 : Int32), iv (4 : Int32)] [(.ref aS)])) := fun t k => P59 t (st61 t k)
  have P63 : Rch p e below (s₁.setTop (entryFrame m #[(.ref a1), (.int (0 : Int32))] 4)) (T61.setTop (mkF m 83 #[rv a1, iv (0 : Int32), iv (0 : Int32), iv (4 : Int32)] [(.ref a1), (.int (0 : Int32)), (.ref aS)])) := fun t k => P62 t (by
    show Steps p.tables e below (T61.setTop (mkF m 81 #[rv a1, iv (0 : Int32), iv (0 : Int32), iv (4 : Int32)] [(.ref aS)])) t
    refine XS.iloadN X61.here hx rfl (hb hby d6_81) rfl ?_
    refine XS.aloadN X61.here hx rfl (hb hby d6_82) rfl rfl ?_
    exact k)
  have f64 : Fld Z h57 a1 "com/example/kinhash/kinhash/BlockTable" "free" "I" (.int (0 : Int32)) := ((Ffr.keep K38 (ninS n_a1_aE nin0)).keep K57 (ninS n_a1_aT nin0))
  obtain ⟨T65, X65, e65, st65⟩ := getF X61 hx hZ hown (host := "") (Or.inl (hw _ (List.mem_of_getElem? (i := 55) rfl))) Via.refl e61 f64 (g := (mkF m 83 #[rv a1, iv (0 : Int32), iv (0 : Int32), iv (4 : Int32)] [(.ref a1), (.int (0 : Int32)), (.ref aS)])) rfl rfl (hb hby d6_83)
  have P66 : Rch p e below (s₁.setTop (entryFrame m #[(.ref a1), (.int (0 : Int32))] 4)) (T65.setTop (mkF m 86 #[rv a1, iv (0 : Int32), iv (0 : Int32), iv (4 : Int32)] [(.int (0 : Int32)), (.int (0 : Int32)), (.ref aS)])) := fun t k => P63 t (st65 t k)
  have f67 : Arv Z h57 aS kS .int (1 : Int32) [(.int (0 : Int32))] (.int (0 : Int32)) := ((V_aS.keep K38 (ninS n_aS_aE nin0)).keep K57 (ninS n_aS_aT nin0))
  have V_o68 := f67
  obtain ⟨co68, Aro68, qo68, So68, Mo68, Ho68, Go68⟩ := V_o68
  have hin69 : ¬ ((0 : Int32) < 0 ∨ co68.slots.size ≤ ((0 : Int32)).toNatClampNeg) := inb_of So68 ⟨by decide, by decide⟩
  obtain ⟨T69, h69, X69, e69, W69, st69⟩ := stI X65 hx hZ e65 Aro68 (j := (0 : Int32)) hin69 (g := (mkF m 86 #[rv a1, iv (0 : Int32), iv (0 : Int32), iv (4 : Int32)] [(.int (0 : Int32)), (.int (0 : Int32)), (.ref aS)])) rfl rfl (hb hby d6_86)
  have V69 : Arv Z h69 aS kS .int (1 : Int32) [(.int (0 : Int32))] (.int (0 : Int32)) := Arv.set Aro68 qo68 So68 Mo68 Ho68 Go68 rfl W69 0 rfl (Nat.le_of_ble_eq_true rfl)
  have P70 : Rch p e below (s₁.setTop (entryFrame m #[(.ref a1), (.int (0 : Int32))] 4)) (T69.setTop (mkF m 87 #[rv a1, iv (0 : Int32), iv (0 : Int32), iv (4 : Int32)] [])) := fun t k => P66 t (st69 t k)
  have N69 := Fr.snoc X69 N57 g_aS
  have P71 : Rch p e below (s₁.setTop (entryFrame m #[(.ref a1), (.int (0 : Int32))] 4)) (T69.setTop (mkF m 88 #[rv a1, iv (0 : Int32), iv (0 : Int32), iv (4 : Int32)] [(.ref a1)])) := fun t k => P70 t (by
    show Steps p.tables e below (T69.setTop (mkF m 87 #[rv a1, iv (0 : Int32), iv (0 : Int32), iv (4 : Int32)] [])) t
    refine XS.aloadN X69.here hx rfl (hb hby d6_87) rfl rfl ?_
    exact k)
  have f72 : Fld Z h69 a1 "com/example/kinhash/kinhash/BlockTable" "room" "[I" (.ref aR) := (((Fa_aR.keep K38 (ninS n_a1_aE nin0)).keep K57 (ninS n_a1_aT nin0)).other W69 (Or.inl n_a1_aS))
  obtain ⟨T73, X73, e73, st73⟩ := getF X69 hx hZ hown (host := "") (Or.inl (hw _ (List.mem_of_getElem? (i := 24) rfl))) Via.refl e69 f72 (g := (mkF m 88 #[rv a1, iv (0 : Int32), iv (0 : Int32), iv (4 : Int32)] [(.ref a1)])) rfl rfl (hb hby d6_88)
  have P74 : Rch p e below (s₁.setTop (entryFrame m #[(.ref a1), (.int (0 : Int32))] 4)) (T73.setTop (mkF m 91 #[rv a1, iv (0 : Int32), iv (0 : Int32), iv (4 : Int32)] [(.ref aR)])) := fun t k => P71 t (st73 t k)
  have P75 : Rch p e below (s₁.setTop (entryFrame m #[(.ref a1), (.int (0 : Int32))] 4)) (T73.setTop (mkF m 93 #[rv a1, iv (0 : Int32), iv (0 : Int32), iv (4 : Int32)] [(.int (4 : Int32)), (.int (0 : Int32)), (.ref aR)])) := fun t k => P74 t (by
    show Steps p.tables e below (T73.setTop (mkF m 91 #[rv a1, iv (0 : Int32), iv (0 : Int32), iv (4 : Int32)] [(.ref aR)])) t
    refine XS.iloadN X73.here hx rfl (hb hby d6_91) rfl ?_
    refine XS.iloadN X73.here hx rfl (hb hby d6_92) rfl ?_
    exact k)
  have f76 : Arv Z h69 aR kR .int (1 : Int32) [(.int (0 : Int32))] (.int (0 : Int32)) := (((V_aR.keep K38 (ninS n_aR_aE nin0)).keep K57 (ninS n_aR_aT nin0)).other W69 (Ne.symm n_aS_aR))
  have V_o77 := f76
  obtain ⟨co77, Aro77, qo77, So77, Mo77, Ho77, Go77⟩ := V_o77
  have hin78 : ¬ ((0 : Int32) < 0 ∨ co77.slots.size ≤ ((0 : Int32)).toNatClampNeg) := inb_of So77 ⟨by decide, by decide⟩
  obtain ⟨T78, h78, X78, e78, W78, st78⟩ := stI X73 hx hZ e73 Aro77 (j := (0 : Int32)) hin78 (g := (mkF m 93 #[rv a1, iv (0 : Int32), iv (0 : Int32), iv (4 : Int32)] [(.int (4 : Int32)), (.int (0 : Int32)), (.ref aR)])) rfl rfl (hb hby d6_93)
  have V78 : Arv Z h78 aR kR .int (1 : Int32) [(.int (4 : Int32))] (.int (0 : Int32)) := Arv.set Aro77 qo77 So77 Mo77 Ho77 Go77 rfl W78 0 rfl (Nat.le_of_ble_eq_true rfl)
  have P79 : Rch p e below (s₁.setTop (entryFrame m #[(.ref a1), (.int (0 : Int32))] 4)) (T78.setTop (mkF m 94 #[rv a1, iv (0 : Int32), iv (0 : Int32), iv (4 : Int32)] [])) := fun t k => P75 t (st78 t k)
  have N78 := Fr.snoc X78 N69 g_aR
  have P80 : Rch p e below (s₁.setTop (entryFrame m #[(.ref a1), (.int (0 : Int32))] 4)) (T78.setTop (mkF m 96 #[rv a1, iv (0 : Int32), iv (0 : Int32), iv (4 : Int32)] [(.ref a1), (.ref a1)])) := fun t k => P79 t (by
    show Steps p.tables e below (T78.setTop (mkF m 94 #[rv a1, iv (0 : Int32), iv (0 : Int32), iv (4 : Int32)] [])) t
    refine XS.aloadN X78.here hx rfl (hb hby d6_94) rfl rfl ?_
    refine XS.dup X78.here hx rfl (hb hby d6_95) rfl rfl ?_
    exact k)
  have f81 : Fld Z h78 a1 "com/example/kinhash/kinhash/BlockTable" "free" "I" (.int (0 : Int32)) := ((f64.other W69 (Or.inl n_a1_aS)).other W78 (Or.inl n_a1_aR))
  obtain ⟨T82, X82, e82, st82⟩ := getF X78 hx hZ hown (host := "") (Or.inl (hw _ (List.mem_of_getElem? (i := 55) rfl))) Via.refl e78 f81 (g := (mkF m 96 #[rv a1, iv (0 : Int32), iv (0 : Int32), iv (4 : Int32)] [(.ref a1), (.ref a1)])) rfl rfl (hb hby d6_96)
  have P83 : Rch p e below (s₁.setTop (entryFrame m #[(.ref a1), (.int (0 : Int32))] 4)) (T82.setTop (mkF m 99 #[rv a1, iv (0 : Int32), iv (0 : Int32), iv (4 : Int32)] [(.int (0 : Int32)), (.ref a1)])) := fun t k => P80 t (st82 t k)
  have P84 : Rch p e below (s₁.setTop (entryFrame m #[(.ref a1), (.int (0 : Int32))] 4)) (T82.setTop (mkF m 101 #[rv a1, iv (0 : Int32), iv (0 : Int32), iv (4 : Int32)] [(.int (4 : Int32)), (.ref a1)])) := fun t k => P83 t (by
    show Steps p.tables e below (T82.setTop (mkF m 99 #[rv a1, iv (0 : Int32), iv (0 : Int32), iv (4 : Int32)] [(.int (0 : Int32)), (.ref a1)])) t
    refine XS.iloadN X82.here hx rfl (hb hby d6_99) rfl ?_
    refine XS.iadd X82.here hx rfl (hb hby d6_100) rfl ?_
    exact k)
  obtain ⟨T85, h85, X85, e85, W85, st85⟩ := putF X82 hx hZ hown (host := "") (Or.inl (hw _ (List.mem_of_getElem? (i := 55) rfl))) Via.refl e82 f81 ((((E1.keep K38).keep K57).wr W69).wr W78) (Or.inl (hw _ (List.mem_of_getElem? (i := 56) rfl))) (hw _ (List.mem_of_getElem? (i := 3) rfl)) (ty := .int) (by decide) rfl rfl (g := (mkF m 101 #[rv a1, iv (0 : Int32), iv (0 : Int32), iv (4 : Int32)] [(.int (4 : Int32)), (.ref a1)])) rfl rfl (hb hby d6_101)
  have Fw85 := f81.same W85
  have P86 : Rch p e below (s₁.setTop (entryFrame m #[(.ref a1), (.int (0 : Int32))] 4)) (T85.setTop (mkF m 104 #[rv a1, iv (0 : Int32), iv (0 : Int32), iv (4 : Int32)] [])) := fun t k => P84 t (st85 t k)
  have N85 := Fr.snoc X85 N78 g_a1
  have P87 : Rch p e below (s₁.setTop (entryFrame m #[(.ref a1), (.int (0 : Int32))] 4)) (T85.setTop (mkF m 105 #[rv a1, iv (0 : Int32), iv (0 : Int32), iv (4 : Int32)] [(.int (1 : Int32))])) := fun t k => P86 t (by
    show Steps p.tables e below (T85.setTop (mkF m 104 #[rv a1, iv (0 : Int32), iv (0 : Int32), iv (4 : Int32)] [])) t
    refine XS.iconst X85.here hx rfl (hb hby d6_104) ?_
    exact k)
  obtain ⟨fs, hr, hrun, hended, hW, hsame⟩ := X85.leave (v := some (.int (1 : Int32))) (fun h => by rw [Bd.returns] at h; cases h)
  refine ⟨_, _, P87 _ ?_, hrun, hended, _, _, rfl, ?_, ⟨_, rfl⟩, hW, hsame.mono (by decide) (by decide)⟩
  · exact retN X85 hx (t := .boolean) Bd.returns (by simp) (hb hby d6_105) hr
  · show Q_rmMv Z a1 aS aL aR aE aT kS kL kR kE kT rb lb en0 en1 en2 en3 tg0 tg1 tg2 tg3 mk h0 n0 _ T85.heap _
    rw [e85]
    have f88 : Keep h0 h85 [a1, aS, aR, aE, aT] := ((((((Keep.refl h0 [a1, aS, aR, aE, aT]).trans K38 (allS (P := fun x => x ∈ [a1, aS, aR, aE, aT] ∨ h0.size ≤ x) (Or.inl (List.mem_of_getElem? (i := 3) rfl)) all0)).trans K57 (allS (P := fun x => x ∈ [a1, aS, aR, aE, aT] ∨ h0.size ≤ x) (Or.inl (List.mem_of_getElem? (i := 4) rfl)) all0)).wr W69 (Or.inl (List.mem_of_getElem? (i := 1) rfl))).wr W78 (Or.inl (List.mem_of_getElem? (i := 2) rfl))).wr W85 (Or.inl (List.mem_of_getElem? (i := 0) rfl)))
    have f89 : Fld Z h85 a1 "com/example/kinhash/kinhash/BlockTable" "recordBits" "I" (.int rb) := (((((Frb.keep K38 (ninS n_a1_aE nin0)).keep K57 (ninS n_a1_aT nin0)).other W69 (Or.inl n_a1_aS)).other W78 (Or.inl n_a1_aR)).other W85 (Or.inr (slot_ne (Or.inl (hw _ (List.mem_of_getElem? (i := 12) rfl))) (Or.inl (hw _ (List.mem_of_getElem? (i := 56) rfl))) (by decide) (t := .int) (t' := .int) (by decide) (by decide))))
    have f90 : Fld Z h85 a1 "com/example/kinhash/kinhash/BlockTable" "mask" "J" (.long mk) := (((((Fmk.keep K38 (ninS n_a1_aE nin0)).keep K57 (ninS n_a1_aT nin0)).other W69 (Or.inl n_a1_aS)).other W78 (Or.inl n_a1_aR)).other W85 (Or.inr (slot_ne (Or.inr (hw _ (List.mem_of_getElem? (i := 14) rfl))) (Or.inl (hw _ (List.mem_of_getElem? (i := 56) rfl))) (by decide) (t := .long) (t' := .int) (by decide) (by decide))))
    have f91 : Fld Z h85 a1 "com/example/kinhash/kinhash/BlockTable" "lowestBit" "I" (.int lb) := (((((Flb.keep K38 (ninS n_a1_aE nin0)).keep K57 (ninS n_a1_aT nin0)).other W69 (Or.inl n_a1_aS)).other W78 (Or.inl n_a1_aR)).other W85 (Or.inr (slot_ne (Or.inr (hw _ (List.mem_of_getElem? (i := 16) rfl))) (Or.inl (hw _ (List.mem_of_getElem? (i := 56) rfl))) (by decide) (t := .int) (t' := .int) (by decide) (by decide))))
    have f92 : Fld Z h85 a1 "com/example/kinhash/kinhash/BlockTable" "bucketBits" "I" (.int (0 : Int32)) := (((((Fbb.keep K38 (ninS n_a1_aE nin0)).keep K57 (ninS n_a1_aT nin0)).other W69 (Or.inl n_a1_aS)).other W78 (Or.inl n_a1_aR)).other W85 (Or.inr (slot_ne (Or.inl (hw _ (List.mem_of_getElem? (i := 42) rfl))) (Or.inl (hw _ (List.mem_of_getElem? (i := 56) rfl))) (by decide) (t := .int) (t' := .int) (by decide) (by decide))))
    have f93 : Fld Z h85 a1 "com/example/kinhash/kinhash/BlockTable" "start" "[I" (.ref aS) := (((f60.other W69 (Or.inl n_a1_aS)).other W78 (Or.inl n_a1_aR)).other W85 (Or.inr (slot_ne (Or.inl (hw _ (List.mem_of_getElem? (i := 21) rfl))) (Or.inl (hw _ (List.mem_of_getElem? (i := 56) rfl))) (by decide) (t := (.array .int)) (t' := .int) (by decide) (by decide))))
    have f94 : Fld Z h85 a1 "com/example/kinhash/kinhash/BlockTable" "length" "[I" (.ref aL) := (((((Fa_aL.keep K38 (ninS n_a1_aE nin0)).keep K57 (ninS n_a1_aT nin0)).other W69 (Or.inl n_a1_aS)).other W78 (Or.inl n_a1_aR)).other W85 (Or.inr (slot_ne (Or.inl (hw _ (List.mem_of_getElem? (i := 23) rfl))) (Or.inl (hw _ (List.mem_of_getElem? (i := 56) rfl))) (by decide) (t := (.array .int)) (t' := .int) (by decide) (by decide))))
    have f95 : Fld Z h85 a1 "com/example/kinhash/kinhash/BlockTable" "room" "[I" (.ref aR) := ((f72.other W78 (Or.inl n_a1_aR)).other W85 (Or.inr (slot_ne (Or.inl (hw _ (List.mem_of_getElem? (i := 25) rfl))) (Or.inl (hw _ (List.mem_of_getElem? (i := 56) rfl))) (by decide) (t := (.array .int)) (t' := .int) (by decide) (by decide))))
    have f96 : Fld Z h85 a1 "com/example/kinhash/kinhash/BlockTable" "entries" "[I" (.ref aE) := (((((Fa_aE.keep K38 (ninS n_a1_aE nin0)).keep K57 (ninS n_a1_aT nin0)).other W69 (Or.inl n_a1_aS)).other W78 (Or.inl n_a1_aR)).other W85 (Or.inr (slot_ne (Or.inl (hw _ (List.mem_of_getElem? (i := 27) rfl))) (Or.inl (hw _ (List.mem_of_getElem? (i := 56) rfl))) (by decide) (t := (.array .int)) (t' := .int) (by decide) (by decide))))
    have f97 : Fld Z h85 a1 "com/example/kinhash/kinhash/BlockTable" "tags" "[B" (.ref aT) := (((((Fa_aT.keep K38 (ninS n_a1_aE nin0)).keep K57 (ninS n_a1_aT nin0)).other W69 (Or.inl n_a1_aS)).other W78 (Or.inl n_a1_aR)).other W85 (Or.inr (slot_ne (Or.inl (hw _ (List.mem_of_getElem? (i := 30) rfl))) (Or.inl (hw _ (List.mem_of_getElem? (i := 56) rfl))) (by decide) (t := (.array .byte)) (t' := .int) (by decide) (by decide))))
    have f98 : Arv Z h85 aL kL .int (1 : Int32) [(.int (0 : Int32))] (.int (0 : Int32)) := (((((V_aL.keep K38 (ninS n_aL_aE nin0)).keep K57 (ninS n_aL_aT nin0)).other W69 (Ne.symm n_aS_aL)).other W78 n_aL_aR).other W85 (Ne.symm n_a1_aL))
    have f99 : Arv Z h85 aE kE .int (4 : Int32) [(.int en0), (.int en1), (.int en2), (.int en3)] (.int (0 : Int32)) := ((((V38.keep K57 (ninS n_aE_aT nin0)).other W69 (Ne.symm n_aS_aE)).other W78 (Ne.symm n_aR_aE)).other W85 (Ne.symm n_a1_aE))
    have f100 : Arv Z h85 aT kT .byte (4 : Int32) [(.int tg0), (.int tg1), (.int tg2), (.int tg3)] (.int (0 : Int32)) := (((V57.other W69 (Ne.symm n_aS_aT)).other W78 (Ne.symm n_aR_aT)).other W85 (Ne.symm n_a1_aT))
    exact ⟨rfl, N85, f88, (((((E1.keep K38).keep K57).wr W69).wr W78).wr W85), f89, f90, f91, f92, Fw85, f93, f94, f95, f96, f97, ((V69.other W78 n_aS_aR).other W85 (Ne.symm n_a1_aS)), f98, (V78.other W85 (Ne.symm n_a1_aR)), f99, f100⟩
def Q_rmWd0 (Z : State) (a1 : Addr) (p2 : Int32) (aS : Addr) (aL : Addr) (aR : Addr) (aE : Addr) (aT : Addr) (kS : ClassId) (kL : ClassId) (kR : ClassId) (kE : ClassId) (kT : ClassId) (rb : Int32) (lb : Int32) (fr : Int32) (rm : Int32) (en0 : Int32) (en1 : Int32) (en2 : Int32) (en3 : Int32) (tg0 : Int32) (tg1 : Int32) (tg2 : Int32) (tg3 : Int32) (mk : Int64) (h0 : Heap) (n0 : Nat) (v : Option Value) (h : Heap) (L : List Loc) : Prop := v = none ∧ Fr n0 L ∧ Keep h0 h [a1, aE] ∧ (Exa Z h a1 "com/example/kinhash/kinhash/BlockTable") ∧ (Fld Z h a1 "com/example/kinhash/kinhash/BlockTable" "recordBits" "I" (.int p2)) ∧ (Fld Z h a1 "com/example/kinhash/kinhash/BlockTable" "mask" "J" (.long mk)) ∧ (Fld Z h a1 "com/example/kinhash/kinhash/BlockTable" "lowestBit" "I" (.int lb)) ∧ (Fld Z h a1 "com/example/kinhash/kinhash/BlockTable" "bucketBits" "I" (.int (0 : Int32))) ∧ (Fld Z h a1 "com/example/kinhash/kinhash/BlockTable" "free" "I" (.int fr)) ∧ (Fld Z h a1 "com/example/kinhash/kinhash/BlockTable" "start" "[I" (.ref aS)) ∧ (Fld Z h a1 "com/example/kinhash/kinhash/BlockTable" "length" "[I" (.ref aL)) ∧ (Fld Z h a1 "com/example/kinhash/kinhash/BlockTable" "room" "[I" (.ref aR)) ∧ (Fld Z h a1 "com/example/kinhash/kinhash/BlockTable" "entries" "[I" (.ref aE)) ∧ (Fld Z h a1 "com/example/kinhash/kinhash/BlockTable" "tags" "[B" (.ref aT)) ∧ (Arv Z h aE kE .int (4 : Int32) [(.int en0), (.int en1), (.int en2), (.int en3)] (.int (0 : Int32)))
set_option maxRecDepth 65536 in
set_option maxHeartbeats 40000000 in
theorem rmWd0 (l : Launch) (Z : State) (a0 : Array Value) (hw : ∀ d ∈ tables_1, d.before a0 Z = true) (ws : List Jvm.Cond) (a1 : Addr) (p2 : Int32) (aS : Addr) (aL : Addr) (aR : Addr) (aE : Addr) (aT : Addr) (kS : ClassId) (kL : ClassId) (kR : ClassId) (kE : ClassId) (kT : ClassId) (rb : Int32) (lb : Int32) (fr : Int32) (rm : Int32) (en0 : Int32) (en1 : Int32) (en2 : Int32) (en3 : Int32) (tg0 : Int32) (tg1 : Int32) (tg2 : Int32) (tg3 : Int32) (mk : Int64) (h0 : Heap) (n0 : Nat) (Z0 : n0 ≤ h0.size) (E1 : Exa Z h0 a1 "com/example/kinhash/kinhash/BlockTable") (g_a1 : n0 ≤ a1) (g_aS : n0 ≤ aS) (g_aL : n0 ≤ aL) (g_aR : n0 ≤ aR) (g_aE : n0 ≤ aE) (g_aT : n0 ≤ aT) (n_a1_aS : a1 ≠ aS) (n_a1_aL : a1 ≠ aL) (n_a1_aR : a1 ≠ aR) (n_a1_aE : a1 ≠ aE) (n_a1_aT : a1 ≠ aT) (n_aS_aL : aS ≠ aL) (n_aS_aR : aS ≠ aR) (n_aS_aE : aS ≠ aE) (n_aS_aT : aS ≠ aT) (n_aL_aR : aL ≠ aR) (n_aL_aE : aL ≠ aE) (n_aL_aT : aL ≠ aT) (n_aR_aE : aR ≠ aE) (n_aR_aT : aR ≠ aT) (n_aE_aT : aE ≠ aT) (Frb : Fld Z h0 a1 "com/example/kinhash/kinhash/BlockTable" "recordBits" "I" (.int rb)) (Fmk : Fld Z h0 a1 "com/example/kinhash/kinhash/BlockTable" "mask" "J" (.long mk)) (Flb : Fld Z h0 a1 "com/example/kinhash/kinhash/BlockTable" "lowestBit" "I" (.int lb)) (Fbb : Fld Z h0 a1 "com/example/kinhash/kinhash/BlockTable" "bucketBits" "I" (.int (0 : Int32))) (Ffr : Fld Z h0 a1 "com/example/kinhash/kinhash/BlockTable" "free" "I" (.int fr)) (Fa_aS : Fld Z h0 a1 "com/example/kinhash/kinhash/BlockTable" "start" "[I" (.ref aS)) (Fa_aL : Fld Z h0 a1 "com/example/kinhash/kinhash/BlockTable" "length" "[I" (.ref aL)) (Fa_aR : Fld Z h0 a1 "com/example/kinhash/kinhash/BlockTable" "room" "[I" (.ref aR)) (Fa_aE : Fld Z h0 a1 "com/example/kinhash/kinhash/BlockTable" "entries" "[I" (.ref aE)) (Fa_aT : Fld Z h0 a1 "com/example/kinhash/kinhash/BlockTable" "tags" "[B" (.ref aT)) (V_aS : Arv Z h0 aS kS .int (1 : Int32) [(.int (0 : Int32))] (.int (0 : Int32))) (V_aL : Arv Z h0 aL kL .int (1 : Int32) [(.int (0 : Int32))] (.int (0 : Int32))) (V_aR : Arv Z h0 aR kR .int (1 : Int32) [(.int rm)] (.int (0 : Int32))) (V_aE : Arv Z h0 aE kE .int (4 : Int32) [(.int en0), (.int en1), (.int en2), (.int en3)] (.int (0 : Int32))) (V_aT : Arv Z h0 aT kT .byte (4 : Int32) [(.int tg0), (.int tg1), (.int tg2), (.int tg3)] (.int (0 : Int32))) :
    MetFree l (⟨"com/example/kinhash/kinhash/BlockTable", "widenRecords", "(I)V"⟩ : MethodName) (head1 (Jvm.Cond.code (⟨"com/example/kinhash/kinhash/BlockTable", "widenRecords", "(I)V"⟩ : MethodName) prog_4_method_11_code 6 none :: ws) ({ frames := 1, cells := 0, slots := 0, locals := 14 } : Room)) (fun a U => a = #[(.ref a1), (.int p2)] ∧ Z.Warmed39 U.vm ∧ U.heap = h0) (fun _ _ _ _ _ => True) (fun _ U o U' => ∃ v L, o = .returned v ∧ Q_rmWd0 Z a1 p2 aS aL aR aE aT kS kL kR kE kT rb lb fr rm en0 en1 en2 en3 tg0 tg1 tg2 tg3 mk h0 n0 v U'.heap L ∧ FrameEnd U o U' L ({ frames := 1, cells := 0, slots := 0, locals := 14 } : Room).cells ({ frames := 1, cells := 0, slots := 0, locals := 14 } : Room).slots) := by
  refine MetFree.of_bodySF (plainFor_of_name pn_0) hisR ?_
  intro p e s m args below meth c s₁ Bd hml0 hP hK
  obtain ⟨rfl, hZ, hh⟩ := hP
  have hx := Bd.exec
  have hby := Bd.bytes
  have hml : c.maxLocals = 6 := hml0
  have hown : s.vm.findClass "com/example/kinhash/kinhash/BlockTable" = some m.cls := findClass_of_methodNamed Bd.named
  have hnm := (name_of_methodNamed Bd.named Bd.method).1
  have X0 : Stand p l e ({ frames := 1, cells := 0, slots := 0, locals := 14 } : Room) s m #[(.ref a1), (.int p2)] below meth c s₁ [] 0 0 := Stand.of_body Bd
  have e0 : s₁.heap = h0 := by rw [← hh, Bd.state]; rfl
  have N0 := Fr.nil n0
  have P0 : Rch p e below (s₁.setTop (entryFrame m #[(.ref a1), (.int p2)] 6)) (s₁.setTop (mkF m 0 #[rv a1, iv p2, un, un, un, un] [])) := fun t k => castTop (by first | (simp [entryFrame, mkF, argsToLocals, Value.category]; done) | rfl) k
  have P1 : Rch p e below (s₁.setTop (entryFrame m #[(.ref a1), (.int p2)] 6)) (s₁.setTop (mkF m 2 #[rv a1, iv p2, un, un, un, un] [(.ref a1), (.int (1 : Int32))])) := fun t k => P0 t (by
    show Steps p.tables e below (s₁.setTop (mkF m 0 #[rv a1, iv p2, un, un, un, un] [])) t
    refine XS.iconst X0.here hx rfl (hb hby d16_0) ?_
    refine XS.aloadN X0.here hx rfl (hb hby d16_1) rfl rfl ?_
    exact k)
  obtain ⟨T2, X2, e2, st2⟩ := getF X0 hx hZ hown (host := "") (Or.inl (hw _ (List.mem_of_getElem? (i := 11) rfl))) Via.refl e0 Frb (g := (mkF m 2 #[rv a1, iv p2, un, un, un, un] [(.ref a1), (.int (1 : Int32))])) rfl rfl (hb hby d16_2)
  have P3 : Rch p e below (s₁.setTop (entryFrame m #[(.ref a1), (.int p2)] 6)) (T2.setTop (mkF m 5 #[rv a1, iv p2, un, un, un, un] [(.int rb), (.int (1 : Int32))])) := fun t k => P1 t (st2 t k)
  obtain ⟨x4, hx4⟩ : ∃ z : Int32, z = (((1 : Int32) <<< (rb &&& 31)) - (1 : Int32)) := ⟨_, rfl⟩
  have P5 : Rch p e below (s₁.setTop (entryFrame m #[(.ref a1), (.int p2)] 6)) (T2.setTop (mkF m 9 #[rv a1, iv p2, iv x4, un, un, un] [])) := fun t k => P3 t (by
    subst hx4
    show Steps p.tables e below (T2.setTop (mkF m 5 #[rv a1, iv p2, un, un, un, un] [(.int rb), (.int (1 : Int32))])) t
    refine XS.ishl X2.here hx rfl (hb hby d16_5) rfl ?_
    refine XS.iconst X2.here hx rfl (hb hby d16_6) ?_
    refine XS.isub X2.here hx rfl (hb hby d16_7) rfl ?_
    show Steps p.tables e below (T2.setTop (mkF m 8 #[rv a1, iv p2, un, un, un, un] [(.int (((1 : Int32) <<< (rb &&& 31)) - (1 : Int32)))])) t
    refine XS.istoreN X2.here hx rfl (hb hby d16_8) rfl (l' := #[rv a1, iv p2, iv (((1 : Int32) <<< (rb &&& 31)) - (1 : Int32)), un, un, un]) rfl ?_
    exact k)
  have P6 : Rch p e below (s₁.setTop (entryFrame m #[(.ref a1), (.int p2)] 6)) (T2.setTop (mkF m 13 #[rv a1, iv p2, iv x4, iv (0 : Int32), un, un] [(.ref a1), (.int (0 : Int32))])) := fun t k => P5 t (by
    show Steps p.tables e below (T2.setTop (mkF m 9 #[rv a1, iv p2, iv x4, un, un, un] [])) t
    refine XS.iconst X2.here hx rfl (hb hby d16_9) ?_
    refine XS.istoreN X2.here hx rfl (hb hby d16_10) rfl (l' := #[rv a1, iv p2, iv x4, iv (0 : Int32), un, un]) rfl ?_
    refine XS.iloadN X2.here hx rfl (hb hby d16_11) rfl ?_
    show Steps p.tables e below (T2.setTop (mkF m 12 #[rv a1, iv p2, iv x4, iv (0 : Int32), un, un] [(.int (0 : Int32))])) t
    refine XS.aloadN X2.here hx rfl (hb hby d16_12) rfl rfl ?_
    exact k)
  obtain ⟨T7, X7, e7, st7⟩ := getF X2 hx hZ hown (host := "") (Or.inl (hw _ (List.mem_of_getElem? (i := 22) rfl))) Via.refl e2 Fa_aL (g := (mkF m 13 #[rv a1, iv p2, iv x4, iv (0 : Int32), un, un] [(.ref a1), (.int (0 : Int32))])) rfl rfl (hb hby d16_13)
  have P8 : Rch p e below (s₁.setTop (entryFrame m #[(.ref a1), (.int p2)] 6)) (T7.setTop (mkF m 16 #[rv a1, iv p2, iv x4, iv (0 : Int32), un, un] [(.ref aL), (.int (0 : Int32))])) := fun t k => P6 t (st7 t k)
  have V_o9 := V_aL
  obtain ⟨co9, Aro9, qo9, So9, Mo9, Ho9, Go9⟩ := V_o9
  have P10 : Rch p e below (s₁.setTop (entryFrame m #[(.ref a1), (.int p2)] 6)) (T7.setTop (mkF m 17 #[rv a1, iv p2, iv x4, iv (0 : Int32), un, un] [(.int (1 : Int32)), (.int (0 : Int32))])) := fun t k => P8 t (by
    refine X7.arraylength hx (by rw [e7]; exact Aro9.1) (State.isArrayOf_alike hZ.alike Aro9.2.1) (g := (mkF m 16 #[rv a1, iv p2, iv x4, iv (0 : Int32), un, un] [(.ref aL), (.int (0 : Int32))])) rfl rfl (hb hby d16_16) _ ?_
    rw [len_of So9 Mo9]; exact k)
  have P11 : Rch p e below (s₁.setTop (entryFrame m #[(.ref a1), (.int p2)] 6)) (T7.setTop (mkF m 21 #[rv a1, iv p2, iv x4, iv (0 : Int32), un, un] [(.ref a1)])) := fun t k => P10 t (by
    show Steps p.tables e below (T7.setTop (mkF m 17 #[rv a1, iv p2, iv x4, iv (0 : Int32), un, un] [(.int (1 : Int32)), (.int (0 : Int32))])) t
    refine XS.icmpNo X7.here hx rfl (hb hby d16_17) rfl (tlt (by decide)).2.1 ?_
    refine XS.aloadN X7.here hx rfl (hb hby d16_20) rfl rfl ?_
    exact k)
  obtain ⟨T12, X12, e12, st12⟩ := getF X7 hx hZ hown (host := "") (Or.inl (hw _ (List.mem_of_getElem? (i := 20) rfl))) Via.refl e7 Fa_aS (g := (mkF m 21 #[rv a1, iv p2, iv x4, iv (0 : Int32), un, un] [(.ref a1)])) rfl rfl (hb hby d16_21)
  have P13 : Rch p e below (s₁.setTop (entryFrame m #[(.ref a1), (.int p2)] 6)) (T12.setTop (mkF m 24 #[rv a1, iv p2, iv x4, iv (0 : Int32), un, un] [(.ref aS)])) := fun t k => P11 t (st12 t k)
  have P14 : Rch p e below (s₁.setTop (entryFrame m #[(.ref a1), (.int p2)] 6)) (T12.setTop (mkF m 25 #[rv a1, iv p2, iv x4, iv (0 : Int32), un, un] [(.int (0 : Int32)), (.ref aS)])) := fun t k => P13 t (by
    show Steps p.tables e below (T12.setTop (mkF m 24 #[rv a1, iv p2, iv x4, iv (0 : Int32), un, un] [(.ref aS)])) t
    refine XS.iloadN X12.here hx rfl (hb hby d16_24) rfl ?_
    exact k)
  have V_o15 := V_aS
  obtain ⟨co15, Aro15, qo15, So15, Mo15, Ho15, Go15⟩ := V_o15
  have hin16 : ¬ ((0 : Int32) < 0 ∨ co15.slots.size ≤ ((0 : Int32)).toNatClampNeg) := inb_of So15 ⟨by decide, by decide⟩
  have hat16 : co15.slots[((0 : Int32)).toNatClampNeg]? = some (.int (0 : Int32)) := Has.at Ho15 hin16 rfl
  have P17 : Rch p e below (s₁.setTop (entryFrame m #[(.ref a1), (.int p2)] 6)) (T12.setTop (mkF m 26 #[rv a1, iv p2, iv x4, iv (0 : Int32), un, un] [(.int (0 : Int32))])) := fun t k => P14 t (X12.iaload hx (j := (0 : Int32)) (v := (.int (0 : Int32))) (by rw [e12]; exact Aro15.1) (State.isArrayOf_alike hZ.alike Aro15.2.1) Aro15.2.2 hin16 hat16 (g := (mkF m 25 #[rv a1, iv p2, iv x4, iv (0 : Int32), un, un] [(.int (0 : Int32)), (.ref aS)])) rfl rfl (hb hby d16_25) t k)
  have P18 : Rch p e below (s₁.setTop (entryFrame m #[(.ref a1), (.int p2)] 6)) (T12.setTop (mkF m 32 #[rv a1, iv p2, iv x4, iv (0 : Int32), iv (0 : Int32), un] [(.int (0 : Int32)), (.ref a1), (.int (0 : Int32))])) := fun t k => P17 t (by
    show Steps p.tables e below (T12.setTop (mkF m 26 #[rv a1, iv p2, iv x4, iv (0 : Int32), un, un] [(.int (0 : Int32))])) t
    refine XS.istore X12.here hx rfl (hb hby d16_26) rfl (l' := #[rv a1, iv p2, iv x4, iv (0 : Int32), iv (0 : Int32), un]) rfl ?_
    refine XS.iload X12.here hx rfl (hb hby d16_28) rfl ?_
    refine XS.aloadN X12.here hx rfl (hb hby d16_30) rfl rfl ?_
    show Steps p.tables e below (T12.setTop (mkF m 31 #[rv a1, iv p2, iv x4, iv (0 : Int32), iv (0 : Int32), un] [(.ref a1), (.int (0 : Int32))])) t
    refine XS.iloadN X12.here hx rfl (hb hby d16_31) rfl ?_
    exact k)
  obtain ⟨cq19, kq19, q19a, q19b, q19c⟩ := isOf hZ e12 E1
  obtain ⟨_, _, ⟨T19, L19, k19, n19⟩, -, X19, ⟨Lc19, hQ19, l19, y19, z19⟩, st19⟩ := X12.virtualBack hx (y := (⟨"com/example/kinhash/kinhash/BlockTable", "end", "(I)I"⟩ : MethodName)) (z := (⟨"com/example/kinhash/kinhash/BlockTable", "end", "(I)I"⟩ : MethodName)) hown (mvT hZ (hw _ (List.mem_of_getElem? (i := 61) rfl))) (mvT hZ (hw _ (List.mem_of_getElem? (i := 62) rfl))) (notFace_of_selects (args := #[]) (mvT hZ (hw _ (List.mem_of_getElem? (i := 64) rfl)))) (mvT hZ (hw _ (List.mem_of_getElem? (i := 64) rfl))) (mvT hZ (hw _ (List.mem_of_getElem? (i := 63) rfl))) (by decide) (backOf (W := 1) (rmE l Z a0 hw [] a1 aS kS aL kL (0 : Int32) (0 : Int32) h0 n0 Z0 Fa_aS Fa_aL V_aS V_aL) hZ (hw _ (List.mem_of_getElem? (i := 65) rfl)) (hw _ (List.mem_of_getElem? (i := 4) rfl)) (by decide) (by decide)) q19a q19c (g := (mkF m 32 #[rv a1, iv p2, iv x4, iv (0 : Int32), iv (0 : Int32), un] [(.int (0 : Int32)), (.ref a1), (.int (0 : Int32))])) rfl (by rw [hml]; rfl) (Steps.refl _) (argsL := [(.int (0 : Int32))]) (rest := [(.int (0 : Int32))]) (lenOf pd_3 rfl) rfl (by show 2 * 0 + _ ≤ _; exact Nat.le_of_eq rfl) (hb hby d16_32) (fun _ _ => ⟨rfl, e12, (by decide : 0 + 0 ≤ _), (by decide : 0 + 0 ≤ _)⟩)
  dsimp only [Pt.U, Pt.locs, Pt.cells, Pt.slots] at X19 l19 y19 z19 st19 hQ19
  subst y19 z19
  obtain ⟨rfl, N19q, e19⟩ := hQ19
  have N19 : Fr n0 L19 := by rw [l19]; exact Fr.app N0 N19q
  have P20 : Rch p e below (s₁.setTop (entryFrame m #[(.ref a1), (.int p2)] 6)) (T19.setTop (mkF m 35 #[rv a1, iv p2, iv x4, iv (0 : Int32), iv (0 : Int32), un] [(.int (0 : Int32)), (.int (0 : Int32))])) := fun t k => P18 t (st19.trans k)
  have P21 : Rch p e below (s₁.setTop (entryFrame m #[(.ref a1), (.int p2)] 6)) (T19.setTop (mkF m 13 #[rv a1, iv p2, iv x4, iv (1 : Int32), iv (0 : Int32), un] [(.ref a1), (.int (1 : Int32))])) := fun t k => P20 t (by
    show Steps p.tables e below (T19.setTop (mkF m 35 #[rv a1, iv p2, iv x4, iv (0 : Int32), iv (0 : Int32), un] [(.int (0 : Int32)), (.int (0 : Int32))])) t
    refine XS.icmpYes X19.here hx rfl (pc0 := 35) (pc' := 74) rfl (hb hby d16_35) rfl (flt (by decide)).2.1 (by decide) (by decide) ?_
    refine XS.iinc X19.here hx rfl (hb hby d16_74) rfl (l' := #[rv a1, iv p2, iv x4, iv (1 : Int32), iv (0 : Int32), un]) rfl ?_
    refine XS.goto X19.here hx rfl (pc0 := 77) (pc' := 11) rfl (hb hby d16_77) (by decide) (by decide) ?_
    show Steps p.tables e below (T19.setTop (mkF m 11 #[rv a1, iv p2, iv x4, iv (1 : Int32), iv (0 : Int32), un] [])) t
    refine XS.iloadN X19.here hx rfl (hb hby d16_11) rfl ?_
    refine XS.aloadN X19.here hx rfl (hb hby d16_12) rfl rfl ?_
    exact k)
  obtain ⟨T22, X22, e22, st22⟩ := getF X19 hx hZ hown (host := "") (Or.inl (hw _ (List.mem_of_getElem? (i := 22) rfl))) Via.refl e19 Fa_aL (g := (mkF m 13 #[rv a1, iv p2, iv x4, iv (1 : Int32), iv (0 : Int32), un] [(.ref a1), (.int (1 : Int32))])) rfl rfl (hb hby d16_13)
  have P23 : Rch p e below (s₁.setTop (entryFrame m #[(.ref a1), (.int p2)] 6)) (T22.setTop (mkF m 16 #[rv a1, iv p2, iv x4, iv (1 : Int32), iv (0 : Int32), un] [(.ref aL), (.int (1 : Int32))])) := fun t k => P21 t (st22 t k)
  have V_o24 := V_aL
  obtain ⟨co24, Aro24, qo24, So24, Mo24, Ho24, Go24⟩ := V_o24
  have P25 : Rch p e below (s₁.setTop (entryFrame m #[(.ref a1), (.int p2)] 6)) (T22.setTop (mkF m 17 #[rv a1, iv p2, iv x4, iv (1 : Int32), iv (0 : Int32), un] [(.int (1 : Int32)), (.int (1 : Int32))])) := fun t k => P23 t (by
    refine X22.arraylength hx (by rw [e22]; exact Aro24.1) (State.isArrayOf_alike hZ.alike Aro24.2.1) (g := (mkF m 16 #[rv a1, iv p2, iv x4, iv (1 : Int32), iv (0 : Int32), un] [(.ref aL), (.int (1 : Int32))])) rfl rfl (hb hby d16_16) _ ?_
    rw [len_of So24 Mo24]; exact k)
  have P26 : Rch p e below (s₁.setTop (entryFrame m #[(.ref a1), (.int p2)] 6)) (T22.setTop (mkF m 82 #[rv a1, iv p2, iv x4, iv (1 : Int32), iv (0 : Int32), un] [(.int p2), (.ref a1)])) := fun t k => P25 t (by
    show Steps p.tables e below (T22.setTop (mkF m 17 #[rv a1, iv p2, iv x4, iv (1 : Int32), iv (0 : Int32), un] [(.int (1 : Int32)), (.int (1 : Int32))])) t
    refine XS.icmpYes X22.here hx rfl (pc0 := 17) (pc' := 80) rfl (hb hby d16_17) rfl (flt (by decide)).2.1 (by decide) (by decide) ?_
    refine XS.aloadN X22.here hx rfl (hb hby d16_80) rfl rfl ?_
    refine XS.iloadN X22.here hx rfl (hb hby d16_81) rfl ?_
    exact k)
  obtain ⟨T27, h27, X27, e27, W27, st27⟩ := putF X22 hx hZ hown (host := "") (Or.inl (hw _ (List.mem_of_getElem? (i := 11) rfl))) Via.refl e22 Frb E1 (Or.inl (hw _ (List.mem_of_getElem? (i := 12) rfl))) (hw _ (List.mem_of_getElem? (i := 3) rfl)) (ty := .int) (by decide) rfl rfl (g := (mkF m 82 #[rv a1, iv p2, iv x4, iv (1 : Int32), iv (0 : Int32), un] [(.int p2), (.ref a1)])) rfl rfl (hb hby d16_82)
  have Fw27 := Frb.same W27
  have P28 : Rch p e below (s₁.setTop (entryFrame m #[(.ref a1), (.int p2)] 6)) (T27.setTop (mkF m 85 #[rv a1, iv p2, iv x4, iv (1 : Int32), iv (0 : Int32), un] [])) := fun t k => P26 t (st27 t k)
  have N27 := Fr.snoc X27 N19 g_a1
  obtain ⟨fs, hr, hrun, hended, hW, hsame⟩ := X27.leave (v := none) (fun _ => rfl)
  refine ⟨_, _, P28 _ ?_, hrun, hended, _, _, rfl, ?_, ⟨_, rfl⟩, hW, hsame.mono (by decide) (by decide)⟩
  · exact X27.returnOut hx Bd.returns (hb hby d16_85) hr
  · show Q_rmWd0 Z a1 p2 aS aL aR aE aT kS kL kR kE kT rb lb fr rm en0 en1 en2 en3 tg0 tg1 tg2 tg3 mk h0 n0 _ T27.heap _
    rw [e27]
    have f29 : Keep h0 h27 [a1, aE] := ((Keep.refl h0 [a1, aE]).wr W27 (Or.inl (List.mem_of_getElem? (i := 0) rfl)))
    have f30 : Fld Z h27 a1 "com/example/kinhash/kinhash/BlockTable" "mask" "J" (.long mk) := (Fmk.other W27 (Or.inr (slot_ne (Or.inr (hw _ (List.mem_of_getElem? (i := 14) rfl))) (Or.inl (hw _ (List.mem_of_getElem? (i := 12) rfl))) (by decide) (t := .long) (t' := .int) (by decide) (by decide))))
    have f31 : Fld Z h27 a1 "com/example/kinhash/kinhash/BlockTable" "lowestBit" "I" (.int lb) := (Flb.other W27 (Or.inr (slot_ne (Or.inr (hw _ (List.mem_of_getElem? (i := 16) rfl))) (Or.inl (hw _ (List.mem_of_getElem? (i := 12) rfl))) (by decide) (t := .int) (t' := .int) (by decide) (by decide))))
    have f32 : Fld Z h27 a1 "com/example/kinhash/kinhash/BlockTable" "bucketBits" "I" (.int (0 : Int32)) := (Fbb.other W27 (Or.inr (slot_ne (Or.inl (hw _ (List.mem_of_getElem? (i := 42) rfl))) (Or.inl (hw _ (List.mem_of_getElem? (i := 12) rfl))) (by decide) (t := .int) (t' := .int) (by decide) (by decide))))
    have f33 : Fld Z h27 a1 "com/example/kinhash/kinhash/BlockTable" "free" "I" (.int fr) := (Ffr.other W27 (Or.inr (slot_ne (Or.inl (hw _ (List.mem_of_getElem? (i := 56) rfl))) (Or.inl (hw _ (List.mem_of_getElem? (i := 12) rfl))) (by decide) (t := .int) (t' := .int) (by decide) (by decide))))
    have f34 : Fld Z h27 a1 "com/example/kinhash/kinhash/BlockTable" "start" "[I" (.ref aS) := (Fa_aS.other W27 (Or.inr (slot_ne (Or.inl (hw _ (List.mem_of_getElem? (i := 21) rfl))) (Or.inl (hw _ (List.mem_of_getElem? (i := 12) rfl))) (by decide) (t := (.array .int)) (t' := .int) (by decide) (by decide))))
    have f35 : Fld Z h27 a1 "com/example/kinhash/kinhash/BlockTable" "length" "[I" (.ref aL) := (Fa_aL.other W27 (Or.inr (slot_ne (Or.inl (hw _ (List.mem_of_getElem? (i := 23) rfl))) (Or.inl (hw _ (List.mem_of_getElem? (i := 12) rfl))) (by decide) (t := (.array .int)) (t' := .int) (by decide) (by decide))))
    have f36 : Fld Z h27 a1 "com/example/kinhash/kinhash/BlockTable" "room" "[I" (.ref aR) := (Fa_aR.other W27 (Or.inr (slot_ne (Or.inl (hw _ (List.mem_of_getElem? (i := 25) rfl))) (Or.inl (hw _ (List.mem_of_getElem? (i := 12) rfl))) (by decide) (t := (.array .int)) (t' := .int) (by decide) (by decide))))
    have f37 : Fld Z h27 a1 "com/example/kinhash/kinhash/BlockTable" "entries" "[I" (.ref aE) := (Fa_aE.other W27 (Or.inr (slot_ne (Or.inl (hw _ (List.mem_of_getElem? (i := 27) rfl))) (Or.inl (hw _ (List.mem_of_getElem? (i := 12) rfl))) (by decide) (t := (.array .int)) (t' := .int) (by decide) (by decide))))
    have f38 : Fld Z h27 a1 "com/example/kinhash/kinhash/BlockTable" "tags" "[B" (.ref aT) := (Fa_aT.other W27 (Or.inr (slot_ne (Or.inl (hw _ (List.mem_of_getElem? (i := 30) rfl))) (Or.inl (hw _ (List.mem_of_getElem? (i := 12) rfl))) (by decide) (t := (.array .byte)) (t' := .int) (by decide) (by decide))))
    exact ⟨rfl, N27, f29, (E1.wr W27), Fw27, f30, f31, f32, f33, f34, f35, f36, f37, f38, (by subst hx4; exact (V_aE.other W27 (Ne.symm n_a1_aE)))⟩
def Q_rmWd1 (Z : State) (a1 : Addr) (p2 : Int32) (aS : Addr) (aL : Addr) (aR : Addr) (aE : Addr) (aT : Addr) (kS : ClassId) (kL : ClassId) (kR : ClassId) (kE : ClassId) (kT : ClassId) (rb : Int32) (lb : Int32) (fr : Int32) (rm : Int32) (en0 : Int32) (en1 : Int32) (en2 : Int32) (en3 : Int32) (tg0 : Int32) (tg1 : Int32) (tg2 : Int32) (tg3 : Int32) (mk : Int64) (h0 : Heap) (n0 : Nat) (v : Option Value) (h : Heap) (L : List Loc) : Prop := v = none ∧ Fr n0 L ∧ Keep h0 h [a1, aE] ∧ (Exa Z h a1 "com/example/kinhash/kinhash/BlockTable") ∧ (Fld Z h a1 "com/example/kinhash/kinhash/BlockTable" "recordBits" "I" (.int p2)) ∧ (Fld Z h a1 "com/example/kinhash/kinhash/BlockTable" "mask" "J" (.long mk)) ∧ (Fld Z h a1 "com/example/kinhash/kinhash/BlockTable" "lowestBit" "I" (.int lb)) ∧ (Fld Z h a1 "com/example/kinhash/kinhash/BlockTable" "bucketBits" "I" (.int (0 : Int32))) ∧ (Fld Z h a1 "com/example/kinhash/kinhash/BlockTable" "free" "I" (.int fr)) ∧ (Fld Z h a1 "com/example/kinhash/kinhash/BlockTable" "start" "[I" (.ref aS)) ∧ (Fld Z h a1 "com/example/kinhash/kinhash/BlockTable" "length" "[I" (.ref aL)) ∧ (Fld Z h a1 "com/example/kinhash/kinhash/BlockTable" "room" "[I" (.ref aR)) ∧ (Fld Z h a1 "com/example/kinhash/kinhash/BlockTable" "entries" "[I" (.ref aE)) ∧ (Fld Z h a1 "com/example/kinhash/kinhash/BlockTable" "tags" "[B" (.ref aT)) ∧ (Arv Z h aE kE .int (4 : Int32) [(.int (own_wid rb p2 en0)), (.int en1), (.int en2), (.int en3)] (.int (0 : Int32)))
set_option maxRecDepth 65536 in
set_option maxHeartbeats 40000000 in
theorem rmWd1 (l : Launch) (Z : State) (a0 : Array Value) (hw : ∀ d ∈ tables_1, d.before a0 Z = true) (ws : List Jvm.Cond) (a1 : Addr) (p2 : Int32) (aS : Addr) (aL : Addr) (aR : Addr) (aE : Addr) (aT : Addr) (kS : ClassId) (kL : ClassId) (kR : ClassId) (kE : ClassId) (kT : ClassId) (rb : Int32) (lb : Int32) (fr : Int32) (rm : Int32) (en0 : Int32) (en1 : Int32) (en2 : Int32) (en3 : Int32) (tg0 : Int32) (tg1 : Int32) (tg2 : Int32) (tg3 : Int32) (mk : Int64) (h0 : Heap) (n0 : Nat) (Z0 : n0 ≤ h0.size) (E1 : Exa Z h0 a1 "com/example/kinhash/kinhash/BlockTable") (g_a1 : n0 ≤ a1) (g_aS : n0 ≤ aS) (g_aL : n0 ≤ aL) (g_aR : n0 ≤ aR) (g_aE : n0 ≤ aE) (g_aT : n0 ≤ aT) (n_a1_aS : a1 ≠ aS) (n_a1_aL : a1 ≠ aL) (n_a1_aR : a1 ≠ aR) (n_a1_aE : a1 ≠ aE) (n_a1_aT : a1 ≠ aT) (n_aS_aL : aS ≠ aL) (n_aS_aR : aS ≠ aR) (n_aS_aE : aS ≠ aE) (n_aS_aT : aS ≠ aT) (n_aL_aR : aL ≠ aR) (n_aL_aE : aL ≠ aE) (n_aL_aT : aL ≠ aT) (n_aR_aE : aR ≠ aE) (n_aR_aT : aR ≠ aT) (n_aE_aT : aE ≠ aT) (Frb : Fld Z h0 a1 "com/example/kinhash/kinhash/BlockTable" "recordBits" "I" (.int rb)) (Fmk : Fld Z h0 a1 "com/example/kinhash/kinhash/BlockTable" "mask" "J" (.long mk)) (Flb : Fld Z h0 a1 "com/example/kinhash/kinhash/BlockTable" "lowestBit" "I" (.int lb)) (Fbb : Fld Z h0 a1 "com/example/kinhash/kinhash/BlockTable" "bucketBits" "I" (.int (0 : Int32))) (Ffr : Fld Z h0 a1 "com/example/kinhash/kinhash/BlockTable" "free" "I" (.int fr)) (Fa_aS : Fld Z h0 a1 "com/example/kinhash/kinhash/BlockTable" "start" "[I" (.ref aS)) (Fa_aL : Fld Z h0 a1 "com/example/kinhash/kinhash/BlockTable" "length" "[I" (.ref aL)) (Fa_aR : Fld Z h0 a1 "com/example/kinhash/kinhash/BlockTable" "room" "[I" (.ref aR)) (Fa_aE : Fld Z h0 a1 "com/example/kinhash/kinhash/BlockTable" "entries" "[I" (.ref aE)) (Fa_aT : Fld Z h0 a1 "com/example/kinhash/kinhash/BlockTable" "tags" "[B" (.ref aT)) (V_aS : Arv Z h0 aS kS .int (1 : Int32) [(.int (0 : Int32))] (.int (0 : Int32))) (V_aL : Arv Z h0 aL kL .int (1 : Int32) [(.int (1 : Int32))] (.int (0 : Int32))) (V_aR : Arv Z h0 aR kR .int (1 : Int32) [(.int rm)] (.int (0 : Int32))) (V_aE : Arv Z h0 aE kE .int (4 : Int32) [(.int en0), (.int en1), (.int en2), (.int en3)] (.int (0 : Int32))) (V_aT : Arv Z h0 aT kT .byte (4 : Int32) [(.int tg0), (.int tg1), (.int tg2), (.int tg3)] (.int (0 : Int32))) :
    MetFree l (⟨"com/example/kinhash/kinhash/BlockTable", "widenRecords", "(I)V"⟩ : MethodName) (head1 (Jvm.Cond.code (⟨"com/example/kinhash/kinhash/BlockTable", "widenRecords", "(I)V"⟩ : MethodName) prog_4_method_11_code 6 none :: ws) ({ frames := 1, cells := 0, slots := 0, locals := 14 } : Room)) (fun a U => a = #[(.ref a1), (.int p2)] ∧ Z.Warmed39 U.vm ∧ U.heap = h0) (fun _ _ _ _ _ => True) (fun _ U o U' => ∃ v L, o = .returned v ∧ Q_rmWd1 Z a1 p2 aS aL aR aE aT kS kL kR kE kT rb lb fr rm en0 en1 en2 en3 tg0 tg1 tg2 tg3 mk h0 n0 v U'.heap L ∧ FrameEnd U o U' L ({ frames := 1, cells := 0, slots := 0, locals := 14 } : Room).cells ({ frames := 1, cells := 0, slots := 0, locals := 14 } : Room).slots) := by
  refine MetFree.of_bodySF (plainFor_of_name pn_0) hisR ?_
  intro p e s m args below meth c s₁ Bd hml0 hP hK
  obtain ⟨rfl, hZ, hh⟩ := hP
  have hx := Bd.exec
  have hby := Bd.bytes
  have hml : c.maxLocals = 6 := hml0
  have hown : s.vm.findClass "com/example/kinhash/kinhash/BlockTable" = some m.cls := findClass_of_methodNamed Bd.named
  have hnm := (name_of_methodNamed Bd.named Bd.method).1
  have X0 : Stand p l e ({ frames := 1, cells := 0, slots := 0, locals := 14 } : Room) s m #[(.ref a1), (.int p2)] below meth c s₁ [] 0 0 := Stand.of_body Bd
  have e0 : s₁.heap = h0 := by rw [← hh, Bd.state]; rfl
  have N0 := Fr.nil n0
  have P0 : Rch p e below (s₁.setTop (entryFrame m #[(.ref a1), (.int p2)] 6)) (s₁.setTop (mkF m 0 #[rv a1, iv p2, un, un, un, un] [])) := fun t k => castTop (by first | (simp [entryFrame, mkF, argsToLocals, Value.category]; done) | rfl) k
  have P1 : Rch p e below (s₁.setTop (entryFrame m #[(.ref a1), (.int p2)] 6)) (s₁.setTop (mkF m 2 #[rv a1, iv p2, un, un, un, un] [(.ref a1), (.int (1 : Int32))])) := fun t k => P0 t (by
    show Steps p.tables e below (s₁.setTop (mkF m 0 #[rv a1, iv p2, un, un, un, un] [])) t
    refine XS.iconst X0.here hx rfl (hb hby d16_0) ?_
    refine XS.aloadN X0.here hx rfl (hb hby d16_1) rfl rfl ?_
    exact k)
  obtain ⟨T2, X2, e2, st2⟩ := getF X0 hx hZ hown (host := "") (Or.inl (hw _ (List.mem_of_getElem? (i := 11) rfl))) Via.refl e0 Frb (g := (mkF m 2 #[rv a1, iv p2, un, un, un, un] [(.ref a1), (.int (1 : Int32))])) rfl rfl (hb hby d16_2)
  have P3 : Rch p e below (s₁.setTop (entryFrame m #[(.ref a1), (.int p2)] 6)) (T2.setTop (mkF m 5 #[rv a1, iv p2, un, un, un, un] [(.int rb), (.int (1 : Int32))])) := fun t k => P1 t (st2 t k)
  obtain ⟨x4, hx4⟩ : ∃ z : Int32, z = (((1 : Int32) <<< (rb &&& 31)) - (1 : Int32)) := ⟨_, rfl⟩
  have P5 : Rch p e below (s₁.setTop (entryFrame m #[(.ref a1), (.int p2)] 6)) (T2.setTop (mkF m 9 #[rv a1, iv p2, iv x4, un, un, un] [])) := fun t k => P3 t (by
    subst hx4
    show Steps p.tables e below (T2.setTop (mkF m 5 #[rv a1, iv p2, un, un, un, un] [(.int rb), (.int (1 : Int32))])) t
    refine XS.ishl X2.here hx rfl (hb hby d16_5) rfl ?_
    refine XS.iconst X2.here hx rfl (hb hby d16_6) ?_
    refine XS.isub X2.here hx rfl (hb hby d16_7) rfl ?_
    show Steps p.tables e below (T2.setTop (mkF m 8 #[rv a1, iv p2, un, un, un, un] [(.int (((1 : Int32) <<< (rb &&& 31)) - (1 : Int32)))])) t
    refine XS.istoreN X2.here hx rfl (hb hby d16_8) rfl (l' := #[rv a1, iv p2, iv (((1 : Int32) <<< (rb &&& 31)) - (1 : Int32)), un, un, un]) rfl ?_
    exact k)
  have P6 : Rch p e below (s₁.setTop (entryFrame m #[(.ref a1), (.int p2)] 6)) (T2.setTop (mkF m 13 #[rv a1, iv p2, iv x4, iv (0 : Int32), un, un] [(.ref a1), (.int (0 : Int32))])) := fun t k => P5 t (by
    show Steps p.tables e below (T2.setTop (mkF m 9 #[rv a1, iv p2, iv x4, un, un, un] [])) t
    refine XS.iconst X2.here hx rfl (hb hby d16_9) ?_
    refine XS.istoreN X2.here hx rfl (hb hby d16_10) rfl (l' := #[rv a1, iv p2, iv x4, iv (0 : Int32), un, un]) rfl ?_
    refine XS.iloadN X2.here hx rfl (hb hby d16_11) rfl ?_
    show Steps p.tables e below (T2.setTop (mkF m 12 #[rv a1, iv p2, iv x4, iv (0 : Int32), un, un] [(.int (0 : Int32))])) t
    refine XS.aloadN X2.here hx rfl (hb hby d16_12) rfl rfl ?_
    exact k)
  obtain ⟨T7, X7, e7, st7⟩ := getF X2 hx hZ hown (host := "") (Or.inl (hw _ (List.mem_of_getElem? (i := 22) rfl))) Via.refl e2 Fa_aL (g := (mkF m 13 #[rv a1, iv p2, iv x4, iv (0 : Int32), un, un] [(.ref a1), (.int (0 : Int32))])) rfl rfl (hb hby d16_13)
  have P8 : Rch p e below (s₁.setTop (entryFrame m #[(.ref a1), (.int p2)] 6)) (T7.setTop (mkF m 16 #[rv a1, iv p2, iv x4, iv (0 : Int32), un, un] [(.ref aL), (.int (0 : Int32))])) := fun t k => P6 t (st7 t k)
  have V_o9 := V_aL
  obtain ⟨co9, Aro9, qo9, So9, Mo9, Ho9, Go9⟩ := V_o9
  have P10 : Rch p e below (s₁.setTop (entryFrame m #[(.ref a1), (.int p2)] 6)) (T7.setTop (mkF m 17 #[rv a1, iv p2, iv x4, iv (0 : Int32), un, un] [(.int (1 : Int32)), (.int (0 : Int32))])) := fun t k => P8 t (by
    refine X7.arraylength hx (by rw [e7]; exact Aro9.1) (State.isArrayOf_alike hZ.alike Aro9.2.1) (g := (mkF m 16 #[rv a1, iv p2, iv x4, iv (0 : Int32), un, un] [(.ref aL), (.int (0 : Int32))])) rfl rfl (hb hby d16_16) _ ?_
    rw [len_of So9 Mo9]; exact k)
  have P11 : Rch p e below (s₁.setTop (entryFrame m #[(.ref a1), (.int p2)] 6)) (T7.setTop (mkF m 21 #[rv a1, iv p2, iv x4, iv (0 : Int32), un, un] [(.ref a1)])) := fun t k => P10 t (by
    show Steps p.tables e below (T7.setTop (mkF m 17 #[rv a1, iv p2, iv x4, iv (0 : Int32), un, un] [(.int (1 : Int32)), (.int (0 : Int32))])) t
    refine XS.icmpNo X7.here hx rfl (hb hby d16_17) rfl (tlt (by decide)).2.1 ?_
    refine XS.aloadN X7.here hx rfl (hb hby d16_20) rfl rfl ?_
    exact k)
  obtain ⟨T12, X12, e12, st12⟩ := getF X7 hx hZ hown (host := "") (Or.inl (hw _ (List.mem_of_getElem? (i := 20) rfl))) Via.refl e7 Fa_aS (g := (mkF m 21 #[rv a1, iv p2, iv x4, iv (0 : Int32), un, un] [(.ref a1)])) rfl rfl (hb hby d16_21)
  have P13 : Rch p e below (s₁.setTop (entryFrame m #[(.ref a1), (.int p2)] 6)) (T12.setTop (mkF m 24 #[rv a1, iv p2, iv x4, iv (0 : Int32), un, un] [(.ref aS)])) := fun t k => P11 t (st12 t k)
  have P14 : Rch p e below (s₁.setTop (entryFrame m #[(.ref a1), (.int p2)] 6)) (T12.setTop (mkF m 25 #[rv a1, iv p2, iv x4, iv (0 : Int32), un, un] [(.int (0 : Int32)), (.ref aS)])) := fun t k => P13 t (by
    show Steps p.tables e below (T12.setTop (mkF m 24 #[rv a1, iv p2, iv x4, iv (0 : Int32), un, un] [(.ref aS)])) t
    refine XS.iloadN X12.here hx rfl (hb hby d16_24) rfl ?_
    exact k)
  have V_o15 := V_aS
  obtain ⟨co15, Aro15, qo15, So15, Mo15, Ho15, Go15⟩ := V_o15
  have hin16 : ¬ ((0 : Int32) < 0 ∨ co15.slots.size ≤ ((0 : Int32)).toNatClampNeg) := inb_of So15 ⟨by decide, by decide⟩
  have hat16 : co15.slots[((0 : Int32)).toNatClampNeg]? = some (.int (0 : Int32)) := Has.at Ho15 hin16 rfl
  have P17 : Rch p e below (s₁.setTop (entryFrame m #[(.ref a1), (.int p2)] 6)) (T12.setTop (mkF m 26 #[rv a1, iv p2, iv x4, iv (0 : Int32), un, un] [(.int (0 : Int32))])) := fun t k => P14 t (X12.iaload hx (j := (0 : Int32)) (v := (.int (0 : Int32))) (by rw [e12]; exact Aro15.1) (State.isArrayOf_alike hZ.alike Aro15.2.1) Aro15.2.2 hin16 hat16 (g := (mkF m 25 #[rv a1, iv p2, iv x4, iv (0 : Int32), un, un] [(.int (0 : Int32)), (.ref aS)])) rfl rfl (hb hby d16_25) t k)
  have P18 : Rch p e below (s₁.setTop (entryFrame m #[(.ref a1), (.int p2)] 6)) (T12.setTop (mkF m 32 #[rv a1, iv p2, iv x4, iv (0 : Int32), iv (0 : Int32), un] [(.int (0 : Int32)), (.ref a1), (.int (0 : Int32))])) := fun t k => P17 t (by
    show Steps p.tables e below (T12.setTop (mkF m 26 #[rv a1, iv p2, iv x4, iv (0 : Int32), un, un] [(.int (0 : Int32))])) t
    refine XS.istore X12.here hx rfl (hb hby d16_26) rfl (l' := #[rv a1, iv p2, iv x4, iv (0 : Int32), iv (0 : Int32), un]) rfl ?_
    refine XS.iload X12.here hx rfl (hb hby d16_28) rfl ?_
    refine XS.aloadN X12.here hx rfl (hb hby d16_30) rfl rfl ?_
    show Steps p.tables e below (T12.setTop (mkF m 31 #[rv a1, iv p2, iv x4, iv (0 : Int32), iv (0 : Int32), un] [(.ref a1), (.int (0 : Int32))])) t
    refine XS.iloadN X12.here hx rfl (hb hby d16_31) rfl ?_
    exact k)
  obtain ⟨cq19, kq19, q19a, q19b, q19c⟩ := isOf hZ e12 E1
  obtain ⟨_, _, ⟨T19, L19, k19, n19⟩, -, X19, ⟨Lc19, hQ19, l19, y19, z19⟩, st19⟩ := X12.virtualBack hx (y := (⟨"com/example/kinhash/kinhash/BlockTable", "end", "(I)I"⟩ : MethodName)) (z := (⟨"com/example/kinhash/kinhash/BlockTable", "end", "(I)I"⟩ : MethodName)) hown (mvT hZ (hw _ (List.mem_of_getElem? (i := 61) rfl))) (mvT hZ (hw _ (List.mem_of_getElem? (i := 62) rfl))) (notFace_of_selects (args := #[]) (mvT hZ (hw _ (List.mem_of_getElem? (i := 64) rfl)))) (mvT hZ (hw _ (List.mem_of_getElem? (i := 64) rfl))) (mvT hZ (hw _ (List.mem_of_getElem? (i := 63) rfl))) (by decide) (backOf (W := 1) (rmE l Z a0 hw [] a1 aS kS aL kL (0 : Int32) (1 : Int32) h0 n0 Z0 Fa_aS Fa_aL V_aS V_aL) hZ (hw _ (List.mem_of_getElem? (i := 65) rfl)) (hw _ (List.mem_of_getElem? (i := 4) rfl)) (by decide) (by decide)) q19a q19c (g := (mkF m 32 #[rv a1, iv p2, iv x4, iv (0 : Int32), iv (0 : Int32), un] [(.int (0 : Int32)), (.ref a1), (.int (0 : Int32))])) rfl (by rw [hml]; rfl) (Steps.refl _) (argsL := [(.int (0 : Int32))]) (rest := [(.int (0 : Int32))]) (lenOf pd_3 rfl) rfl (by show 2 * 0 + _ ≤ _; exact Nat.le_of_eq rfl) (hb hby d16_32) (fun _ _ => ⟨rfl, e12, (by decide : 0 + 0 ≤ _), (by decide : 0 + 0 ≤ _)⟩)
  dsimp only [Pt.U, Pt.locs, Pt.cells, Pt.slots] at X19 l19 y19 z19 st19 hQ19
  subst y19 z19
  obtain ⟨rfl, N19q, e19⟩ := hQ19
  have N19 : Fr n0 L19 := by rw [l19]; exact Fr.app N0 N19q
  have P20 : Rch p e below (s₁.setTop (entryFrame m #[(.ref a1), (.int p2)] 6)) (T19.setTop (mkF m 35 #[rv a1, iv p2, iv x4, iv (0 : Int32), iv (0 : Int32), un] [(.int (1 : Int32)), (.int (0 : Int32))])) := fun t k => P18 t (st19.trans k)
  have P21 : Rch p e below (s₁.setTop (entryFrame m #[(.ref a1), (.int p2)] 6)) (T19.setTop (mkF m 39 #[rv a1, iv p2, iv x4, iv (0 : Int32), iv (0 : Int32), un] [(.ref a1)])) := fun t k => P20 t (by
    show Steps p.tables e below (T19.setTop (mkF m 35 #[rv a1, iv p2, iv x4, iv (0 : Int32), iv (0 : Int32), un] [(.int (1 : Int32)), (.int (0 : Int32))])) t
    refine XS.icmpNo X19.here hx rfl (hb hby d16_35) rfl (tlt (by decide)).2.1 ?_
    refine XS.aloadN X19.here hx rfl (hb hby d16_38) rfl rfl ?_
    exact k)
  obtain ⟨T22, X22, e22, st22⟩ := getF X19 hx hZ hown (host := "") (Or.inl (hw _ (List.mem_of_getElem? (i := 26) rfl))) Via.refl e19 Fa_aE (g := (mkF m 39 #[rv a1, iv p2, iv x4, iv (0 : Int32), iv (0 : Int32), un] [(.ref a1)])) rfl rfl (hb hby d16_39)
  have P23 : Rch p e below (s₁.setTop (entryFrame m #[(.ref a1), (.int p2)] 6)) (T22.setTop (mkF m 42 #[rv a1, iv p2, iv x4, iv (0 : Int32), iv (0 : Int32), un] [(.ref aE)])) := fun t k => P21 t (st22 t k)
  have P24 : Rch p e below (s₁.setTop (entryFrame m #[(.ref a1), (.int p2)] 6)) (T22.setTop (mkF m 44 #[rv a1, iv p2, iv x4, iv (0 : Int32), iv (0 : Int32), un] [(.int (0 : Int32)), (.ref aE)])) := fun t k => P23 t (by
    show Steps p.tables e below (T22.setTop (mkF m 42 #[rv a1, iv p2, iv x4, iv (0 : Int32), iv (0 : Int32), un] [(.ref aE)])) t
    refine XS.iload X22.here hx rfl (hb hby d16_42) rfl ?_
    exact k)
  have V_o25 := V_aE
  obtain ⟨co25, Aro25, qo25, So25, Mo25, Ho25, Go25⟩ := V_o25
  have hin26 : ¬ ((0 : Int32) < 0 ∨ co25.slots.size ≤ ((0 : Int32)).toNatClampNeg) := inb_of So25 ⟨by decide, by decide⟩
  have hat26 : co25.slots[((0 : Int32)).toNatClampNeg]? = some (.int en0) := Has.at Ho25 hin26 rfl
  have P27 : Rch p e below (s₁.setTop (entryFrame m #[(.ref a1), (.int p2)] 6)) (T22.setTop (mkF m 45 #[rv a1, iv p2, iv x4, iv (0 : Int32), iv (0 : Int32), un] [(.int en0)])) := fun t k => P24 t (X22.iaload hx (j := (0 : Int32)) (v := (.int en0)) (by rw [e22]; exact Aro25.1) (State.isArrayOf_alike hZ.alike Aro25.2.1) Aro25.2.2 hin26 hat26 (g := (mkF m 44 #[rv a1, iv p2, iv x4, iv (0 : Int32), iv (0 : Int32), un] [(.int (0 : Int32)), (.ref aE)])) rfl rfl (hb hby d16_44) t k)
  have P28 : Rch p e below (s₁.setTop (entryFrame m #[(.ref a1), (.int p2)] 6)) (T22.setTop (mkF m 48 #[rv a1, iv p2, iv x4, iv (0 : Int32), iv (0 : Int32), iv en0] [(.ref a1)])) := fun t k => P27 t (by
    show Steps p.tables e below (T22.setTop (mkF m 45 #[rv a1, iv p2, iv x4, iv (0 : Int32), iv (0 : Int32), un] [(.int en0)])) t
    refine XS.istore X22.here hx rfl (hb hby d16_45) rfl (l' := #[rv a1, iv p2, iv x4, iv (0 : Int32), iv (0 : Int32), iv en0]) rfl ?_
    refine XS.aloadN X22.here hx rfl (hb hby d16_47) rfl rfl ?_
    exact k)
  obtain ⟨T29, X29, e29, st29⟩ := getF X22 hx hZ hown (host := "") (Or.inl (hw _ (List.mem_of_getElem? (i := 26) rfl))) Via.refl e22 Fa_aE (g := (mkF m 48 #[rv a1, iv p2, iv x4, iv (0 : Int32), iv (0 : Int32), iv en0] [(.ref a1)])) rfl rfl (hb hby d16_48)
  have P30 : Rch p e below (s₁.setTop (entryFrame m #[(.ref a1), (.int p2)] 6)) (T29.setTop (mkF m 51 #[rv a1, iv p2, iv x4, iv (0 : Int32), iv (0 : Int32), iv en0] [(.ref aE)])) := fun t k => P28 t (st29 t k)
  have P31 : Rch p e below (s₁.setTop (entryFrame m #[(.ref a1), (.int p2)] 6)) (T29.setTop (mkF m 56 #[rv a1, iv p2, iv x4, iv (0 : Int32), iv (0 : Int32), iv en0] [(.ref a1), (.int en0), (.int (0 : Int32)), (.ref aE)])) := fun t k => P30 t (by
    show Steps p.tables e below (T29.setTop (mkF m 51 #[rv a1, iv p2, iv x4, iv (0 : Int32), iv (0 : Int32), iv en0] [(.ref aE)])) t
    refine XS.iload X29.here hx rfl (hb hby d16_51) rfl ?_
    refine XS.iload X29.here hx rfl (hb hby d16_53) rfl ?_
    refine XS.aloadN X29.here hx rfl (hb hby d16_55) rfl rfl ?_
    exact k)
  obtain ⟨T32, X32, e32, st32⟩ := getF X29 hx hZ hown (host := "") (Or.inl (hw _ (List.mem_of_getElem? (i := 11) rfl))) Via.refl e29 Frb (g := (mkF m 56 #[rv a1, iv p2, iv x4, iv (0 : Int32), iv (0 : Int32), iv en0] [(.ref a1), (.int en0), (.int (0 : Int32)), (.ref aE)])) rfl rfl (hb hby d16_56)
  have P33 : Rch p e below (s₁.setTop (entryFrame m #[(.ref a1), (.int p2)] 6)) (T32.setTop (mkF m 59 #[rv a1, iv p2, iv x4, iv (0 : Int32), iv (0 : Int32), iv en0] [(.int rb), (.int en0), (.int (0 : Int32)), (.ref aE)])) := fun t k => P31 t (st32 t k)
  obtain ⟨x34, hx34⟩ : ∃ z : Int32, z = ((((en0.toUInt32 >>> (rb &&& 31).toUInt32).toInt32) <<< (p2 &&& 31)) ||| (en0 &&& x4)) := ⟨_, rfl⟩
  have P35 : Rch p e below (s₁.setTop (entryFrame m #[(.ref a1), (.int p2)] 6)) (T32.setTop (mkF m 67 #[rv a1, iv p2, iv x4, iv (0 : Int32), iv (0 : Int32), iv en0] [(.int x34), (.int (0 : Int32)), (.ref aE)])) := fun t k => P33 t (by
    subst hx34
    show Steps p.tables e below (T32.setTop (mkF m 59 #[rv a1, iv p2, iv x4, iv (0 : Int32), iv (0 : Int32), iv en0] [(.int rb), (.int en0), (.int (0 : Int32)), (.ref aE)])) t
    refine XS.iushr X32.here hx rfl (hb hby d16_59) rfl ?_
    refine XS.iloadN X32.here hx rfl (hb hby d16_60) rfl ?_
    refine XS.ishl X32.here hx rfl (hb hby d16_61) rfl ?_
    show Steps p.tables e below (T32.setTop (mkF m 62 #[rv a1, iv p2, iv x4, iv (0 : Int32), iv (0 : Int32), iv en0] [(.int (((en0.toUInt32 >>> (rb &&& 31).toUInt32).toInt32) <<< (p2 &&& 31))), (.int (0 : Int32)), (.ref aE)])) t
    refine XS.iload X32.here hx rfl (hb hby d16_62) rfl ?_
    refine XS.iloadN X32.here hx rfl (hb hby d16_64) rfl ?_
    refine XS.iand X32.here hx rfl (hb hby d16_65) rfl ?_
    refine XS.ior X32.here hx rfl (hb hby d16_66) rfl ?_
    exact k)
  have V_o36 := V_aE
  obtain ⟨co36, Aro36, qo36, So36, Mo36, Ho36, Go36⟩ := V_o36
  have hin37 : ¬ ((0 : Int32) < 0 ∨ co36.slots.size ≤ ((0 : Int32)).toNatClampNeg) := inb_of So36 ⟨by decide, by decide⟩
  obtain ⟨T37, h37, X37, e37, W37, st37⟩ := stI X32 hx hZ e32 Aro36 (j := (0 : Int32)) hin37 (g := (mkF m 67 #[rv a1, iv p2, iv x4, iv (0 : Int32), iv (0 : Int32), iv en0] [(.int x34), (.int (0 : Int32)), (.ref aE)])) rfl rfl (hb hby d16_67)
  have V37 : Arv Z h37 aE kE .int (4 : Int32) [(.int x34), (.int en1), (.int en2), (.int en3)] (.int (0 : Int32)) := Arv.set Aro36 qo36 So36 Mo36 Ho36 Go36 rfl W37 0 rfl (Nat.le_of_ble_eq_true rfl)
  have P38 : Rch p e below (s₁.setTop (entryFrame m #[(.ref a1), (.int p2)] 6)) (T37.setTop (mkF m 68 #[rv a1, iv p2, iv x4, iv (0 : Int32), iv (0 : Int32), iv en0] [])) := fun t k => P35 t (st37 t k)
  have N37 := Fr.snoc X37 N19 g_aE
  have P39 : Rch p e below (s₁.setTop (entryFrame m #[(.ref a1), (.int p2)] 6)) (T37.setTop (mkF m 32 #[rv a1, iv p2, iv x4, iv (0 : Int32), iv (1 : Int32), iv en0] [(.int (0 : Int32)), (.ref a1), (.int (1 : Int32))])) := fun t k => P38 t (by
    show Steps p.tables e below (T37.setTop (mkF m 68 #[rv a1, iv p2, iv x4, iv (0 : Int32), iv (0 : Int32), iv en0] [])) t
    refine XS.iinc X37.here hx rfl (hb hby d16_68) rfl (l' := #[rv a1, iv p2, iv x4, iv (0 : Int32), iv (1 : Int32), iv en0]) rfl ?_
    refine XS.goto X37.here hx rfl (pc0 := 71) (pc' := 28) rfl (hb hby d16_71) (by decide) (by decide) ?_
    refine XS.iload X37.here hx rfl (hb hby d16_28) rfl ?_
    show Steps p.tables e below (T37.setTop (mkF m 30 #[rv a1, iv p2, iv x4, iv (0 : Int32), iv (1 : Int32), iv en0] [(.int (1 : Int32))])) t
    refine XS.aloadN X37.here hx rfl (hb hby d16_30) rfl rfl ?_
    refine XS.iloadN X37.here hx rfl (hb hby d16_31) rfl ?_
    exact k)
  have f41 : n0 ≤ h37.size := (Nat.le_trans Z0 (Keep.of_wr W37).1)
  obtain ⟨cq40, kq40, q40a, q40b, q40c⟩ := isOf hZ e37 (E1.wr W37)
  obtain ⟨_, _, ⟨T40, L40, k40, n40⟩, -, X40, ⟨Lc40, hQ40, l40, y40, z40⟩, st40⟩ := X37.virtualBack hx (y := (⟨"com/example/kinhash/kinhash/BlockTable", "end", "(I)I"⟩ : MethodName)) (z := (⟨"com/example/kinhash/kinhash/BlockTable", "end", "(I)I"⟩ : MethodName)) hown (mvT hZ (hw _ (List.mem_of_getElem? (i := 61) rfl))) (mvT hZ (hw _ (List.mem_of_getElem? (i := 62) rfl))) (notFace_of_selects (args := #[]) (mvT hZ (hw _ (List.mem_of_getElem? (i := 64) rfl)))) (mvT hZ (hw _ (List.mem_of_getElem? (i := 64) rfl))) (mvT hZ (hw _ (List.mem_of_getElem? (i := 63) rfl))) (by decide) (backOf (W := 1) (rmE l Z a0 hw [] a1 aS kS aL kL (0 : Int32) (1 : Int32) h37 n0 f41 (Fa_aS.other W37 (Or.inl n_a1_aE)) (Fa_aL.other W37 (Or.inl n_a1_aE)) (V_aS.other W37 n_aS_aE) (V_aL.other W37 n_aL_aE)) hZ (hw _ (List.mem_of_getElem? (i := 65) rfl)) (hw _ (List.mem_of_getElem? (i := 4) rfl)) (by decide) (by decide)) q40a q40c (g := (mkF m 32 #[rv a1, iv p2, iv x4, iv (0 : Int32), iv (1 : Int32), iv en0] [(.int (0 : Int32)), (.ref a1), (.int (1 : Int32))])) rfl (by rw [hml]; rfl) (Steps.refl _) (argsL := [(.int (0 : Int32))]) (rest := [(.int (1 : Int32))]) (lenOf pd_3 rfl) rfl (by show 2 * 0 + _ ≤ _; exact Nat.le_of_eq rfl) (hb hby d16_32) (fun _ _ => ⟨rfl, e37, (by decide : 0 + 0 ≤ _), (by decide : 0 + 0 ≤ _)⟩)
  dsimp only [Pt.U, Pt.locs, Pt.cells, Pt.slots] at X40 l40 y40 z40 st40 hQ40
  subst y40 z40
  obtain ⟨rfl, N40q, e40⟩ := hQ40
  have N40 : Fr n0 L40 := by rw [l40]; exact Fr.app N37 N40q
  have P42 : Rch p e below (s₁.setTop (entryFrame m #[(.ref a1), (.int p2)] 6)) (T40.setTop (mkF m 35 #[rv a1, iv p2, iv x4, iv (0 : Int32), iv (1 : Int32), iv en0] [(.int (1 : Int32)), (.int (1 : Int32))])) := fun t k => P39 t (st40.trans k)
  have P43 : Rch p e below (s₁.setTop (entryFrame m #[(.ref a1), (.int p2)] 6)) (T40.setTop (mkF m 13 #[rv a1, iv p2, iv x4, iv (1 : Int32), iv (1 : Int32), iv en0] [(.ref a1), (.int (1 : Int32))])) := fun t k => P42 t (by
    show Steps p.tables e below (T40.setTop (mkF m 35 #[rv a1, iv p2, iv x4, iv (0 : Int32), iv (1 : Int32), iv en0] [(.int (1 : Int32)), (.int (1 : Int32))])) t
    refine XS.icmpYes X40.here hx rfl (pc0 := 35) (pc' := 74) rfl (hb hby d16_35) rfl (flt (by decide)).2.1 (by decide) (by decide) ?_
    refine XS.iinc X40.here hx rfl (hb hby d16_74) rfl (l' := #[rv a1, iv p2, iv x4, iv (1 : Int32), iv (1 : Int32), iv en0]) rfl ?_
    refine XS.goto X40.here hx rfl (pc0 := 77) (pc' := 11) rfl (hb hby d16_77) (by decide) (by decide) ?_
    show Steps p.tables e below (T40.setTop (mkF m 11 #[rv a1, iv p2, iv x4, iv (1 : Int32), iv (1 : Int32), iv en0] [])) t
    refine XS.iloadN X40.here hx rfl (hb hby d16_11) rfl ?_
    refine XS.aloadN X40.here hx rfl (hb hby d16_12) rfl rfl ?_
    exact k)
  obtain ⟨T44, X44, e44, st44⟩ := getF X40 hx hZ hown (host := "") (Or.inl (hw _ (List.mem_of_getElem? (i := 22) rfl))) Via.refl e40 (Fa_aL.other W37 (Or.inl n_a1_aE)) (g := (mkF m 13 #[rv a1, iv p2, iv x4, iv (1 : Int32), iv (1 : Int32), iv en0] [(.ref a1), (.int (1 : Int32))])) rfl rfl (hb hby d16_13)
  have P45 : Rch p e below (s₁.setTop (entryFrame m #[(.ref a1), (.int p2)] 6)) (T44.setTop (mkF m 16 #[rv a1, iv p2, iv x4, iv (1 : Int32), iv (1 : Int32), iv en0] [(.ref aL), (.int (1 : Int32))])) := fun t k => P43 t (st44 t k)
  have V_o46 := (V_aL.other W37 n_aL_aE)
  obtain ⟨co46, Aro46, qo46, So46, Mo46, Ho46, Go46⟩ := V_o46
  have P47 : Rch p e below (s₁.setTop (entryFrame m #[(.ref a1), (.int p2)] 6)) (T44.setTop (mkF m 17 #[rv a1, iv p2, iv x4, iv (1 : Int32), iv (1 : Int32), iv en0] [(.int (1 : Int32)), (.int (1 : Int32))])) := fun t k => P45 t (by
    refine X44.arraylength hx (by rw [e44]; exact Aro46.1) (State.isArrayOf_alike hZ.alike Aro46.2.1) (g := (mkF m 16 #[rv a1, iv p2, iv x4, iv (1 : Int32), iv (1 : Int32), iv en0] [(.ref aL), (.int (1 : Int32))])) rfl rfl (hb hby d16_16) _ ?_
    rw [len_of So46 Mo46]; exact k)
  have P48 : Rch p e below (s₁.setTop (entryFrame m #[(.ref a1), (.int p2)] 6)) (T44.setTop (mkF m 82 #[rv a1, iv p2, iv x4, iv (1 : Int32), iv (1 : Int32), iv en0] [(.int p2), (.ref a1)])) := fun t k => P47 t (by
    show Steps p.tables e below (T44.setTop (mkF m 17 #[rv a1, iv p2, iv x4, iv (1 : Int32), iv (1 : Int32), iv en0] [(.int (1 : Int32)), (.int (1 : Int32))])) t
    refine XS.icmpYes X44.here hx rfl (pc0 := 17) (pc' := 80) rfl (hb hby d16_17) rfl (flt (by decide)).2.1 (by decide) (by decide) ?_
    refine XS.aloadN X44.here hx rfl (hb hby d16_80) rfl rfl ?_
    refine XS.iloadN X44.here hx rfl (hb hby d16_81) rfl ?_
    exact k)
  obtain ⟨T49, h49, X49, e49, W49, st49⟩ := putF X44 hx hZ hown (host := "") (Or.inl (hw _ (List.mem_of_getElem? (i := 11) rfl))) Via.refl e44 (Frb.other W37 (Or.inl n_a1_aE)) (E1.wr W37) (Or.inl (hw _ (List.mem_of_getElem? (i := 12) rfl))) (hw _ (List.mem_of_getElem? (i := 3) rfl)) (ty := .int) (by decide) rfl rfl (g := (mkF m 82 #[rv a1, iv p2, iv x4, iv (1 : Int32), iv (1 : Int32), iv en0] [(.int p2), (.ref a1)])) rfl rfl (hb hby d16_82)
  have Fw49 := (Frb.other W37 (Or.inl n_a1_aE)).same W49
  have P50 : Rch p e below (s₁.setTop (entryFrame m #[(.ref a1), (.int p2)] 6)) (T49.setTop (mkF m 85 #[rv a1, iv p2, iv x4, iv (1 : Int32), iv (1 : Int32), iv en0] [])) := fun t k => P48 t (st49 t k)
  have N49 := Fr.snoc X49 N40 g_a1
  obtain ⟨fs, hr, hrun, hended, hW, hsame⟩ := X49.leave (v := none) (fun _ => rfl)
  refine ⟨_, _, P50 _ ?_, hrun, hended, _, _, rfl, ?_, ⟨_, rfl⟩, hW, hsame.mono (by decide) (by decide)⟩
  · exact X49.returnOut hx Bd.returns (hb hby d16_85) hr
  · show Q_rmWd1 Z a1 p2 aS aL aR aE aT kS kL kR kE kT rb lb fr rm en0 en1 en2 en3 tg0 tg1 tg2 tg3 mk h0 n0 _ T49.heap _
    rw [e49]
    have f51 : Keep h0 h49 [a1, aE] := (((Keep.refl h0 [a1, aE]).wr W37 (Or.inl (List.mem_of_getElem? (i := 1) rfl))).wr W49 (Or.inl (List.mem_of_getElem? (i := 0) rfl)))
    have f52 : Fld Z h49 a1 "com/example/kinhash/kinhash/BlockTable" "mask" "J" (.long mk) := ((Fmk.other W37 (Or.inl n_a1_aE)).other W49 (Or.inr (slot_ne (Or.inr (hw _ (List.mem_of_getElem? (i := 14) rfl))) (Or.inl (hw _ (List.mem_of_getElem? (i := 12) rfl))) (by decide) (t := .long) (t' := .int) (by decide) (by decide))))
    have f53 : Fld Z h49 a1 "com/example/kinhash/kinhash/BlockTable" "lowestBit" "I" (.int lb) := ((Flb.other W37 (Or.inl n_a1_aE)).other W49 (Or.inr (slot_ne (Or.inr (hw _ (List.mem_of_getElem? (i := 16) rfl))) (Or.inl (hw _ (List.mem_of_getElem? (i := 12) rfl))) (by decide) (t := .int) (t' := .int) (by decide) (by decide))))
    have f54 : Fld Z h49 a1 "com/example/kinhash/kinhash/BlockTable" "bucketBits" "I" (.int (0 : Int32)) := ((Fbb.other W37 (Or.inl n_a1_aE)).other W49 (Or.inr (slot_ne (Or.inl (hw _ (List.mem_of_getElem? (i := 42) rfl))) (Or.inl (hw _ (List.mem_of_getElem? (i := 12) rfl))) (by decide) (t := .int) (t' := .int) (by decide) (by decide))))
    have f55 : Fld Z h49 a1 "com/example/kinhash/kinhash/BlockTable" "free" "I" (.int fr) := ((Ffr.other W37 (Or.inl n_a1_aE)).other W49 (Or.inr (slot_ne (Or.inl (hw _ (List.mem_of_getElem? (i := 56) rfl))) (Or.inl (hw _ (List.mem_of_getElem? (i := 12) rfl))) (by decide) (t := .int) (t' := .int) (by decide) (by decide))))
    have f56 : Fld Z h49 a1 "com/example/kinhash/kinhash/BlockTable" "start" "[I" (.ref aS) := ((Fa_aS.other W37 (Or.inl n_a1_aE)).other W49 (Or.inr (slot_ne (Or.inl (hw _ (List.mem_of_getElem? (i := 21) rfl))) (Or.inl (hw _ (List.mem_of_getElem? (i := 12) rfl))) (by decide) (t := (.array .int)) (t' := .int) (by decide) (by decide))))
    have f57 : Fld Z h49 a1 "com/example/kinhash/kinhash/BlockTable" "length" "[I" (.ref aL) := ((Fa_aL.other W37 (Or.inl n_a1_aE)).other W49 (Or.inr (slot_ne (Or.inl (hw _ (List.mem_of_getElem? (i := 23) rfl))) (Or.inl (hw _ (List.mem_of_getElem? (i := 12) rfl))) (by decide) (t := (.array .int)) (t' := .int) (by decide) (by decide))))
    have f58 : Fld Z h49 a1 "com/example/kinhash/kinhash/BlockTable" "room" "[I" (.ref aR) := ((Fa_aR.other W37 (Or.inl n_a1_aE)).other W49 (Or.inr (slot_ne (Or.inl (hw _ (List.mem_of_getElem? (i := 25) rfl))) (Or.inl (hw _ (List.mem_of_getElem? (i := 12) rfl))) (by decide) (t := (.array .int)) (t' := .int) (by decide) (by decide))))
    have f59 : Fld Z h49 a1 "com/example/kinhash/kinhash/BlockTable" "entries" "[I" (.ref aE) := ((Fa_aE.other W37 (Or.inl n_a1_aE)).other W49 (Or.inr (slot_ne (Or.inl (hw _ (List.mem_of_getElem? (i := 27) rfl))) (Or.inl (hw _ (List.mem_of_getElem? (i := 12) rfl))) (by decide) (t := (.array .int)) (t' := .int) (by decide) (by decide))))
    have f60 : Fld Z h49 a1 "com/example/kinhash/kinhash/BlockTable" "tags" "[B" (.ref aT) := ((Fa_aT.other W37 (Or.inl n_a1_aE)).other W49 (Or.inr (slot_ne (Or.inl (hw _ (List.mem_of_getElem? (i := 30) rfl))) (Or.inl (hw _ (List.mem_of_getElem? (i := 12) rfl))) (by decide) (t := (.array .byte)) (t' := .int) (by decide) (by decide))))
    exact ⟨rfl, N49, f51, ((E1.wr W37).wr W49), Fw49, f52, f53, f54, f55, f56, f57, f58, f59, f60, (by subst hx34 hx4; exact (V37.other W49 (Ne.symm n_a1_aE)))⟩
def Q_rmWd2 (Z : State) (a1 : Addr) (p2 : Int32) (aS : Addr) (aL : Addr) (aR : Addr) (aE : Addr) (aT : Addr) (kS : ClassId) (kL : ClassId) (kR : ClassId) (kE : ClassId) (kT : ClassId) (rb : Int32) (lb : Int32) (fr : Int32) (rm : Int32) (en0 : Int32) (en1 : Int32) (en2 : Int32) (en3 : Int32) (tg0 : Int32) (tg1 : Int32) (tg2 : Int32) (tg3 : Int32) (mk : Int64) (h0 : Heap) (n0 : Nat) (v : Option Value) (h : Heap) (L : List Loc) : Prop := v = none ∧ Fr n0 L ∧ Keep h0 h [a1, aE] ∧ (Exa Z h a1 "com/example/kinhash/kinhash/BlockTable") ∧ (Fld Z h a1 "com/example/kinhash/kinhash/BlockTable" "recordBits" "I" (.int p2)) ∧ (Fld Z h a1 "com/example/kinhash/kinhash/BlockTable" "mask" "J" (.long mk)) ∧ (Fld Z h a1 "com/example/kinhash/kinhash/BlockTable" "lowestBit" "I" (.int lb)) ∧ (Fld Z h a1 "com/example/kinhash/kinhash/BlockTable" "bucketBits" "I" (.int (0 : Int32))) ∧ (Fld Z h a1 "com/example/kinhash/kinhash/BlockTable" "free" "I" (.int fr)) ∧ (Fld Z h a1 "com/example/kinhash/kinhash/BlockTable" "start" "[I" (.ref aS)) ∧ (Fld Z h a1 "com/example/kinhash/kinhash/BlockTable" "length" "[I" (.ref aL)) ∧ (Fld Z h a1 "com/example/kinhash/kinhash/BlockTable" "room" "[I" (.ref aR)) ∧ (Fld Z h a1 "com/example/kinhash/kinhash/BlockTable" "entries" "[I" (.ref aE)) ∧ (Fld Z h a1 "com/example/kinhash/kinhash/BlockTable" "tags" "[B" (.ref aT)) ∧ (Arv Z h aE kE .int (4 : Int32) [(.int (own_wid rb p2 en0)), (.int (own_wid rb p2 en1)), (.int en2), (.int en3)] (.int (0 : Int32)))
set_option maxRecDepth 65536 in
set_option maxHeartbeats 40000000 in
theorem rmWd2 (l : Launch) (Z : State) (a0 : Array Value) (hw : ∀ d ∈ tables_1, d.before a0 Z = true) (ws : List Jvm.Cond) (a1 : Addr) (p2 : Int32) (aS : Addr) (aL : Addr) (aR : Addr) (aE : Addr) (aT : Addr) (kS : ClassId) (kL : ClassId) (kR : ClassId) (kE : ClassId) (kT : ClassId) (rb : Int32) (lb : Int32) (fr : Int32) (rm : Int32) (en0 : Int32) (en1 : Int32) (en2 : Int32) (en3 : Int32) (tg0 : Int32) (tg1 : Int32) (tg2 : Int32) (tg3 : Int32) (mk : Int64) (h0 : Heap) (n0 : Nat) (Z0 : n0 ≤ h0.size) (E1 : Exa Z h0 a1 "com/example/kinhash/kinhash/BlockTable") (g_a1 : n0 ≤ a1) (g_aS : n0 ≤ aS) (g_aL : n0 ≤ aL) (g_aR : n0 ≤ aR) (g_aE : n0 ≤ aE) (g_aT : n0 ≤ aT) (n_a1_aS : a1 ≠ aS) (n_a1_aL : a1 ≠ aL) (n_a1_aR : a1 ≠ aR) (n_a1_aE : a1 ≠ aE) (n_a1_aT : a1 ≠ aT) (n_aS_aL : aS ≠ aL) (n_aS_aR : aS ≠ aR) (n_aS_aE : aS ≠ aE) (n_aS_aT : aS ≠ aT) (n_aL_aR : aL ≠ aR) (n_aL_aE : aL ≠ aE) (n_aL_aT : aL ≠ aT) (n_aR_aE : aR ≠ aE) (n_aR_aT : aR ≠ aT) (n_aE_aT : aE ≠ aT) (Frb : Fld Z h0 a1 "com/example/kinhash/kinhash/BlockTable" "recordBits" "I" (.int rb)) (Fmk : Fld Z h0 a1 "com/example/kinhash/kinhash/BlockTable" "mask" "J" (.long mk)) (Flb : Fld Z h0 a1 "com/example/kinhash/kinhash/BlockTable" "lowestBit" "I" (.int lb)) (Fbb : Fld Z h0 a1 "com/example/kinhash/kinhash/BlockTable" "bucketBits" "I" (.int (0 : Int32))) (Ffr : Fld Z h0 a1 "com/example/kinhash/kinhash/BlockTable" "free" "I" (.int fr)) (Fa_aS : Fld Z h0 a1 "com/example/kinhash/kinhash/BlockTable" "start" "[I" (.ref aS)) (Fa_aL : Fld Z h0 a1 "com/example/kinhash/kinhash/BlockTable" "length" "[I" (.ref aL)) (Fa_aR : Fld Z h0 a1 "com/example/kinhash/kinhash/BlockTable" "room" "[I" (.ref aR)) (Fa_aE : Fld Z h0 a1 "com/example/kinhash/kinhash/BlockTable" "entries" "[I" (.ref aE)) (Fa_aT : Fld Z h0 a1 "com/example/kinhash/kinhash/BlockTable" "tags" "[B" (.ref aT)) (V_aS : Arv Z h0 aS kS .int (1 : Int32) [(.int (0 : Int32))] (.int (0 : Int32))) (V_aL : Arv Z h0 aL kL .int (1 : Int32) [(.int (2 : Int32))] (.int (0 : Int32))) (V_aR : Arv Z h0 aR kR .int (1 : Int32) [(.int rm)] (.int (0 : Int32))) (V_aE : Arv Z h0 aE kE .int (4 : Int32) [(.int en0), (.int en1), (.int en2), (.int en3)] (.int (0 : Int32))) (V_aT : Arv Z h0 aT kT .byte (4 : Int32) [(.int tg0), (.int tg1), (.int tg2), (.int tg3)] (.int (0 : Int32))) :
    MetFree l (⟨"com/example/kinhash/kinhash/BlockTable", "widenRecords", "(I)V"⟩ : MethodName) (head1 (Jvm.Cond.code (⟨"com/example/kinhash/kinhash/BlockTable", "widenRecords", "(I)V"⟩ : MethodName) prog_4_method_11_code 6 none :: ws) ({ frames := 1, cells := 0, slots := 0, locals := 14 } : Room)) (fun a U => a = #[(.ref a1), (.int p2)] ∧ Z.Warmed39 U.vm ∧ U.heap = h0) (fun _ _ _ _ _ => True) (fun _ U o U' => ∃ v L, o = .returned v ∧ Q_rmWd2 Z a1 p2 aS aL aR aE aT kS kL kR kE kT rb lb fr rm en0 en1 en2 en3 tg0 tg1 tg2 tg3 mk h0 n0 v U'.heap L ∧ FrameEnd U o U' L ({ frames := 1, cells := 0, slots := 0, locals := 14 } : Room).cells ({ frames := 1, cells := 0, slots := 0, locals := 14 } : Room).slots) := by
  refine MetFree.of_bodySF (plainFor_of_name pn_0) hisR ?_
  intro p e s m args below meth c s₁ Bd hml0 hP hK
  obtain ⟨rfl, hZ, hh⟩ := hP
  have hx := Bd.exec
  have hby := Bd.bytes
  have hml : c.maxLocals = 6 := hml0
  have hown : s.vm.findClass "com/example/kinhash/kinhash/BlockTable" = some m.cls := findClass_of_methodNamed Bd.named
  have hnm := (name_of_methodNamed Bd.named Bd.method).1
  have X0 : Stand p l e ({ frames := 1, cells := 0, slots := 0, locals := 14 } : Room) s m #[(.ref a1), (.int p2)] below meth c s₁ [] 0 0 := Stand.of_body Bd
  have e0 : s₁.heap = h0 := by rw [← hh, Bd.state]; rfl
  have N0 := Fr.nil n0
  have P0 : Rch p e below (s₁.setTop (entryFrame m #[(.ref a1), (.int p2)] 6)) (s₁.setTop (mkF m 0 #[rv a1, iv p2, un, un, un, un] [])) := fun t k => castTop (by first | (simp [entryFrame, mkF, argsToLocals, Value.category]; done) | rfl) k
  have P1 : Rch p e below (s₁.setTop (entryFrame m #[(.ref a1), (.int p2)] 6)) (s₁.setTop (mkF m 2 #[rv a1, iv p2, un, un, un, un] [(.ref a1), (.int (1 : Int32))])) := fun t k => P0 t (by
    show Steps p.tables e below (s₁.setTop (mkF m 0 #[rv a1, iv p2, un, un, un, un] [])) t
    refine XS.iconst X0.here hx rfl (hb hby d16_0) ?_
    refine XS.aloadN X0.here hx rfl (hb hby d16_1) rfl rfl ?_
    exact k)
  obtain ⟨T2, X2, e2, st2⟩ := getF X0 hx hZ hown (host := "") (Or.inl (hw _ (List.mem_of_getElem? (i := 11) rfl))) Via.refl e0 Frb (g := (mkF m 2 #[rv a1, iv p2, un, un, un, un] [(.ref a1), (.int (1 : Int32))])) rfl rfl (hb hby d16_2)
  have P3 : Rch p e below (s₁.setTop (entryFrame m #[(.ref a1), (.int p2)] 6)) (T2.setTop (mkF m 5 #[rv a1, iv p2, un, un, un, un] [(.int rb), (.int (1 : Int32))])) := fun t k => P1 t (st2 t k)
  obtain ⟨x4, hx4⟩ : ∃ z : Int32, z = (((1 : Int32) <<< (rb &&& 31)) - (1 : Int32)) := ⟨_, rfl⟩
  have P5 : Rch p e below (s₁.setTop (entryFrame m #[(.ref a1), (.int p2)] 6)) (T2.setTop (mkF m 9 #[rv a1, iv p2, iv x4, un, un, un] [])) := fun t k => P3 t (by
    subst hx4
    show Steps p.tables e below (T2.setTop (mkF m 5 #[rv a1, iv p2, un, un, un, un] [(.int rb), (.int (1 : Int32))])) t
    refine XS.ishl X2.here hx rfl (hb hby d16_5) rfl ?_
    refine XS.iconst X2.here hx rfl (hb hby d16_6) ?_
    refine XS.isub X2.here hx rfl (hb hby d16_7) rfl ?_
    show Steps p.tables e below (T2.setTop (mkF m 8 #[rv a1, iv p2, un, un, un, un] [(.int (((1 : Int32) <<< (rb &&& 31)) - (1 : Int32)))])) t
    refine XS.istoreN X2.here hx rfl (hb hby d16_8) rfl (l' := #[rv a1, iv p2, iv (((1 : Int32) <<< (rb &&& 31)) - (1 : Int32)), un, un, un]) rfl ?_
    exact k)
  have P6 : Rch p e below (s₁.setTop (entryFrame m #[(.ref a1), (.int p2)] 6)) (T2.setTop (mkF m 13 #[rv a1, iv p2, iv x4, iv (0 : Int32), un, un] [(.ref a1), (.int (0 : Int32))])) := fun t k => P5 t (by
    show Steps p.tables e below (T2.setTop (mkF m 9 #[rv a1, iv p2, iv x4, un, un, un] [])) t
    refine XS.iconst X2.here hx rfl (hb hby d16_9) ?_
    refine XS.istoreN X2.here hx rfl (hb hby d16_10) rfl (l' := #[rv a1, iv p2, iv x4, iv (0 : Int32), un, un]) rfl ?_
    refine XS.iloadN X2.here hx rfl (hb hby d16_11) rfl ?_
    show Steps p.tables e below (T2.setTop (mkF m 12 #[rv a1, iv p2, iv x4, iv (0 : Int32), un, un] [(.int (0 : Int32))])) t
    refine XS.aloadN X2.here hx rfl (hb hby d16_12) rfl rfl ?_
    exact k)
  obtain ⟨T7, X7, e7, st7⟩ := getF X2 hx hZ hown (host := "") (Or.inl (hw _ (List.mem_of_getElem? (i := 22) rfl))) Via.refl e2 Fa_aL (g := (mkF m 13 #[rv a1, iv p2, iv x4, iv (0 : Int32), un, un] [(.ref a1), (.int (0 : Int32))])) rfl rfl (hb hby d16_13)
  have P8 : Rch p e below (s₁.setTop (entryFrame m #[(.ref a1), (.int p2)] 6)) (T7.setTop (mkF m 16 #[rv a1, iv p2, iv x4, iv (0 : Int32), un, un] [(.ref aL), (.int (0 : Int32))])) := fun t k => P6 t (st7 t k)
  have V_o9 := V_aL
  obtain ⟨co9, Aro9, qo9, So9, Mo9, Ho9, Go9⟩ := V_o9
  have P10 : Rch p e below (s₁.setTop (entryFrame m #[(.ref a1), (.int p2)] 6)) (T7.setTop (mkF m 17 #[rv a1, iv p2, iv x4, iv (0 : Int32), un, un] [(.int (1 : Int32)), (.int (0 : Int32))])) := fun t k => P8 t (by
    refine X7.arraylength hx (by rw [e7]; exact Aro9.1) (State.isArrayOf_alike hZ.alike Aro9.2.1) (g := (mkF m 16 #[rv a1, iv p2, iv x4, iv (0 : Int32), un, un] [(.ref aL), (.int (0 : Int32))])) rfl rfl (hb hby d16_16) _ ?_
    rw [len_of So9 Mo9]; exact k)
  have P11 : Rch p e below (s₁.setTop (entryFrame m #[(.ref a1), (.int p2)] 6)) (T7.setTop (mkF m 21 #[rv a1, iv p2, iv x4, iv (0 : Int32), un, un] [(.ref a1)])) := fun t k => P10 t (by
    show Steps p.tables e below (T7.setTop (mkF m 17 #[rv a1, iv p2, iv x4, iv (0 : Int32), un, un] [(.int (1 : Int32)), (.int (0 : Int32))])) t
    refine XS.icmpNo X7.here hx rfl (hb hby d16_17) rfl (tlt (by decide)).2.1 ?_
    refine XS.aloadN X7.here hx rfl (hb hby d16_20) rfl rfl ?_
    exact k)
  obtain ⟨T12, X12, e12, st12⟩ := getF X7 hx hZ hown (host := "") (Or.inl (hw _ (List.mem_of_getElem? (i := 20) rfl))) Via.refl e7 Fa_aS (g := (mkF m 21 #[rv a1, iv p2, iv x4, iv (0 : Int32), un, un] [(.ref a1)])) rfl rfl (hb hby d16_21)
  have P13 : Rch p e below (s₁.setTop (entryFrame m #[(.ref a1), (.int p2)] 6)) (T12.setTop (mkF m 24 #[rv a1, iv p2, iv x4, iv (0 : Int32), un, un] [(.ref aS)])) := fun t k => P11 t (st12 t k)
  have P14 : Rch p e below (s₁.setTop (entryFrame m #[(.ref a1), (.int p2)] 6)) (T12.setTop (mkF m 25 #[rv a1, iv p2, iv x4, iv (0 : Int32), un, un] [(.int (0 : Int32)), (.ref aS)])) := fun t k => P13 t (by
    show Steps p.tables e below (T12.setTop (mkF m 24 #[rv a1, iv p2, iv x4, iv (0 : Int32), un, un] [(.ref aS)])) t
    refine XS.iloadN X12.here hx rfl (hb hby d16_24) rfl ?_
    exact k)
  have V_o15 := V_aS
  obtain ⟨co15, Aro15, qo15, So15, Mo15, Ho15, Go15⟩ := V_o15
  have hin16 : ¬ ((0 : Int32) < 0 ∨ co15.slots.size ≤ ((0 : Int32)).toNatClampNeg) := inb_of So15 ⟨by decide, by decide⟩
  have hat16 : co15.slots[((0 : Int32)).toNatClampNeg]? = some (.int (0 : Int32)) := Has.at Ho15 hin16 rfl
  have P17 : Rch p e below (s₁.setTop (entryFrame m #[(.ref a1), (.int p2)] 6)) (T12.setTop (mkF m 26 #[rv a1, iv p2, iv x4, iv (0 : Int32), un, un] [(.int (0 : Int32))])) := fun t k => P14 t (X12.iaload hx (j := (0 : Int32)) (v := (.int (0 : Int32))) (by rw [e12]; exact Aro15.1) (State.isArrayOf_alike hZ.alike Aro15.2.1) Aro15.2.2 hin16 hat16 (g := (mkF m 25 #[rv a1, iv p2, iv x4, iv (0 : Int32), un, un] [(.int (0 : Int32)), (.ref aS)])) rfl rfl (hb hby d16_25) t k)
  have P18 : Rch p e below (s₁.setTop (entryFrame m #[(.ref a1), (.int p2)] 6)) (T12.setTop (mkF m 32 #[rv a1, iv p2, iv x4, iv (0 : Int32), iv (0 : Int32), un] [(.int (0 : Int32)), (.ref a1), (.int (0 : Int32))])) := fun t k => P17 t (by
    show Steps p.tables e below (T12.setTop (mkF m 26 #[rv a1, iv p2, iv x4, iv (0 : Int32), un, un] [(.int (0 : Int32))])) t
    refine XS.istore X12.here hx rfl (hb hby d16_26) rfl (l' := #[rv a1, iv p2, iv x4, iv (0 : Int32), iv (0 : Int32), un]) rfl ?_
    refine XS.iload X12.here hx rfl (hb hby d16_28) rfl ?_
    refine XS.aloadN X12.here hx rfl (hb hby d16_30) rfl rfl ?_
    show Steps p.tables e below (T12.setTop (mkF m 31 #[rv a1, iv p2, iv x4, iv (0 : Int32), iv (0 : Int32), un] [(.ref a1), (.int (0 : Int32))])) t
    refine XS.iloadN X12.here hx rfl (hb hby d16_31) rfl ?_
    exact k)
  obtain ⟨cq19, kq19, q19a, q19b, q19c⟩ := isOf hZ e12 E1
  obtain ⟨_, _, ⟨T19, L19, k19, n19⟩, -, X19, ⟨Lc19, hQ19, l19, y19, z19⟩, st19⟩ := X12.virtualBack hx (y := (⟨"com/example/kinhash/kinhash/BlockTable", "end", "(I)I"⟩ : MethodName)) (z := (⟨"com/example/kinhash/kinhash/BlockTable", "end", "(I)I"⟩ : MethodName)) hown (mvT hZ (hw _ (List.mem_of_getElem? (i := 61) rfl))) (mvT hZ (hw _ (List.mem_of_getElem? (i := 62) rfl))) (notFace_of_selects (args := #[]) (mvT hZ (hw _ (List.mem_of_getElem? (i := 64) rfl)))) (mvT hZ (hw _ (List.mem_of_getElem? (i := 64) rfl))) (mvT hZ (hw _ (List.mem_of_getElem? (i := 63) rfl))) (by decide) (backOf (W := 1) (rmE l Z a0 hw [] a1 aS kS aL kL (0 : Int32) (2 : Int32) h0 n0 Z0 Fa_aS Fa_aL V_aS V_aL) hZ (hw _ (List.mem_of_getElem? (i := 65) rfl)) (hw _ (List.mem_of_getElem? (i := 4) rfl)) (by decide) (by decide)) q19a q19c (g := (mkF m 32 #[rv a1, iv p2, iv x4, iv (0 : Int32), iv (0 : Int32), un] [(.int (0 : Int32)), (.ref a1), (.int (0 : Int32))])) rfl (by rw [hml]; rfl) (Steps.refl _) (argsL := [(.int (0 : Int32))]) (rest := [(.int (0 : Int32))]) (lenOf pd_3 rfl) rfl (by show 2 * 0 + _ ≤ _; exact Nat.le_of_eq rfl) (hb hby d16_32) (fun _ _ => ⟨rfl, e12, (by decide : 0 + 0 ≤ _), (by decide : 0 + 0 ≤ _)⟩)
  dsimp only [Pt.U, Pt.locs, Pt.cells, Pt.slots] at X19 l19 y19 z19 st19 hQ19
  subst y19 z19
  obtain ⟨rfl, N19q, e19⟩ := hQ19
  have N19 : Fr n0 L19 := by rw [l19]; exact Fr.app N0 N19q
  have P20 : Rch p e below (s₁.setTop (entryFrame m #[(.ref a1), (.int p2)] 6)) (T19.setTop (mkF m 35 #[rv a1, iv p2, iv x4, iv (0 : Int32), iv (0 : Int32), un] [(.int (2 : Int32)), (.int (0 : Int32))])) := fun t k => P18 t (st19.trans k)
  have P21 : Rch p e below (s₁.setTop (entryFrame m #[(.ref a1), (.int p2)] 6)) (T19.setTop (mkF m 39 #[rv a1, iv p2, iv x4, iv (0 : Int32), iv (0 : Int32), un] [(.ref a1)])) := fun t k => P20 t (by
    show Steps p.tables e below (T19.setTop (mkF m 35 #[rv a1, iv p2, iv x4, iv (0 : Int32), iv (0 : Int32), un] [(.int (2 : Int32)), (.int (0 : Int32))])) t
    refine XS.icmpNo X19.here hx rfl (hb hby d16_35) rfl (tlt (by decide)).2.1 ?_
    refine XS.aloadN X19.here hx rfl (hb hby d16_38) rfl rfl ?_
    exact k)
  obtain ⟨T22, X22, e22, st22⟩ := getF X19 hx hZ hown (host := "") (Or.inl (hw _ (List.mem_of_getElem? (i := 26) rfl))) Via.refl e19 Fa_aE (g := (mkF m 39 #[rv a1, iv p2, iv x4, iv (0 : Int32), iv (0 : Int32), un] [(.ref a1)])) rfl rfl (hb hby d16_39)
  have P23 : Rch p e below (s₁.setTop (entryFrame m #[(.ref a1), (.int p2)] 6)) (T22.setTop (mkF m 42 #[rv a1, iv p2, iv x4, iv (0 : Int32), iv (0 : Int32), un] [(.ref aE)])) := fun t k => P21 t (st22 t k)
  have P24 : Rch p e below (s₁.setTop (entryFrame m #[(.ref a1), (.int p2)] 6)) (T22.setTop (mkF m 44 #[rv a1, iv p2, iv x4, iv (0 : Int32), iv (0 : Int32), un] [(.int (0 : Int32)), (.ref aE)])) := fun t k => P23 t (by
    show Steps p.tables e below (T22.setTop (mkF m 42 #[rv a1, iv p2, iv x4, iv (0 : Int32), iv (0 : Int32), un] [(.ref aE)])) t
    refine XS.iload X22.here hx rfl (hb hby d16_42) rfl ?_
    exact k)
  have V_o25 := V_aE
  obtain ⟨co25, Aro25, qo25, So25, Mo25, Ho25, Go25⟩ := V_o25
  have hin26 : ¬ ((0 : Int32) < 0 ∨ co25.slots.size ≤ ((0 : Int32)).toNatClampNeg) := inb_of So25 ⟨by decide, by decide⟩
  have hat26 : co25.slots[((0 : Int32)).toNatClampNeg]? = some (.int en0) := Has.at Ho25 hin26 rfl
  have P27 : Rch p e below (s₁.setTop (entryFrame m #[(.ref a1), (.int p2)] 6)) (T22.setTop (mkF m 45 #[rv a1, iv p2, iv x4, iv (0 : Int32), iv (0 : Int32), un] [(.int en0)])) := fun t k => P24 t (X22.iaload hx (j := (0 : Int32)) (v := (.int en0)) (by rw [e22]; exact Aro25.1) (State.isArrayOf_alike hZ.alike Aro25.2.1) Aro25.2.2 hin26 hat26 (g := (mkF m 44 #[rv a1, iv p2, iv x4, iv (0 : Int32), iv (0 : Int32), un] [(.int (0 : Int32)), (.ref aE)])) rfl rfl (hb hby d16_44) t k)
  have P28 : Rch p e below (s₁.setTop (entryFrame m #[(.ref a1), (.int p2)] 6)) (T22.setTop (mkF m 48 #[rv a1, iv p2, iv x4, iv (0 : Int32), iv (0 : Int32), iv en0] [(.ref a1)])) := fun t k => P27 t (by
    show Steps p.tables e below (T22.setTop (mkF m 45 #[rv a1, iv p2, iv x4, iv (0 : Int32), iv (0 : Int32), un] [(.int en0)])) t
    refine XS.istore X22.here hx rfl (hb hby d16_45) rfl (l' := #[rv a1, iv p2, iv x4, iv (0 : Int32), iv (0 : Int32), iv en0]) rfl ?_
    refine XS.aloadN X22.here hx rfl (hb hby d16_47) rfl rfl ?_
    exact k)
  obtain ⟨T29, X29, e29, st29⟩ := getF X22 hx hZ hown (host := "") (Or.inl (hw _ (List.mem_of_getElem? (i := 26) rfl))) Via.refl e22 Fa_aE (g := (mkF m 48 #[rv a1, iv p2, iv x4, iv (0 : Int32), iv (0 : Int32), iv en0] [(.ref a1)])) rfl rfl (hb hby d16_48)
  have P30 : Rch p e below (s₁.setTop (entryFrame m #[(.ref a1), (.int p2)] 6)) (T29.setTop (mkF m 51 #[rv a1, iv p2, iv x4, iv (0 : Int32), iv (0 : Int32), iv en0] [(.ref aE)])) := fun t k => P28 t (st29 t k)
  have P31 : Rch p e below (s₁.setTop (entryFrame m #[(.ref a1), (.int p2)] 6)) (T29.setTop (mkF m 56 #[rv a1, iv p2, iv x4, iv (0 : Int32), iv (0 : Int32), iv en0] [(.ref a1), (.int en0), (.int (0 : Int32)), (.ref aE)])) := fun t k => P30 t (by
    show Steps p.tables e below (T29.setTop (mkF m 51 #[rv a1, iv p2, iv x4, iv (0 : Int32), iv (0 : Int32), iv en0] [(.ref aE)])) t
    refine XS.iload X29.here hx rfl (hb hby d16_51) rfl ?_
    refine XS.iload X29.here hx rfl (hb hby d16_53) rfl ?_
    refine XS.aloadN X29.here hx rfl (hb hby d16_55) rfl rfl ?_
    exact k)
  obtain ⟨T32, X32, e32, st32⟩ := getF X29 hx hZ hown (host := "") (Or.inl (hw _ (List.mem_of_getElem? (i := 11) rfl))) Via.refl e29 Frb (g := (mkF m 56 #[rv a1, iv p2, iv x4, iv (0 : Int32), iv (0 : Int32), iv en0] [(.ref a1), (.int en0), (.int (0 : Int32)), (.ref aE)])) rfl rfl (hb hby d16_56)
  have P33 : Rch p e below (s₁.setTop (entryFrame m #[(.ref a1), (.int p2)] 6)) (T32.setTop (mkF m 59 #[rv a1, iv p2, iv x4, iv (0 : Int32), iv (0 : Int32), iv en0] [(.int rb), (.int en0), (.int (0 : Int32)), (.ref aE)])) := fun t k => P31 t (st32 t k)
  obtain ⟨x34, hx34⟩ : ∃ z : Int32, z = ((((en0.toUInt32 >>> (rb &&& 31).toUInt32).toInt32) <<< (p2 &&& 31)) ||| (en0 &&& x4)) := ⟨_, rfl⟩
  have P35 : Rch p e below (s₁.setTop (entryFrame m #[(.ref a1), (.int p2)] 6)) (T32.setTop (mkF m 67 #[rv a1, iv p2, iv x4, iv (0 : Int32), iv (0 : Int32), iv en0] [(.int x34), (.int (0 : Int32)), (.ref aE)])) := fun t k => P33 t (by
    subst hx34
    show Steps p.tables e below (T32.setTop (mkF m 59 #[rv a1, iv p2, iv x4, iv (0 : Int32), iv (0 : Int32), iv en0] [(.int rb), (.int en0), (.int (0 : Int32)), (.ref aE)])) t
    refine XS.iushr X32.here hx rfl (hb hby d16_59) rfl ?_
    refine XS.iloadN X32.here hx rfl (hb hby d16_60) rfl ?_
    refine XS.ishl X32.here hx rfl (hb hby d16_61) rfl ?_
    show Steps p.tables e below (T32.setTop (mkF m 62 #[rv a1, iv p2, iv x4, iv (0 : Int32), iv (0 : Int32), iv en0] [(.int (((en0.toUInt32 >>> (rb &&& 31).toUInt32).toInt32) <<< (p2 &&& 31))), (.int (0 : Int32)), (.ref aE)])) t
    refine XS.iload X32.here hx rfl (hb hby d16_62) rfl ?_
    refine XS.iloadN X32.here hx rfl (hb hby d16_64) rfl ?_
    refine XS.iand X32.here hx rfl (hb hby d16_65) rfl ?_
    refine XS.ior X32.here hx rfl (hb hby d16_66) rfl ?_
    exact k)
  have V_o36 := V_aE
  obtain ⟨co36, Aro36, qo36, So36, Mo36, Ho36, Go36⟩ := V_o36
  have hin37 : ¬ ((0 : Int32) < 0 ∨ co36.slots.size ≤ ((0 : Int32)).toNatClampNeg) := inb_of So36 ⟨by decide, by decide⟩
  obtain ⟨T37, h37, X37, e37, W37, st37⟩ := stI X32 hx hZ e32 Aro36 (j := (0 : Int32)) hin37 (g := (mkF m 67 #[rv a1, iv p2, iv x4, iv (0 : Int32), iv (0 : Int32), iv en0] [(.int x34), (.int (0 : Int32)), (.ref aE)])) rfl rfl (hb hby d16_67)
  have V37 : Arv Z h37 aE kE .int (4 : Int32) [(.int x34), (.int en1), (.int en2), (.int en3)] (.int (0 : Int32)) := Arv.set Aro36 qo36 So36 Mo36 Ho36 Go36 rfl W37 0 rfl (Nat.le_of_ble_eq_true rfl)
  have P38 : Rch p e below (s₁.setTop (entryFrame m #[(.ref a1), (.int p2)] 6)) (T37.setTop (mkF m 68 #[rv a1, iv p2, iv x4, iv (0 : Int32), iv (0 : Int32), iv en0] [])) := fun t k => P35 t (st37 t k)
  have N37 := Fr.snoc X37 N19 g_aE
  have P39 : Rch p e below (s₁.setTop (entryFrame m #[(.ref a1), (.int p2)] 6)) (T37.setTop (mkF m 32 #[rv a1, iv p2, iv x4, iv (0 : Int32), iv (1 : Int32), iv en0] [(.int (0 : Int32)), (.ref a1), (.int (1 : Int32))])) := fun t k => P38 t (by
    show Steps p.tables e below (T37.setTop (mkF m 68 #[rv a1, iv p2, iv x4, iv (0 : Int32), iv (0 : Int32), iv en0] [])) t
    refine XS.iinc X37.here hx rfl (hb hby d16_68) rfl (l' := #[rv a1, iv p2, iv x4, iv (0 : Int32), iv (1 : Int32), iv en0]) rfl ?_
    refine XS.goto X37.here hx rfl (pc0 := 71) (pc' := 28) rfl (hb hby d16_71) (by decide) (by decide) ?_
    refine XS.iload X37.here hx rfl (hb hby d16_28) rfl ?_
    show Steps p.tables e below (T37.setTop (mkF m 30 #[rv a1, iv p2, iv x4, iv (0 : Int32), iv (1 : Int32), iv en0] [(.int (1 : Int32))])) t
    refine XS.aloadN X37.here hx rfl (hb hby d16_30) rfl rfl ?_
    refine XS.iloadN X37.here hx rfl (hb hby d16_31) rfl ?_
    exact k)
  have f41 : n0 ≤ h37.size := (Nat.le_trans Z0 (Keep.of_wr W37).1)
  obtain ⟨cq40, kq40, q40a, q40b, q40c⟩ := isOf hZ e37 (E1.wr W37)
  obtain ⟨_, _, ⟨T40, L40, k40, n40⟩, -, X40, ⟨Lc40, hQ40, l40, y40, z40⟩, st40⟩ := X37.virtualBack hx (y := (⟨"com/example/kinhash/kinhash/BlockTable", "end", "(I)I"⟩ : MethodName)) (z := (⟨"com/example/kinhash/kinhash/BlockTable", "end", "(I)I"⟩ : MethodName)) hown (mvT hZ (hw _ (List.mem_of_getElem? (i := 61) rfl))) (mvT hZ (hw _ (List.mem_of_getElem? (i := 62) rfl))) (notFace_of_selects (args := #[]) (mvT hZ (hw _ (List.mem_of_getElem? (i := 64) rfl)))) (mvT hZ (hw _ (List.mem_of_getElem? (i := 64) rfl))) (mvT hZ (hw _ (List.mem_of_getElem? (i := 63) rfl))) (by decide) (backOf (W := 1) (rmE l Z a0 hw [] a1 aS kS aL kL (0 : Int32) (2 : Int32) h37 n0 f41 (Fa_aS.other W37 (Or.inl n_a1_aE)) (Fa_aL.other W37 (Or.inl n_a1_aE)) (V_aS.other W37 n_aS_aE) (V_aL.other W37 n_aL_aE)) hZ (hw _ (List.mem_of_getElem? (i := 65) rfl)) (hw _ (List.mem_of_getElem? (i := 4) rfl)) (by decide) (by decide)) q40a q40c (g := (mkF m 32 #[rv a1, iv p2, iv x4, iv (0 : Int32), iv (1 : Int32), iv en0] [(.int (0 : Int32)), (.ref a1), (.int (1 : Int32))])) rfl (by rw [hml]; rfl) (Steps.refl _) (argsL := [(.int (0 : Int32))]) (rest := [(.int (1 : Int32))]) (lenOf pd_3 rfl) rfl (by show 2 * 0 + _ ≤ _; exact Nat.le_of_eq rfl) (hb hby d16_32) (fun _ _ => ⟨rfl, e37, (by decide : 0 + 0 ≤ _), (by decide : 0 + 0 ≤ _)⟩)
  dsimp only [Pt.U, Pt.locs, Pt.cells, Pt.slots] at X40 l40 y40 z40 st40 hQ40
  subst y40 z40
  obtain ⟨rfl, N40q, e40⟩ := hQ40
  have N40 : Fr n0 L40 := by rw [l40]; exact Fr.app N37 N40q
  have P42 : Rch p e below (s₁.setTop (entryFrame m #[(.ref a1), (.int p2)] 6)) (T40.setTop (mkF m 35 #[rv a1, iv p2, iv x4, iv (0 : Int32), iv (1 : Int32), iv en0] [(.int (2 : Int32)), (.int (1 : Int32))])) := fun t k => P39 t (st40.trans k)
  have P43 : Rch p e below (s₁.setTop (entryFrame m #[(.ref a1), (.int p2)] 6)) (T40.setTop (mkF m 39 #[rv a1, iv p2, iv x4, iv (0 : Int32), iv (1 : Int32), iv en0] [(.ref a1)])) := fun t k => P42 t (by
    show Steps p.tables e below (T40.setTop (mkF m 35 #[rv a1, iv p2, iv x4, iv (0 : Int32), iv (1 : Int32), iv en0] [(.int (2 : Int32)), (.int (1 : Int32))])) t
    refine XS.icmpNo X40.here hx rfl (hb hby d16_35) rfl (tlt (by decide)).2.1 ?_
    refine XS.aloadN X40.here hx rfl (hb hby d16_38) rfl rfl ?_
    exact k)
  obtain ⟨T44, X44, e44, st44⟩ := getF X40 hx hZ hown (host := "") (Or.inl (hw _ (List.mem_of_getElem? (i := 26) rfl))) Via.refl e40 (Fa_aE.other W37 (Or.inl n_a1_aE)) (g := (mkF m 39 #[rv a1, iv p2, iv x4, iv (0 : Int32), iv (1 : Int32), iv en0] [(.ref a1)])) rfl rfl (hb hby d16_39)
  have P45 : Rch p e below (s₁.setTop (entryFrame m #[(.ref a1), (.int p2)] 6)) (T44.setTop (mkF m 42 #[rv a1, iv p2, iv x4, iv (0 : Int32), iv (1 : Int32), iv en0] [(.ref aE)])) := fun t k => P43 t (st44 t k)
  have P46 : Rch p e below (s₁.setTop (entryFrame m #[(.ref a1), (.int p2)] 6)) (T44.setTop (mkF m 44 #[rv a1, iv p2, iv x4, iv (0 : Int32), iv (1 : Int32), iv en0] [(.int (1 : Int32)), (.ref aE)])) := fun t k => P45 t (by
    show Steps p.tables e below (T44.setTop (mkF m 42 #[rv a1, iv p2, iv x4, iv (0 : Int32), iv (1 : Int32), iv en0] [(.ref aE)])) t
    refine XS.iload X44.here hx rfl (hb hby d16_42) rfl ?_
    exact k)
  have V_o47 := V37
  obtain ⟨co47, Aro47, qo47, So47, Mo47, Ho47, Go47⟩ := V_o47
  have hin48 : ¬ ((1 : Int32) < 0 ∨ co47.slots.size ≤ ((1 : Int32)).toNatClampNeg) := inb_of So47 ⟨by decide, by decide⟩
  have hat48 : co47.slots[((1 : Int32)).toNatClampNeg]? = some (.int en1) := Has.at Ho47 hin48 rfl
  have P49 : Rch p e below (s₁.setTop (entryFrame m #[(.ref a1), (.int p2)] 6)) (T44.setTop (mkF m 45 #[rv a1, iv p2, iv x4, iv (0 : Int32), iv (1 : Int32), iv en0] [(.int en1)])) := fun t k => P46 t (X44.iaload hx (j := (1 : Int32)) (v := (.int en1)) (by rw [e44]; exact Aro47.1) (State.isArrayOf_alike hZ.alike Aro47.2.1) Aro47.2.2 hin48 hat48 (g := (mkF m 44 #[rv a1, iv p2, iv x4, iv (0 : Int32), iv (1 : Int32), iv en0] [(.int (1 : Int32)), (.ref aE)])) rfl rfl (hb hby d16_44) t k)
  have P50 : Rch p e below (s₁.setTop (entryFrame m #[(.ref a1), (.int p2)] 6)) (T44.setTop (mkF m 48 #[rv a1, iv p2, iv x4, iv (0 : Int32), iv (1 : Int32), iv en1] [(.ref a1)])) := fun t k => P49 t (by
    show Steps p.tables e below (T44.setTop (mkF m 45 #[rv a1, iv p2, iv x4, iv (0 : Int32), iv (1 : Int32), iv en0] [(.int en1)])) t
    refine XS.istore X44.here hx rfl (hb hby d16_45) rfl (l' := #[rv a1, iv p2, iv x4, iv (0 : Int32), iv (1 : Int32), iv en1]) rfl ?_
    refine XS.aloadN X44.here hx rfl (hb hby d16_47) rfl rfl ?_
    exact k)
  obtain ⟨T51, X51, e51, st51⟩ := getF X44 hx hZ hown (host := "") (Or.inl (hw _ (List.mem_of_getElem? (i := 26) rfl))) Via.refl e44 (Fa_aE.other W37 (Or.inl n_a1_aE)) (g := (mkF m 48 #[rv a1, iv p2, iv x4, iv (0 : Int32), iv (1 : Int32), iv en1] [(.ref a1)])) rfl rfl (hb hby d16_48)
  have P52 : Rch p e below (s₁.setTop (entryFrame m #[(.ref a1), (.int p2)] 6)) (T51.setTop (mkF m 51 #[rv a1, iv p2, iv x4, iv (0 : Int32), iv (1 : Int32), iv en1] [(.ref aE)])) := fun t k => P50 t (st51 t k)
  have P53 : Rch p e below (s₁.setTop (entryFrame m #[(.ref a1), (.int p2)] 6)) (T51.setTop (mkF m 56 #[rv a1, iv p2, iv x4, iv (0 : Int32), iv (1 : Int32), iv en1] [(.ref a1), (.int en1), (.int (1 : Int32)), (.ref aE)])) := fun t k => P52 t (by
    show Steps p.tables e below (T51.setTop (mkF m 51 #[rv a1, iv p2, iv x4, iv (0 : Int32), iv (1 : Int32), iv en1] [(.ref aE)])) t
    refine XS.iload X51.here hx rfl (hb hby d16_51) rfl ?_
    refine XS.iload X51.here hx rfl (hb hby d16_53) rfl ?_
    refine XS.aloadN X51.here hx rfl (hb hby d16_55) rfl rfl ?_
    exact k)
  obtain ⟨T54, X54, e54, st54⟩ := getF X51 hx hZ hown (host := "") (Or.inl (hw _ (List.mem_of_getElem? (i := 11) rfl))) Via.refl e51 (Frb.other W37 (Or.inl n_a1_aE)) (g := (mkF m 56 #[rv a1, iv p2, iv x4, iv (0 : Int32), iv (1 : Int32), iv en1] [(.ref a1), (.int en1), (.int (1 : Int32)), (.ref aE)])) rfl rfl (hb hby d16_56)
  have P55 : Rch p e below (s₁.setTop (entryFrame m #[(.ref a1), (.int p2)] 6)) (T54.setTop (mkF m 59 #[rv a1, iv p2, iv x4, iv (0 : Int32), iv (1 : Int32), iv en1] [(.int rb), (.int en1), (.int (1 : Int32)), (.ref aE)])) := fun t k => P53 t (st54 t k)
  obtain ⟨x56, hx56⟩ : ∃ z : Int32, z = ((((en1.toUInt32 >>> (rb &&& 31).toUInt32).toInt32) <<< (p2 &&& 31)) ||| (en1 &&& x4)) := ⟨_, rfl⟩
  have P57 : Rch p e below (s₁.setTop (entryFrame m #[(.ref a1), (.int p2)] 6)) (T54.setTop (mkF m 67 #[rv a1, iv p2, iv x4, iv (0 : Int32), iv (1 : Int32), iv en1] [(.int x56), (.int (1 : Int32)), (.ref aE)])) := fun t k => P55 t (by
    subst hx56
    show Steps p.tables e below (T54.setTop (mkF m 59 #[rv a1, iv p2, iv x4, iv (0 : Int32), iv (1 : Int32), iv en1] [(.int rb), (.int en1), (.int (1 : Int32)), (.ref aE)])) t
    refine XS.iushr X54.here hx rfl (hb hby d16_59) rfl ?_
    refine XS.iloadN X54.here hx rfl (hb hby d16_60) rfl ?_
    refine XS.ishl X54.here hx rfl (hb hby d16_61) rfl ?_
    show Steps p.tables e below (T54.setTop (mkF m 62 #[rv a1, iv p2, iv x4, iv (0 : Int32), iv (1 : Int32), iv en1] [(.int (((en1.toUInt32 >>> (rb &&& 31).toUInt32).toInt32) <<< (p2 &&& 31))), (.int (1 : Int32)), (.ref aE)])) t
    refine XS.iload X54.here hx rfl (hb hby d16_62) rfl ?_
    refine XS.iloadN X54.here hx rfl (hb hby d16_64) rfl ?_
    refine XS.iand X54.here hx rfl (hb hby d16_65) rfl ?_
    refine XS.ior X54.here hx rfl (hb hby d16_66) rfl ?_
    exact k)
  have V_o58 := V37
  obtain ⟨co58, Aro58, qo58, So58, Mo58, Ho58, Go58⟩ := V_o58
  have hin59 : ¬ ((1 : Int32) < 0 ∨ co58.slots.size ≤ ((1 : Int32)).toNatClampNeg) := inb_of So58 ⟨by decide, by decide⟩
  obtain ⟨T59, h59, X59, e59, W59, st59⟩ := stI X54 hx hZ e54 Aro58 (j := (1 : Int32)) hin59 (g := (mkF m 67 #[rv a1, iv p2, iv x4, iv (0 : Int32), iv (1 : Int32), iv en1] [(.int x56), (.int (1 : Int32)), (.ref aE)])) rfl rfl (hb hby d16_67)
  have V59 : Arv Z h59 aE kE .int (4 : Int32) [(.int x34), (.int x56), (.int en2), (.int en3)] (.int (0 : Int32)) := Arv.set Aro58 qo58 So58 Mo58 Ho58 Go58 rfl W59 1 rfl (Nat.le_of_ble_eq_true rfl)
  have P60 : Rch p e below (s₁.setTop (entryFrame m #[(.ref a1), (.int p2)] 6)) (T59.setTop (mkF m 68 #[rv a1, iv p2, iv x4, iv (0 : Int32), iv (1 : Int32), iv en1] [])) := fun t k => P57 t (st59 t k)
  have N59 := Fr.snoc X59 N40 g_aE
  have P61 : Rch p e below (s₁.setTop (entryFrame m #[(.ref a1), (.int p2)] 6)) (T59.setTop (mkF m 32 #[rv a1, iv p2, iv x4, iv (0 : Int32), iv (2 : Int32), iv en1] [(.int (0 : Int32)), (.ref a1), (.int (2 : Int32))])) := fun t k => P60 t (by
    show Steps p.tables e below (T59.setTop (mkF m 68 #[rv a1, iv p2, iv x4, iv (0 : Int32), iv (1 : Int32), iv en1] [])) t
    refine XS.iinc X59.here hx rfl (hb hby d16_68) rfl (l' := #[rv a1, iv p2, iv x4, iv (0 : Int32), iv (2 : Int32), iv en1]) rfl ?_
    refine XS.goto X59.here hx rfl (pc0 := 71) (pc' := 28) rfl (hb hby d16_71) (by decide) (by decide) ?_
    refine XS.iload X59.here hx rfl (hb hby d16_28) rfl ?_
    show Steps p.tables e below (T59.setTop (mkF m 30 #[rv a1, iv p2, iv x4, iv (0 : Int32), iv (2 : Int32), iv en1] [(.int (2 : Int32))])) t
    refine XS.aloadN X59.here hx rfl (hb hby d16_30) rfl rfl ?_
    refine XS.iloadN X59.here hx rfl (hb hby d16_31) rfl ?_
    exact k)
  have f63 : Fld Z h59 a1 "com/example/kinhash/kinhash/BlockTable" "start" "[I" (.ref aS) := ((Fa_aS.other W37 (Or.inl n_a1_aE)).other W59 (Or.inl n_a1_aE))
  have f64 : Fld Z h59 a1 "com/example/kinhash/kinhash/BlockTable" "length" "[I" (.ref aL) := ((Fa_aL.other W37 (Or.inl n_a1_aE)).other W59 (Or.inl n_a1_aE))
  have f65 : n0 ≤ h59.size := (Nat.le_trans f41 (Keep.of_wr W59).1)
  obtain ⟨cq62, kq62, q62a, q62b, q62c⟩ := isOf hZ e59 ((E1.wr W37).wr W59)
  obtain ⟨_, _, ⟨T62, L62, k62, n62⟩, -, X62, ⟨Lc62, hQ62, l62, y62, z62⟩, st62⟩ := X59.virtualBack hx (y := (⟨"com/example/kinhash/kinhash/BlockTable", "end", "(I)I"⟩ : MethodName)) (z := (⟨"com/example/kinhash/kinhash/BlockTable", "end", "(I)I"⟩ : MethodName)) hown (mvT hZ (hw _ (List.mem_of_getElem? (i := 61) rfl))) (mvT hZ (hw _ (List.mem_of_getElem? (i := 62) rfl))) (notFace_of_selects (args := #[]) (mvT hZ (hw _ (List.mem_of_getElem? (i := 64) rfl)))) (mvT hZ (hw _ (List.mem_of_getElem? (i := 64) rfl))) (mvT hZ (hw _ (List.mem_of_getElem? (i := 63) rfl))) (by decide) (backOf (W := 1) (rmE l Z a0 hw [] a1 aS kS aL kL (0 : Int32) (2 : Int32) h59 n0 f65 f63 f64 ((V_aS.other W37 n_aS_aE).other W59 n_aS_aE) ((V_aL.other W37 n_aL_aE).other W59 n_aL_aE)) hZ (hw _ (List.mem_of_getElem? (i := 65) rfl)) (hw _ (List.mem_of_getElem? (i := 4) rfl)) (by decide) (by decide)) q62a q62c (g := (mkF m 32 #[rv a1, iv p2, iv x4, iv (0 : Int32), iv (2 : Int32), iv en1] [(.int (0 : Int32)), (.ref a1), (.int (2 : Int32))])) rfl (by rw [hml]; rfl) (Steps.refl _) (argsL := [(.int (0 : Int32))]) (rest := [(.int (2 : Int32))]) (lenOf pd_3 rfl) rfl (by show 2 * 0 + _ ≤ _; exact Nat.le_of_eq rfl) (hb hby d16_32) (fun _ _ => ⟨rfl, e59, (by decide : 0 + 0 ≤ _), (by decide : 0 + 0 ≤ _)⟩)
  dsimp only [Pt.U, Pt.locs, Pt.cells, Pt.slots] at X62 l62 y62 z62 st62 hQ62
  subst y62 z62
  obtain ⟨rfl, N62q, e62⟩ := hQ62
  have N62 : Fr n0 L62 := by rw [l62]; exact Fr.app N59 N62q
  have P66 : Rch p e below (s₁.setTop (entryFrame m #[(.ref a1), (.int p2)] 6)) (T62.setTop (mkF m 35 #[rv a1, iv p2, iv x4, iv (0 : Int32), iv (2 : Int32), iv en1] [(.int (2 : Int32)), (.int (2 : Int32))])) := fun t k => P61 t (st62.trans k)
  have P67 : Rch p e below (s₁.setTop (entryFrame m #[(.ref a1), (.int p2)] 6)) (T62.setTop (mkF m 13 #[rv a1, iv p2, iv x4, iv (1 : Int32), iv (2 : Int32), iv en1] [(.ref a1), (.int (1 : Int32))])) := fun t k => P66 t (by
    show Steps p.tables e below (T62.setTop (mkF m 35 #[rv a1, iv p2, iv x4, iv (0 : Int32), iv (2 : Int32), iv en1] [(.int (2 : Int32)), (.int (2 : Int32))])) t
    refine XS.icmpYes X62.here hx rfl (pc0 := 35) (pc' := 74) rfl (hb hby d16_35) rfl (flt (by decide)).2.1 (by decide) (by decide) ?_
    refine XS.iinc X62.here hx rfl (hb hby d16_74) rfl (l' := #[rv a1, iv p2, iv x4, iv (1 : Int32), iv (2 : Int32), iv en1]) rfl ?_
    refine XS.goto X62.here hx rfl (pc0 := 77) (pc' := 11) rfl (hb hby d16_77) (by decide) (by decide) ?_
    show Steps p.tables e below (T62.setTop (mkF m 11 #[rv a1, iv p2, iv x4, iv (1 : Int32), iv (2 : Int32), iv en1] [])) t
    refine XS.iloadN X62.here hx rfl (hb hby d16_11) rfl ?_
    refine XS.aloadN X62.here hx rfl (hb hby d16_12) rfl rfl ?_
    exact k)
  obtain ⟨T68, X68, e68, st68⟩ := getF X62 hx hZ hown (host := "") (Or.inl (hw _ (List.mem_of_getElem? (i := 22) rfl))) Via.refl e62 f64 (g := (mkF m 13 #[rv a1, iv p2, iv x4, iv (1 : Int32), iv (2 : Int32), iv en1] [(.ref a1), (.int (1 : Int32))])) rfl rfl (hb hby d16_13)
  have P69 : Rch p e below (s₁.setTop (entryFrame m #[(.ref a1), (.int p2)] 6)) (T68.setTop (mkF m 16 #[rv a1, iv p2, iv x4, iv (1 : Int32), iv (2 : Int32), iv en1] [(.ref aL), (.int (1 : Int32))])) := fun t k => P67 t (st68 t k)
  have V_o70 := ((V_aL.other W37 n_aL_aE).other W59 n_aL_aE)
  obtain ⟨co70, Aro70, qo70, So70, Mo70, Ho70, Go70⟩ := V_o70
  have P71 : Rch p e below (s₁.setTop (entryFrame m #[(.ref a1), (.int p2)] 6)) (T68.setTop (mkF m 17 #[rv a1, iv p2, iv x4, iv (1 : Int32), iv (2 : Int32), iv en1] [(.int (1 : Int32)), (.int (1 : Int32))])) := fun t k => P69 t (by
    refine X68.arraylength hx (by rw [e68]; exact Aro70.1) (State.isArrayOf_alike hZ.alike Aro70.2.1) (g := (mkF m 16 #[rv a1, iv p2, iv x4, iv (1 : Int32), iv (2 : Int32), iv en1] [(.ref aL), (.int (1 : Int32))])) rfl rfl (hb hby d16_16) _ ?_
    rw [len_of So70 Mo70]; exact k)
  have P72 : Rch p e below (s₁.setTop (entryFrame m #[(.ref a1), (.int p2)] 6)) (T68.setTop (mkF m 82 #[rv a1, iv p2, iv x4, iv (1 : Int32), iv (2 : Int32), iv en1] [(.int p2), (.ref a1)])) := fun t k => P71 t (by
    show Steps p.tables e below (T68.setTop (mkF m 17 #[rv a1, iv p2, iv x4, iv (1 : Int32), iv (2 : Int32), iv en1] [(.int (1 : Int32)), (.int (1 : Int32))])) t
    refine XS.icmpYes X68.here hx rfl (pc0 := 17) (pc' := 80) rfl (hb hby d16_17) rfl (flt (by decide)).2.1 (by decide) (by decide) ?_
    refine XS.aloadN X68.here hx rfl (hb hby d16_80) rfl rfl ?_
    refine XS.iloadN X68.here hx rfl (hb hby d16_81) rfl ?_
    exact k)
  have f74 : Fld Z h59 a1 "com/example/kinhash/kinhash/BlockTable" "recordBits" "I" (.int rb) := ((Frb.other W37 (Or.inl n_a1_aE)).other W59 (Or.inl n_a1_aE))
  obtain ⟨T73, h73, X73, e73, W73, st73⟩ := putF X68 hx hZ hown (host := "") (Or.inl (hw _ (List.mem_of_getElem? (i := 11) rfl))) Via.refl e68 f74 ((E1.wr W37).wr W59) (Or.inl (hw _ (List.mem_of_getElem? (i := 12) rfl))) (hw _ (List.mem_of_getElem? (i := 3) rfl)) (ty := .int) (by decide) rfl rfl (g := (mkF m 82 #[rv a1, iv p2, iv x4, iv (1 : Int32), iv (2 : Int32), iv en1] [(.int p2), (.ref a1)])) rfl rfl (hb hby d16_82)
  have Fw73 := f74.same W73
  have P75 : Rch p e below (s₁.setTop (entryFrame m #[(.ref a1), (.int p2)] 6)) (T73.setTop (mkF m 85 #[rv a1, iv p2, iv x4, iv (1 : Int32), iv (2 : Int32), iv en1] [])) := fun t k => P72 t (st73 t k)
  have N73 := Fr.snoc X73 N62 g_a1
  obtain ⟨fs, hr, hrun, hended, hW, hsame⟩ := X73.leave (v := none) (fun _ => rfl)
  refine ⟨_, _, P75 _ ?_, hrun, hended, _, _, rfl, ?_, ⟨_, rfl⟩, hW, hsame.mono (by decide) (by decide)⟩
  · exact X73.returnOut hx Bd.returns (hb hby d16_85) hr
  · show Q_rmWd2 Z a1 p2 aS aL aR aE aT kS kL kR kE kT rb lb fr rm en0 en1 en2 en3 tg0 tg1 tg2 tg3 mk h0 n0 _ T73.heap _
    rw [e73]
    have f76 : Keep h0 h73 [a1, aE] := ((((Keep.refl h0 [a1, aE]).wr W37 (Or.inl (List.mem_of_getElem? (i := 1) rfl))).wr W59 (Or.inl (List.mem_of_getElem? (i := 1) rfl))).wr W73 (Or.inl (List.mem_of_getElem? (i := 0) rfl)))
    have f77 : Fld Z h73 a1 "com/example/kinhash/kinhash/BlockTable" "mask" "J" (.long mk) := (((Fmk.other W37 (Or.inl n_a1_aE)).other W59 (Or.inl n_a1_aE)).other W73 (Or.inr (slot_ne (Or.inr (hw _ (List.mem_of_getElem? (i := 14) rfl))) (Or.inl (hw _ (List.mem_of_getElem? (i := 12) rfl))) (by decide) (t := .long) (t' := .int) (by decide) (by decide))))
    have f78 : Fld Z h73 a1 "com/example/kinhash/kinhash/BlockTable" "lowestBit" "I" (.int lb) := (((Flb.other W37 (Or.inl n_a1_aE)).other W59 (Or.inl n_a1_aE)).other W73 (Or.inr (slot_ne (Or.inr (hw _ (List.mem_of_getElem? (i := 16) rfl))) (Or.inl (hw _ (List.mem_of_getElem? (i := 12) rfl))) (by decide) (t := .int) (t' := .int) (by decide) (by decide))))
    have f79 : Fld Z h73 a1 "com/example/kinhash/kinhash/BlockTable" "bucketBits" "I" (.int (0 : Int32)) := (((Fbb.other W37 (Or.inl n_a1_aE)).other W59 (Or.inl n_a1_aE)).other W73 (Or.inr (slot_ne (Or.inl (hw _ (List.mem_of_getElem? (i := 42) rfl))) (Or.inl (hw _ (List.mem_of_getElem? (i := 12) rfl))) (by decide) (t := .int) (t' := .int) (by decide) (by decide))))
    have f80 : Fld Z h73 a1 "com/example/kinhash/kinhash/BlockTable" "free" "I" (.int fr) := (((Ffr.other W37 (Or.inl n_a1_aE)).other W59 (Or.inl n_a1_aE)).other W73 (Or.inr (slot_ne (Or.inl (hw _ (List.mem_of_getElem? (i := 56) rfl))) (Or.inl (hw _ (List.mem_of_getElem? (i := 12) rfl))) (by decide) (t := .int) (t' := .int) (by decide) (by decide))))
    have f81 : Fld Z h73 a1 "com/example/kinhash/kinhash/BlockTable" "start" "[I" (.ref aS) := (f63.other W73 (Or.inr (slot_ne (Or.inl (hw _ (List.mem_of_getElem? (i := 21) rfl))) (Or.inl (hw _ (List.mem_of_getElem? (i := 12) rfl))) (by decide) (t := (.array .int)) (t' := .int) (by decide) (by decide))))
    have f82 : Fld Z h73 a1 "com/example/kinhash/kinhash/BlockTable" "length" "[I" (.ref aL) := (f64.other W73 (Or.inr (slot_ne (Or.inl (hw _ (List.mem_of_getElem? (i := 23) rfl))) (Or.inl (hw _ (List.mem_of_getElem? (i := 12) rfl))) (by decide) (t := (.array .int)) (t' := .int) (by decide) (by decide))))
    have f83 : Fld Z h73 a1 "com/example/kinhash/kinhash/BlockTable" "room" "[I" (.ref aR) := (((Fa_aR.other W37 (Or.inl n_a1_aE)).other W59 (Or.inl n_a1_aE)).other W73 (Or.inr (slot_ne (Or.inl (hw _ (List.mem_of_getElem? (i := 25) rfl))) (Or.inl (hw _ (List.mem_of_getElem? (i := 12) rfl))) (by decide) (t := (.array .int)) (t' := .int) (by decide) (by decide))))
    have f84 : Fld Z h73 a1 "com/example/kinhash/kinhash/BlockTable" "entries" "[I" (.ref aE) := (((Fa_aE.other W37 (Or.inl n_a1_aE)).other W59 (Or.inl n_a1_aE)).other W73 (Or.inr (slot_ne (Or.inl (hw _ (List.mem_of_getElem? (i := 27) rfl))) (Or.inl (hw _ (List.mem_of_getElem? (i := 12) rfl))) (by decide) (t := (.array .int)) (t' := .int) (by decide) (by decide))))
    have f85 : Fld Z h73 a1 "com/example/kinhash/kinhash/BlockTable" "tags" "[B" (.ref aT) := (((Fa_aT.other W37 (Or.inl n_a1_aE)).other W59 (Or.inl n_a1_aE)).other W73 (Or.inr (slot_ne (Or.inl (hw _ (List.mem_of_getElem? (i := 30) rfl))) (Or.inl (hw _ (List.mem_of_getElem? (i := 12) rfl))) (by decide) (t := (.array .byte)) (t' := .int) (by decide) (by decide))))
    exact ⟨rfl, N73, f76, (((E1.wr W37).wr W59).wr W73), Fw73, f77, f78, f79, f80, f81, f82, f83, f84, f85, (by subst hx56 hx34 hx4; exact (V59.other W73 (Ne.symm n_a1_aE)))⟩
theorem own_nat (x : Int32) (h0 : 0 ≤ x.toInt) : x.toBitVec.toNat = x.toInt.toNat := by
  have h : x.toInt = x.toBitVec.toInt := rfl
  rw [BitVec.toInt_eq_toNat_cond] at h
  have := x.toBitVec.isLt
  split at h <;> omega
theorem own_k {rb : Int32} (hb : 16 ≤ rb.toInt ∧ rb.toInt ≤ 30) : rb.toBitVec.toNat % 32 = rb.toInt.toNat := by
  rw [own_nat rb (by omega)]; omega
theorem own_shl (x : Int32) {rb : Int32} (hb : 16 ≤ rb.toInt ∧ rb.toInt ≤ 30) : (x <<< (rb &&& 31)).toBitVec = x.toBitVec <<< rb.toInt.toNat := by
  have hk := own_k hb
  apply BitVec.eq_of_toNat_eq
  show (x.toBitVec <<< ((rb &&& 31).toBitVec.smod 32)).toNat = _
  have e1 : (rb &&& 31).toBitVec = BitVec.ofNat 32 rb.toInt.toNat := by
    apply BitVec.eq_of_toNat_eq
    have := c_mask rb 31 5 (by decide) (by decide)
    rw [own_nat _ (by rw [this]; omega), this, BitVec.toNat_ofNat]
    generalize rb.toInt = R at *
    omega
  rw [BitVec.shiftLeft_eq', e1]
  congr 2
  generalize hg : rb.toInt.toNat = g
  have : g < 32 := by omega
  clear e1 hk hg hb
  revert g
  decide
theorem own_ones (k : Nat) (hk : k < 32) (i : Nat) : (((1#32) <<< k) - 1#32).getLsbD i = decide (i < k) := by
  have e : (((1#32) <<< k) - 1#32) = BitVec.ofNat 32 (2 ^ k - 1) := by
    apply BitVec.eq_of_toNat_eq
    have h1 : 2 ^ k < 2 ^ 32 := Nat.pow_lt_pow_right (by decide) hk
    have h2 : 0 < 2 ^ k := Nat.two_pow_pos k
    rw [BitVec.toNat_sub, BitVec.toNat_shiftLeft, BitVec.toNat_ofNat, BitVec.toNat_ofNat, Nat.shiftLeft_eq]
    generalize 2 ^ k = P at *
    omega
  rw [e, BitVec.getLsbD_ofNat, Nat.testBit_two_pow_sub_one]
  by_cases c : i < k
  · simp [c, show i < 32 by omega]
  · simp [c]
theorem own_recbit (x : Int32) {rb : Int32} (hb : 16 ≤ rb.toInt ∧ rb.toInt ≤ 30) (i : Nat) : (own_rec rb x).toBitVec.getLsbD i = (x.toBitVec.getLsbD i && decide (i < rb.toInt.toNat)) := by
  have e : (own_rec rb x).toBitVec = x.toBitVec &&& ((((1 : Int32) <<< (rb &&& 31)).toBitVec) - 1#32) := rfl
  rw [e, own_shl _ hb, BitVec.getLsbD_and]
  show (_ && ((1#32 <<< rb.toInt.toNat) - 1#32).getLsbD i) = _
  rw [own_ones _ (by omega)]
theorem own_fit0 {rb r : Int32} (hb : 16 ≤ rb.toInt ∧ rb.toInt ≤ 30) (hr : 0 ≤ r.toInt ∧ r.toInt < 1073741824) (h : ((r.toUInt32 >>> (rb &&& 31).toUInt32).toInt32) = (0 : Int32)) : r.toInt < (2 ^ rb.toInt.toNat : Nat) := by
  have q := c_iushr r rb rb.toInt.toNat (own_k hb) (by omega)
  rw [h] at q
  have hP : 0 < 2 ^ rb.toInt.toNat := Nat.two_pow_pos _
  generalize 2 ^ rb.toInt.toNat = P at *
  have z : (0 : Int32).toInt = 0 := rfl
  rw [z, show r.toInt % 4294967296 = r.toInt by omega] at q
  have h1 := Int.emod_add_mul_ediv r.toInt (P : Int)
  rw [← q] at h1
  have h2 := Int.emod_lt_of_pos r.toInt (show (0 : Int) < P by omega)
  omega
theorem own_widok {rb nb e rr : Int32} (hb : 16 ≤ rb.toInt ∧ rb.toInt ≤ 30) (hn : 16 ≤ nb.toInt ∧ nb.toInt ≤ 30) (hle : rb.toInt ≤ nb.toInt) (ok : own_rec rb e = rr) : own_rec nb (own_wid rb nb e) = rr := by
  rw [← ok]
  apply Int32.toBitVec_inj.mp
  apply BitVec.eq_of_getLsbD_eq
  intro i hi
  rw [own_recbit _ hn, own_recbit _ hb]
  have e1 : (own_wid rb nb e).toBitVec = ((((e.toUInt32 >>> (rb &&& 31).toUInt32).toInt32) <<< (nb &&& 31)).toBitVec ||| (own_rec rb e).toBitVec) := rfl
  rw [e1, own_shl _ hn, BitVec.getLsbD_or, own_recbit _ hb, BitVec.getLsbD_shiftLeft]
  by_cases c1 : i < nb.toInt.toNat
  · simp only [c1, decide_true, Bool.not_true, Bool.and_false, Bool.false_and, Bool.false_or, Bool.and_true]
  · have c2 : ¬ i < rb.toInt.toNat := by omega
    simp only [c1, c2, decide_false, Bool.and_false]
theorem own_entok {rb r : Int32} (hb : 16 ≤ rb.toInt ∧ rb.toInt ≤ 30) (hr : 0 ≤ r.toInt ∧ r.toInt < (2 ^ rb.toInt.toNat : Nat)) (t : Int32) : own_rec rb (own_ent rb r t) = r := by
  apply Int32.toBitVec_inj.mp
  apply BitVec.eq_of_getLsbD_eq
  intro i hi
  rw [own_recbit _ hb]
  have e1 : (own_ent rb r t).toBitVec = ((((t.toUInt32 >>> ((8 : Int32) &&& 31).toUInt32).toInt32) <<< (rb &&& 31)).toBitVec ||| r.toBitVec) := rfl
  rw [e1, own_shl _ hb, BitVec.getLsbD_or, BitVec.getLsbD_shiftLeft]
  by_cases c1 : i < rb.toInt.toNat
  · simp only [c1, decide_true, Bool.not_true, Bool.and_false, Bool.false_and, Bool.false_or, Bool.and_true]
  · have : r.toBitVec.getLsbD i = false := by
      have e : r.toBitVec.getLsbD i = r.toBitVec.toNat.testBit i := rfl
      rw [e]
      apply Nat.testBit_lt_two_pow
      rw [own_nat r hr.1]
      have h2 : 2 ^ rb.toInt.toNat ≤ 2 ^ i := Nat.pow_le_pow_right (by decide) (by omega)
      generalize 2 ^ rb.toInt.toNat = P at *
      omega
    simp only [c1, decide_false, Bool.and_false, this]
def own_inv (p : Int) (x n : Int32) (J m : Nat) : Prop := ∃ j : Nat, j ≤ J ∧ n.toInt = 31 - (j : Int) ∧ 0 < x.toInt ∧ x.toInt < (2 ^ m : Nat) ∧ x.toInt = p / (2 ^ j : Nat)
theorem own_stage {p : Int} {x n : Int32} {J : Nat} (lim q d : Int32) (s m : Nat) (hs : q.toBitVec.toNat % 32 = s) (hs0 : 0 < s) (hm : m ≤ 2 * s) (hlim : lim.toInt = (2 ^ s : Nat)) (hd : d.toInt = - (s : Int)) (hJ : J + s ≤ 30) (hm31 : m ≤ 31) (hp : 0 ≤ p) (H : own_inv p x n J m) : own_inv p (if x < lim then x else ((x.toUInt32 >>> (q &&& 31).toUInt32).toInt32)) (if x < lim then n else (n + d)) (J + s) s := by
  obtain ⟨j, hj, hn, h0, h1, h2⟩ := H
  by_cases c : x < lim
  · rw [if_pos c, if_pos c]
    refine ⟨j, by omega, hn, h0, ?_, h2⟩
    rw [← hlim]; exact Int32.lt_iff_toInt_lt.mp c
  · rw [if_neg c, if_neg c]
    have c' : lim.toInt ≤ x.toInt := by rw [Int32.lt_iff_toInt_lt] at c; omega
    have e := c_iushr x q s hs hs0
    have hx := rng32 x
    rw [show x.toInt % 4294967296 = x.toInt by omega] at e
    have hP : 0 < 2 ^ s := Nat.two_pow_pos _
    refine ⟨j + s, by omega, ?_, ?_, ?_, ?_⟩
    · have a := c_iadd n d; have r := rng32 (n + d); omega
    · rw [e]; rw [hlim] at c'
      exact (Int.le_ediv_iff_mul_le (a := 1) (by omega)).mpr (by omega)
    · rw [e]
      apply Int.ediv_lt_of_lt_mul (by omega)
      have : (2 ^ m : Nat) ≤ 2 ^ s * 2 ^ s := by rw [← Nat.pow_add]; exact Nat.pow_le_pow_right (by decide) (by omega)
      have t : ((2 ^ s * 2 ^ s : Nat) : Int) = (2 ^ s : Nat) * (2 ^ s : Nat) := by push_cast; rfl
      rw [← t]; omega
    · rw [e, h2, Nat.pow_add, Int.natCast_mul]; exact Int.ediv_ediv_of_nonneg (Int.natCast_nonneg _)
theorem own_nlzk {p : Int32} (hp : 0 < p.toInt) : ∃ k : Nat, k ≤ 30 ∧ (own_nlz p).toInt = 31 - (k : Int) ∧ ((2 ^ k : Nat) : Int) ≤ p.toInt ∧ p.toInt < (2 ^ (k + 1) : Nat) := by
  have hpos : (0 : Int32) < p := Int32.lt_iff_toInt_lt.mpr hp
  have I0 : own_inv p.toInt p (31 : Int32) 0 31 := ⟨0, by omega, rfl, hp, by have := rng32 p; have e : ((2 ^ 31 : Nat) : Int) = 2147483648 := by decide
                                                                             omega, by simp⟩
  unfold own_nlz
  rw [if_pos hpos]
  have I1 := own_stage (65536 : Int32) (16 : Int32) (-16 : Int32) 16 31 (by decide) (by decide) (by decide) (by decide) (by decide) (by decide) (by decide) (by omega) I0
  obtain ⟨x1, hx1⟩ : ∃ z, z = (if p < (65536 : Int32) then p else ((p.toUInt32 >>> ((16 : Int32) &&& 31).toUInt32).toInt32)) := ⟨_, rfl⟩
  obtain ⟨n1, hn1⟩ : ∃ z, z = (if p < (65536 : Int32) then (31 : Int32) else ((31 : Int32) + (-16 : Int32))) := ⟨_, rfl⟩
  rw [← hx1, ← hn1] at I1 ⊢
  have I2 := own_stage (256 : Int32) (8 : Int32) (-8 : Int32) 8 16 (by decide) (by decide) (by decide) (by decide) (by decide) (by decide) (by decide) (by omega) I1
  obtain ⟨x2, hx2⟩ : ∃ z, z = (if x1 < (256 : Int32) then x1 else ((x1.toUInt32 >>> ((8 : Int32) &&& 31).toUInt32).toInt32)) := ⟨_, rfl⟩
  obtain ⟨n2, hn2⟩ : ∃ z, z = (if x1 < (256 : Int32) then n1 else (n1 + (-8 : Int32))) := ⟨_, rfl⟩
  rw [← hx2, ← hn2] at I2 ⊢
  have I3 := own_stage (16 : Int32) (4 : Int32) (-4 : Int32) 4 8 (by decide) (by decide) (by decide) (by decide) (by decide) (by decide) (by decide) (by omega) I2
  obtain ⟨x3, hx3⟩ : ∃ z, z = (if x2 < (16 : Int32) then x2 else ((x2.toUInt32 >>> ((4 : Int32) &&& 31).toUInt32).toInt32)) := ⟨_, rfl⟩
  obtain ⟨n3, hn3⟩ : ∃ z, z = (if x2 < (16 : Int32) then n2 else (n2 + (-4 : Int32))) := ⟨_, rfl⟩
  rw [← hx3, ← hn3] at I3 ⊢
  have I4 := own_stage (4 : Int32) (2 : Int32) (-2 : Int32) 2 4 (by decide) (by decide) (by decide) (by decide) (by decide) (by decide) (by decide) (by omega) I3
  obtain ⟨x4, hx4⟩ : ∃ z, z = (if x3 < (4 : Int32) then x3 else ((x3.toUInt32 >>> ((2 : Int32) &&& 31).toUInt32).toInt32)) := ⟨_, rfl⟩
  obtain ⟨n4, hn4⟩ : ∃ z, z = (if x3 < (4 : Int32) then n3 else (n3 + (-2 : Int32))) := ⟨_, rfl⟩
  rw [← hx4, ← hn4] at I4 ⊢
  obtain ⟨j, hj, hn, h0, h1, h2⟩ := I4
  have e := c_iushr x4 1 1 (by decide) (by decide)
  have hs := c_isub n4 ((x4.toUInt32 >>> ((1 : Int32) &&& 31).toUInt32).toInt32)
  have hr := rng32 (n4 - ((x4.toUInt32 >>> ((1 : Int32) &&& 31).toUInt32).toInt32))
  have e4 : ((2 ^ 2 : Nat) : Int) = 4 := by decide
  have e2 : ((2 ^ 1 : Nat) : Int) = 2 := by decide
  rw [e4] at h1
  rw [e2] at e
  have hP : 0 < 2 ^ j := Nat.two_pow_pos _
  have d1 := Int.emod_add_mul_ediv p.toInt ((2 ^ j : Nat) : Int)
  have d2 := Int.emod_lt_of_pos p.toInt (show (0 : Int) < ((2 ^ j : Nat) : Int) by omega)
  have d3 := Int.emod_nonneg p.toInt (show ((2 ^ j : Nat) : Int) ≠ 0 by omega)
  rw [← h2] at d1
  have q1 : 2 ^ (j + 1) = 2 * 2 ^ j := by rw [Nat.pow_succ, Nat.mul_comm]
  have q2 : 2 ^ (j + 1 + 1) = 4 * 2 ^ j := by rw [Nat.pow_succ, q1]; omega
  have cs : x4.toInt = 1 ∨ x4.toInt = 2 ∨ x4.toInt = 3 := by omega
  rcases cs with c | c | c
  · refine ⟨j, by omega, by omega, ?_, ?_⟩ <;> rw [c] at d1 <;> (try rw [q1]) <;> generalize 2 ^ j = P at * <;> omega
  · rw [c] at d1 e
    refine ⟨j + 1, ?_, by omega, ?_, ?_⟩
    · have : j + 1 < 31 := by
        apply (Nat.pow_lt_pow_iff_right (a := 2) (by decide)).mp
        rw [q1]
        have := rng32 p
        have e31 : (2 ^ 31 : Nat) = 2147483648 := by decide
        rw [e31]
        generalize 2 ^ j = P at *; omega
      omega
    · rw [q1]; generalize 2 ^ j = P at *; omega
    · rw [q2]; generalize 2 ^ j = P at *; omega
  · rw [c] at d1 e
    refine ⟨j + 1, ?_, by omega, ?_, ?_⟩
    · have : j + 1 < 31 := by
        apply (Nat.pow_lt_pow_iff_right (a := 2) (by decide)).mp
        rw [q1]
        have := rng32 p
        have e31 : (2 ^ 31 : Nat) = 2147483648 := by decide
        rw [e31]
        generalize 2 ^ j = P at *; omega
      omega
    · rw [q1]; generalize 2 ^ j = P at *; omega
    · rw [q2]; generalize 2 ^ j = P at *; omega
theorem own_newb {rb r : Int32} (hb : 16 ≤ rb.toInt ∧ rb.toInt ≤ 30) (hr : 0 ≤ r.toInt ∧ r.toInt < 1073741824) (h : ¬ ((r.toUInt32 >>> (rb &&& 31).toUInt32).toInt32) = (0 : Int32)) : (16 ≤ ((32 : Int32) - own_nlz r).toInt ∧ ((32 : Int32) - own_nlz r).toInt ≤ 30) ∧ rb.toInt ≤ ((32 : Int32) - own_nlz r).toInt ∧ r.toInt < (2 ^ ((32 : Int32) - own_nlz r).toInt.toNat : Nat) := by
  have q := c_iushr r rb rb.toInt.toNat (own_k hb) (by omega)
  rw [show r.toInt % 4294967296 = r.toInt by omega] at q
  have hP : 0 < 2 ^ rb.toInt.toNat := Nat.two_pow_pos _
  have hge : ((2 ^ rb.toInt.toNat : Nat) : Int) ≤ r.toInt := by
    apply Classical.byContradiction
    intro hlt
    apply h
    apply Int32.toInt_inj.mp
    rw [q]
    exact Int.ediv_eq_zero_of_lt hr.1 (by omega)
  obtain ⟨k, hk, hn, h1, h2⟩ := own_nlzk (p := r) (by omega)
  have hs := c_isub 32 (own_nlz r)
  have hr' := rng32 ((32 : Int32) - own_nlz r)
  have e32 : (32 : Int32).toInt = 32 := rfl
  have ev : ((32 : Int32) - own_nlz r).toInt = (k : Int) + 1 := by omega
  rw [ev]
  have k1 : ((k : Int) + 1).toNat = k + 1 := by omega
  rw [k1]
  have l1 : rb.toInt.toNat < k + 1 := by
    apply (Nat.pow_lt_pow_iff_right (a := 2) (by decide)).mp
    omega
  have l2 : k < 30 := by
    apply (Nat.pow_lt_pow_iff_right (a := 2) (by decide)).mp
    have : (2 ^ 30 : Nat) = 1073741824 := by decide
    omega
  exact ⟨⟨by omega, by omega⟩, by omega, h2⟩

def Q_rmAdd0 (Z : State) (a1 : Addr) (aS : Addr) (aL : Addr) (aR : Addr) (aE : Addr) (aT : Addr) (kS : ClassId) (kL : ClassId) (kR : ClassId) (kE : ClassId) (kT : ClassId) (p2 : Int32) (q3 : Int64) (rb : Int32) (lb : Int32) (mk : Int64) (tg0 : Int32) (tg1 : Int32) (tg2 : Int32) (tg3 : Int32) (h0 : Heap) (n0 : Nat) (v : Option Value) (h : Heap) (L : List Loc) : Prop := ∃ (rbx : Int32), ∃ (ex0 : Int32), ∃ (tx : Int32), v = none ∧ Fr n0 L ∧ Keep h0 h [a1, aS, aL, aR, aE, aT] ∧ (Exa Z h a1 "com/example/kinhash/kinhash/BlockTable") ∧ (Fld Z h a1 "com/example/kinhash/kinhash/BlockTable" "recordBits" "I" (.int rbx)) ∧ (Fld Z h a1 "com/example/kinhash/kinhash/BlockTable" "mask" "J" (.long mk)) ∧ (Fld Z h a1 "com/example/kinhash/kinhash/BlockTable" "lowestBit" "I" (.int lb)) ∧ (Fld Z h a1 "com/example/kinhash/kinhash/BlockTable" "bucketBits" "I" (.int (0 : Int32))) ∧ (Fld Z h a1 "com/example/kinhash/kinhash/BlockTable" "free" "I" (.int (4 : Int32))) ∧ (Fld Z h a1 "com/example/kinhash/kinhash/BlockTable" "start" "[I" (.ref aS)) ∧ (Fld Z h a1 "com/example/kinhash/kinhash/BlockTable" "length" "[I" (.ref aL)) ∧ (Fld Z h a1 "com/example/kinhash/kinhash/BlockTable" "room" "[I" (.ref aR)) ∧ (Fld Z h a1 "com/example/kinhash/kinhash/BlockTable" "entries" "[I" (.ref aE)) ∧ (Fld Z h a1 "com/example/kinhash/kinhash/BlockTable" "tags" "[B" (.ref aT)) ∧ (Arv Z h aS kS .int (1 : Int32) [(.int (0 : Int32))] (.int (0 : Int32))) ∧ (Arv Z h aL kL .int (1 : Int32) [(.int (1 : Int32))] (.int (0 : Int32))) ∧ (Arv Z h aR kR .int (1 : Int32) [(.int (4 : Int32))] (.int (0 : Int32))) ∧ (Arv Z h aE kE .int (4 : Int32) [(.int ex0), (.int (0 : Int32)), (.int (0 : Int32)), (.int (0 : Int32))] (.int (0 : Int32))) ∧ (Arv Z h aT kT .byte (4 : Int32) [(.int tx), (.int tg1), (.int tg2), (.int tg3)] (.int (0 : Int32))) ∧ (16 ≤ rbx.toInt ∧ rbx.toInt ≤ 30) ∧ (own_rec rbx ex0 = p2)
set_option maxRecDepth 65536 in
set_option maxHeartbeats 40000000 in
theorem rmAdd0 (l : Launch) (Z : State) (a0 : Array Value) (hw : ∀ d ∈ tables_1, d.before a0 Z = true) (ws : List Jvm.Cond) (a1 : Addr) (aS : Addr) (aL : Addr) (aR : Addr) (aE : Addr) (aT : Addr) (kS : ClassId) (kL : ClassId) (kR : ClassId) (kE : ClassId) (kT : ClassId) (p2 : Int32) (q3 : Int64) (rb : Int32) (lb : Int32) (mk : Int64) (tg0 : Int32) (tg1 : Int32) (tg2 : Int32) (tg3 : Int32) (h0 : Heap) (n0 : Nat) (Z0 : n0 ≤ h0.size) (E1 : Exa Z h0 a1 "com/example/kinhash/kinhash/BlockTable") (g_a1 : n0 ≤ a1) (g_aS : n0 ≤ aS) (g_aL : n0 ≤ aL) (g_aR : n0 ≤ aR) (g_aE : n0 ≤ aE) (g_aT : n0 ≤ aT) (n_a1_aS : a1 ≠ aS) (n_a1_aL : a1 ≠ aL) (n_a1_aR : a1 ≠ aR) (n_a1_aE : a1 ≠ aE) (n_a1_aT : a1 ≠ aT) (n_aS_aL : aS ≠ aL) (n_aS_aR : aS ≠ aR) (n_aS_aE : aS ≠ aE) (n_aS_aT : aS ≠ aT) (n_aL_aR : aL ≠ aR) (n_aL_aE : aL ≠ aE) (n_aL_aT : aL ≠ aT) (n_aR_aE : aR ≠ aE) (n_aR_aT : aR ≠ aT) (n_aE_aT : aE ≠ aT) (Frb : Fld Z h0 a1 "com/example/kinhash/kinhash/BlockTable" "recordBits" "I" (.int rb)) (Fmk : Fld Z h0 a1 "com/example/kinhash/kinhash/BlockTable" "mask" "J" (.long mk)) (Flb : Fld Z h0 a1 "com/example/kinhash/kinhash/BlockTable" "lowestBit" "I" (.int lb)) (Fbb : Fld Z h0 a1 "com/example/kinhash/kinhash/BlockTable" "bucketBits" "I" (.int (0 : Int32))) (Ffr : Fld Z h0 a1 "com/example/kinhash/kinhash/BlockTable" "free" "I" (.int (0 : Int32))) (Fa_aS : Fld Z h0 a1 "com/example/kinhash/kinhash/BlockTable" "start" "[I" (.ref aS)) (Fa_aL : Fld Z h0 a1 "com/example/kinhash/kinhash/BlockTable" "length" "[I" (.ref aL)) (Fa_aR : Fld Z h0 a1 "com/example/kinhash/kinhash/BlockTable" "room" "[I" (.ref aR)) (Fa_aE : Fld Z h0 a1 "com/example/kinhash/kinhash/BlockTable" "entries" "[I" (.ref aE)) (Fa_aT : Fld Z h0 a1 "com/example/kinhash/kinhash/BlockTable" "tags" "[B" (.ref aT)) (V_aS : Arv Z h0 aS kS .int (1 : Int32) [(.int (0 : Int32))] (.int (0 : Int32))) (V_aL : Arv Z h0 aL kL .int (1 : Int32) [(.int (0 : Int32))] (.int (0 : Int32))) (V_aR : Arv Z h0 aR kR .int (1 : Int32) [(.int (0 : Int32))] (.int (0 : Int32))) (V_aE : Arv Z h0 aE kE .int (4 : Int32) [(.int (0 : Int32)), (.int (0 : Int32)), (.int (0 : Int32)), (.int (0 : Int32))] (.int (0 : Int32))) (V_aT : Arv Z h0 aT kT .byte (4 : Int32) [(.int tg0), (.int tg1), (.int tg2), (.int tg3)] (.int (0 : Int32))) (hrb : 16 ≤ rb.toInt ∧ rb.toInt ≤ 30) (hrg : 0 ≤ p2.toInt ∧ p2.toInt < 1073741824) :
    MetFree l (⟨"com/example/kinhash/kinhash/BlockTable", "add", "(IJLjava/util/function/IntToLongFunction;)V"⟩ : MethodName) (head1 (Jvm.Cond.code (⟨"com/example/kinhash/kinhash/BlockTable", "add", "(IJLjava/util/function/IntToLongFunction;)V"⟩ : MethodName) prog_4_method_9_code 6 none :: ws) ({ frames := 3, cells := 0, slots := 0, locals := 47 } : Room)) (fun a U => a = #[(.ref a1), (.int p2), (.long q3), .null] ∧ Z.Warmed39 U.vm ∧ U.heap = h0) (fun _ _ _ _ _ => True) (fun _ U o U' => ∃ v L, o = .returned v ∧ Q_rmAdd0 Z a1 aS aL aR aE aT kS kL kR kE kT p2 q3 rb lb mk tg0 tg1 tg2 tg3 h0 n0 v U'.heap L ∧ FrameEnd U o U' L ({ frames := 3, cells := 0, slots := 0, locals := 47 } : Room).cells ({ frames := 3, cells := 0, slots := 0, locals := 47 } : Room).slots) := by
  refine MetFree.of_bodySF (plainFor_of_name pn_0) hisR ?_
  intro p e s m args below meth c s₁ Bd hml0 hP hK
  obtain ⟨rfl, hZ, hh⟩ := hP
  have hx := Bd.exec
  have hby := Bd.bytes
  have hml : c.maxLocals = 6 := hml0
  have hown : s.vm.findClass "com/example/kinhash/kinhash/BlockTable" = some m.cls := findClass_of_methodNamed Bd.named
  have hnm := (name_of_methodNamed Bd.named Bd.method).1
  have X0 : Stand p l e ({ frames := 3, cells := 0, slots := 0, locals := 47 } : Room) s m #[(.ref a1), (.int p2), (.long q3), .null] below meth c s₁ [] 0 0 := Stand.of_body Bd
  have e0 : s₁.heap = h0 := by rw [← hh, Bd.state]; rfl
  have N0 := Fr.nil n0
  have P0 : Rch p e below (s₁.setTop (entryFrame m #[(.ref a1), (.int p2), (.long q3), .null] 6)) (s₁.setTop (mkF m 0 #[rv a1, iv p2, lv q3, sd, .val .null, un] [])) := fun t k => castTop (by first | (simp [entryFrame, mkF, argsToLocals, Value.category]; done) | rfl) k
  have P1 : Rch p e below (s₁.setTop (entryFrame m #[(.ref a1), (.int p2), (.long q3), .null] 6)) (s₁.setTop (mkF m 2 #[rv a1, iv p2, lv q3, sd, .val .null, un] [(.ref a1), (.int p2)])) := fun t k => P0 t (by
    show Steps p.tables e below (s₁.setTop (mkF m 0 #[rv a1, iv p2, lv q3, sd, .val .null, un] [])) t
    refine XS.iloadN X0.here hx rfl (hb hby d3_0) rfl ?_
    refine XS.aloadN X0.here hx rfl (hb hby d3_1) rfl rfl ?_
    exact k)
  obtain ⟨T2, X2, e2, st2⟩ := getF X0 hx hZ hown (host := "") (Or.inl (hw _ (List.mem_of_getElem? (i := 11) rfl))) Via.refl e0 Frb (g := (mkF m 2 #[rv a1, iv p2, lv q3, sd, .val .null, un] [(.ref a1), (.int p2)])) rfl rfl (hb hby d3_2)
  have P3 : Rch p e below (s₁.setTop (entryFrame m #[(.ref a1), (.int p2), (.long q3), .null] 6)) (T2.setTop (mkF m 5 #[rv a1, iv p2, lv q3, sd, .val .null, un] [(.int rb), (.int p2)])) := fun t k => P1 t (st2 t k)
  obtain ⟨x4, hx4⟩ : ∃ z : Int32, z = ((p2.toUInt32 >>> (rb &&& 31).toUInt32).toInt32) := ⟨_, rfl⟩
  have P5 : Rch p e below (s₁.setTop (entryFrame m #[(.ref a1), (.int p2), (.long q3), .null] 6)) (T2.setTop (mkF m 6 #[rv a1, iv p2, lv q3, sd, .val .null, un] [(.int x4)])) := fun t k => P3 t (by
    subst hx4
    show Steps p.tables e below (T2.setTop (mkF m 5 #[rv a1, iv p2, lv q3, sd, .val .null, un] [(.int rb), (.int p2)])) t
    refine XS.iushr X2.here hx rfl (hb hby d3_5) rfl ?_
    exact k)
  obtain ⟨T6, L6, h6, rbj_6, X6, e6, N6, Z6, K6, Frb_6, Fmk_6, Flb_6, Fbb_6, Ffr_6, Fa_aS_6, Fa_aL_6, Fa_aR_6, Fa_aE_6, Fa_aT_6, VE_6, hbj_6, hfj_6, P6⟩ : ∃ (T6 : State) (L6 : List Loc) (h6 : Heap) (rbj_6 : Int32), Stand p l e ({ frames := 3, cells := 0, slots := 0, locals := 47 } : Room) s m #[(.ref a1), (.int p2), (.long q3), .null] below meth c T6 L6 0 0 ∧ T6.heap = h6 ∧ Fr n0 L6 ∧ n0 ≤ h6.size ∧ Keep h0 h6 [a1, aE] ∧ (Fld Z h6 a1 "com/example/kinhash/kinhash/BlockTable" "recordBits" "I" (.int rbj_6)) ∧ (Fld Z h6 a1 "com/example/kinhash/kinhash/BlockTable" "mask" "J" (.long mk)) ∧ (Fld Z h6 a1 "com/example/kinhash/kinhash/BlockTable" "lowestBit" "I" (.int lb)) ∧ (Fld Z h6 a1 "com/example/kinhash/kinhash/BlockTable" "bucketBits" "I" (.int (0 : Int32))) ∧ (Fld Z h6 a1 "com/example/kinhash/kinhash/BlockTable" "free" "I" (.int (0 : Int32))) ∧ (Fld Z h6 a1 "com/example/kinhash/kinhash/BlockTable" "start" "[I" (.ref aS)) ∧ (Fld Z h6 a1 "com/example/kinhash/kinhash/BlockTable" "length" "[I" (.ref aL)) ∧ (Fld Z h6 a1 "com/example/kinhash/kinhash/BlockTable" "room" "[I" (.ref aR)) ∧ (Fld Z h6 a1 "com/example/kinhash/kinhash/BlockTable" "entries" "[I" (.ref aE)) ∧ (Fld Z h6 a1 "com/example/kinhash/kinhash/BlockTable" "tags" "[B" (.ref aT)) ∧ (Arv Z h6 aE kE .int (4 : Int32) [(.int (0 : Int32)), (.int (0 : Int32)), (.int (0 : Int32)), (.int (0 : Int32))] (.int (0 : Int32))) ∧ (16 ≤ rbj_6.toInt ∧ rbj_6.toInt ≤ 30) ∧ (p2.toInt < (2 ^ rbj_6.toInt.toNat : Nat)) ∧ Rch p e below (s₁.setTop (entryFrame m #[(.ref a1), (.int p2), (.long q3), .null] 6)) (T6.setTop (mkF m 20 #[rv a1, iv p2, lv q3, sd, .val .null, un] [])) := by
    by_cases c7 : x4 = (0 : Int32)
    · have P8 : Rch p e below (s₁.setTop (entryFrame m #[(.ref a1), (.int p2), (.long q3), .null] 6)) (T2.setTop (mkF m 20 #[rv a1, iv p2, lv q3, sd, .val .null, un] [])) := fun t k => P5 t (by
        show Steps p.tables e below (T2.setTop (mkF m 6 #[rv a1, iv p2, lv q3, sd, .val .null, un] [(.int x4)])) t
        refine XS.ifYes X2.here hx rfl (pc0 := 6) (pc' := 20) rfl (hb hby d3_6) rfl ((if0 _ _).trans (teq c7).1) (by decide) (by decide) ?_
        exact k)
      exact ⟨T2, _, h0, rb, X2, e2, N0, Z0, (Keep.refl h0 [a1, aE]), Frb, Fmk, Flb, Fbb, Ffr, Fa_aS, Fa_aL, Fa_aR, Fa_aE, Fa_aT, V_aE, hrb, (own_fit0 hrb hrg (by rw [← hx4]; exact c7)), P8⟩
    · have P9 : Rch p e below (s₁.setTop (entryFrame m #[(.ref a1), (.int p2), (.long q3), .null] 6)) (T2.setTop (mkF m 13 #[rv a1, iv p2, lv q3, sd, .val .null, un] [(.int p2), (.int (32 : Int32)), (.ref a1)])) := fun t k => P5 t (by
        show Steps p.tables e below (T2.setTop (mkF m 6 #[rv a1, iv p2, lv q3, sd, .val .null, un] [(.int x4)])) t
        refine XS.ifNo X2.here hx rfl (hb hby d3_6) rfl ((if0 _ _).trans (feq c7).1) ?_
        refine XS.aloadN X2.here hx rfl (hb hby d3_9) rfl rfl ?_
        refine XS.bipush X2.here hx rfl (hb hby d3_10) ?_
        show Steps p.tables e below (T2.setTop (mkF m 12 #[rv a1, iv p2, lv q3, sd, .val .null, un] [(.int (32 : Int32)), (.ref a1)])) t
        refine XS.iloadN X2.here hx rfl (hb hby d3_12) rfl ?_
        exact k)
      obtain ⟨_, _, ⟨T10, L10, k10, n10⟩, -, X10, ⟨Lc10, hQ10, l10, y10, z10⟩, st10⟩ := Jvm.LawKit.callS X2 hx (y := (⟨"java/lang/Integer", "numberOfLeadingZeros", "(I)I"⟩ : MethodName)) hown (mvT hZ (hw _ (List.mem_of_getElem? (i := 93) rfl))) (mvT hZ (hw _ (List.mem_of_getElem? (i := 94) rfl))) (mvT hZ (hw _ (List.mem_of_getElem? (i := 95) rfl))) (mvT hZ (hw _ (List.mem_of_getElem? (i := 96) rfl))) (by decide) (backOf (W := 2) (rmNl l Z a0 hw [] p2 h0 n0 Z0 ) hZ (hw _ (List.mem_of_getElem? (i := 96) rfl)) (hw _ (List.mem_of_getElem? (i := 95) rfl)) (by decide) (by decide)) (g := (mkF m 13 #[rv a1, iv p2, lv q3, sd, .val .null, un] [(.int p2), (.int (32 : Int32)), (.ref a1)])) rfl (by rw [hml]; rfl) (argsL := [(.int p2)]) (rest := [(.int (32 : Int32)), (.ref a1)]) (lenOf pd_3 rfl) rfl (by show 2 * 0 + _ ≤ _; exact Nat.le_of_eq rfl) (hb hby d3_13) (fun _ _ => ⟨rfl, e2, (by decide : 0 + 0 ≤ _), (by decide : 0 + 0 ≤ _)⟩)
      dsimp only [Pt.U, Pt.locs, Pt.cells, Pt.slots] at X10 l10 y10 z10 st10 hQ10
      subst y10 z10
      obtain ⟨rfl, N10q, e10⟩ := hQ10
      have N10 : Fr n0 L10 := by rw [l10]; exact Fr.app N0 N10q
      have P11 : Rch p e below (s₁.setTop (entryFrame m #[(.ref a1), (.int p2), (.long q3), .null] 6)) (T10.setTop (mkF m 16 #[rv a1, iv p2, lv q3, sd, .val .null, un] [(.int (own_nlz p2)), (.int (32 : Int32)), (.ref a1)])) := fun t k => P9 t (st10 t k)
      obtain ⟨x12, hx12⟩ : ∃ z : Int32, z = (own_nlz p2) := ⟨_, rfl⟩
      rw [← hx12] at P11
      obtain ⟨x13, hx13⟩ : ∃ z : Int32, z = ((32 : Int32) - x12) := ⟨_, rfl⟩
      have P14 : Rch p e below (s₁.setTop (entryFrame m #[(.ref a1), (.int p2), (.long q3), .null] 6)) (T10.setTop (mkF m 17 #[rv a1, iv p2, lv q3, sd, .val .null, un] [(.int x13), (.ref a1)])) := fun t k => P11 t (by
        subst hx13
        show Steps p.tables e below (T10.setTop (mkF m 16 #[rv a1, iv p2, lv q3, sd, .val .null, un] [(.int x12), (.int (32 : Int32)), (.ref a1)])) t
        refine XS.isub X10.here hx rfl (hb hby d3_16) rfl ?_
        exact k)
      obtain ⟨cq15, q15, q15'⟩ := E1.cell
      obtain ⟨_, _, ⟨T15, L15, k15, n15⟩, -, X15, ⟨Lc15, hQ15, l15, y15, z15⟩, st15⟩ := X10.privateBack hx (y := (⟨"com/example/kinhash/kinhash/BlockTable", "widenRecords", "(I)V"⟩ : MethodName)) hown (mvT hZ (hw _ (List.mem_of_getElem? (i := 98) rfl))) (mvT hZ (hw _ (List.mem_of_getElem? (i := 99) rfl))) (own_selp hZ (hw _ (List.mem_of_getElem? (i := 3) rfl)) (hw _ (List.mem_of_getElem? (i := 99) rfl)) (hw _ (List.mem_of_getElem? (i := 100) rfl)) (by decide)) (Cond.privateMethod_at (mvP hZ (hw _ (List.mem_of_getElem? (i := 100) rfl)) (args := #[]))) (mvT hZ (hw _ (List.mem_of_getElem? (i := 101) rfl))) (by decide) (backOf (W := 0) (rmWd0 l Z a0 hw [] a1 x13 aS aL aR aE aT kS kL kR kE kT rb lb (0 : Int32) (0 : Int32) (0 : Int32) (0 : Int32) (0 : Int32) (0 : Int32) tg0 tg1 tg2 tg3 mk h0 n0 Z0 E1 g_a1 g_aS g_aL g_aR g_aE g_aT n_a1_aS n_a1_aL n_a1_aR n_a1_aE n_a1_aT n_aS_aL n_aS_aR n_aS_aE n_aS_aT n_aL_aR n_aL_aE n_aL_aT n_aR_aE n_aR_aT n_aE_aT Frb Fmk Flb Fbb Ffr Fa_aS Fa_aL Fa_aR Fa_aE Fa_aT V_aS V_aL V_aR V_aE V_aT) hZ (hw _ (List.mem_of_getElem? (i := 101) rfl)) (hw _ (List.mem_of_getElem? (i := 4) rfl)) (by decide) (by decide)) (g := (mkF m 17 #[rv a1, iv p2, lv q3, sd, .val .null, un] [(.int x13), (.ref a1)])) rfl (by rw [hml]; rfl) (Steps.refl _) (a := a1) (by rw [e10]; exact q15) q15' (argsL := [(.int x13)]) (rest := []) (lenOf pd_4 rfl) rfl (by show 2 * 0 + _ ≤ _; exact Nat.le_of_eq rfl) (hb hby d3_17) (fun _ _ => ⟨rfl, e10, (by decide : 0 + 0 ≤ _), (by decide : 0 + 0 ≤ _)⟩)
      dsimp only [Pt.U, Pt.locs, Pt.cells, Pt.slots] at X15 l15 y15 z15 st15 hQ15
      subst y15 z15
      obtain ⟨rfl, N15q, K15, E1_15, Frb_15, Fmk_15, Flb_15, Fbb_15, Ffr_15, Fa_aS_15, Fa_aL_15, Fa_aR_15, Fa_aE_15, Fa_aT_15, V_aE_15⟩ := hQ15
      have N15 : Fr n0 L15 := by rw [l15]; exact Fr.app N10 N15q
      have P16 : Rch p e below (s₁.setTop (entryFrame m #[(.ref a1), (.int p2), (.long q3), .null] 6)) (T15.setTop (mkF m 20 #[rv a1, iv p2, lv q3, sd, .val .null, un] [])) := fun t k => P14 t (st15.trans k)
      have f17 : n0 ≤ T15.heap.size := (Nat.le_trans Z0 K15.1)
      exact ⟨T15, _, T15.heap, x13, X15, rfl, N15, f17, ((Keep.refl h0 [a1, aE]).trans K15 (allS (P := fun x => x ∈ ([a1, aE] : List Addr) ∨ h0.size ≤ x) (Or.inl (List.mem_of_getElem? (i := 0) rfl)) (allS (P := fun x => x ∈ ([a1, aE] : List Addr) ∨ h0.size ≤ x) (Or.inl (List.mem_of_getElem? (i := 1) rfl)) all0))), Frb_15, Fmk_15, Flb_15, Fbb_15, Ffr_15, Fa_aS_15, Fa_aL_15, Fa_aR_15, Fa_aE_15, Fa_aT_15, V_aE_15, (by rw [hx13, hx12]; exact (own_newb hrb hrg (by rw [← hx4]; exact c7)).1), (by rw [hx13, hx12]; exact (own_newb hrb hrg (by rw [← hx4]; exact c7)).2.2), P16⟩
  have P18 : Rch p e below (s₁.setTop (entryFrame m #[(.ref a1), (.int p2), (.long q3), .null] 6)) (T6.setTop (mkF m 22 #[rv a1, iv p2, lv q3, sd, .val .null, un] [(.long q3), (.ref a1)])) := fun t k => P6 t (by
    show Steps p.tables e below (T6.setTop (mkF m 20 #[rv a1, iv p2, lv q3, sd, .val .null, un] [])) t
    refine XS.aloadN X6.here hx rfl (hb hby d3_20) rfl rfl ?_
    refine XS.lloadN X6.here hx rfl (hb hby d3_21) rfl ?_
    exact k)
  obtain ⟨cq19, kq19, q19a, q19b, q19c⟩ := isOf hZ e6 (E1.keep K6)
  obtain ⟨_, _, ⟨T19, L19, k19, n19⟩, -, X19, ⟨Lc19, hQ19, l19, y19, z19⟩, st19⟩ := X6.virtualBack hx (y := (⟨"com/example/kinhash/kinhash/BlockTable", "bucket", "(J)I"⟩ : MethodName)) (z := (⟨"com/example/kinhash/kinhash/BlockTable", "bucket", "(J)I"⟩ : MethodName)) hown (mvT hZ (hw _ (List.mem_of_getElem? (i := 36) rfl))) (mvT hZ (hw _ (List.mem_of_getElem? (i := 37) rfl))) (notFace_of_selects (args := #[]) (mvT hZ (hw _ (List.mem_of_getElem? (i := 39) rfl)))) (mvT hZ (hw _ (List.mem_of_getElem? (i := 39) rfl))) (mvT hZ (hw _ (List.mem_of_getElem? (i := 38) rfl))) (by decide) (backOf (W := 0) (rmB1 l Z a0 hw [] a1 q3 mk lb h6 n0 Z6 (E1.keep K6) Fmk_6 Flb_6 Fbb_6) hZ (hw _ (List.mem_of_getElem? (i := 40) rfl)) (hw _ (List.mem_of_getElem? (i := 4) rfl)) (by decide) (by decide)) q19a q19c (g := (mkF m 22 #[rv a1, iv p2, lv q3, sd, .val .null, un] [(.long q3), (.ref a1)])) rfl (by rw [hml]; rfl) (Steps.refl _) (argsL := [(.long q3)]) (rest := []) (lenOf pd_5 rfl) rfl (by show 2 * 0 + _ ≤ _; exact Nat.le_of_eq rfl) (hb hby d3_22) (fun _ _ => ⟨rfl, e6, (by decide : 0 + 0 ≤ _), (by decide : 0 + 0 ≤ _)⟩)
  dsimp only [Pt.U, Pt.locs, Pt.cells, Pt.slots] at X19 l19 y19 z19 st19 hQ19
  subst y19 z19
  obtain ⟨rfl, N19q, e19⟩ := hQ19
  have N19 : Fr n0 L19 := by rw [l19]; exact Fr.app N6 N19q
  have P20 : Rch p e below (s₁.setTop (entryFrame m #[(.ref a1), (.int p2), (.long q3), .null] 6)) (T19.setTop (mkF m 25 #[rv a1, iv p2, lv q3, sd, .val .null, un] [(.int (0 : Int32))])) := fun t k => P18 t (st19.trans k)
  have P21 : Rch p e below (s₁.setTop (entryFrame m #[(.ref a1), (.int p2), (.long q3), .null] 6)) (T19.setTop (mkF m 28 #[rv a1, iv p2, lv q3, sd, .val .null, iv (0 : Int32)] [(.ref a1)])) := fun t k => P20 t (by
    show Steps p.tables e below (T19.setTop (mkF m 25 #[rv a1, iv p2, lv q3, sd, .val .null, un] [(.int (0 : Int32))])) t
    refine XS.istore X19.here hx rfl (hb hby d3_25) rfl (l' := #[rv a1, iv p2, lv q3, sd, .val .null, iv (0 : Int32)]) rfl ?_
    refine XS.aloadN X19.here hx rfl (hb hby d3_27) rfl rfl ?_
    exact k)
  obtain ⟨T22, X22, e22, st22⟩ := getF X19 hx hZ hown (host := "") (Or.inl (hw _ (List.mem_of_getElem? (i := 22) rfl))) Via.refl e19 Fa_aL_6 (g := (mkF m 28 #[rv a1, iv p2, lv q3, sd, .val .null, iv (0 : Int32)] [(.ref a1)])) rfl rfl (hb hby d3_28)
  have P23 : Rch p e below (s₁.setTop (entryFrame m #[(.ref a1), (.int p2), (.long q3), .null] 6)) (T22.setTop (mkF m 31 #[rv a1, iv p2, lv q3, sd, .val .null, iv (0 : Int32)] [(.ref aL)])) := fun t k => P21 t (st22 t k)
  have P24 : Rch p e below (s₁.setTop (entryFrame m #[(.ref a1), (.int p2), (.long q3), .null] 6)) (T22.setTop (mkF m 33 #[rv a1, iv p2, lv q3, sd, .val .null, iv (0 : Int32)] [(.int (0 : Int32)), (.ref aL)])) := fun t k => P23 t (by
    show Steps p.tables e below (T22.setTop (mkF m 31 #[rv a1, iv p2, lv q3, sd, .val .null, iv (0 : Int32)] [(.ref aL)])) t
    refine XS.iload X22.here hx rfl (hb hby d3_31) rfl ?_
    exact k)
  have V_o25 := (V_aL.keep K6 (ninS (Ne.symm n_a1_aL) (ninS n_aL_aE nin0)))
  obtain ⟨co25, Aro25, qo25, So25, Mo25, Ho25, Go25⟩ := V_o25
  have hin26 : ¬ ((0 : Int32) < 0 ∨ co25.slots.size ≤ ((0 : Int32)).toNatClampNeg) := inb_of So25 ⟨by decide, by decide⟩
  have hat26 : co25.slots[((0 : Int32)).toNatClampNeg]? = some (.int (0 : Int32)) := Has.at Ho25 hin26 rfl
  have P27 : Rch p e below (s₁.setTop (entryFrame m #[(.ref a1), (.int p2), (.long q3), .null] 6)) (T22.setTop (mkF m 34 #[rv a1, iv p2, lv q3, sd, .val .null, iv (0 : Int32)] [(.int (0 : Int32))])) := fun t k => P24 t (X22.iaload hx (j := (0 : Int32)) (v := (.int (0 : Int32))) (by rw [e22]; exact Aro25.1) (State.isArrayOf_alike hZ.alike Aro25.2.1) Aro25.2.2 hin26 hat26 (g := (mkF m 33 #[rv a1, iv p2, lv q3, sd, .val .null, iv (0 : Int32)] [(.int (0 : Int32)), (.ref aL)])) rfl rfl (hb hby d3_33) t k)
  have P28 : Rch p e below (s₁.setTop (entryFrame m #[(.ref a1), (.int p2), (.long q3), .null] 6)) (T22.setTop (mkF m 35 #[rv a1, iv p2, lv q3, sd, .val .null, iv (0 : Int32)] [(.ref a1), (.int (0 : Int32))])) := fun t k => P27 t (by
    show Steps p.tables e below (T22.setTop (mkF m 34 #[rv a1, iv p2, lv q3, sd, .val .null, iv (0 : Int32)] [(.int (0 : Int32))])) t
    refine XS.aloadN X22.here hx rfl (hb hby d3_34) rfl rfl ?_
    exact k)
  obtain ⟨T29, X29, e29, st29⟩ := getF X22 hx hZ hown (host := "") (Or.inl (hw _ (List.mem_of_getElem? (i := 24) rfl))) Via.refl e22 Fa_aR_6 (g := (mkF m 35 #[rv a1, iv p2, lv q3, sd, .val .null, iv (0 : Int32)] [(.ref a1), (.int (0 : Int32))])) rfl rfl (hb hby d3_35)
  have P30 : Rch p e below (s₁.setTop (entryFrame m #[(.ref a1), (.int p2), (.long q3), .null] 6)) (T29.setTop (mkF m 38 #[rv a1, iv p2, lv q3, sd, .val .null, iv (0 : Int32)] [(.ref aR), (.int (0 : Int32))])) := fun t k => P28 t (st29 t k)
  have P31 : Rch p e below (s₁.setTop (entryFrame m #[(.ref a1), (.int p2), (.long q3), .null] 6)) (T29.setTop (mkF m 40 #[rv a1, iv p2, lv q3, sd, .val .null, iv (0 : Int32)] [(.int (0 : Int32)), (.ref aR), (.int (0 : Int32))])) := fun t k => P30 t (by
    show Steps p.tables e below (T29.setTop (mkF m 38 #[rv a1, iv p2, lv q3, sd, .val .null, iv (0 : Int32)] [(.ref aR), (.int (0 : Int32))])) t
    refine XS.iload X29.here hx rfl (hb hby d3_38) rfl ?_
    exact k)
  have V_o32 := (V_aR.keep K6 (ninS (Ne.symm n_a1_aR) (ninS n_aR_aE nin0)))
  obtain ⟨co32, Aro32, qo32, So32, Mo32, Ho32, Go32⟩ := V_o32
  have hin33 : ¬ ((0 : Int32) < 0 ∨ co32.slots.size ≤ ((0 : Int32)).toNatClampNeg) := inb_of So32 ⟨by decide, by decide⟩
  have hat33 : co32.slots[((0 : Int32)).toNatClampNeg]? = some (.int (0 : Int32)) := Has.at Ho32 hin33 rfl
  have P34 : Rch p e below (s₁.setTop (entryFrame m #[(.ref a1), (.int p2), (.long q3), .null] 6)) (T29.setTop (mkF m 41 #[rv a1, iv p2, lv q3, sd, .val .null, iv (0 : Int32)] [(.int (0 : Int32)), (.int (0 : Int32))])) := fun t k => P31 t (X29.iaload hx (j := (0 : Int32)) (v := (.int (0 : Int32))) (by rw [e29]; exact Aro32.1) (State.isArrayOf_alike hZ.alike Aro32.2.1) Aro32.2.2 hin33 hat33 (g := (mkF m 40 #[rv a1, iv p2, lv q3, sd, .val .null, iv (0 : Int32)] [(.int (0 : Int32)), (.ref aR), (.int (0 : Int32))])) rfl rfl (hb hby d3_40) t k)
  have P35 : Rch p e below (s₁.setTop (entryFrame m #[(.ref a1), (.int p2), (.long q3), .null] 6)) (T29.setTop (mkF m 47 #[rv a1, iv p2, lv q3, sd, .val .null, iv (0 : Int32)] [(.int (0 : Int32)), (.ref a1)])) := fun t k => P34 t (by
    show Steps p.tables e below (T29.setTop (mkF m 41 #[rv a1, iv p2, lv q3, sd, .val .null, iv (0 : Int32)] [(.int (0 : Int32)), (.int (0 : Int32))])) t
    refine XS.icmpNo X29.here hx rfl (hb hby d3_41) rfl (teq (by decide)).2 ?_
    refine XS.aloadN X29.here hx rfl (hb hby d3_44) rfl rfl ?_
    refine XS.iload X29.here hx rfl (hb hby d3_45) rfl ?_
    exact k)
  have f37 : Arv Z h6 aT kT .byte (4 : Int32) [(.int tg0), (.int tg1), (.int tg2), (.int tg3)] (.int (0 : Int32)) := (V_aT.keep K6 (ninS (Ne.symm n_a1_aT) (ninS (Ne.symm n_aE_aT) nin0)))
  obtain ⟨cq36, q36, q36'⟩ := (E1.keep K6).cell
  obtain ⟨_, _, ⟨T36, L36, k36, n36⟩, -, X36, ⟨Lc36, hQ36, l36, y36, z36⟩, st36⟩ := X29.privateBack hx (y := (⟨"com/example/kinhash/kinhash/BlockTable", "move", "(I)Z"⟩ : MethodName)) hown (mvT hZ (hw _ (List.mem_of_getElem? (i := 47) rfl))) (mvT hZ (hw _ (List.mem_of_getElem? (i := 48) rfl))) (own_selp hZ (hw _ (List.mem_of_getElem? (i := 3) rfl)) (hw _ (List.mem_of_getElem? (i := 48) rfl)) (hw _ (List.mem_of_getElem? (i := 49) rfl)) (by decide)) (Cond.privateMethod_at (mvP hZ (hw _ (List.mem_of_getElem? (i := 49) rfl)) (args := #[]))) (mvT hZ (hw _ (List.mem_of_getElem? (i := 50) rfl))) (by decide) (backOf (W := 0) (rmMv l Z a0 hw [] a1 aS aL aR aE aT kS kL kR kE kT rbj_6 lb (0 : Int32) (0 : Int32) (0 : Int32) (0 : Int32) tg0 tg1 tg2 tg3 mk h6 n0 Z6 (E1.keep K6) g_a1 g_aS g_aL g_aR g_aE g_aT n_a1_aS n_a1_aL n_a1_aR n_a1_aE n_a1_aT n_aS_aL n_aS_aR n_aS_aE n_aS_aT n_aL_aR n_aL_aE n_aL_aT n_aR_aE n_aR_aT n_aE_aT Frb_6 Fmk_6 Flb_6 Fbb_6 Ffr_6 Fa_aS_6 Fa_aL_6 Fa_aR_6 Fa_aE_6 Fa_aT_6 (V_aS.keep K6 (ninS (Ne.symm n_a1_aS) (ninS n_aS_aE nin0))) (V_aL.keep K6 (ninS (Ne.symm n_a1_aL) (ninS n_aL_aE nin0))) (V_aR.keep K6 (ninS (Ne.symm n_a1_aR) (ninS n_aR_aE nin0))) VE_6 f37) hZ (hw _ (List.mem_of_getElem? (i := 50) rfl)) (hw _ (List.mem_of_getElem? (i := 4) rfl)) (by decide) (by decide)) (g := (mkF m 47 #[rv a1, iv p2, lv q3, sd, .val .null, iv (0 : Int32)] [(.int (0 : Int32)), (.ref a1)])) rfl (by rw [hml]; rfl) (Steps.refl _) (a := a1) (by rw [e29]; exact q36) q36' (argsL := [(.int (0 : Int32))]) (rest := []) (lenOf pd_6 rfl) rfl (by show 2 * 0 + _ ≤ _; exact Nat.le_of_eq rfl) (hb hby d3_47) (fun _ _ => ⟨rfl, e29, (by decide : 0 + 0 ≤ _), (by decide : 0 + 0 ≤ _)⟩)
  dsimp only [Pt.U, Pt.locs, Pt.cells, Pt.slots] at X36 l36 y36 z36 st36 hQ36
  subst y36 z36
  obtain ⟨rfl, N36q, K36, E1_36, Frb_36, Fmk_36, Flb_36, Fbb_36, Ffr_36, Fa_aS_36, Fa_aL_36, Fa_aR_36, Fa_aE_36, Fa_aT_36, V_aS_36, V_aL_36, V_aR_36, V_aE_36, V_aT_36⟩ := hQ36
  have N36 : Fr n0 L36 := by rw [l36]; exact Fr.app N19 N36q
  have P38 : Rch p e below (s₁.setTop (entryFrame m #[(.ref a1), (.int p2), (.long q3), .null] 6)) (T36.setTop (mkF m 50 #[rv a1, iv p2, lv q3, sd, .val .null, iv (0 : Int32)] [(.int (1 : Int32))])) := fun t k => P35 t (st36.trans k)
  have P39 : Rch p e below (s₁.setTop (entryFrame m #[(.ref a1), (.int p2), (.long q3), .null] 6)) (T36.setTop (mkF m 70 #[rv a1, iv p2, lv q3, sd, .val .null, iv (0 : Int32)] [(.int (0 : Int32)), (.ref a1), (.ref a1)])) := fun t k => P38 t (by
    show Steps p.tables e below (T36.setTop (mkF m 50 #[rv a1, iv p2, lv q3, sd, .val .null, iv (0 : Int32)] [(.int (1 : Int32))])) t
    refine XS.ifYes X36.here hx rfl (pc0 := 50) (pc' := 66) rfl (hb hby d3_50) rfl ((if0 _ _).trans (feq (by decide)).2) (by decide) (by decide) ?_
    refine XS.aloadN X36.here hx rfl (hb hby d3_66) rfl rfl ?_
    refine XS.aloadN X36.here hx rfl (hb hby d3_67) rfl rfl ?_
    show Steps p.tables e below (T36.setTop (mkF m 68 #[rv a1, iv p2, lv q3, sd, .val .null, iv (0 : Int32)] [(.ref a1), (.ref a1)])) t
    refine XS.iload X36.here hx rfl (hb hby d3_68) rfl ?_
    exact k)
  have f41 : n0 ≤ T36.heap.size := (Nat.le_trans Z6 K36.1)
  obtain ⟨cq40, kq40, q40a, q40b, q40c⟩ := isOf hZ rfl E1_36
  obtain ⟨_, _, ⟨T40, L40, k40, n40⟩, -, X40, ⟨Lc40, hQ40, l40, y40, z40⟩, st40⟩ := X36.virtualBack hx (y := (⟨"com/example/kinhash/kinhash/BlockTable", "end", "(I)I"⟩ : MethodName)) (z := (⟨"com/example/kinhash/kinhash/BlockTable", "end", "(I)I"⟩ : MethodName)) hown (mvT hZ (hw _ (List.mem_of_getElem? (i := 61) rfl))) (mvT hZ (hw _ (List.mem_of_getElem? (i := 62) rfl))) (notFace_of_selects (args := #[]) (mvT hZ (hw _ (List.mem_of_getElem? (i := 64) rfl)))) (mvT hZ (hw _ (List.mem_of_getElem? (i := 64) rfl))) (mvT hZ (hw _ (List.mem_of_getElem? (i := 63) rfl))) (by decide) (backOf (W := 1) (rmE l Z a0 hw [] a1 aS kS aL kL (0 : Int32) (0 : Int32) T36.heap n0 f41 Fa_aS_36 Fa_aL_36 V_aS_36 V_aL_36) hZ (hw _ (List.mem_of_getElem? (i := 65) rfl)) (hw _ (List.mem_of_getElem? (i := 4) rfl)) (by decide) (by decide)) q40a q40c (g := (mkF m 70 #[rv a1, iv p2, lv q3, sd, .val .null, iv (0 : Int32)] [(.int (0 : Int32)), (.ref a1), (.ref a1)])) rfl (by rw [hml]; rfl) (Steps.refl _) (argsL := [(.int (0 : Int32))]) (rest := [(.ref a1)]) (lenOf pd_3 rfl) rfl (by show 2 * 0 + _ ≤ _; exact Nat.le_of_eq rfl) (hb hby d3_70) (fun _ _ => ⟨rfl, rfl, (by decide : 0 + 0 ≤ _), (by decide : 0 + 0 ≤ _)⟩)
  dsimp only [Pt.U, Pt.locs, Pt.cells, Pt.slots] at X40 l40 y40 z40 st40 hQ40
  subst y40 z40
  obtain ⟨rfl, N40q, e40⟩ := hQ40
  have N40 : Fr n0 L40 := by rw [l40]; exact Fr.app N36 N40q
  have P42 : Rch p e below (s₁.setTop (entryFrame m #[(.ref a1), (.int p2), (.long q3), .null] 6)) (T40.setTop (mkF m 73 #[rv a1, iv p2, lv q3, sd, .val .null, iv (0 : Int32)] [(.int (0 : Int32)), (.ref a1)])) := fun t k => P39 t (st40.trans k)
  have P43 : Rch p e below (s₁.setTop (entryFrame m #[(.ref a1), (.int p2), (.long q3), .null] 6)) (T40.setTop (mkF m 76 #[rv a1, iv p2, lv q3, sd, .val .null, iv (0 : Int32)] [(.long q3), (.ref a1), (.int p2), (.int (0 : Int32)), (.ref a1)])) := fun t k => P42 t (by
    show Steps p.tables e below (T40.setTop (mkF m 73 #[rv a1, iv p2, lv q3, sd, .val .null, iv (0 : Int32)] [(.int (0 : Int32)), (.ref a1)])) t
    refine XS.iloadN X40.here hx rfl (hb hby d3_73) rfl ?_
    refine XS.aloadN X40.here hx rfl (hb hby d3_74) rfl rfl ?_
    refine XS.lloadN X40.here hx rfl (hb hby d3_75) rfl ?_
    exact k)
  obtain ⟨cq44, kq44, q44a, q44b, q44c⟩ := isOf hZ e40 E1_36
  obtain ⟨_, _, ⟨T44, L44, k44, n44⟩, -, X44, ⟨Lc44, hQ44, l44, y44, z44⟩, st44⟩ := X40.virtualBack hx (y := (⟨"com/example/kinhash/kinhash/BlockTable", "tag", "(J)I"⟩ : MethodName)) (z := (⟨"com/example/kinhash/kinhash/BlockTable", "tag", "(J)I"⟩ : MethodName)) hown (mvT hZ (hw _ (List.mem_of_getElem? (i := 66) rfl))) (mvT hZ (hw _ (List.mem_of_getElem? (i := 67) rfl))) (notFace_of_selects (args := #[]) (mvT hZ (hw _ (List.mem_of_getElem? (i := 69) rfl)))) (mvT hZ (hw _ (List.mem_of_getElem? (i := 69) rfl))) (mvT hZ (hw _ (List.mem_of_getElem? (i := 68) rfl))) (by decide) (backOf (W := 3) (rmT1 l Z a0 hw [] a1 q3 rbj_6 lb T36.heap n0 f41 E1_36 Frb_36 Flb_36 Fbb_36) hZ (hw _ (List.mem_of_getElem? (i := 70) rfl)) (hw _ (List.mem_of_getElem? (i := 4) rfl)) (by decide) (by decide)) q44a q44c (g := (mkF m 76 #[rv a1, iv p2, lv q3, sd, .val .null, iv (0 : Int32)] [(.long q3), (.ref a1), (.int p2), (.int (0 : Int32)), (.ref a1)])) rfl (by rw [hml]; rfl) (Steps.refl _) (argsL := [(.long q3)]) (rest := [(.int p2), (.int (0 : Int32)), (.ref a1)]) (lenOf pd_5 rfl) rfl (by show 2 * 0 + _ ≤ _; exact Nat.le_of_eq rfl) (hb hby d3_76) (fun _ _ => ⟨rfl, e40, (by decide : 0 + 0 ≤ _), (by decide : 0 + 0 ≤ _)⟩)
  dsimp only [Pt.U, Pt.locs, Pt.cells, Pt.slots] at X44 l44 y44 z44 st44 hQ44
  subst y44 z44
  obtain ⟨rfl, N44q, e44⟩ := hQ44
  have N44 : Fr n0 L44 := by rw [l44]; exact Fr.app N40 N44q
  have P45 : Rch p e below (s₁.setTop (entryFrame m #[(.ref a1), (.int p2), (.long q3), .null] 6)) (T44.setTop (mkF m 79 #[rv a1, iv p2, lv q3, sd, .val .null, iv (0 : Int32)] [(.int (own_tg1 q3 rbj_6 lb)), (.int p2), (.int (0 : Int32)), (.ref a1)])) := fun t k => P43 t (st44.trans k)
  obtain ⟨x46, hx46⟩ : ∃ z : Int32, z = (own_tg1 q3 rbj_6 lb) := ⟨_, rfl⟩
  rw [← hx46] at P45
  have P47 : Rch p e below (s₁.setTop (entryFrame m #[(.ref a1), (.int p2), (.long q3), .null] 6)) (T44.setTop (mkF m 80 #[rv a1, iv p2, lv q3, sd, .val .null, iv (0 : Int32)] [(.ref a1), (.int x46), (.int p2), (.int (0 : Int32)), (.ref a1)])) := fun t k => P45 t (by
    show Steps p.tables e below (T44.setTop (mkF m 79 #[rv a1, iv p2, lv q3, sd, .val .null, iv (0 : Int32)] [(.int x46), (.int p2), (.int (0 : Int32)), (.ref a1)])) t
    refine XS.aloadN X44.here hx rfl (hb hby d3_79) rfl rfl ?_
    exact k)
  obtain ⟨T48, X48, e48, st48⟩ := getF X44 hx hZ hown (host := "") (Or.inl (hw _ (List.mem_of_getElem? (i := 26) rfl))) Via.refl e44 Fa_aE_36 (g := (mkF m 80 #[rv a1, iv p2, lv q3, sd, .val .null, iv (0 : Int32)] [(.ref a1), (.int x46), (.int p2), (.int (0 : Int32)), (.ref a1)])) rfl rfl (hb hby d3_80)
  have P49 : Rch p e below (s₁.setTop (entryFrame m #[(.ref a1), (.int p2), (.long q3), .null] 6)) (T48.setTop (mkF m 83 #[rv a1, iv p2, lv q3, sd, .val .null, iv (0 : Int32)] [(.ref aE), (.int x46), (.int p2), (.int (0 : Int32)), (.ref a1)])) := fun t k => P47 t (st48 t k)
  have P50 : Rch p e below (s₁.setTop (entryFrame m #[(.ref a1), (.int p2), (.long q3), .null] 6)) (T48.setTop (mkF m 84 #[rv a1, iv p2, lv q3, sd, .val .null, iv (0 : Int32)] [(.ref a1), (.ref aE), (.int x46), (.int p2), (.int (0 : Int32)), (.ref a1)])) := fun t k => P49 t (by
    show Steps p.tables e below (T48.setTop (mkF m 83 #[rv a1, iv p2, lv q3, sd, .val .null, iv (0 : Int32)] [(.ref aE), (.int x46), (.int p2), (.int (0 : Int32)), (.ref a1)])) t
    refine XS.aloadN X48.here hx rfl (hb hby d3_83) rfl rfl ?_
    exact k)
  obtain ⟨T51, X51, e51, st51⟩ := getF X48 hx hZ hown (host := "") (Or.inl (hw _ (List.mem_of_getElem? (i := 29) rfl))) Via.refl e48 Fa_aT_36 (g := (mkF m 84 #[rv a1, iv p2, lv q3, sd, .val .null, iv (0 : Int32)] [(.ref a1), (.ref aE), (.int x46), (.int p2), (.int (0 : Int32)), (.ref a1)])) rfl rfl (hb hby d3_84)
  have P52 : Rch p e below (s₁.setTop (entryFrame m #[(.ref a1), (.int p2), (.long q3), .null] 6)) (T51.setTop (mkF m 87 #[rv a1, iv p2, lv q3, sd, .val .null, iv (0 : Int32)] [(.ref aT), (.ref aE), (.int x46), (.int p2), (.int (0 : Int32)), (.ref a1)])) := fun t k => P50 t (st51 t k)
  obtain ⟨cq53, q53, q53'⟩ := E1_36.cell
  obtain ⟨_, _, ⟨T53, L53, k53, n53⟩, -, X53, ⟨Lc53, hQ53, l53, y53, z53⟩, st53⟩ := X51.privateBack hx (y := (⟨"com/example/kinhash/kinhash/BlockTable", "put", "(III[I[B)V"⟩ : MethodName)) hown (mvT hZ (hw _ (List.mem_of_getElem? (i := 79) rfl))) (mvT hZ (hw _ (List.mem_of_getElem? (i := 80) rfl))) (own_selp hZ (hw _ (List.mem_of_getElem? (i := 3) rfl)) (hw _ (List.mem_of_getElem? (i := 80) rfl)) (hw _ (List.mem_of_getElem? (i := 81) rfl)) (by decide)) (Cond.privateMethod_at (mvP hZ (hw _ (List.mem_of_getElem? (i := 81) rfl)) (args := #[]))) (mvT hZ (hw _ (List.mem_of_getElem? (i := 82) rfl))) (by decide) (backOf (W := 0) (rmPut0 l Z a0 hw [] a1 p2 x46 aE aT rbj_6 kE kT (0 : Int32) (0 : Int32) (0 : Int32) (0 : Int32) tg0 tg1 tg2 tg3 T36.heap n0 f41 Frb_36 V_aE_36 V_aT_36 g_aE g_aT n_a1_aE n_a1_aT n_aE_aT) hZ (hw _ (List.mem_of_getElem? (i := 82) rfl)) (hw _ (List.mem_of_getElem? (i := 4) rfl)) (by decide) (by decide)) (g := (mkF m 87 #[rv a1, iv p2, lv q3, sd, .val .null, iv (0 : Int32)] [(.ref aT), (.ref aE), (.int x46), (.int p2), (.int (0 : Int32)), (.ref a1)])) rfl (by rw [hml]; rfl) (Steps.refl _) (a := a1) (by rw [e51]; exact q53) q53' (argsL := [(.int (0 : Int32)), (.int p2), (.int x46), (.ref aE), (.ref aT)]) (rest := []) (lenOf pd_7 rfl) rfl (by show 2 * 0 + _ ≤ _; exact Nat.le_of_eq rfl) (hb hby d3_87) (fun _ _ => ⟨rfl, e51, (by decide : 0 + 0 ≤ _), (by decide : 0 + 0 ≤ _)⟩)
  dsimp only [Pt.U, Pt.locs, Pt.cells, Pt.slots] at X53 l53 y53 z53 st53 hQ53
  subst y53 z53
  obtain ⟨rfl, N53q, K53, G1_53, G2_53⟩ := hQ53
  have N53 : Fr n0 L53 := by rw [l53]; exact Fr.app N44 N53q
  have P54 : Rch p e below (s₁.setTop (entryFrame m #[(.ref a1), (.int p2), (.long q3), .null] 6)) (T53.setTop (mkF m 90 #[rv a1, iv p2, lv q3, sd, .val .null, iv (0 : Int32)] [])) := fun t k => P52 t (st53.trans k)
  have P55 : Rch p e below (s₁.setTop (entryFrame m #[(.ref a1), (.int p2), (.long q3), .null] 6)) (T53.setTop (mkF m 91 #[rv a1, iv p2, lv q3, sd, .val .null, iv (0 : Int32)] [(.ref a1)])) := fun t k => P54 t (by
    show Steps p.tables e below (T53.setTop (mkF m 90 #[rv a1, iv p2, lv q3, sd, .val .null, iv (0 : Int32)] [])) t
    refine XS.aloadN X53.here hx rfl (hb hby d3_90) rfl rfl ?_
    exact k)
  obtain ⟨T56, X56, e56, st56⟩ := getF X53 hx hZ hown (host := "") (Or.inl (hw _ (List.mem_of_getElem? (i := 22) rfl))) Via.refl rfl (Fa_aL_36.keep K53 (ninS n_a1_aE (ninS n_a1_aT nin0))) (g := (mkF m 91 #[rv a1, iv p2, lv q3, sd, .val .null, iv (0 : Int32)] [(.ref a1)])) rfl rfl (hb hby d3_91)
  have P57 : Rch p e below (s₁.setTop (entryFrame m #[(.ref a1), (.int p2), (.long q3), .null] 6)) (T56.setTop (mkF m 94 #[rv a1, iv p2, lv q3, sd, .val .null, iv (0 : Int32)] [(.ref aL)])) := fun t k => P55 t (st56 t k)
  have P58 : Rch p e below (s₁.setTop (entryFrame m #[(.ref a1), (.int p2), (.long q3), .null] 6)) (T56.setTop (mkF m 97 #[rv a1, iv p2, lv q3, sd, .val .null, iv (0 : Int32)] [(.int (0 : Int32)), (.ref aL), (.int (0 : Int32)), (.ref aL)])) := fun t k => P57 t (by
    show Steps p.tables e below (T56.setTop (mkF m 94 #[rv a1, iv p2, lv q3, sd, .val .null, iv (0 : Int32)] [(.ref aL)])) t
    refine XS.iload X56.here hx rfl (hb hby d3_94) rfl ?_
    jvm_step X56.here [X56.here.top, hx, (hb hby d3_96), Value.category]
    exact k)
  have V_o59 := (V_aL_36.keep K53 (ninS n_aL_aE (ninS n_aL_aT nin0)))
  obtain ⟨co59, Aro59, qo59, So59, Mo59, Ho59, Go59⟩ := V_o59
  have hin60 : ¬ ((0 : Int32) < 0 ∨ co59.slots.size ≤ ((0 : Int32)).toNatClampNeg) := inb_of So59 ⟨by decide, by decide⟩
  have hat60 : co59.slots[((0 : Int32)).toNatClampNeg]? = some (.int (0 : Int32)) := Has.at Ho59 hin60 rfl
  have P61 : Rch p e below (s₁.setTop (entryFrame m #[(.ref a1), (.int p2), (.long q3), .null] 6)) (T56.setTop (mkF m 98 #[rv a1, iv p2, lv q3, sd, .val .null, iv (0 : Int32)] [(.int (0 : Int32)), (.int (0 : Int32)), (.ref aL)])) := fun t k => P58 t (X56.iaload hx (j := (0 : Int32)) (v := (.int (0 : Int32))) (by rw [e56]; exact Aro59.1) (State.isArrayOf_alike hZ.alike Aro59.2.1) Aro59.2.2 hin60 hat60 (g := (mkF m 97 #[rv a1, iv p2, lv q3, sd, .val .null, iv (0 : Int32)] [(.int (0 : Int32)), (.ref aL), (.int (0 : Int32)), (.ref aL)])) rfl rfl (hb hby d3_97) t k)
  have P62 : Rch p e below (s₁.setTop (entryFrame m #[(.ref a1), (.int p2), (.long q3), .null] 6)) (T56.setTop (mkF m 100 #[rv a1, iv p2, lv q3, sd, .val .null, iv (0 : Int32)] [(.int (1 : Int32)), (.int (0 : Int32)), (.ref aL)])) := fun t k => P61 t (by
    show Steps p.tables e below (T56.setTop (mkF m 98 #[rv a1, iv p2, lv q3, sd, .val .null, iv (0 : Int32)] [(.int (0 : Int32)), (.int (0 : Int32)), (.ref aL)])) t
    refine XS.iconst X56.here hx rfl (hb hby d3_98) ?_
    refine XS.iadd X56.here hx rfl (hb hby d3_99) rfl ?_
    exact k)
  have V_o63 := (V_aL_36.keep K53 (ninS n_aL_aE (ninS n_aL_aT nin0)))
  obtain ⟨co63, Aro63, qo63, So63, Mo63, Ho63, Go63⟩ := V_o63
  have hin64 : ¬ ((0 : Int32) < 0 ∨ co63.slots.size ≤ ((0 : Int32)).toNatClampNeg) := inb_of So63 ⟨by decide, by decide⟩
  obtain ⟨T64, h64, X64, e64, W64, st64⟩ := stI X56 hx hZ e56 Aro63 (j := (0 : Int32)) hin64 (g := (mkF m 100 #[rv a1, iv p2, lv q3, sd, .val .null, iv (0 : Int32)] [(.int (1 : Int32)), (.int (0 : Int32)), (.ref aL)])) rfl rfl (hb hby d3_100)
  have V64 : Arv Z h64 aL kL .int (1 : Int32) [(.int (1 : Int32))] (.int (0 : Int32)) := Arv.set Aro63 qo63 So63 Mo63 Ho63 Go63 rfl W64 0 rfl (Nat.le_of_ble_eq_true rfl)
  have P65 : Rch p e below (s₁.setTop (entryFrame m #[(.ref a1), (.int p2), (.long q3), .null] 6)) (T64.setTop (mkF m 101 #[rv a1, iv p2, lv q3, sd, .val .null, iv (0 : Int32)] [])) := fun t k => P62 t (st64 t k)
  have N64 := Fr.snoc X64 N53 g_aL
  obtain ⟨fs, hr, hrun, hended, hW, hsame⟩ := X64.leave (v := none) (fun _ => rfl)
  refine ⟨_, _, P65 _ ?_, hrun, hended, _, _, rfl, ?_, ⟨_, rfl⟩, hW, hsame.mono (by decide) (by decide)⟩
  · exact X64.returnOut hx Bd.returns (hb hby d3_101) hr
  · show Q_rmAdd0 Z a1 aS aL aR aE aT kS kL kR kE kT p2 q3 rb lb mk tg0 tg1 tg2 tg3 h0 n0 _ T64.heap _
    rw [e64]
    have f66 : Fld Z h64 a1 "com/example/kinhash/kinhash/BlockTable" "recordBits" "I" (.int rbj_6) := ((Frb_36.keep K53 (ninS n_a1_aE (ninS n_a1_aT nin0))).other W64 (Or.inl n_a1_aL))
    have f67 : Keep h0 h64 [a1, aS, aL, aR, aE, aT] := (((((Keep.refl h0 [a1, aS, aL, aR, aE, aT]).trans K6 (allS (P := fun x => x ∈ [a1, aS, aL, aR, aE, aT] ∨ h0.size ≤ x) (Or.inl (List.mem_of_getElem? (i := 0) rfl)) (allS (P := fun x => x ∈ [a1, aS, aL, aR, aE, aT] ∨ h0.size ≤ x) (Or.inl (List.mem_of_getElem? (i := 4) rfl)) all0))).trans K36 (allS (P := fun x => x ∈ [a1, aS, aL, aR, aE, aT] ∨ h0.size ≤ x) (Or.inl (List.mem_of_getElem? (i := 0) rfl)) (allS (P := fun x => x ∈ [a1, aS, aL, aR, aE, aT] ∨ h0.size ≤ x) (Or.inl (List.mem_of_getElem? (i := 1) rfl)) (allS (P := fun x => x ∈ [a1, aS, aL, aR, aE, aT] ∨ h0.size ≤ x) (Or.inl (List.mem_of_getElem? (i := 3) rfl)) (allS (P := fun x => x ∈ [a1, aS, aL, aR, aE, aT] ∨ h0.size ≤ x) (Or.inl (List.mem_of_getElem? (i := 4) rfl)) (allS (P := fun x => x ∈ [a1, aS, aL, aR, aE, aT] ∨ h0.size ≤ x) (Or.inl (List.mem_of_getElem? (i := 5) rfl)) all0)))))).trans K53 (allS (P := fun x => x ∈ [a1, aS, aL, aR, aE, aT] ∨ h0.size ≤ x) (Or.inl (List.mem_of_getElem? (i := 4) rfl)) (allS (P := fun x => x ∈ [a1, aS, aL, aR, aE, aT] ∨ h0.size ≤ x) (Or.inl (List.mem_of_getElem? (i := 5) rfl)) all0))).wr W64 (Or.inl (List.mem_of_getElem? (i := 2) rfl)))
    have f68 : Fld Z h64 a1 "com/example/kinhash/kinhash/BlockTable" "mask" "J" (.long mk) := ((Fmk_36.keep K53 (ninS n_a1_aE (ninS n_a1_aT nin0))).other W64 (Or.inl n_a1_aL))
    have f69 : Fld Z h64 a1 "com/example/kinhash/kinhash/BlockTable" "lowestBit" "I" (.int lb) := ((Flb_36.keep K53 (ninS n_a1_aE (ninS n_a1_aT nin0))).other W64 (Or.inl n_a1_aL))
    have f70 : Fld Z h64 a1 "com/example/kinhash/kinhash/BlockTable" "bucketBits" "I" (.int (0 : Int32)) := ((Fbb_36.keep K53 (ninS n_a1_aE (ninS n_a1_aT nin0))).other W64 (Or.inl n_a1_aL))
    have f71 : Fld Z h64 a1 "com/example/kinhash/kinhash/BlockTable" "free" "I" (.int (4 : Int32)) := ((Ffr_36.keep K53 (ninS n_a1_aE (ninS n_a1_aT nin0))).other W64 (Or.inl n_a1_aL))
    have f72 : Fld Z h64 a1 "com/example/kinhash/kinhash/BlockTable" "start" "[I" (.ref aS) := ((Fa_aS_36.keep K53 (ninS n_a1_aE (ninS n_a1_aT nin0))).other W64 (Or.inl n_a1_aL))
    have f73 : Fld Z h64 a1 "com/example/kinhash/kinhash/BlockTable" "length" "[I" (.ref aL) := ((Fa_aL_36.keep K53 (ninS n_a1_aE (ninS n_a1_aT nin0))).other W64 (Or.inl n_a1_aL))
    have f74 : Fld Z h64 a1 "com/example/kinhash/kinhash/BlockTable" "room" "[I" (.ref aR) := ((Fa_aR_36.keep K53 (ninS n_a1_aE (ninS n_a1_aT nin0))).other W64 (Or.inl n_a1_aL))
    have f75 : Fld Z h64 a1 "com/example/kinhash/kinhash/BlockTable" "entries" "[I" (.ref aE) := ((Fa_aE_36.keep K53 (ninS n_a1_aE (ninS n_a1_aT nin0))).other W64 (Or.inl n_a1_aL))
    have f76 : Fld Z h64 a1 "com/example/kinhash/kinhash/BlockTable" "tags" "[B" (.ref aT) := ((Fa_aT_36.keep K53 (ninS n_a1_aE (ninS n_a1_aT nin0))).other W64 (Or.inl n_a1_aL))
    have f77 : Arv Z h64 aS kS .int (1 : Int32) [(.int (0 : Int32))] (.int (0 : Int32)) := ((V_aS_36.keep K53 (ninS n_aS_aE (ninS n_aS_aT nin0))).other W64 n_aS_aL)
    have f78 : Arv Z h64 aR kR .int (1 : Int32) [(.int (4 : Int32))] (.int (0 : Int32)) := ((V_aR_36.keep K53 (ninS n_aR_aE (ninS n_aR_aT nin0))).other W64 (Ne.symm n_aL_aR))
    exact ⟨rbj_6, (own_ent rbj_6 p2 x46), (nar .byte (x46.toInt8.toInt32)), rfl, N64, f67, ((E1_36.keep K53).wr W64), f66, f68, f69, f70, f71, f72, f73, f74, f75, f76, f77, V64, f78, (G1_53.other W64 (Ne.symm n_aL_aE)), (G2_53.other W64 (Ne.symm n_aL_aT)), hbj_6, (own_entok hbj_6 ⟨hrg.1, hfj_6⟩ _)⟩
def Q_rmAdd1 (Z : State) (a1 : Addr) (aS : Addr) (aL : Addr) (aR : Addr) (aE : Addr) (aT : Addr) (kS : ClassId) (kL : ClassId) (kR : ClassId) (kE : ClassId) (kT : ClassId) (p2 : Int32) (q3 : Int64) (rb : Int32) (lb : Int32) (mk : Int64) (en0 : Int32) (tg0 : Int32) (tg1 : Int32) (tg2 : Int32) (tg3 : Int32) (rr0 : Int32) (h0 : Heap) (n0 : Nat) (v : Option Value) (h : Heap) (L : List Loc) : Prop := ∃ (rbx : Int32), ∃ (ex0 : Int32), ∃ (ex1 : Int32), ∃ (tx : Int32), v = none ∧ Fr n0 L ∧ Keep h0 h [a1, aS, aL, aR, aE, aT] ∧ (Exa Z h a1 "com/example/kinhash/kinhash/BlockTable") ∧ (Fld Z h a1 "com/example/kinhash/kinhash/BlockTable" "recordBits" "I" (.int rbx)) ∧ (Fld Z h a1 "com/example/kinhash/kinhash/BlockTable" "mask" "J" (.long mk)) ∧ (Fld Z h a1 "com/example/kinhash/kinhash/BlockTable" "lowestBit" "I" (.int lb)) ∧ (Fld Z h a1 "com/example/kinhash/kinhash/BlockTable" "bucketBits" "I" (.int (0 : Int32))) ∧ (Fld Z h a1 "com/example/kinhash/kinhash/BlockTable" "free" "I" (.int (4 : Int32))) ∧ (Fld Z h a1 "com/example/kinhash/kinhash/BlockTable" "start" "[I" (.ref aS)) ∧ (Fld Z h a1 "com/example/kinhash/kinhash/BlockTable" "length" "[I" (.ref aL)) ∧ (Fld Z h a1 "com/example/kinhash/kinhash/BlockTable" "room" "[I" (.ref aR)) ∧ (Fld Z h a1 "com/example/kinhash/kinhash/BlockTable" "entries" "[I" (.ref aE)) ∧ (Fld Z h a1 "com/example/kinhash/kinhash/BlockTable" "tags" "[B" (.ref aT)) ∧ (Arv Z h aS kS .int (1 : Int32) [(.int (0 : Int32))] (.int (0 : Int32))) ∧ (Arv Z h aL kL .int (1 : Int32) [(.int (2 : Int32))] (.int (0 : Int32))) ∧ (Arv Z h aR kR .int (1 : Int32) [(.int (4 : Int32))] (.int (0 : Int32))) ∧ (Arv Z h aE kE .int (4 : Int32) [(.int ex0), (.int ex1), (.int (0 : Int32)), (.int (0 : Int32))] (.int (0 : Int32))) ∧ (Arv Z h aT kT .byte (4 : Int32) [(.int tg0), (.int tx), (.int tg2), (.int tg3)] (.int (0 : Int32))) ∧ (16 ≤ rbx.toInt ∧ rbx.toInt ≤ 30) ∧ (own_rec rbx ex0 = rr0) ∧ (own_rec rbx ex1 = p2)
set_option maxRecDepth 65536 in
set_option maxHeartbeats 40000000 in
theorem rmAdd1 (l : Launch) (Z : State) (a0 : Array Value) (hw : ∀ d ∈ tables_1, d.before a0 Z = true) (ws : List Jvm.Cond) (a1 : Addr) (aS : Addr) (aL : Addr) (aR : Addr) (aE : Addr) (aT : Addr) (kS : ClassId) (kL : ClassId) (kR : ClassId) (kE : ClassId) (kT : ClassId) (p2 : Int32) (q3 : Int64) (rb : Int32) (lb : Int32) (mk : Int64) (en0 : Int32) (tg0 : Int32) (tg1 : Int32) (tg2 : Int32) (tg3 : Int32) (rr0 : Int32) (h0 : Heap) (n0 : Nat) (Z0 : n0 ≤ h0.size) (E1 : Exa Z h0 a1 "com/example/kinhash/kinhash/BlockTable") (g_a1 : n0 ≤ a1) (g_aS : n0 ≤ aS) (g_aL : n0 ≤ aL) (g_aR : n0 ≤ aR) (g_aE : n0 ≤ aE) (g_aT : n0 ≤ aT) (n_a1_aS : a1 ≠ aS) (n_a1_aL : a1 ≠ aL) (n_a1_aR : a1 ≠ aR) (n_a1_aE : a1 ≠ aE) (n_a1_aT : a1 ≠ aT) (n_aS_aL : aS ≠ aL) (n_aS_aR : aS ≠ aR) (n_aS_aE : aS ≠ aE) (n_aS_aT : aS ≠ aT) (n_aL_aR : aL ≠ aR) (n_aL_aE : aL ≠ aE) (n_aL_aT : aL ≠ aT) (n_aR_aE : aR ≠ aE) (n_aR_aT : aR ≠ aT) (n_aE_aT : aE ≠ aT) (Frb : Fld Z h0 a1 "com/example/kinhash/kinhash/BlockTable" "recordBits" "I" (.int rb)) (Fmk : Fld Z h0 a1 "com/example/kinhash/kinhash/BlockTable" "mask" "J" (.long mk)) (Flb : Fld Z h0 a1 "com/example/kinhash/kinhash/BlockTable" "lowestBit" "I" (.int lb)) (Fbb : Fld Z h0 a1 "com/example/kinhash/kinhash/BlockTable" "bucketBits" "I" (.int (0 : Int32))) (Ffr : Fld Z h0 a1 "com/example/kinhash/kinhash/BlockTable" "free" "I" (.int (4 : Int32))) (Fa_aS : Fld Z h0 a1 "com/example/kinhash/kinhash/BlockTable" "start" "[I" (.ref aS)) (Fa_aL : Fld Z h0 a1 "com/example/kinhash/kinhash/BlockTable" "length" "[I" (.ref aL)) (Fa_aR : Fld Z h0 a1 "com/example/kinhash/kinhash/BlockTable" "room" "[I" (.ref aR)) (Fa_aE : Fld Z h0 a1 "com/example/kinhash/kinhash/BlockTable" "entries" "[I" (.ref aE)) (Fa_aT : Fld Z h0 a1 "com/example/kinhash/kinhash/BlockTable" "tags" "[B" (.ref aT)) (V_aS : Arv Z h0 aS kS .int (1 : Int32) [(.int (0 : Int32))] (.int (0 : Int32))) (V_aL : Arv Z h0 aL kL .int (1 : Int32) [(.int (1 : Int32))] (.int (0 : Int32))) (V_aR : Arv Z h0 aR kR .int (1 : Int32) [(.int (4 : Int32))] (.int (0 : Int32))) (V_aE : Arv Z h0 aE kE .int (4 : Int32) [(.int en0), (.int (0 : Int32)), (.int (0 : Int32)), (.int (0 : Int32))] (.int (0 : Int32))) (V_aT : Arv Z h0 aT kT .byte (4 : Int32) [(.int tg0), (.int tg1), (.int tg2), (.int tg3)] (.int (0 : Int32))) (hrb : 16 ≤ rb.toInt ∧ rb.toInt ≤ 30) (ok0 : own_rec rb en0 = rr0) (hrg : 0 ≤ p2.toInt ∧ p2.toInt < 1073741824) :
    MetFree l (⟨"com/example/kinhash/kinhash/BlockTable", "add", "(IJLjava/util/function/IntToLongFunction;)V"⟩ : MethodName) (head1 (Jvm.Cond.code (⟨"com/example/kinhash/kinhash/BlockTable", "add", "(IJLjava/util/function/IntToLongFunction;)V"⟩ : MethodName) prog_4_method_9_code 6 none :: ws) ({ frames := 3, cells := 0, slots := 0, locals := 47 } : Room)) (fun a U => a = #[(.ref a1), (.int p2), (.long q3), .null] ∧ Z.Warmed39 U.vm ∧ U.heap = h0) (fun _ _ _ _ _ => True) (fun _ U o U' => ∃ v L, o = .returned v ∧ Q_rmAdd1 Z a1 aS aL aR aE aT kS kL kR kE kT p2 q3 rb lb mk en0 tg0 tg1 tg2 tg3 rr0 h0 n0 v U'.heap L ∧ FrameEnd U o U' L ({ frames := 3, cells := 0, slots := 0, locals := 47 } : Room).cells ({ frames := 3, cells := 0, slots := 0, locals := 47 } : Room).slots) := by
  refine MetFree.of_bodySF (plainFor_of_name pn_0) hisR ?_
  intro p e s m args below meth c s₁ Bd hml0 hP hK
  obtain ⟨rfl, hZ, hh⟩ := hP
  have hx := Bd.exec
  have hby := Bd.bytes
  have hml : c.maxLocals = 6 := hml0
  have hown : s.vm.findClass "com/example/kinhash/kinhash/BlockTable" = some m.cls := findClass_of_methodNamed Bd.named
  have hnm := (name_of_methodNamed Bd.named Bd.method).1
  have X0 : Stand p l e ({ frames := 3, cells := 0, slots := 0, locals := 47 } : Room) s m #[(.ref a1), (.int p2), (.long q3), .null] below meth c s₁ [] 0 0 := Stand.of_body Bd
  have e0 : s₁.heap = h0 := by rw [← hh, Bd.state]; rfl
  have N0 := Fr.nil n0
  have P0 : Rch p e below (s₁.setTop (entryFrame m #[(.ref a1), (.int p2), (.long q3), .null] 6)) (s₁.setTop (mkF m 0 #[rv a1, iv p2, lv q3, sd, .val .null, un] [])) := fun t k => castTop (by first | (simp [entryFrame, mkF, argsToLocals, Value.category]; done) | rfl) k
  have P1 : Rch p e below (s₁.setTop (entryFrame m #[(.ref a1), (.int p2), (.long q3), .null] 6)) (s₁.setTop (mkF m 2 #[rv a1, iv p2, lv q3, sd, .val .null, un] [(.ref a1), (.int p2)])) := fun t k => P0 t (by
    show Steps p.tables e below (s₁.setTop (mkF m 0 #[rv a1, iv p2, lv q3, sd, .val .null, un] [])) t
    refine XS.iloadN X0.here hx rfl (hb hby d3_0) rfl ?_
    refine XS.aloadN X0.here hx rfl (hb hby d3_1) rfl rfl ?_
    exact k)
  obtain ⟨T2, X2, e2, st2⟩ := getF X0 hx hZ hown (host := "") (Or.inl (hw _ (List.mem_of_getElem? (i := 11) rfl))) Via.refl e0 Frb (g := (mkF m 2 #[rv a1, iv p2, lv q3, sd, .val .null, un] [(.ref a1), (.int p2)])) rfl rfl (hb hby d3_2)
  have P3 : Rch p e below (s₁.setTop (entryFrame m #[(.ref a1), (.int p2), (.long q3), .null] 6)) (T2.setTop (mkF m 5 #[rv a1, iv p2, lv q3, sd, .val .null, un] [(.int rb), (.int p2)])) := fun t k => P1 t (st2 t k)
  obtain ⟨x4, hx4⟩ : ∃ z : Int32, z = ((p2.toUInt32 >>> (rb &&& 31).toUInt32).toInt32) := ⟨_, rfl⟩
  have P5 : Rch p e below (s₁.setTop (entryFrame m #[(.ref a1), (.int p2), (.long q3), .null] 6)) (T2.setTop (mkF m 6 #[rv a1, iv p2, lv q3, sd, .val .null, un] [(.int x4)])) := fun t k => P3 t (by
    subst hx4
    show Steps p.tables e below (T2.setTop (mkF m 5 #[rv a1, iv p2, lv q3, sd, .val .null, un] [(.int rb), (.int p2)])) t
    refine XS.iushr X2.here hx rfl (hb hby d3_5) rfl ?_
    exact k)
  obtain ⟨T6, L6, h6, rbj_6, ej0_6, X6, e6, N6, Z6, K6, Frb_6, Fmk_6, Flb_6, Fbb_6, Ffr_6, Fa_aS_6, Fa_aL_6, Fa_aR_6, Fa_aE_6, Fa_aT_6, VE_6, hbj_6, hfj_6, okj0_6, P6⟩ : ∃ (T6 : State) (L6 : List Loc) (h6 : Heap) (rbj_6 : Int32) (ej0_6 : Int32), Stand p l e ({ frames := 3, cells := 0, slots := 0, locals := 47 } : Room) s m #[(.ref a1), (.int p2), (.long q3), .null] below meth c T6 L6 0 0 ∧ T6.heap = h6 ∧ Fr n0 L6 ∧ n0 ≤ h6.size ∧ Keep h0 h6 [a1, aE] ∧ (Fld Z h6 a1 "com/example/kinhash/kinhash/BlockTable" "recordBits" "I" (.int rbj_6)) ∧ (Fld Z h6 a1 "com/example/kinhash/kinhash/BlockTable" "mask" "J" (.long mk)) ∧ (Fld Z h6 a1 "com/example/kinhash/kinhash/BlockTable" "lowestBit" "I" (.int lb)) ∧ (Fld Z h6 a1 "com/example/kinhash/kinhash/BlockTable" "bucketBits" "I" (.int (0 : Int32))) ∧ (Fld Z h6 a1 "com/example/kinhash/kinhash/BlockTable" "free" "I" (.int (4 : Int32))) ∧ (Fld Z h6 a1 "com/example/kinhash/kinhash/BlockTable" "start" "[I" (.ref aS)) ∧ (Fld Z h6 a1 "com/example/kinhash/kinhash/BlockTable" "length" "[I" (.ref aL)) ∧ (Fld Z h6 a1 "com/example/kinhash/kinhash/BlockTable" "room" "[I" (.ref aR)) ∧ (Fld Z h6 a1 "com/example/kinhash/kinhash/BlockTable" "entries" "[I" (.ref aE)) ∧ (Fld Z h6 a1 "com/example/kinhash/kinhash/BlockTable" "tags" "[B" (.ref aT)) ∧ (Arv Z h6 aE kE .int (4 : Int32) [(.int ej0_6), (.int (0 : Int32)), (.int (0 : Int32)), (.int (0 : Int32))] (.int (0 : Int32))) ∧ (16 ≤ rbj_6.toInt ∧ rbj_6.toInt ≤ 30) ∧ (p2.toInt < (2 ^ rbj_6.toInt.toNat : Nat)) ∧ (own_rec rbj_6 ej0_6 = rr0) ∧ Rch p e below (s₁.setTop (entryFrame m #[(.ref a1), (.int p2), (.long q3), .null] 6)) (T6.setTop (mkF m 20 #[rv a1, iv p2, lv q3, sd, .val .null, un] [])) := by
    by_cases c7 : x4 = (0 : Int32)
    · have P8 : Rch p e below (s₁.setTop (entryFrame m #[(.ref a1), (.int p2), (.long q3), .null] 6)) (T2.setTop (mkF m 20 #[rv a1, iv p2, lv q3, sd, .val .null, un] [])) := fun t k => P5 t (by
        show Steps p.tables e below (T2.setTop (mkF m 6 #[rv a1, iv p2, lv q3, sd, .val .null, un] [(.int x4)])) t
        refine XS.ifYes X2.here hx rfl (pc0 := 6) (pc' := 20) rfl (hb hby d3_6) rfl ((if0 _ _).trans (teq c7).1) (by decide) (by decide) ?_
        exact k)
      exact ⟨T2, _, h0, rb, en0, X2, e2, N0, Z0, (Keep.refl h0 [a1, aE]), Frb, Fmk, Flb, Fbb, Ffr, Fa_aS, Fa_aL, Fa_aR, Fa_aE, Fa_aT, V_aE, hrb, (own_fit0 hrb hrg (by rw [← hx4]; exact c7)), ok0, P8⟩
    · have P9 : Rch p e below (s₁.setTop (entryFrame m #[(.ref a1), (.int p2), (.long q3), .null] 6)) (T2.setTop (mkF m 13 #[rv a1, iv p2, lv q3, sd, .val .null, un] [(.int p2), (.int (32 : Int32)), (.ref a1)])) := fun t k => P5 t (by
        show Steps p.tables e below (T2.setTop (mkF m 6 #[rv a1, iv p2, lv q3, sd, .val .null, un] [(.int x4)])) t
        refine XS.ifNo X2.here hx rfl (hb hby d3_6) rfl ((if0 _ _).trans (feq c7).1) ?_
        refine XS.aloadN X2.here hx rfl (hb hby d3_9) rfl rfl ?_
        refine XS.bipush X2.here hx rfl (hb hby d3_10) ?_
        show Steps p.tables e below (T2.setTop (mkF m 12 #[rv a1, iv p2, lv q3, sd, .val .null, un] [(.int (32 : Int32)), (.ref a1)])) t
        refine XS.iloadN X2.here hx rfl (hb hby d3_12) rfl ?_
        exact k)
      obtain ⟨_, _, ⟨T10, L10, k10, n10⟩, -, X10, ⟨Lc10, hQ10, l10, y10, z10⟩, st10⟩ := Jvm.LawKit.callS X2 hx (y := (⟨"java/lang/Integer", "numberOfLeadingZeros", "(I)I"⟩ : MethodName)) hown (mvT hZ (hw _ (List.mem_of_getElem? (i := 93) rfl))) (mvT hZ (hw _ (List.mem_of_getElem? (i := 94) rfl))) (mvT hZ (hw _ (List.mem_of_getElem? (i := 95) rfl))) (mvT hZ (hw _ (List.mem_of_getElem? (i := 96) rfl))) (by decide) (backOf (W := 2) (rmNl l Z a0 hw [] p2 h0 n0 Z0 ) hZ (hw _ (List.mem_of_getElem? (i := 96) rfl)) (hw _ (List.mem_of_getElem? (i := 95) rfl)) (by decide) (by decide)) (g := (mkF m 13 #[rv a1, iv p2, lv q3, sd, .val .null, un] [(.int p2), (.int (32 : Int32)), (.ref a1)])) rfl (by rw [hml]; rfl) (argsL := [(.int p2)]) (rest := [(.int (32 : Int32)), (.ref a1)]) (lenOf pd_3 rfl) rfl (by show 2 * 0 + _ ≤ _; exact Nat.le_of_eq rfl) (hb hby d3_13) (fun _ _ => ⟨rfl, e2, (by decide : 0 + 0 ≤ _), (by decide : 0 + 0 ≤ _)⟩)
      dsimp only [Pt.U, Pt.locs, Pt.cells, Pt.slots] at X10 l10 y10 z10 st10 hQ10
      subst y10 z10
      obtain ⟨rfl, N10q, e10⟩ := hQ10
      have N10 : Fr n0 L10 := by rw [l10]; exact Fr.app N0 N10q
      have P11 : Rch p e below (s₁.setTop (entryFrame m #[(.ref a1), (.int p2), (.long q3), .null] 6)) (T10.setTop (mkF m 16 #[rv a1, iv p2, lv q3, sd, .val .null, un] [(.int (own_nlz p2)), (.int (32 : Int32)), (.ref a1)])) := fun t k => P9 t (st10 t k)
      obtain ⟨x12, hx12⟩ : ∃ z : Int32, z = (own_nlz p2) := ⟨_, rfl⟩
      rw [← hx12] at P11
      obtain ⟨x13, hx13⟩ : ∃ z : Int32, z = ((32 : Int32) - x12) := ⟨_, rfl⟩
      have P14 : Rch p e below (s₁.setTop (entryFrame m #[(.ref a1), (.int p2), (.long q3), .null] 6)) (T10.setTop (mkF m 17 #[rv a1, iv p2, lv q3, sd, .val .null, un] [(.int x13), (.ref a1)])) := fun t k => P11 t (by
        subst hx13
        show Steps p.tables e below (T10.setTop (mkF m 16 #[rv a1, iv p2, lv q3, sd, .val .null, un] [(.int x12), (.int (32 : Int32)), (.ref a1)])) t
        refine XS.isub X10.here hx rfl (hb hby d3_16) rfl ?_
        exact k)
      obtain ⟨cq15, q15, q15'⟩ := E1.cell
      obtain ⟨_, _, ⟨T15, L15, k15, n15⟩, -, X15, ⟨Lc15, hQ15, l15, y15, z15⟩, st15⟩ := X10.privateBack hx (y := (⟨"com/example/kinhash/kinhash/BlockTable", "widenRecords", "(I)V"⟩ : MethodName)) hown (mvT hZ (hw _ (List.mem_of_getElem? (i := 98) rfl))) (mvT hZ (hw _ (List.mem_of_getElem? (i := 99) rfl))) (own_selp hZ (hw _ (List.mem_of_getElem? (i := 3) rfl)) (hw _ (List.mem_of_getElem? (i := 99) rfl)) (hw _ (List.mem_of_getElem? (i := 100) rfl)) (by decide)) (Cond.privateMethod_at (mvP hZ (hw _ (List.mem_of_getElem? (i := 100) rfl)) (args := #[]))) (mvT hZ (hw _ (List.mem_of_getElem? (i := 101) rfl))) (by decide) (backOf (W := 0) (rmWd1 l Z a0 hw [] a1 x13 aS aL aR aE aT kS kL kR kE kT rb lb (4 : Int32) (4 : Int32) en0 (0 : Int32) (0 : Int32) (0 : Int32) tg0 tg1 tg2 tg3 mk h0 n0 Z0 E1 g_a1 g_aS g_aL g_aR g_aE g_aT n_a1_aS n_a1_aL n_a1_aR n_a1_aE n_a1_aT n_aS_aL n_aS_aR n_aS_aE n_aS_aT n_aL_aR n_aL_aE n_aL_aT n_aR_aE n_aR_aT n_aE_aT Frb Fmk Flb Fbb Ffr Fa_aS Fa_aL Fa_aR Fa_aE Fa_aT V_aS V_aL V_aR V_aE V_aT) hZ (hw _ (List.mem_of_getElem? (i := 101) rfl)) (hw _ (List.mem_of_getElem? (i := 4) rfl)) (by decide) (by decide)) (g := (mkF m 17 #[rv a1, iv p2, lv q3, sd, .val .null, un] [(.int x13), (.ref a1)])) rfl (by rw [hml]; rfl) (Steps.refl _) (a := a1) (by rw [e10]; exact q15) q15' (argsL := [(.int x13)]) (rest := []) (lenOf pd_4 rfl) rfl (by show 2 * 0 + _ ≤ _; exact Nat.le_of_eq rfl) (hb hby d3_17) (fun _ _ => ⟨rfl, e10, (by decide : 0 + 0 ≤ _), (by decide : 0 + 0 ≤ _)⟩)
      dsimp only [Pt.U, Pt.locs, Pt.cells, Pt.slots] at X15 l15 y15 z15 st15 hQ15
      subst y15 z15
      obtain ⟨rfl, N15q, K15, E1_15, Frb_15, Fmk_15, Flb_15, Fbb_15, Ffr_15, Fa_aS_15, Fa_aL_15, Fa_aR_15, Fa_aE_15, Fa_aT_15, V_aE_15⟩ := hQ15
      have N15 : Fr n0 L15 := by rw [l15]; exact Fr.app N10 N15q
      have P16 : Rch p e below (s₁.setTop (entryFrame m #[(.ref a1), (.int p2), (.long q3), .null] 6)) (T15.setTop (mkF m 20 #[rv a1, iv p2, lv q3, sd, .val .null, un] [])) := fun t k => P14 t (st15.trans k)
      have f17 : n0 ≤ T15.heap.size := (Nat.le_trans Z0 K15.1)
      exact ⟨T15, _, T15.heap, x13, (own_wid rb x13 en0), X15, rfl, N15, f17, ((Keep.refl h0 [a1, aE]).trans K15 (allS (P := fun x => x ∈ ([a1, aE] : List Addr) ∨ h0.size ≤ x) (Or.inl (List.mem_of_getElem? (i := 0) rfl)) (allS (P := fun x => x ∈ ([a1, aE] : List Addr) ∨ h0.size ≤ x) (Or.inl (List.mem_of_getElem? (i := 1) rfl)) all0))), Frb_15, Fmk_15, Flb_15, Fbb_15, Ffr_15, Fa_aS_15, Fa_aL_15, Fa_aR_15, Fa_aE_15, Fa_aT_15, V_aE_15, (by rw [hx13, hx12]; exact (own_newb hrb hrg (by rw [← hx4]; exact c7)).1), (by rw [hx13, hx12]; exact (own_newb hrb hrg (by rw [← hx4]; exact c7)).2.2), (own_widok hrb (by rw [hx13, hx12]; exact (own_newb hrb hrg (by rw [← hx4]; exact c7)).1) (by rw [hx13, hx12]; exact (own_newb hrb hrg (by rw [← hx4]; exact c7)).2.1) ok0), P16⟩
  have P18 : Rch p e below (s₁.setTop (entryFrame m #[(.ref a1), (.int p2), (.long q3), .null] 6)) (T6.setTop (mkF m 22 #[rv a1, iv p2, lv q3, sd, .val .null, un] [(.long q3), (.ref a1)])) := fun t k => P6 t (by
    show Steps p.tables e below (T6.setTop (mkF m 20 #[rv a1, iv p2, lv q3, sd, .val .null, un] [])) t
    refine XS.aloadN X6.here hx rfl (hb hby d3_20) rfl rfl ?_
    refine XS.lloadN X6.here hx rfl (hb hby d3_21) rfl ?_
    exact k)
  obtain ⟨cq19, kq19, q19a, q19b, q19c⟩ := isOf hZ e6 (E1.keep K6)
  obtain ⟨_, _, ⟨T19, L19, k19, n19⟩, -, X19, ⟨Lc19, hQ19, l19, y19, z19⟩, st19⟩ := X6.virtualBack hx (y := (⟨"com/example/kinhash/kinhash/BlockTable", "bucket", "(J)I"⟩ : MethodName)) (z := (⟨"com/example/kinhash/kinhash/BlockTable", "bucket", "(J)I"⟩ : MethodName)) hown (mvT hZ (hw _ (List.mem_of_getElem? (i := 36) rfl))) (mvT hZ (hw _ (List.mem_of_getElem? (i := 37) rfl))) (notFace_of_selects (args := #[]) (mvT hZ (hw _ (List.mem_of_getElem? (i := 39) rfl)))) (mvT hZ (hw _ (List.mem_of_getElem? (i := 39) rfl))) (mvT hZ (hw _ (List.mem_of_getElem? (i := 38) rfl))) (by decide) (backOf (W := 0) (rmB1 l Z a0 hw [] a1 q3 mk lb h6 n0 Z6 (E1.keep K6) Fmk_6 Flb_6 Fbb_6) hZ (hw _ (List.mem_of_getElem? (i := 40) rfl)) (hw _ (List.mem_of_getElem? (i := 4) rfl)) (by decide) (by decide)) q19a q19c (g := (mkF m 22 #[rv a1, iv p2, lv q3, sd, .val .null, un] [(.long q3), (.ref a1)])) rfl (by rw [hml]; rfl) (Steps.refl _) (argsL := [(.long q3)]) (rest := []) (lenOf pd_5 rfl) rfl (by show 2 * 0 + _ ≤ _; exact Nat.le_of_eq rfl) (hb hby d3_22) (fun _ _ => ⟨rfl, e6, (by decide : 0 + 0 ≤ _), (by decide : 0 + 0 ≤ _)⟩)
  dsimp only [Pt.U, Pt.locs, Pt.cells, Pt.slots] at X19 l19 y19 z19 st19 hQ19
  subst y19 z19
  obtain ⟨rfl, N19q, e19⟩ := hQ19
  have N19 : Fr n0 L19 := by rw [l19]; exact Fr.app N6 N19q
  have P20 : Rch p e below (s₁.setTop (entryFrame m #[(.ref a1), (.int p2), (.long q3), .null] 6)) (T19.setTop (mkF m 25 #[rv a1, iv p2, lv q3, sd, .val .null, un] [(.int (0 : Int32))])) := fun t k => P18 t (st19.trans k)
  have P21 : Rch p e below (s₁.setTop (entryFrame m #[(.ref a1), (.int p2), (.long q3), .null] 6)) (T19.setTop (mkF m 28 #[rv a1, iv p2, lv q3, sd, .val .null, iv (0 : Int32)] [(.ref a1)])) := fun t k => P20 t (by
    show Steps p.tables e below (T19.setTop (mkF m 25 #[rv a1, iv p2, lv q3, sd, .val .null, un] [(.int (0 : Int32))])) t
    refine XS.istore X19.here hx rfl (hb hby d3_25) rfl (l' := #[rv a1, iv p2, lv q3, sd, .val .null, iv (0 : Int32)]) rfl ?_
    refine XS.aloadN X19.here hx rfl (hb hby d3_27) rfl rfl ?_
    exact k)
  obtain ⟨T22, X22, e22, st22⟩ := getF X19 hx hZ hown (host := "") (Or.inl (hw _ (List.mem_of_getElem? (i := 22) rfl))) Via.refl e19 Fa_aL_6 (g := (mkF m 28 #[rv a1, iv p2, lv q3, sd, .val .null, iv (0 : Int32)] [(.ref a1)])) rfl rfl (hb hby d3_28)
  have P23 : Rch p e below (s₁.setTop (entryFrame m #[(.ref a1), (.int p2), (.long q3), .null] 6)) (T22.setTop (mkF m 31 #[rv a1, iv p2, lv q3, sd, .val .null, iv (0 : Int32)] [(.ref aL)])) := fun t k => P21 t (st22 t k)
  have P24 : Rch p e below (s₁.setTop (entryFrame m #[(.ref a1), (.int p2), (.long q3), .null] 6)) (T22.setTop (mkF m 33 #[rv a1, iv p2, lv q3, sd, .val .null, iv (0 : Int32)] [(.int (0 : Int32)), (.ref aL)])) := fun t k => P23 t (by
    show Steps p.tables e below (T22.setTop (mkF m 31 #[rv a1, iv p2, lv q3, sd, .val .null, iv (0 : Int32)] [(.ref aL)])) t
    refine XS.iload X22.here hx rfl (hb hby d3_31) rfl ?_
    exact k)
  have V_o25 := (V_aL.keep K6 (ninS (Ne.symm n_a1_aL) (ninS n_aL_aE nin0)))
  obtain ⟨co25, Aro25, qo25, So25, Mo25, Ho25, Go25⟩ := V_o25
  have hin26 : ¬ ((0 : Int32) < 0 ∨ co25.slots.size ≤ ((0 : Int32)).toNatClampNeg) := inb_of So25 ⟨by decide, by decide⟩
  have hat26 : co25.slots[((0 : Int32)).toNatClampNeg]? = some (.int (1 : Int32)) := Has.at Ho25 hin26 rfl
  have P27 : Rch p e below (s₁.setTop (entryFrame m #[(.ref a1), (.int p2), (.long q3), .null] 6)) (T22.setTop (mkF m 34 #[rv a1, iv p2, lv q3, sd, .val .null, iv (0 : Int32)] [(.int (1 : Int32))])) := fun t k => P24 t (X22.iaload hx (j := (0 : Int32)) (v := (.int (1 : Int32))) (by rw [e22]; exact Aro25.1) (State.isArrayOf_alike hZ.alike Aro25.2.1) Aro25.2.2 hin26 hat26 (g := (mkF m 33 #[rv a1, iv p2, lv q3, sd, .val .null, iv (0 : Int32)] [(.int (0 : Int32)), (.ref aL)])) rfl rfl (hb hby d3_33) t k)
  have P28 : Rch p e below (s₁.setTop (entryFrame m #[(.ref a1), (.int p2), (.long q3), .null] 6)) (T22.setTop (mkF m 35 #[rv a1, iv p2, lv q3, sd, .val .null, iv (0 : Int32)] [(.ref a1), (.int (1 : Int32))])) := fun t k => P27 t (by
    show Steps p.tables e below (T22.setTop (mkF m 34 #[rv a1, iv p2, lv q3, sd, .val .null, iv (0 : Int32)] [(.int (1 : Int32))])) t
    refine XS.aloadN X22.here hx rfl (hb hby d3_34) rfl rfl ?_
    exact k)
  obtain ⟨T29, X29, e29, st29⟩ := getF X22 hx hZ hown (host := "") (Or.inl (hw _ (List.mem_of_getElem? (i := 24) rfl))) Via.refl e22 Fa_aR_6 (g := (mkF m 35 #[rv a1, iv p2, lv q3, sd, .val .null, iv (0 : Int32)] [(.ref a1), (.int (1 : Int32))])) rfl rfl (hb hby d3_35)
  have P30 : Rch p e below (s₁.setTop (entryFrame m #[(.ref a1), (.int p2), (.long q3), .null] 6)) (T29.setTop (mkF m 38 #[rv a1, iv p2, lv q3, sd, .val .null, iv (0 : Int32)] [(.ref aR), (.int (1 : Int32))])) := fun t k => P28 t (st29 t k)
  have P31 : Rch p e below (s₁.setTop (entryFrame m #[(.ref a1), (.int p2), (.long q3), .null] 6)) (T29.setTop (mkF m 40 #[rv a1, iv p2, lv q3, sd, .val .null, iv (0 : Int32)] [(.int (0 : Int32)), (.ref aR), (.int (1 : Int32))])) := fun t k => P30 t (by
    show Steps p.tables e below (T29.setTop (mkF m 38 #[rv a1, iv p2, lv q3, sd, .val .null, iv (0 : Int32)] [(.ref aR), (.int (1 : Int32))])) t
    refine XS.iload X29.here hx rfl (hb hby d3_38) rfl ?_
    exact k)
  have V_o32 := (V_aR.keep K6 (ninS (Ne.symm n_a1_aR) (ninS n_aR_aE nin0)))
  obtain ⟨co32, Aro32, qo32, So32, Mo32, Ho32, Go32⟩ := V_o32
  have hin33 : ¬ ((0 : Int32) < 0 ∨ co32.slots.size ≤ ((0 : Int32)).toNatClampNeg) := inb_of So32 ⟨by decide, by decide⟩
  have hat33 : co32.slots[((0 : Int32)).toNatClampNeg]? = some (.int (4 : Int32)) := Has.at Ho32 hin33 rfl
  have P34 : Rch p e below (s₁.setTop (entryFrame m #[(.ref a1), (.int p2), (.long q3), .null] 6)) (T29.setTop (mkF m 41 #[rv a1, iv p2, lv q3, sd, .val .null, iv (0 : Int32)] [(.int (4 : Int32)), (.int (1 : Int32))])) := fun t k => P31 t (X29.iaload hx (j := (0 : Int32)) (v := (.int (4 : Int32))) (by rw [e29]; exact Aro32.1) (State.isArrayOf_alike hZ.alike Aro32.2.1) Aro32.2.2 hin33 hat33 (g := (mkF m 40 #[rv a1, iv p2, lv q3, sd, .val .null, iv (0 : Int32)] [(.int (0 : Int32)), (.ref aR), (.int (1 : Int32))])) rfl rfl (hb hby d3_40) t k)
  have P35 : Rch p e below (s₁.setTop (entryFrame m #[(.ref a1), (.int p2), (.long q3), .null] 6)) (T29.setTop (mkF m 70 #[rv a1, iv p2, lv q3, sd, .val .null, iv (0 : Int32)] [(.int (0 : Int32)), (.ref a1), (.ref a1)])) := fun t k => P34 t (by
    show Steps p.tables e below (T29.setTop (mkF m 41 #[rv a1, iv p2, lv q3, sd, .val .null, iv (0 : Int32)] [(.int (4 : Int32)), (.int (1 : Int32))])) t
    refine XS.icmpYes X29.here hx rfl (pc0 := 41) (pc' := 66) rfl (hb hby d3_41) rfl (feq (by decide)).2 (by decide) (by decide) ?_
    refine XS.aloadN X29.here hx rfl (hb hby d3_66) rfl rfl ?_
    refine XS.aloadN X29.here hx rfl (hb hby d3_67) rfl rfl ?_
    show Steps p.tables e below (T29.setTop (mkF m 68 #[rv a1, iv p2, lv q3, sd, .val .null, iv (0 : Int32)] [(.ref a1), (.ref a1)])) t
    refine XS.iload X29.here hx rfl (hb hby d3_68) rfl ?_
    exact k)
  obtain ⟨cq36, kq36, q36a, q36b, q36c⟩ := isOf hZ e29 (E1.keep K6)
  obtain ⟨_, _, ⟨T36, L36, k36, n36⟩, -, X36, ⟨Lc36, hQ36, l36, y36, z36⟩, st36⟩ := X29.virtualBack hx (y := (⟨"com/example/kinhash/kinhash/BlockTable", "end", "(I)I"⟩ : MethodName)) (z := (⟨"com/example/kinhash/kinhash/BlockTable", "end", "(I)I"⟩ : MethodName)) hown (mvT hZ (hw _ (List.mem_of_getElem? (i := 61) rfl))) (mvT hZ (hw _ (List.mem_of_getElem? (i := 62) rfl))) (notFace_of_selects (args := #[]) (mvT hZ (hw _ (List.mem_of_getElem? (i := 64) rfl)))) (mvT hZ (hw _ (List.mem_of_getElem? (i := 64) rfl))) (mvT hZ (hw _ (List.mem_of_getElem? (i := 63) rfl))) (by decide) (backOf (W := 1) (rmE l Z a0 hw [] a1 aS kS aL kL (0 : Int32) (1 : Int32) h6 n0 Z6 Fa_aS_6 Fa_aL_6 (V_aS.keep K6 (ninS (Ne.symm n_a1_aS) (ninS n_aS_aE nin0))) (V_aL.keep K6 (ninS (Ne.symm n_a1_aL) (ninS n_aL_aE nin0)))) hZ (hw _ (List.mem_of_getElem? (i := 65) rfl)) (hw _ (List.mem_of_getElem? (i := 4) rfl)) (by decide) (by decide)) q36a q36c (g := (mkF m 70 #[rv a1, iv p2, lv q3, sd, .val .null, iv (0 : Int32)] [(.int (0 : Int32)), (.ref a1), (.ref a1)])) rfl (by rw [hml]; rfl) (Steps.refl _) (argsL := [(.int (0 : Int32))]) (rest := [(.ref a1)]) (lenOf pd_3 rfl) rfl (by show 2 * 0 + _ ≤ _; exact Nat.le_of_eq rfl) (hb hby d3_70) (fun _ _ => ⟨rfl, e29, (by decide : 0 + 0 ≤ _), (by decide : 0 + 0 ≤ _)⟩)
  dsimp only [Pt.U, Pt.locs, Pt.cells, Pt.slots] at X36 l36 y36 z36 st36 hQ36
  subst y36 z36
  obtain ⟨rfl, N36q, e36⟩ := hQ36
  have N36 : Fr n0 L36 := by rw [l36]; exact Fr.app N19 N36q
  have P37 : Rch p e below (s₁.setTop (entryFrame m #[(.ref a1), (.int p2), (.long q3), .null] 6)) (T36.setTop (mkF m 73 #[rv a1, iv p2, lv q3, sd, .val .null, iv (0 : Int32)] [(.int (1 : Int32)), (.ref a1)])) := fun t k => P35 t (st36.trans k)
  have P38 : Rch p e below (s₁.setTop (entryFrame m #[(.ref a1), (.int p2), (.long q3), .null] 6)) (T36.setTop (mkF m 76 #[rv a1, iv p2, lv q3, sd, .val .null, iv (0 : Int32)] [(.long q3), (.ref a1), (.int p2), (.int (1 : Int32)), (.ref a1)])) := fun t k => P37 t (by
    show Steps p.tables e below (T36.setTop (mkF m 73 #[rv a1, iv p2, lv q3, sd, .val .null, iv (0 : Int32)] [(.int (1 : Int32)), (.ref a1)])) t
    refine XS.iloadN X36.here hx rfl (hb hby d3_73) rfl ?_
    refine XS.aloadN X36.here hx rfl (hb hby d3_74) rfl rfl ?_
    refine XS.lloadN X36.here hx rfl (hb hby d3_75) rfl ?_
    exact k)
  obtain ⟨cq39, kq39, q39a, q39b, q39c⟩ := isOf hZ e36 (E1.keep K6)
  obtain ⟨_, _, ⟨T39, L39, k39, n39⟩, -, X39, ⟨Lc39, hQ39, l39, y39, z39⟩, st39⟩ := X36.virtualBack hx (y := (⟨"com/example/kinhash/kinhash/BlockTable", "tag", "(J)I"⟩ : MethodName)) (z := (⟨"com/example/kinhash/kinhash/BlockTable", "tag", "(J)I"⟩ : MethodName)) hown (mvT hZ (hw _ (List.mem_of_getElem? (i := 66) rfl))) (mvT hZ (hw _ (List.mem_of_getElem? (i := 67) rfl))) (notFace_of_selects (args := #[]) (mvT hZ (hw _ (List.mem_of_getElem? (i := 69) rfl)))) (mvT hZ (hw _ (List.mem_of_getElem? (i := 69) rfl))) (mvT hZ (hw _ (List.mem_of_getElem? (i := 68) rfl))) (by decide) (backOf (W := 3) (rmT1 l Z a0 hw [] a1 q3 rbj_6 lb h6 n0 Z6 (E1.keep K6) Frb_6 Flb_6 Fbb_6) hZ (hw _ (List.mem_of_getElem? (i := 70) rfl)) (hw _ (List.mem_of_getElem? (i := 4) rfl)) (by decide) (by decide)) q39a q39c (g := (mkF m 76 #[rv a1, iv p2, lv q3, sd, .val .null, iv (0 : Int32)] [(.long q3), (.ref a1), (.int p2), (.int (1 : Int32)), (.ref a1)])) rfl (by rw [hml]; rfl) (Steps.refl _) (argsL := [(.long q3)]) (rest := [(.int p2), (.int (1 : Int32)), (.ref a1)]) (lenOf pd_5 rfl) rfl (by show 2 * 0 + _ ≤ _; exact Nat.le_of_eq rfl) (hb hby d3_76) (fun _ _ => ⟨rfl, e36, (by decide : 0 + 0 ≤ _), (by decide : 0 + 0 ≤ _)⟩)
  dsimp only [Pt.U, Pt.locs, Pt.cells, Pt.slots] at X39 l39 y39 z39 st39 hQ39
  subst y39 z39
  obtain ⟨rfl, N39q, e39⟩ := hQ39
  have N39 : Fr n0 L39 := by rw [l39]; exact Fr.app N36 N39q
  have P40 : Rch p e below (s₁.setTop (entryFrame m #[(.ref a1), (.int p2), (.long q3), .null] 6)) (T39.setTop (mkF m 79 #[rv a1, iv p2, lv q3, sd, .val .null, iv (0 : Int32)] [(.int (own_tg1 q3 rbj_6 lb)), (.int p2), (.int (1 : Int32)), (.ref a1)])) := fun t k => P38 t (st39.trans k)
  obtain ⟨x41, hx41⟩ : ∃ z : Int32, z = (own_tg1 q3 rbj_6 lb) := ⟨_, rfl⟩
  rw [← hx41] at P40
  have P42 : Rch p e below (s₁.setTop (entryFrame m #[(.ref a1), (.int p2), (.long q3), .null] 6)) (T39.setTop (mkF m 80 #[rv a1, iv p2, lv q3, sd, .val .null, iv (0 : Int32)] [(.ref a1), (.int x41), (.int p2), (.int (1 : Int32)), (.ref a1)])) := fun t k => P40 t (by
    show Steps p.tables e below (T39.setTop (mkF m 79 #[rv a1, iv p2, lv q3, sd, .val .null, iv (0 : Int32)] [(.int x41), (.int p2), (.int (1 : Int32)), (.ref a1)])) t
    refine XS.aloadN X39.here hx rfl (hb hby d3_79) rfl rfl ?_
    exact k)
  obtain ⟨T43, X43, e43, st43⟩ := getF X39 hx hZ hown (host := "") (Or.inl (hw _ (List.mem_of_getElem? (i := 26) rfl))) Via.refl e39 Fa_aE_6 (g := (mkF m 80 #[rv a1, iv p2, lv q3, sd, .val .null, iv (0 : Int32)] [(.ref a1), (.int x41), (.int p2), (.int (1 : Int32)), (.ref a1)])) rfl rfl (hb hby d3_80)
  have P44 : Rch p e below (s₁.setTop (entryFrame m #[(.ref a1), (.int p2), (.long q3), .null] 6)) (T43.setTop (mkF m 83 #[rv a1, iv p2, lv q3, sd, .val .null, iv (0 : Int32)] [(.ref aE), (.int x41), (.int p2), (.int (1 : Int32)), (.ref a1)])) := fun t k => P42 t (st43 t k)
  have P45 : Rch p e below (s₁.setTop (entryFrame m #[(.ref a1), (.int p2), (.long q3), .null] 6)) (T43.setTop (mkF m 84 #[rv a1, iv p2, lv q3, sd, .val .null, iv (0 : Int32)] [(.ref a1), (.ref aE), (.int x41), (.int p2), (.int (1 : Int32)), (.ref a1)])) := fun t k => P44 t (by
    show Steps p.tables e below (T43.setTop (mkF m 83 #[rv a1, iv p2, lv q3, sd, .val .null, iv (0 : Int32)] [(.ref aE), (.int x41), (.int p2), (.int (1 : Int32)), (.ref a1)])) t
    refine XS.aloadN X43.here hx rfl (hb hby d3_83) rfl rfl ?_
    exact k)
  obtain ⟨T46, X46, e46, st46⟩ := getF X43 hx hZ hown (host := "") (Or.inl (hw _ (List.mem_of_getElem? (i := 29) rfl))) Via.refl e43 Fa_aT_6 (g := (mkF m 84 #[rv a1, iv p2, lv q3, sd, .val .null, iv (0 : Int32)] [(.ref a1), (.ref aE), (.int x41), (.int p2), (.int (1 : Int32)), (.ref a1)])) rfl rfl (hb hby d3_84)
  have P47 : Rch p e below (s₁.setTop (entryFrame m #[(.ref a1), (.int p2), (.long q3), .null] 6)) (T46.setTop (mkF m 87 #[rv a1, iv p2, lv q3, sd, .val .null, iv (0 : Int32)] [(.ref aT), (.ref aE), (.int x41), (.int p2), (.int (1 : Int32)), (.ref a1)])) := fun t k => P45 t (st46 t k)
  have f49 : Arv Z h6 aT kT .byte (4 : Int32) [(.int tg0), (.int tg1), (.int tg2), (.int tg3)] (.int (0 : Int32)) := (V_aT.keep K6 (ninS (Ne.symm n_a1_aT) (ninS (Ne.symm n_aE_aT) nin0)))
  obtain ⟨cq48, q48, q48'⟩ := (E1.keep K6).cell
  obtain ⟨_, _, ⟨T48, L48, k48, n48⟩, -, X48, ⟨Lc48, hQ48, l48, y48, z48⟩, st48⟩ := X46.privateBack hx (y := (⟨"com/example/kinhash/kinhash/BlockTable", "put", "(III[I[B)V"⟩ : MethodName)) hown (mvT hZ (hw _ (List.mem_of_getElem? (i := 79) rfl))) (mvT hZ (hw _ (List.mem_of_getElem? (i := 80) rfl))) (own_selp hZ (hw _ (List.mem_of_getElem? (i := 3) rfl)) (hw _ (List.mem_of_getElem? (i := 80) rfl)) (hw _ (List.mem_of_getElem? (i := 81) rfl)) (by decide)) (Cond.privateMethod_at (mvP hZ (hw _ (List.mem_of_getElem? (i := 81) rfl)) (args := #[]))) (mvT hZ (hw _ (List.mem_of_getElem? (i := 82) rfl))) (by decide) (backOf (W := 0) (rmPut1 l Z a0 hw [] a1 p2 x41 aE aT rbj_6 kE kT ej0_6 (0 : Int32) (0 : Int32) (0 : Int32) tg0 tg1 tg2 tg3 h6 n0 Z6 Frb_6 VE_6 f49 g_aE g_aT n_a1_aE n_a1_aT n_aE_aT) hZ (hw _ (List.mem_of_getElem? (i := 82) rfl)) (hw _ (List.mem_of_getElem? (i := 4) rfl)) (by decide) (by decide)) (g := (mkF m 87 #[rv a1, iv p2, lv q3, sd, .val .null, iv (0 : Int32)] [(.ref aT), (.ref aE), (.int x41), (.int p2), (.int (1 : Int32)), (.ref a1)])) rfl (by rw [hml]; rfl) (Steps.refl _) (a := a1) (by rw [e46]; exact q48) q48' (argsL := [(.int (1 : Int32)), (.int p2), (.int x41), (.ref aE), (.ref aT)]) (rest := []) (lenOf pd_7 rfl) rfl (by show 2 * 0 + _ ≤ _; exact Nat.le_of_eq rfl) (hb hby d3_87) (fun _ _ => ⟨rfl, e46, (by decide : 0 + 0 ≤ _), (by decide : 0 + 0 ≤ _)⟩)
  dsimp only [Pt.U, Pt.locs, Pt.cells, Pt.slots] at X48 l48 y48 z48 st48 hQ48
  subst y48 z48
  obtain ⟨rfl, N48q, K48, G1_48, G2_48⟩ := hQ48
  have N48 : Fr n0 L48 := by rw [l48]; exact Fr.app N39 N48q
  have P50 : Rch p e below (s₁.setTop (entryFrame m #[(.ref a1), (.int p2), (.long q3), .null] 6)) (T48.setTop (mkF m 90 #[rv a1, iv p2, lv q3, sd, .val .null, iv (0 : Int32)] [])) := fun t k => P47 t (st48.trans k)
  have P51 : Rch p e below (s₁.setTop (entryFrame m #[(.ref a1), (.int p2), (.long q3), .null] 6)) (T48.setTop (mkF m 91 #[rv a1, iv p2, lv q3, sd, .val .null, iv (0 : Int32)] [(.ref a1)])) := fun t k => P50 t (by
    show Steps p.tables e below (T48.setTop (mkF m 90 #[rv a1, iv p2, lv q3, sd, .val .null, iv (0 : Int32)] [])) t
    refine XS.aloadN X48.here hx rfl (hb hby d3_90) rfl rfl ?_
    exact k)
  obtain ⟨T52, X52, e52, st52⟩ := getF X48 hx hZ hown (host := "") (Or.inl (hw _ (List.mem_of_getElem? (i := 22) rfl))) Via.refl rfl (Fa_aL_6.keep K48 (ninS n_a1_aE (ninS n_a1_aT nin0))) (g := (mkF m 91 #[rv a1, iv p2, lv q3, sd, .val .null, iv (0 : Int32)] [(.ref a1)])) rfl rfl (hb hby d3_91)
  have P53 : Rch p e below (s₁.setTop (entryFrame m #[(.ref a1), (.int p2), (.long q3), .null] 6)) (T52.setTop (mkF m 94 #[rv a1, iv p2, lv q3, sd, .val .null, iv (0 : Int32)] [(.ref aL)])) := fun t k => P51 t (st52 t k)
  have P54 : Rch p e below (s₁.setTop (entryFrame m #[(.ref a1), (.int p2), (.long q3), .null] 6)) (T52.setTop (mkF m 97 #[rv a1, iv p2, lv q3, sd, .val .null, iv (0 : Int32)] [(.int (0 : Int32)), (.ref aL), (.int (0 : Int32)), (.ref aL)])) := fun t k => P53 t (by
    show Steps p.tables e below (T52.setTop (mkF m 94 #[rv a1, iv p2, lv q3, sd, .val .null, iv (0 : Int32)] [(.ref aL)])) t
    refine XS.iload X52.here hx rfl (hb hby d3_94) rfl ?_
    jvm_step X52.here [X52.here.top, hx, (hb hby d3_96), Value.category]
    exact k)
  have f55 : Arv Z T48.heap aL kL .int (1 : Int32) [(.int (1 : Int32))] (.int (0 : Int32)) := ((V_aL.keep K6 (ninS (Ne.symm n_a1_aL) (ninS n_aL_aE nin0))).keep K48 (ninS n_aL_aE (ninS n_aL_aT nin0)))
  have V_o56 := f55
  obtain ⟨co56, Aro56, qo56, So56, Mo56, Ho56, Go56⟩ := V_o56
  have hin57 : ¬ ((0 : Int32) < 0 ∨ co56.slots.size ≤ ((0 : Int32)).toNatClampNeg) := inb_of So56 ⟨by decide, by decide⟩
  have hat57 : co56.slots[((0 : Int32)).toNatClampNeg]? = some (.int (1 : Int32)) := Has.at Ho56 hin57 rfl
  have P58 : Rch p e below (s₁.setTop (entryFrame m #[(.ref a1), (.int p2), (.long q3), .null] 6)) (T52.setTop (mkF m 98 #[rv a1, iv p2, lv q3, sd, .val .null, iv (0 : Int32)] [(.int (1 : Int32)), (.int (0 : Int32)), (.ref aL)])) := fun t k => P54 t (X52.iaload hx (j := (0 : Int32)) (v := (.int (1 : Int32))) (by rw [e52]; exact Aro56.1) (State.isArrayOf_alike hZ.alike Aro56.2.1) Aro56.2.2 hin57 hat57 (g := (mkF m 97 #[rv a1, iv p2, lv q3, sd, .val .null, iv (0 : Int32)] [(.int (0 : Int32)), (.ref aL), (.int (0 : Int32)), (.ref aL)])) rfl rfl (hb hby d3_97) t k)
  have P59 : Rch p e below (s₁.setTop (entryFrame m #[(.ref a1), (.int p2), (.long q3), .null] 6)) (T52.setTop (mkF m 100 #[rv a1, iv p2, lv q3, sd, .val .null, iv (0 : Int32)] [(.int (2 : Int32)), (.int (0 : Int32)), (.ref aL)])) := fun t k => P58 t (by
    show Steps p.tables e below (T52.setTop (mkF m 98 #[rv a1, iv p2, lv q3, sd, .val .null, iv (0 : Int32)] [(.int (1 : Int32)), (.int (0 : Int32)), (.ref aL)])) t
    refine XS.iconst X52.here hx rfl (hb hby d3_98) ?_
    refine XS.iadd X52.here hx rfl (hb hby d3_99) rfl ?_
    exact k)
  have V_o60 := f55
  obtain ⟨co60, Aro60, qo60, So60, Mo60, Ho60, Go60⟩ := V_o60
  have hin61 : ¬ ((0 : Int32) < 0 ∨ co60.slots.size ≤ ((0 : Int32)).toNatClampNeg) := inb_of So60 ⟨by decide, by decide⟩
  obtain ⟨T61, h61, X61, e61, W61, st61⟩ := stI X52 hx hZ e52 Aro60 (j := (0 : Int32)) hin61 (g := (mkF m 100 #[rv a1, iv p2, lv q3, sd, .val .null, iv (0 : Int32)] [(.int (2 : Int32)), (.int (0 : Int32)), (.ref aL)])) rfl rfl (hb hby d3_100)
  have V61 : Arv Z h61 aL kL .int (1 : Int32) [(.int (2 : Int32))] (.int (0 : Int32)) := Arv.set Aro60 qo60 So60 Mo60 Ho60 Go60 rfl W61 0 rfl (Nat.le_of_ble_eq_true rfl)
  have P62 : Rch p e below (s₁.setTop (entryFrame m #[(.ref a1), (.int p2), (.long q3), .null] 6)) (T61.setTop (mkF m 101 #[rv a1, iv p2, lv q3, sd, .val .null, iv (0 : Int32)] [])) := fun t k => P59 t (st61 t k)
  have N61 := Fr.snoc X61 N48 g_aL
  obtain ⟨fs, hr, hrun, hended, hW, hsame⟩ := X61.leave (v := none) (fun _ => rfl)
  refine ⟨_, _, P62 _ ?_, hrun, hended, _, _, rfl, ?_, ⟨_, rfl⟩, hW, hsame.mono (by decide) (by decide)⟩
  · exact X61.returnOut hx Bd.returns (hb hby d3_101) hr
  · show Q_rmAdd1 Z a1 aS aL aR aE aT kS kL kR kE kT p2 q3 rb lb mk en0 tg0 tg1 tg2 tg3 rr0 h0 n0 _ T61.heap _
    rw [e61]
    have f63 : Fld Z h61 a1 "com/example/kinhash/kinhash/BlockTable" "recordBits" "I" (.int rbj_6) := ((Frb_6.keep K48 (ninS n_a1_aE (ninS n_a1_aT nin0))).other W61 (Or.inl n_a1_aL))
    have f64 : Keep h0 h61 [a1, aS, aL, aR, aE, aT] := ((((Keep.refl h0 [a1, aS, aL, aR, aE, aT]).trans K6 (allS (P := fun x => x ∈ [a1, aS, aL, aR, aE, aT] ∨ h0.size ≤ x) (Or.inl (List.mem_of_getElem? (i := 0) rfl)) (allS (P := fun x => x ∈ [a1, aS, aL, aR, aE, aT] ∨ h0.size ≤ x) (Or.inl (List.mem_of_getElem? (i := 4) rfl)) all0))).trans K48 (allS (P := fun x => x ∈ [a1, aS, aL, aR, aE, aT] ∨ h0.size ≤ x) (Or.inl (List.mem_of_getElem? (i := 4) rfl)) (allS (P := fun x => x ∈ [a1, aS, aL, aR, aE, aT] ∨ h0.size ≤ x) (Or.inl (List.mem_of_getElem? (i := 5) rfl)) all0))).wr W61 (Or.inl (List.mem_of_getElem? (i := 2) rfl)))
    have f65 : Fld Z h61 a1 "com/example/kinhash/kinhash/BlockTable" "mask" "J" (.long mk) := ((Fmk_6.keep K48 (ninS n_a1_aE (ninS n_a1_aT nin0))).other W61 (Or.inl n_a1_aL))
    have f66 : Fld Z h61 a1 "com/example/kinhash/kinhash/BlockTable" "lowestBit" "I" (.int lb) := ((Flb_6.keep K48 (ninS n_a1_aE (ninS n_a1_aT nin0))).other W61 (Or.inl n_a1_aL))
    have f67 : Fld Z h61 a1 "com/example/kinhash/kinhash/BlockTable" "bucketBits" "I" (.int (0 : Int32)) := ((Fbb_6.keep K48 (ninS n_a1_aE (ninS n_a1_aT nin0))).other W61 (Or.inl n_a1_aL))
    have f68 : Fld Z h61 a1 "com/example/kinhash/kinhash/BlockTable" "free" "I" (.int (4 : Int32)) := ((Ffr_6.keep K48 (ninS n_a1_aE (ninS n_a1_aT nin0))).other W61 (Or.inl n_a1_aL))
    have f69 : Fld Z h61 a1 "com/example/kinhash/kinhash/BlockTable" "start" "[I" (.ref aS) := ((Fa_aS_6.keep K48 (ninS n_a1_aE (ninS n_a1_aT nin0))).other W61 (Or.inl n_a1_aL))
    have f70 : Fld Z h61 a1 "com/example/kinhash/kinhash/BlockTable" "length" "[I" (.ref aL) := ((Fa_aL_6.keep K48 (ninS n_a1_aE (ninS n_a1_aT nin0))).other W61 (Or.inl n_a1_aL))
    have f71 : Fld Z h61 a1 "com/example/kinhash/kinhash/BlockTable" "room" "[I" (.ref aR) := ((Fa_aR_6.keep K48 (ninS n_a1_aE (ninS n_a1_aT nin0))).other W61 (Or.inl n_a1_aL))
    have f72 : Fld Z h61 a1 "com/example/kinhash/kinhash/BlockTable" "entries" "[I" (.ref aE) := ((Fa_aE_6.keep K48 (ninS n_a1_aE (ninS n_a1_aT nin0))).other W61 (Or.inl n_a1_aL))
    have f73 : Fld Z h61 a1 "com/example/kinhash/kinhash/BlockTable" "tags" "[B" (.ref aT) := ((Fa_aT_6.keep K48 (ninS n_a1_aE (ninS n_a1_aT nin0))).other W61 (Or.inl n_a1_aL))
    have f74 : Arv Z h61 aS kS .int (1 : Int32) [(.int (0 : Int32))] (.int (0 : Int32)) := (((V_aS.keep K6 (ninS (Ne.symm n_a1_aS) (ninS n_aS_aE nin0))).keep K48 (ninS n_aS_aE (ninS n_aS_aT nin0))).other W61 n_aS_aL)
    have f75 : Arv Z h61 aR kR .int (1 : Int32) [(.int (4 : Int32))] (.int (0 : Int32)) := (((V_aR.keep K6 (ninS (Ne.symm n_a1_aR) (ninS n_aR_aE nin0))).keep K48 (ninS n_aR_aE (ninS n_aR_aT nin0))).other W61 (Ne.symm n_aL_aR))
    exact ⟨rbj_6, ej0_6, (own_ent rbj_6 p2 x41), (nar .byte (x41.toInt8.toInt32)), rfl, N61, f64, (((E1.keep K6).keep K48).wr W61), f63, f65, f66, f67, f68, f69, f70, f71, f72, f73, f74, V61, f75, (G1_48.other W61 (Ne.symm n_aL_aE)), (G2_48.other W61 (Ne.symm n_aL_aT)), hbj_6, okj0_6, (own_entok hbj_6 ⟨hrg.1, hfj_6⟩ _)⟩
def Q_rmAdd2 (Z : State) (a1 : Addr) (aS : Addr) (aL : Addr) (aR : Addr) (aE : Addr) (aT : Addr) (kS : ClassId) (kL : ClassId) (kR : ClassId) (kE : ClassId) (kT : ClassId) (p2 : Int32) (q3 : Int64) (rb : Int32) (lb : Int32) (mk : Int64) (en0 : Int32) (en1 : Int32) (tg0 : Int32) (tg1 : Int32) (tg2 : Int32) (tg3 : Int32) (rr0 : Int32) (rr1 : Int32) (h0 : Heap) (n0 : Nat) (v : Option Value) (h : Heap) (L : List Loc) : Prop := ∃ (rbx : Int32), ∃ (ex0 : Int32), ∃ (ex1 : Int32), ∃ (ex2 : Int32), ∃ (tx : Int32), v = none ∧ Fr n0 L ∧ Keep h0 h [a1, aS, aL, aR, aE, aT] ∧ (Exa Z h a1 "com/example/kinhash/kinhash/BlockTable") ∧ (Fld Z h a1 "com/example/kinhash/kinhash/BlockTable" "recordBits" "I" (.int rbx)) ∧ (Fld Z h a1 "com/example/kinhash/kinhash/BlockTable" "mask" "J" (.long mk)) ∧ (Fld Z h a1 "com/example/kinhash/kinhash/BlockTable" "lowestBit" "I" (.int lb)) ∧ (Fld Z h a1 "com/example/kinhash/kinhash/BlockTable" "bucketBits" "I" (.int (0 : Int32))) ∧ (Fld Z h a1 "com/example/kinhash/kinhash/BlockTable" "free" "I" (.int (4 : Int32))) ∧ (Fld Z h a1 "com/example/kinhash/kinhash/BlockTable" "start" "[I" (.ref aS)) ∧ (Fld Z h a1 "com/example/kinhash/kinhash/BlockTable" "length" "[I" (.ref aL)) ∧ (Fld Z h a1 "com/example/kinhash/kinhash/BlockTable" "room" "[I" (.ref aR)) ∧ (Fld Z h a1 "com/example/kinhash/kinhash/BlockTable" "entries" "[I" (.ref aE)) ∧ (Fld Z h a1 "com/example/kinhash/kinhash/BlockTable" "tags" "[B" (.ref aT)) ∧ (Arv Z h aS kS .int (1 : Int32) [(.int (0 : Int32))] (.int (0 : Int32))) ∧ (Arv Z h aL kL .int (1 : Int32) [(.int (3 : Int32))] (.int (0 : Int32))) ∧ (Arv Z h aR kR .int (1 : Int32) [(.int (4 : Int32))] (.int (0 : Int32))) ∧ (Arv Z h aE kE .int (4 : Int32) [(.int ex0), (.int ex1), (.int ex2), (.int (0 : Int32))] (.int (0 : Int32))) ∧ (Arv Z h aT kT .byte (4 : Int32) [(.int tg0), (.int tg1), (.int tx), (.int tg3)] (.int (0 : Int32))) ∧ (16 ≤ rbx.toInt ∧ rbx.toInt ≤ 30) ∧ (own_rec rbx ex0 = rr0) ∧ (own_rec rbx ex1 = rr1) ∧ (own_rec rbx ex2 = p2)
set_option maxRecDepth 65536 in
set_option maxHeartbeats 40000000 in
theorem rmAdd2 (l : Launch) (Z : State) (a0 : Array Value) (hw : ∀ d ∈ tables_1, d.before a0 Z = true) (ws : List Jvm.Cond) (a1 : Addr) (aS : Addr) (aL : Addr) (aR : Addr) (aE : Addr) (aT : Addr) (kS : ClassId) (kL : ClassId) (kR : ClassId) (kE : ClassId) (kT : ClassId) (p2 : Int32) (q3 : Int64) (rb : Int32) (lb : Int32) (mk : Int64) (en0 : Int32) (en1 : Int32) (tg0 : Int32) (tg1 : Int32) (tg2 : Int32) (tg3 : Int32) (rr0 : Int32) (rr1 : Int32) (h0 : Heap) (n0 : Nat) (Z0 : n0 ≤ h0.size) (E1 : Exa Z h0 a1 "com/example/kinhash/kinhash/BlockTable") (g_a1 : n0 ≤ a1) (g_aS : n0 ≤ aS) (g_aL : n0 ≤ aL) (g_aR : n0 ≤ aR) (g_aE : n0 ≤ aE) (g_aT : n0 ≤ aT) (n_a1_aS : a1 ≠ aS) (n_a1_aL : a1 ≠ aL) (n_a1_aR : a1 ≠ aR) (n_a1_aE : a1 ≠ aE) (n_a1_aT : a1 ≠ aT) (n_aS_aL : aS ≠ aL) (n_aS_aR : aS ≠ aR) (n_aS_aE : aS ≠ aE) (n_aS_aT : aS ≠ aT) (n_aL_aR : aL ≠ aR) (n_aL_aE : aL ≠ aE) (n_aL_aT : aL ≠ aT) (n_aR_aE : aR ≠ aE) (n_aR_aT : aR ≠ aT) (n_aE_aT : aE ≠ aT) (Frb : Fld Z h0 a1 "com/example/kinhash/kinhash/BlockTable" "recordBits" "I" (.int rb)) (Fmk : Fld Z h0 a1 "com/example/kinhash/kinhash/BlockTable" "mask" "J" (.long mk)) (Flb : Fld Z h0 a1 "com/example/kinhash/kinhash/BlockTable" "lowestBit" "I" (.int lb)) (Fbb : Fld Z h0 a1 "com/example/kinhash/kinhash/BlockTable" "bucketBits" "I" (.int (0 : Int32))) (Ffr : Fld Z h0 a1 "com/example/kinhash/kinhash/BlockTable" "free" "I" (.int (4 : Int32))) (Fa_aS : Fld Z h0 a1 "com/example/kinhash/kinhash/BlockTable" "start" "[I" (.ref aS)) (Fa_aL : Fld Z h0 a1 "com/example/kinhash/kinhash/BlockTable" "length" "[I" (.ref aL)) (Fa_aR : Fld Z h0 a1 "com/example/kinhash/kinhash/BlockTable" "room" "[I" (.ref aR)) (Fa_aE : Fld Z h0 a1 "com/example/kinhash/kinhash/BlockTable" "entries" "[I" (.ref aE)) (Fa_aT : Fld Z h0 a1 "com/example/kinhash/kinhash/BlockTable" "tags" "[B" (.ref aT)) (V_aS : Arv Z h0 aS kS .int (1 : Int32) [(.int (0 : Int32))] (.int (0 : Int32))) (V_aL : Arv Z h0 aL kL .int (1 : Int32) [(.int (2 : Int32))] (.int (0 : Int32))) (V_aR : Arv Z h0 aR kR .int (1 : Int32) [(.int (4 : Int32))] (.int (0 : Int32))) (V_aE : Arv Z h0 aE kE .int (4 : Int32) [(.int en0), (.int en1), (.int (0 : Int32)), (.int (0 : Int32))] (.int (0 : Int32))) (V_aT : Arv Z h0 aT kT .byte (4 : Int32) [(.int tg0), (.int tg1), (.int tg2), (.int tg3)] (.int (0 : Int32))) (hrb : 16 ≤ rb.toInt ∧ rb.toInt ≤ 30) (ok0 : own_rec rb en0 = rr0) (ok1 : own_rec rb en1 = rr1) (hrg : 0 ≤ p2.toInt ∧ p2.toInt < 1073741824) :
    MetFree l (⟨"com/example/kinhash/kinhash/BlockTable", "add", "(IJLjava/util/function/IntToLongFunction;)V"⟩ : MethodName) (head1 (Jvm.Cond.code (⟨"com/example/kinhash/kinhash/BlockTable", "add", "(IJLjava/util/function/IntToLongFunction;)V"⟩ : MethodName) prog_4_method_9_code 6 none :: ws) ({ frames := 3, cells := 0, slots := 0, locals := 47 } : Room)) (fun a U => a = #[(.ref a1), (.int p2), (.long q3), .null] ∧ Z.Warmed39 U.vm ∧ U.heap = h0) (fun _ _ _ _ _ => True) (fun _ U o U' => ∃ v L, o = .returned v ∧ Q_rmAdd2 Z a1 aS aL aR aE aT kS kL kR kE kT p2 q3 rb lb mk en0 en1 tg0 tg1 tg2 tg3 rr0 rr1 h0 n0 v U'.heap L ∧ FrameEnd U o U' L ({ frames := 3, cells := 0, slots := 0, locals := 47 } : Room).cells ({ frames := 3, cells := 0, slots := 0, locals := 47 } : Room).slots) := by
  refine MetFree.of_bodySF (plainFor_of_name pn_0) hisR ?_
  intro p e s m args below meth c s₁ Bd hml0 hP hK
  obtain ⟨rfl, hZ, hh⟩ := hP
  have hx := Bd.exec
  have hby := Bd.bytes
  have hml : c.maxLocals = 6 := hml0
  have hown : s.vm.findClass "com/example/kinhash/kinhash/BlockTable" = some m.cls := findClass_of_methodNamed Bd.named
  have hnm := (name_of_methodNamed Bd.named Bd.method).1
  have X0 : Stand p l e ({ frames := 3, cells := 0, slots := 0, locals := 47 } : Room) s m #[(.ref a1), (.int p2), (.long q3), .null] below meth c s₁ [] 0 0 := Stand.of_body Bd
  have e0 : s₁.heap = h0 := by rw [← hh, Bd.state]; rfl
  have N0 := Fr.nil n0
  have P0 : Rch p e below (s₁.setTop (entryFrame m #[(.ref a1), (.int p2), (.long q3), .null] 6)) (s₁.setTop (mkF m 0 #[rv a1, iv p2, lv q3, sd, .val .null, un] [])) := fun t k => castTop (by first | (simp [entryFrame, mkF, argsToLocals, Value.category]; done) | rfl) k
  have P1 : Rch p e below (s₁.setTop (entryFrame m #[(.ref a1), (.int p2), (.long q3), .null] 6)) (s₁.setTop (mkF m 2 #[rv a1, iv p2, lv q3, sd, .val .null, un] [(.ref a1), (.int p2)])) := fun t k => P0 t (by
    show Steps p.tables e below (s₁.setTop (mkF m 0 #[rv a1, iv p2, lv q3, sd, .val .null, un] [])) t
    refine XS.iloadN X0.here hx rfl (hb hby d3_0) rfl ?_
    refine XS.aloadN X0.here hx rfl (hb hby d3_1) rfl rfl ?_
    exact k)
  obtain ⟨T2, X2, e2, st2⟩ := getF X0 hx hZ hown (host := "") (Or.inl (hw _ (List.mem_of_getElem? (i := 11) rfl))) Via.refl e0 Frb (g := (mkF m 2 #[rv a1, iv p2, lv q3, sd, .val .null, un] [(.ref a1), (.int p2)])) rfl rfl (hb hby d3_2)
  have P3 : Rch p e below (s₁.setTop (entryFrame m #[(.ref a1), (.int p2), (.long q3), .null] 6)) (T2.setTop (mkF m 5 #[rv a1, iv p2, lv q3, sd, .val .null, un] [(.int rb), (.int p2)])) := fun t k => P1 t (st2 t k)
  obtain ⟨x4, hx4⟩ : ∃ z : Int32, z = ((p2.toUInt32 >>> (rb &&& 31).toUInt32).toInt32) := ⟨_, rfl⟩
  have P5 : Rch p e below (s₁.setTop (entryFrame m #[(.ref a1), (.int p2), (.long q3), .null] 6)) (T2.setTop (mkF m 6 #[rv a1, iv p2, lv q3, sd, .val .null, un] [(.int x4)])) := fun t k => P3 t (by
    subst hx4
    show Steps p.tables e below (T2.setTop (mkF m 5 #[rv a1, iv p2, lv q3, sd, .val .null, un] [(.int rb), (.int p2)])) t
    refine XS.iushr X2.here hx rfl (hb hby d3_5) rfl ?_
    exact k)
  obtain ⟨T6, L6, h6, rbj_6, ej0_6, ej1_6, X6, e6, N6, Z6, K6, Frb_6, Fmk_6, Flb_6, Fbb_6, Ffr_6, Fa_aS_6, Fa_aL_6, Fa_aR_6, Fa_aE_6, Fa_aT_6, VE_6, hbj_6, hfj_6, okj0_6, okj1_6, P6⟩ : ∃ (T6 : State) (L6 : List Loc) (h6 : Heap) (rbj_6 : Int32) (ej0_6 : Int32) (ej1_6 : Int32), Stand p l e ({ frames := 3, cells := 0, slots := 0, locals := 47 } : Room) s m #[(.ref a1), (.int p2), (.long q3), .null] below meth c T6 L6 0 0 ∧ T6.heap = h6 ∧ Fr n0 L6 ∧ n0 ≤ h6.size ∧ Keep h0 h6 [a1, aE] ∧ (Fld Z h6 a1 "com/example/kinhash/kinhash/BlockTable" "recordBits" "I" (.int rbj_6)) ∧ (Fld Z h6 a1 "com/example/kinhash/kinhash/BlockTable" "mask" "J" (.long mk)) ∧ (Fld Z h6 a1 "com/example/kinhash/kinhash/BlockTable" "lowestBit" "I" (.int lb)) ∧ (Fld Z h6 a1 "com/example/kinhash/kinhash/BlockTable" "bucketBits" "I" (.int (0 : Int32))) ∧ (Fld Z h6 a1 "com/example/kinhash/kinhash/BlockTable" "free" "I" (.int (4 : Int32))) ∧ (Fld Z h6 a1 "com/example/kinhash/kinhash/BlockTable" "start" "[I" (.ref aS)) ∧ (Fld Z h6 a1 "com/example/kinhash/kinhash/BlockTable" "length" "[I" (.ref aL)) ∧ (Fld Z h6 a1 "com/example/kinhash/kinhash/BlockTable" "room" "[I" (.ref aR)) ∧ (Fld Z h6 a1 "com/example/kinhash/kinhash/BlockTable" "entries" "[I" (.ref aE)) ∧ (Fld Z h6 a1 "com/example/kinhash/kinhash/BlockTable" "tags" "[B" (.ref aT)) ∧ (Arv Z h6 aE kE .int (4 : Int32) [(.int ej0_6), (.int ej1_6), (.int (0 : Int32)), (.int (0 : Int32))] (.int (0 : Int32))) ∧ (16 ≤ rbj_6.toInt ∧ rbj_6.toInt ≤ 30) ∧ (p2.toInt < (2 ^ rbj_6.toInt.toNat : Nat)) ∧ (own_rec rbj_6 ej0_6 = rr0) ∧ (own_rec rbj_6 ej1_6 = rr1) ∧ Rch p e below (s₁.setTop (entryFrame m #[(.ref a1), (.int p2), (.long q3), .null] 6)) (T6.setTop (mkF m 20 #[rv a1, iv p2, lv q3, sd, .val .null, un] [])) := by
    by_cases c7 : x4 = (0 : Int32)
    · have P8 : Rch p e below (s₁.setTop (entryFrame m #[(.ref a1), (.int p2), (.long q3), .null] 6)) (T2.setTop (mkF m 20 #[rv a1, iv p2, lv q3, sd, .val .null, un] [])) := fun t k => P5 t (by
        show Steps p.tables e below (T2.setTop (mkF m 6 #[rv a1, iv p2, lv q3, sd, .val .null, un] [(.int x4)])) t
        refine XS.ifYes X2.here hx rfl (pc0 := 6) (pc' := 20) rfl (hb hby d3_6) rfl ((if0 _ _).trans (teq c7).1) (by decide) (by decide) ?_
        exact k)
      exact ⟨T2, _, h0, rb, en0, en1, X2, e2, N0, Z0, (Keep.refl h0 [a1, aE]), Frb, Fmk, Flb, Fbb, Ffr, Fa_aS, Fa_aL, Fa_aR, Fa_aE, Fa_aT, V_aE, hrb, (own_fit0 hrb hrg (by rw [← hx4]; exact c7)), ok0, ok1, P8⟩
    · have P9 : Rch p e below (s₁.setTop (entryFrame m #[(.ref a1), (.int p2), (.long q3), .null] 6)) (T2.setTop (mkF m 13 #[rv a1, iv p2, lv q3, sd, .val .null, un] [(.int p2), (.int (32 : Int32)), (.ref a1)])) := fun t k => P5 t (by
        show Steps p.tables e below (T2.setTop (mkF m 6 #[rv a1, iv p2, lv q3, sd, .val .null, un] [(.int x4)])) t
        refine XS.ifNo X2.here hx rfl (hb hby d3_6) rfl ((if0 _ _).trans (feq c7).1) ?_
        refine XS.aloadN X2.here hx rfl (hb hby d3_9) rfl rfl ?_
        refine XS.bipush X2.here hx rfl (hb hby d3_10) ?_
        show Steps p.tables e below (T2.setTop (mkF m 12 #[rv a1, iv p2, lv q3, sd, .val .null, un] [(.int (32 : Int32)), (.ref a1)])) t
        refine XS.iloadN X2.here hx rfl (hb hby d3_12) rfl ?_
        exact k)
      obtain ⟨_, _, ⟨T10, L10, k10, n10⟩, -, X10, ⟨Lc10, hQ10, l10, y10, z10⟩, st10⟩ := Jvm.LawKit.callS X2 hx (y := (⟨"java/lang/Integer", "numberOfLeadingZeros", "(I)I"⟩ : MethodName)) hown (mvT hZ (hw _ (List.mem_of_getElem? (i := 93) rfl))) (mvT hZ (hw _ (List.mem_of_getElem? (i := 94) rfl))) (mvT hZ (hw _ (List.mem_of_getElem? (i := 95) rfl))) (mvT hZ (hw _ (List.mem_of_getElem? (i := 96) rfl))) (by decide) (backOf (W := 2) (rmNl l Z a0 hw [] p2 h0 n0 Z0 ) hZ (hw _ (List.mem_of_getElem? (i := 96) rfl)) (hw _ (List.mem_of_getElem? (i := 95) rfl)) (by decide) (by decide)) (g := (mkF m 13 #[rv a1, iv p2, lv q3, sd, .val .null, un] [(.int p2), (.int (32 : Int32)), (.ref a1)])) rfl (by rw [hml]; rfl) (argsL := [(.int p2)]) (rest := [(.int (32 : Int32)), (.ref a1)]) (lenOf pd_3 rfl) rfl (by show 2 * 0 + _ ≤ _; exact Nat.le_of_eq rfl) (hb hby d3_13) (fun _ _ => ⟨rfl, e2, (by decide : 0 + 0 ≤ _), (by decide : 0 + 0 ≤ _)⟩)
      dsimp only [Pt.U, Pt.locs, Pt.cells, Pt.slots] at X10 l10 y10 z10 st10 hQ10
      subst y10 z10
      obtain ⟨rfl, N10q, e10⟩ := hQ10
      have N10 : Fr n0 L10 := by rw [l10]; exact Fr.app N0 N10q
      have P11 : Rch p e below (s₁.setTop (entryFrame m #[(.ref a1), (.int p2), (.long q3), .null] 6)) (T10.setTop (mkF m 16 #[rv a1, iv p2, lv q3, sd, .val .null, un] [(.int (own_nlz p2)), (.int (32 : Int32)), (.ref a1)])) := fun t k => P9 t (st10 t k)
      obtain ⟨x12, hx12⟩ : ∃ z : Int32, z = (own_nlz p2) := ⟨_, rfl⟩
      rw [← hx12] at P11
      obtain ⟨x13, hx13⟩ : ∃ z : Int32, z = ((32 : Int32) - x12) := ⟨_, rfl⟩
      have P14 : Rch p e below (s₁.setTop (entryFrame m #[(.ref a1), (.int p2), (.long q3), .null] 6)) (T10.setTop (mkF m 17 #[rv a1, iv p2, lv q3, sd, .val .null, un] [(.int x13), (.ref a1)])) := fun t k => P11 t (by
        subst hx13
        show Steps p.tables e below (T10.setTop (mkF m 16 #[rv a1, iv p2, lv q3, sd, .val .null, un] [(.int x12), (.int (32 : Int32)), (.ref a1)])) t
        refine XS.isub X10.here hx rfl (hb hby d3_16) rfl ?_
        exact k)
      obtain ⟨cq15, q15, q15'⟩ := E1.cell
      obtain ⟨_, _, ⟨T15, L15, k15, n15⟩, -, X15, ⟨Lc15, hQ15, l15, y15, z15⟩, st15⟩ := X10.privateBack hx (y := (⟨"com/example/kinhash/kinhash/BlockTable", "widenRecords", "(I)V"⟩ : MethodName)) hown (mvT hZ (hw _ (List.mem_of_getElem? (i := 98) rfl))) (mvT hZ (hw _ (List.mem_of_getElem? (i := 99) rfl))) (own_selp hZ (hw _ (List.mem_of_getElem? (i := 3) rfl)) (hw _ (List.mem_of_getElem? (i := 99) rfl)) (hw _ (List.mem_of_getElem? (i := 100) rfl)) (by decide)) (Cond.privateMethod_at (mvP hZ (hw _ (List.mem_of_getElem? (i := 100) rfl)) (args := #[]))) (mvT hZ (hw _ (List.mem_of_getElem? (i := 101) rfl))) (by decide) (backOf (W := 0) (rmWd2 l Z a0 hw [] a1 x13 aS aL aR aE aT kS kL kR kE kT rb lb (4 : Int32) (4 : Int32) en0 en1 (0 : Int32) (0 : Int32) tg0 tg1 tg2 tg3 mk h0 n0 Z0 E1 g_a1 g_aS g_aL g_aR g_aE g_aT n_a1_aS n_a1_aL n_a1_aR n_a1_aE n_a1_aT n_aS_aL n_aS_aR n_aS_aE n_aS_aT n_aL_aR n_aL_aE n_aL_aT n_aR_aE n_aR_aT n_aE_aT Frb Fmk Flb Fbb Ffr Fa_aS Fa_aL Fa_aR Fa_aE Fa_aT V_aS V_aL V_aR V_aE V_aT) hZ (hw _ (List.mem_of_getElem? (i := 101) rfl)) (hw _ (List.mem_of_getElem? (i := 4) rfl)) (by decide) (by decide)) (g := (mkF m 17 #[rv a1, iv p2, lv q3, sd, .val .null, un] [(.int x13), (.ref a1)])) rfl (by rw [hml]; rfl) (Steps.refl _) (a := a1) (by rw [e10]; exact q15) q15' (argsL := [(.int x13)]) (rest := []) (lenOf pd_4 rfl) rfl (by show 2 * 0 + _ ≤ _; exact Nat.le_of_eq rfl) (hb hby d3_17) (fun _ _ => ⟨rfl, e10, (by decide : 0 + 0 ≤ _), (by decide : 0 + 0 ≤ _)⟩)
      dsimp only [Pt.U, Pt.locs, Pt.cells, Pt.slots] at X15 l15 y15 z15 st15 hQ15
      subst y15 z15
      obtain ⟨rfl, N15q, K15, E1_15, Frb_15, Fmk_15, Flb_15, Fbb_15, Ffr_15, Fa_aS_15, Fa_aL_15, Fa_aR_15, Fa_aE_15, Fa_aT_15, V_aE_15⟩ := hQ15
      have N15 : Fr n0 L15 := by rw [l15]; exact Fr.app N10 N15q
      have P16 : Rch p e below (s₁.setTop (entryFrame m #[(.ref a1), (.int p2), (.long q3), .null] 6)) (T15.setTop (mkF m 20 #[rv a1, iv p2, lv q3, sd, .val .null, un] [])) := fun t k => P14 t (st15.trans k)
      have f17 : n0 ≤ T15.heap.size := (Nat.le_trans Z0 K15.1)
      exact ⟨T15, _, T15.heap, x13, (own_wid rb x13 en0), (own_wid rb x13 en1), X15, rfl, N15, f17, ((Keep.refl h0 [a1, aE]).trans K15 (allS (P := fun x => x ∈ ([a1, aE] : List Addr) ∨ h0.size ≤ x) (Or.inl (List.mem_of_getElem? (i := 0) rfl)) (allS (P := fun x => x ∈ ([a1, aE] : List Addr) ∨ h0.size ≤ x) (Or.inl (List.mem_of_getElem? (i := 1) rfl)) all0))), Frb_15, Fmk_15, Flb_15, Fbb_15, Ffr_15, Fa_aS_15, Fa_aL_15, Fa_aR_15, Fa_aE_15, Fa_aT_15, V_aE_15, (by rw [hx13, hx12]; exact (own_newb hrb hrg (by rw [← hx4]; exact c7)).1), (by rw [hx13, hx12]; exact (own_newb hrb hrg (by rw [← hx4]; exact c7)).2.2), (own_widok hrb (by rw [hx13, hx12]; exact (own_newb hrb hrg (by rw [← hx4]; exact c7)).1) (by rw [hx13, hx12]; exact (own_newb hrb hrg (by rw [← hx4]; exact c7)).2.1) ok0), (own_widok hrb (by rw [hx13, hx12]; exact (own_newb hrb hrg (by rw [← hx4]; exact c7)).1) (by rw [hx13, hx12]; exact (own_newb hrb hrg (by rw [← hx4]; exact c7)).2.1) ok1), P16⟩
  have P18 : Rch p e below (s₁.setTop (entryFrame m #[(.ref a1), (.int p2), (.long q3), .null] 6)) (T6.setTop (mkF m 22 #[rv a1, iv p2, lv q3, sd, .val .null, un] [(.long q3), (.ref a1)])) := fun t k => P6 t (by
    show Steps p.tables e below (T6.setTop (mkF m 20 #[rv a1, iv p2, lv q3, sd, .val .null, un] [])) t
    refine XS.aloadN X6.here hx rfl (hb hby d3_20) rfl rfl ?_
    refine XS.lloadN X6.here hx rfl (hb hby d3_21) rfl ?_
    exact k)
  obtain ⟨cq19, kq19, q19a, q19b, q19c⟩ := isOf hZ e6 (E1.keep K6)
  obtain ⟨_, _, ⟨T19, L19, k19, n19⟩, -, X19, ⟨Lc19, hQ19, l19, y19, z19⟩, st19⟩ := X6.virtualBack hx (y := (⟨"com/example/kinhash/kinhash/BlockTable", "bucket", "(J)I"⟩ : MethodName)) (z := (⟨"com/example/kinhash/kinhash/BlockTable", "bucket", "(J)I"⟩ : MethodName)) hown (mvT hZ (hw _ (List.mem_of_getElem? (i := 36) rfl))) (mvT hZ (hw _ (List.mem_of_getElem? (i := 37) rfl))) (notFace_of_selects (args := #[]) (mvT hZ (hw _ (List.mem_of_getElem? (i := 39) rfl)))) (mvT hZ (hw _ (List.mem_of_getElem? (i := 39) rfl))) (mvT hZ (hw _ (List.mem_of_getElem? (i := 38) rfl))) (by decide) (backOf (W := 0) (rmB1 l Z a0 hw [] a1 q3 mk lb h6 n0 Z6 (E1.keep K6) Fmk_6 Flb_6 Fbb_6) hZ (hw _ (List.mem_of_getElem? (i := 40) rfl)) (hw _ (List.mem_of_getElem? (i := 4) rfl)) (by decide) (by decide)) q19a q19c (g := (mkF m 22 #[rv a1, iv p2, lv q3, sd, .val .null, un] [(.long q3), (.ref a1)])) rfl (by rw [hml]; rfl) (Steps.refl _) (argsL := [(.long q3)]) (rest := []) (lenOf pd_5 rfl) rfl (by show 2 * 0 + _ ≤ _; exact Nat.le_of_eq rfl) (hb hby d3_22) (fun _ _ => ⟨rfl, e6, (by decide : 0 + 0 ≤ _), (by decide : 0 + 0 ≤ _)⟩)
  dsimp only [Pt.U, Pt.locs, Pt.cells, Pt.slots] at X19 l19 y19 z19 st19 hQ19
  subst y19 z19
  obtain ⟨rfl, N19q, e19⟩ := hQ19
  have N19 : Fr n0 L19 := by rw [l19]; exact Fr.app N6 N19q
  have P20 : Rch p e below (s₁.setTop (entryFrame m #[(.ref a1), (.int p2), (.long q3), .null] 6)) (T19.setTop (mkF m 25 #[rv a1, iv p2, lv q3, sd, .val .null, un] [(.int (0 : Int32))])) := fun t k => P18 t (st19.trans k)
  have P21 : Rch p e below (s₁.setTop (entryFrame m #[(.ref a1), (.int p2), (.long q3), .null] 6)) (T19.setTop (mkF m 28 #[rv a1, iv p2, lv q3, sd, .val .null, iv (0 : Int32)] [(.ref a1)])) := fun t k => P20 t (by
    show Steps p.tables e below (T19.setTop (mkF m 25 #[rv a1, iv p2, lv q3, sd, .val .null, un] [(.int (0 : Int32))])) t
    refine XS.istore X19.here hx rfl (hb hby d3_25) rfl (l' := #[rv a1, iv p2, lv q3, sd, .val .null, iv (0 : Int32)]) rfl ?_
    refine XS.aloadN X19.here hx rfl (hb hby d3_27) rfl rfl ?_
    exact k)
  obtain ⟨T22, X22, e22, st22⟩ := getF X19 hx hZ hown (host := "") (Or.inl (hw _ (List.mem_of_getElem? (i := 22) rfl))) Via.refl e19 Fa_aL_6 (g := (mkF m 28 #[rv a1, iv p2, lv q3, sd, .val .null, iv (0 : Int32)] [(.ref a1)])) rfl rfl (hb hby d3_28)
  have P23 : Rch p e below (s₁.setTop (entryFrame m #[(.ref a1), (.int p2), (.long q3), .null] 6)) (T22.setTop (mkF m 31 #[rv a1, iv p2, lv q3, sd, .val .null, iv (0 : Int32)] [(.ref aL)])) := fun t k => P21 t (st22 t k)
  have P24 : Rch p e below (s₁.setTop (entryFrame m #[(.ref a1), (.int p2), (.long q3), .null] 6)) (T22.setTop (mkF m 33 #[rv a1, iv p2, lv q3, sd, .val .null, iv (0 : Int32)] [(.int (0 : Int32)), (.ref aL)])) := fun t k => P23 t (by
    show Steps p.tables e below (T22.setTop (mkF m 31 #[rv a1, iv p2, lv q3, sd, .val .null, iv (0 : Int32)] [(.ref aL)])) t
    refine XS.iload X22.here hx rfl (hb hby d3_31) rfl ?_
    exact k)
  have V_o25 := (V_aL.keep K6 (ninS (Ne.symm n_a1_aL) (ninS n_aL_aE nin0)))
  obtain ⟨co25, Aro25, qo25, So25, Mo25, Ho25, Go25⟩ := V_o25
  have hin26 : ¬ ((0 : Int32) < 0 ∨ co25.slots.size ≤ ((0 : Int32)).toNatClampNeg) := inb_of So25 ⟨by decide, by decide⟩
  have hat26 : co25.slots[((0 : Int32)).toNatClampNeg]? = some (.int (2 : Int32)) := Has.at Ho25 hin26 rfl
  have P27 : Rch p e below (s₁.setTop (entryFrame m #[(.ref a1), (.int p2), (.long q3), .null] 6)) (T22.setTop (mkF m 34 #[rv a1, iv p2, lv q3, sd, .val .null, iv (0 : Int32)] [(.int (2 : Int32))])) := fun t k => P24 t (X22.iaload hx (j := (0 : Int32)) (v := (.int (2 : Int32))) (by rw [e22]; exact Aro25.1) (State.isArrayOf_alike hZ.alike Aro25.2.1) Aro25.2.2 hin26 hat26 (g := (mkF m 33 #[rv a1, iv p2, lv q3, sd, .val .null, iv (0 : Int32)] [(.int (0 : Int32)), (.ref aL)])) rfl rfl (hb hby d3_33) t k)
  have P28 : Rch p e below (s₁.setTop (entryFrame m #[(.ref a1), (.int p2), (.long q3), .null] 6)) (T22.setTop (mkF m 35 #[rv a1, iv p2, lv q3, sd, .val .null, iv (0 : Int32)] [(.ref a1), (.int (2 : Int32))])) := fun t k => P27 t (by
    show Steps p.tables e below (T22.setTop (mkF m 34 #[rv a1, iv p2, lv q3, sd, .val .null, iv (0 : Int32)] [(.int (2 : Int32))])) t
    refine XS.aloadN X22.here hx rfl (hb hby d3_34) rfl rfl ?_
    exact k)
  obtain ⟨T29, X29, e29, st29⟩ := getF X22 hx hZ hown (host := "") (Or.inl (hw _ (List.mem_of_getElem? (i := 24) rfl))) Via.refl e22 Fa_aR_6 (g := (mkF m 35 #[rv a1, iv p2, lv q3, sd, .val .null, iv (0 : Int32)] [(.ref a1), (.int (2 : Int32))])) rfl rfl (hb hby d3_35)
  have P30 : Rch p e below (s₁.setTop (entryFrame m #[(.ref a1), (.int p2), (.long q3), .null] 6)) (T29.setTop (mkF m 38 #[rv a1, iv p2, lv q3, sd, .val .null, iv (0 : Int32)] [(.ref aR), (.int (2 : Int32))])) := fun t k => P28 t (st29 t k)
  have P31 : Rch p e below (s₁.setTop (entryFrame m #[(.ref a1), (.int p2), (.long q3), .null] 6)) (T29.setTop (mkF m 40 #[rv a1, iv p2, lv q3, sd, .val .null, iv (0 : Int32)] [(.int (0 : Int32)), (.ref aR), (.int (2 : Int32))])) := fun t k => P30 t (by
    show Steps p.tables e below (T29.setTop (mkF m 38 #[rv a1, iv p2, lv q3, sd, .val .null, iv (0 : Int32)] [(.ref aR), (.int (2 : Int32))])) t
    refine XS.iload X29.here hx rfl (hb hby d3_38) rfl ?_
    exact k)
  have V_o32 := (V_aR.keep K6 (ninS (Ne.symm n_a1_aR) (ninS n_aR_aE nin0)))
  obtain ⟨co32, Aro32, qo32, So32, Mo32, Ho32, Go32⟩ := V_o32
  have hin33 : ¬ ((0 : Int32) < 0 ∨ co32.slots.size ≤ ((0 : Int32)).toNatClampNeg) := inb_of So32 ⟨by decide, by decide⟩
  have hat33 : co32.slots[((0 : Int32)).toNatClampNeg]? = some (.int (4 : Int32)) := Has.at Ho32 hin33 rfl
  have P34 : Rch p e below (s₁.setTop (entryFrame m #[(.ref a1), (.int p2), (.long q3), .null] 6)) (T29.setTop (mkF m 41 #[rv a1, iv p2, lv q3, sd, .val .null, iv (0 : Int32)] [(.int (4 : Int32)), (.int (2 : Int32))])) := fun t k => P31 t (X29.iaload hx (j := (0 : Int32)) (v := (.int (4 : Int32))) (by rw [e29]; exact Aro32.1) (State.isArrayOf_alike hZ.alike Aro32.2.1) Aro32.2.2 hin33 hat33 (g := (mkF m 40 #[rv a1, iv p2, lv q3, sd, .val .null, iv (0 : Int32)] [(.int (0 : Int32)), (.ref aR), (.int (2 : Int32))])) rfl rfl (hb hby d3_40) t k)
  have P35 : Rch p e below (s₁.setTop (entryFrame m #[(.ref a1), (.int p2), (.long q3), .null] 6)) (T29.setTop (mkF m 70 #[rv a1, iv p2, lv q3, sd, .val .null, iv (0 : Int32)] [(.int (0 : Int32)), (.ref a1), (.ref a1)])) := fun t k => P34 t (by
    show Steps p.tables e below (T29.setTop (mkF m 41 #[rv a1, iv p2, lv q3, sd, .val .null, iv (0 : Int32)] [(.int (4 : Int32)), (.int (2 : Int32))])) t
    refine XS.icmpYes X29.here hx rfl (pc0 := 41) (pc' := 66) rfl (hb hby d3_41) rfl (feq (by decide)).2 (by decide) (by decide) ?_
    refine XS.aloadN X29.here hx rfl (hb hby d3_66) rfl rfl ?_
    refine XS.aloadN X29.here hx rfl (hb hby d3_67) rfl rfl ?_
    show Steps p.tables e below (T29.setTop (mkF m 68 #[rv a1, iv p2, lv q3, sd, .val .null, iv (0 : Int32)] [(.ref a1), (.ref a1)])) t
    refine XS.iload X29.here hx rfl (hb hby d3_68) rfl ?_
    exact k)
  obtain ⟨cq36, kq36, q36a, q36b, q36c⟩ := isOf hZ e29 (E1.keep K6)
  obtain ⟨_, _, ⟨T36, L36, k36, n36⟩, -, X36, ⟨Lc36, hQ36, l36, y36, z36⟩, st36⟩ := X29.virtualBack hx (y := (⟨"com/example/kinhash/kinhash/BlockTable", "end", "(I)I"⟩ : MethodName)) (z := (⟨"com/example/kinhash/kinhash/BlockTable", "end", "(I)I"⟩ : MethodName)) hown (mvT hZ (hw _ (List.mem_of_getElem? (i := 61) rfl))) (mvT hZ (hw _ (List.mem_of_getElem? (i := 62) rfl))) (notFace_of_selects (args := #[]) (mvT hZ (hw _ (List.mem_of_getElem? (i := 64) rfl)))) (mvT hZ (hw _ (List.mem_of_getElem? (i := 64) rfl))) (mvT hZ (hw _ (List.mem_of_getElem? (i := 63) rfl))) (by decide) (backOf (W := 1) (rmE l Z a0 hw [] a1 aS kS aL kL (0 : Int32) (2 : Int32) h6 n0 Z6 Fa_aS_6 Fa_aL_6 (V_aS.keep K6 (ninS (Ne.symm n_a1_aS) (ninS n_aS_aE nin0))) (V_aL.keep K6 (ninS (Ne.symm n_a1_aL) (ninS n_aL_aE nin0)))) hZ (hw _ (List.mem_of_getElem? (i := 65) rfl)) (hw _ (List.mem_of_getElem? (i := 4) rfl)) (by decide) (by decide)) q36a q36c (g := (mkF m 70 #[rv a1, iv p2, lv q3, sd, .val .null, iv (0 : Int32)] [(.int (0 : Int32)), (.ref a1), (.ref a1)])) rfl (by rw [hml]; rfl) (Steps.refl _) (argsL := [(.int (0 : Int32))]) (rest := [(.ref a1)]) (lenOf pd_3 rfl) rfl (by show 2 * 0 + _ ≤ _; exact Nat.le_of_eq rfl) (hb hby d3_70) (fun _ _ => ⟨rfl, e29, (by decide : 0 + 0 ≤ _), (by decide : 0 + 0 ≤ _)⟩)
  dsimp only [Pt.U, Pt.locs, Pt.cells, Pt.slots] at X36 l36 y36 z36 st36 hQ36
  subst y36 z36
  obtain ⟨rfl, N36q, e36⟩ := hQ36
  have N36 : Fr n0 L36 := by rw [l36]; exact Fr.app N19 N36q
  have P37 : Rch p e below (s₁.setTop (entryFrame m #[(.ref a1), (.int p2), (.long q3), .null] 6)) (T36.setTop (mkF m 73 #[rv a1, iv p2, lv q3, sd, .val .null, iv (0 : Int32)] [(.int (2 : Int32)), (.ref a1)])) := fun t k => P35 t (st36.trans k)
  have P38 : Rch p e below (s₁.setTop (entryFrame m #[(.ref a1), (.int p2), (.long q3), .null] 6)) (T36.setTop (mkF m 76 #[rv a1, iv p2, lv q3, sd, .val .null, iv (0 : Int32)] [(.long q3), (.ref a1), (.int p2), (.int (2 : Int32)), (.ref a1)])) := fun t k => P37 t (by
    show Steps p.tables e below (T36.setTop (mkF m 73 #[rv a1, iv p2, lv q3, sd, .val .null, iv (0 : Int32)] [(.int (2 : Int32)), (.ref a1)])) t
    refine XS.iloadN X36.here hx rfl (hb hby d3_73) rfl ?_
    refine XS.aloadN X36.here hx rfl (hb hby d3_74) rfl rfl ?_
    refine XS.lloadN X36.here hx rfl (hb hby d3_75) rfl ?_
    exact k)
  obtain ⟨cq39, kq39, q39a, q39b, q39c⟩ := isOf hZ e36 (E1.keep K6)
  obtain ⟨_, _, ⟨T39, L39, k39, n39⟩, -, X39, ⟨Lc39, hQ39, l39, y39, z39⟩, st39⟩ := X36.virtualBack hx (y := (⟨"com/example/kinhash/kinhash/BlockTable", "tag", "(J)I"⟩ : MethodName)) (z := (⟨"com/example/kinhash/kinhash/BlockTable", "tag", "(J)I"⟩ : MethodName)) hown (mvT hZ (hw _ (List.mem_of_getElem? (i := 66) rfl))) (mvT hZ (hw _ (List.mem_of_getElem? (i := 67) rfl))) (notFace_of_selects (args := #[]) (mvT hZ (hw _ (List.mem_of_getElem? (i := 69) rfl)))) (mvT hZ (hw _ (List.mem_of_getElem? (i := 69) rfl))) (mvT hZ (hw _ (List.mem_of_getElem? (i := 68) rfl))) (by decide) (backOf (W := 3) (rmT1 l Z a0 hw [] a1 q3 rbj_6 lb h6 n0 Z6 (E1.keep K6) Frb_6 Flb_6 Fbb_6) hZ (hw _ (List.mem_of_getElem? (i := 70) rfl)) (hw _ (List.mem_of_getElem? (i := 4) rfl)) (by decide) (by decide)) q39a q39c (g := (mkF m 76 #[rv a1, iv p2, lv q3, sd, .val .null, iv (0 : Int32)] [(.long q3), (.ref a1), (.int p2), (.int (2 : Int32)), (.ref a1)])) rfl (by rw [hml]; rfl) (Steps.refl _) (argsL := [(.long q3)]) (rest := [(.int p2), (.int (2 : Int32)), (.ref a1)]) (lenOf pd_5 rfl) rfl (by show 2 * 0 + _ ≤ _; exact Nat.le_of_eq rfl) (hb hby d3_76) (fun _ _ => ⟨rfl, e36, (by decide : 0 + 0 ≤ _), (by decide : 0 + 0 ≤ _)⟩)
  dsimp only [Pt.U, Pt.locs, Pt.cells, Pt.slots] at X39 l39 y39 z39 st39 hQ39
  subst y39 z39
  obtain ⟨rfl, N39q, e39⟩ := hQ39
  have N39 : Fr n0 L39 := by rw [l39]; exact Fr.app N36 N39q
  have P40 : Rch p e below (s₁.setTop (entryFrame m #[(.ref a1), (.int p2), (.long q3), .null] 6)) (T39.setTop (mkF m 79 #[rv a1, iv p2, lv q3, sd, .val .null, iv (0 : Int32)] [(.int (own_tg1 q3 rbj_6 lb)), (.int p2), (.int (2 : Int32)), (.ref a1)])) := fun t k => P38 t (st39.trans k)
  obtain ⟨x41, hx41⟩ : ∃ z : Int32, z = (own_tg1 q3 rbj_6 lb) := ⟨_, rfl⟩
  rw [← hx41] at P40
  have P42 : Rch p e below (s₁.setTop (entryFrame m #[(.ref a1), (.int p2), (.long q3), .null] 6)) (T39.setTop (mkF m 80 #[rv a1, iv p2, lv q3, sd, .val .null, iv (0 : Int32)] [(.ref a1), (.int x41), (.int p2), (.int (2 : Int32)), (.ref a1)])) := fun t k => P40 t (by
    show Steps p.tables e below (T39.setTop (mkF m 79 #[rv a1, iv p2, lv q3, sd, .val .null, iv (0 : Int32)] [(.int x41), (.int p2), (.int (2 : Int32)), (.ref a1)])) t
    refine XS.aloadN X39.here hx rfl (hb hby d3_79) rfl rfl ?_
    exact k)
  obtain ⟨T43, X43, e43, st43⟩ := getF X39 hx hZ hown (host := "") (Or.inl (hw _ (List.mem_of_getElem? (i := 26) rfl))) Via.refl e39 Fa_aE_6 (g := (mkF m 80 #[rv a1, iv p2, lv q3, sd, .val .null, iv (0 : Int32)] [(.ref a1), (.int x41), (.int p2), (.int (2 : Int32)), (.ref a1)])) rfl rfl (hb hby d3_80)
  have P44 : Rch p e below (s₁.setTop (entryFrame m #[(.ref a1), (.int p2), (.long q3), .null] 6)) (T43.setTop (mkF m 83 #[rv a1, iv p2, lv q3, sd, .val .null, iv (0 : Int32)] [(.ref aE), (.int x41), (.int p2), (.int (2 : Int32)), (.ref a1)])) := fun t k => P42 t (st43 t k)
  have P45 : Rch p e below (s₁.setTop (entryFrame m #[(.ref a1), (.int p2), (.long q3), .null] 6)) (T43.setTop (mkF m 84 #[rv a1, iv p2, lv q3, sd, .val .null, iv (0 : Int32)] [(.ref a1), (.ref aE), (.int x41), (.int p2), (.int (2 : Int32)), (.ref a1)])) := fun t k => P44 t (by
    show Steps p.tables e below (T43.setTop (mkF m 83 #[rv a1, iv p2, lv q3, sd, .val .null, iv (0 : Int32)] [(.ref aE), (.int x41), (.int p2), (.int (2 : Int32)), (.ref a1)])) t
    refine XS.aloadN X43.here hx rfl (hb hby d3_83) rfl rfl ?_
    exact k)
  obtain ⟨T46, X46, e46, st46⟩ := getF X43 hx hZ hown (host := "") (Or.inl (hw _ (List.mem_of_getElem? (i := 29) rfl))) Via.refl e43 Fa_aT_6 (g := (mkF m 84 #[rv a1, iv p2, lv q3, sd, .val .null, iv (0 : Int32)] [(.ref a1), (.ref aE), (.int x41), (.int p2), (.int (2 : Int32)), (.ref a1)])) rfl rfl (hb hby d3_84)
  have P47 : Rch p e below (s₁.setTop (entryFrame m #[(.ref a1), (.int p2), (.long q3), .null] 6)) (T46.setTop (mkF m 87 #[rv a1, iv p2, lv q3, sd, .val .null, iv (0 : Int32)] [(.ref aT), (.ref aE), (.int x41), (.int p2), (.int (2 : Int32)), (.ref a1)])) := fun t k => P45 t (st46 t k)
  have f49 : Arv Z h6 aT kT .byte (4 : Int32) [(.int tg0), (.int tg1), (.int tg2), (.int tg3)] (.int (0 : Int32)) := (V_aT.keep K6 (ninS (Ne.symm n_a1_aT) (ninS (Ne.symm n_aE_aT) nin0)))
  obtain ⟨cq48, q48, q48'⟩ := (E1.keep K6).cell
  obtain ⟨_, _, ⟨T48, L48, k48, n48⟩, -, X48, ⟨Lc48, hQ48, l48, y48, z48⟩, st48⟩ := X46.privateBack hx (y := (⟨"com/example/kinhash/kinhash/BlockTable", "put", "(III[I[B)V"⟩ : MethodName)) hown (mvT hZ (hw _ (List.mem_of_getElem? (i := 79) rfl))) (mvT hZ (hw _ (List.mem_of_getElem? (i := 80) rfl))) (own_selp hZ (hw _ (List.mem_of_getElem? (i := 3) rfl)) (hw _ (List.mem_of_getElem? (i := 80) rfl)) (hw _ (List.mem_of_getElem? (i := 81) rfl)) (by decide)) (Cond.privateMethod_at (mvP hZ (hw _ (List.mem_of_getElem? (i := 81) rfl)) (args := #[]))) (mvT hZ (hw _ (List.mem_of_getElem? (i := 82) rfl))) (by decide) (backOf (W := 0) (rmPut2 l Z a0 hw [] a1 p2 x41 aE aT rbj_6 kE kT ej0_6 ej1_6 (0 : Int32) (0 : Int32) tg0 tg1 tg2 tg3 h6 n0 Z6 Frb_6 VE_6 f49 g_aE g_aT n_a1_aE n_a1_aT n_aE_aT) hZ (hw _ (List.mem_of_getElem? (i := 82) rfl)) (hw _ (List.mem_of_getElem? (i := 4) rfl)) (by decide) (by decide)) (g := (mkF m 87 #[rv a1, iv p2, lv q3, sd, .val .null, iv (0 : Int32)] [(.ref aT), (.ref aE), (.int x41), (.int p2), (.int (2 : Int32)), (.ref a1)])) rfl (by rw [hml]; rfl) (Steps.refl _) (a := a1) (by rw [e46]; exact q48) q48' (argsL := [(.int (2 : Int32)), (.int p2), (.int x41), (.ref aE), (.ref aT)]) (rest := []) (lenOf pd_7 rfl) rfl (by show 2 * 0 + _ ≤ _; exact Nat.le_of_eq rfl) (hb hby d3_87) (fun _ _ => ⟨rfl, e46, (by decide : 0 + 0 ≤ _), (by decide : 0 + 0 ≤ _)⟩)
  dsimp only [Pt.U, Pt.locs, Pt.cells, Pt.slots] at X48 l48 y48 z48 st48 hQ48
  subst y48 z48
  obtain ⟨rfl, N48q, K48, G1_48, G2_48⟩ := hQ48
  have N48 : Fr n0 L48 := by rw [l48]; exact Fr.app N39 N48q
  have P50 : Rch p e below (s₁.setTop (entryFrame m #[(.ref a1), (.int p2), (.long q3), .null] 6)) (T48.setTop (mkF m 90 #[rv a1, iv p2, lv q3, sd, .val .null, iv (0 : Int32)] [])) := fun t k => P47 t (st48.trans k)
  have P51 : Rch p e below (s₁.setTop (entryFrame m #[(.ref a1), (.int p2), (.long q3), .null] 6)) (T48.setTop (mkF m 91 #[rv a1, iv p2, lv q3, sd, .val .null, iv (0 : Int32)] [(.ref a1)])) := fun t k => P50 t (by
    show Steps p.tables e below (T48.setTop (mkF m 90 #[rv a1, iv p2, lv q3, sd, .val .null, iv (0 : Int32)] [])) t
    refine XS.aloadN X48.here hx rfl (hb hby d3_90) rfl rfl ?_
    exact k)
  obtain ⟨T52, X52, e52, st52⟩ := getF X48 hx hZ hown (host := "") (Or.inl (hw _ (List.mem_of_getElem? (i := 22) rfl))) Via.refl rfl (Fa_aL_6.keep K48 (ninS n_a1_aE (ninS n_a1_aT nin0))) (g := (mkF m 91 #[rv a1, iv p2, lv q3, sd, .val .null, iv (0 : Int32)] [(.ref a1)])) rfl rfl (hb hby d3_91)
  have P53 : Rch p e below (s₁.setTop (entryFrame m #[(.ref a1), (.int p2), (.long q3), .null] 6)) (T52.setTop (mkF m 94 #[rv a1, iv p2, lv q3, sd, .val .null, iv (0 : Int32)] [(.ref aL)])) := fun t k => P51 t (st52 t k)
  have P54 : Rch p e below (s₁.setTop (entryFrame m #[(.ref a1), (.int p2), (.long q3), .null] 6)) (T52.setTop (mkF m 97 #[rv a1, iv p2, lv q3, sd, .val .null, iv (0 : Int32)] [(.int (0 : Int32)), (.ref aL), (.int (0 : Int32)), (.ref aL)])) := fun t k => P53 t (by
    show Steps p.tables e below (T52.setTop (mkF m 94 #[rv a1, iv p2, lv q3, sd, .val .null, iv (0 : Int32)] [(.ref aL)])) t
    refine XS.iload X52.here hx rfl (hb hby d3_94) rfl ?_
    jvm_step X52.here [X52.here.top, hx, (hb hby d3_96), Value.category]
    exact k)
  have f55 : Arv Z T48.heap aL kL .int (1 : Int32) [(.int (2 : Int32))] (.int (0 : Int32)) := ((V_aL.keep K6 (ninS (Ne.symm n_a1_aL) (ninS n_aL_aE nin0))).keep K48 (ninS n_aL_aE (ninS n_aL_aT nin0)))
  have V_o56 := f55
  obtain ⟨co56, Aro56, qo56, So56, Mo56, Ho56, Go56⟩ := V_o56
  have hin57 : ¬ ((0 : Int32) < 0 ∨ co56.slots.size ≤ ((0 : Int32)).toNatClampNeg) := inb_of So56 ⟨by decide, by decide⟩
  have hat57 : co56.slots[((0 : Int32)).toNatClampNeg]? = some (.int (2 : Int32)) := Has.at Ho56 hin57 rfl
  have P58 : Rch p e below (s₁.setTop (entryFrame m #[(.ref a1), (.int p2), (.long q3), .null] 6)) (T52.setTop (mkF m 98 #[rv a1, iv p2, lv q3, sd, .val .null, iv (0 : Int32)] [(.int (2 : Int32)), (.int (0 : Int32)), (.ref aL)])) := fun t k => P54 t (X52.iaload hx (j := (0 : Int32)) (v := (.int (2 : Int32))) (by rw [e52]; exact Aro56.1) (State.isArrayOf_alike hZ.alike Aro56.2.1) Aro56.2.2 hin57 hat57 (g := (mkF m 97 #[rv a1, iv p2, lv q3, sd, .val .null, iv (0 : Int32)] [(.int (0 : Int32)), (.ref aL), (.int (0 : Int32)), (.ref aL)])) rfl rfl (hb hby d3_97) t k)
  have P59 : Rch p e below (s₁.setTop (entryFrame m #[(.ref a1), (.int p2), (.long q3), .null] 6)) (T52.setTop (mkF m 100 #[rv a1, iv p2, lv q3, sd, .val .null, iv (0 : Int32)] [(.int (3 : Int32)), (.int (0 : Int32)), (.ref aL)])) := fun t k => P58 t (by
    show Steps p.tables e below (T52.setTop (mkF m 98 #[rv a1, iv p2, lv q3, sd, .val .null, iv (0 : Int32)] [(.int (2 : Int32)), (.int (0 : Int32)), (.ref aL)])) t
    refine XS.iconst X52.here hx rfl (hb hby d3_98) ?_
    refine XS.iadd X52.here hx rfl (hb hby d3_99) rfl ?_
    exact k)
  have V_o60 := f55
  obtain ⟨co60, Aro60, qo60, So60, Mo60, Ho60, Go60⟩ := V_o60
  have hin61 : ¬ ((0 : Int32) < 0 ∨ co60.slots.size ≤ ((0 : Int32)).toNatClampNeg) := inb_of So60 ⟨by decide, by decide⟩
  obtain ⟨T61, h61, X61, e61, W61, st61⟩ := stI X52 hx hZ e52 Aro60 (j := (0 : Int32)) hin61 (g := (mkF m 100 #[rv a1, iv p2, lv q3, sd, .val .null, iv (0 : Int32)] [(.int (3 : Int32)), (.int (0 : Int32)), (.ref aL)])) rfl rfl (hb hby d3_100)
  have V61 : Arv Z h61 aL kL .int (1 : Int32) [(.int (3 : Int32))] (.int (0 : Int32)) := Arv.set Aro60 qo60 So60 Mo60 Ho60 Go60 rfl W61 0 rfl (Nat.le_of_ble_eq_true rfl)
  have P62 : Rch p e below (s₁.setTop (entryFrame m #[(.ref a1), (.int p2), (.long q3), .null] 6)) (T61.setTop (mkF m 101 #[rv a1, iv p2, lv q3, sd, .val .null, iv (0 : Int32)] [])) := fun t k => P59 t (st61 t k)
  have N61 := Fr.snoc X61 N48 g_aL
  obtain ⟨fs, hr, hrun, hended, hW, hsame⟩ := X61.leave (v := none) (fun _ => rfl)
  refine ⟨_, _, P62 _ ?_, hrun, hended, _, _, rfl, ?_, ⟨_, rfl⟩, hW, hsame.mono (by decide) (by decide)⟩
  · exact X61.returnOut hx Bd.returns (hb hby d3_101) hr
  · show Q_rmAdd2 Z a1 aS aL aR aE aT kS kL kR kE kT p2 q3 rb lb mk en0 en1 tg0 tg1 tg2 tg3 rr0 rr1 h0 n0 _ T61.heap _
    rw [e61]
    have f63 : Fld Z h61 a1 "com/example/kinhash/kinhash/BlockTable" "recordBits" "I" (.int rbj_6) := ((Frb_6.keep K48 (ninS n_a1_aE (ninS n_a1_aT nin0))).other W61 (Or.inl n_a1_aL))
    have f64 : Keep h0 h61 [a1, aS, aL, aR, aE, aT] := ((((Keep.refl h0 [a1, aS, aL, aR, aE, aT]).trans K6 (allS (P := fun x => x ∈ [a1, aS, aL, aR, aE, aT] ∨ h0.size ≤ x) (Or.inl (List.mem_of_getElem? (i := 0) rfl)) (allS (P := fun x => x ∈ [a1, aS, aL, aR, aE, aT] ∨ h0.size ≤ x) (Or.inl (List.mem_of_getElem? (i := 4) rfl)) all0))).trans K48 (allS (P := fun x => x ∈ [a1, aS, aL, aR, aE, aT] ∨ h0.size ≤ x) (Or.inl (List.mem_of_getElem? (i := 4) rfl)) (allS (P := fun x => x ∈ [a1, aS, aL, aR, aE, aT] ∨ h0.size ≤ x) (Or.inl (List.mem_of_getElem? (i := 5) rfl)) all0))).wr W61 (Or.inl (List.mem_of_getElem? (i := 2) rfl)))
    have f65 : Fld Z h61 a1 "com/example/kinhash/kinhash/BlockTable" "mask" "J" (.long mk) := ((Fmk_6.keep K48 (ninS n_a1_aE (ninS n_a1_aT nin0))).other W61 (Or.inl n_a1_aL))
    have f66 : Fld Z h61 a1 "com/example/kinhash/kinhash/BlockTable" "lowestBit" "I" (.int lb) := ((Flb_6.keep K48 (ninS n_a1_aE (ninS n_a1_aT nin0))).other W61 (Or.inl n_a1_aL))
    have f67 : Fld Z h61 a1 "com/example/kinhash/kinhash/BlockTable" "bucketBits" "I" (.int (0 : Int32)) := ((Fbb_6.keep K48 (ninS n_a1_aE (ninS n_a1_aT nin0))).other W61 (Or.inl n_a1_aL))
    have f68 : Fld Z h61 a1 "com/example/kinhash/kinhash/BlockTable" "free" "I" (.int (4 : Int32)) := ((Ffr_6.keep K48 (ninS n_a1_aE (ninS n_a1_aT nin0))).other W61 (Or.inl n_a1_aL))
    have f69 : Fld Z h61 a1 "com/example/kinhash/kinhash/BlockTable" "start" "[I" (.ref aS) := ((Fa_aS_6.keep K48 (ninS n_a1_aE (ninS n_a1_aT nin0))).other W61 (Or.inl n_a1_aL))
    have f70 : Fld Z h61 a1 "com/example/kinhash/kinhash/BlockTable" "length" "[I" (.ref aL) := ((Fa_aL_6.keep K48 (ninS n_a1_aE (ninS n_a1_aT nin0))).other W61 (Or.inl n_a1_aL))
    have f71 : Fld Z h61 a1 "com/example/kinhash/kinhash/BlockTable" "room" "[I" (.ref aR) := ((Fa_aR_6.keep K48 (ninS n_a1_aE (ninS n_a1_aT nin0))).other W61 (Or.inl n_a1_aL))
    have f72 : Fld Z h61 a1 "com/example/kinhash/kinhash/BlockTable" "entries" "[I" (.ref aE) := ((Fa_aE_6.keep K48 (ninS n_a1_aE (ninS n_a1_aT nin0))).other W61 (Or.inl n_a1_aL))
    have f73 : Fld Z h61 a1 "com/example/kinhash/kinhash/BlockTable" "tags" "[B" (.ref aT) := ((Fa_aT_6.keep K48 (ninS n_a1_aE (ninS n_a1_aT nin0))).other W61 (Or.inl n_a1_aL))
    have f74 : Arv Z h61 aS kS .int (1 : Int32) [(.int (0 : Int32))] (.int (0 : Int32)) := (((V_aS.keep K6 (ninS (Ne.symm n_a1_aS) (ninS n_aS_aE nin0))).keep K48 (ninS n_aS_aE (ninS n_aS_aT nin0))).other W61 n_aS_aL)
    have f75 : Arv Z h61 aR kR .int (1 : Int32) [(.int (4 : Int32))] (.int (0 : Int32)) := (((V_aR.keep K6 (ninS (Ne.symm n_a1_aR) (ninS n_aR_aE nin0))).keep K48 (ninS n_aR_aE (ninS n_aR_aT nin0))).other W61 (Ne.symm n_aL_aR))
    exact ⟨rbj_6, ej0_6, ej1_6, (own_ent rbj_6 p2 x41), (nar .byte (x41.toInt8.toInt32)), rfl, N61, f64, (((E1.keep K6).keep K48).wr W61), f63, f65, f66, f67, f68, f69, f70, f71, f72, f73, f74, V61, f75, (G1_48.other W61 (Ne.symm n_aL_aE)), (G2_48.other W61 (Ne.symm n_aL_aT)), hbj_6, okj0_6, okj1_6, (own_entok hbj_6 ⟨hrg.1, hfj_6⟩ _)⟩
theorem own_lb (a : Int32) : 0 ≤ ((a &&& (127 : Int32)) % (65 : Int32)).toInt ∧ ((a &&& (127 : Int32)) % (65 : Int32)).toInt ≤ 64 := by
  have m := c_mask a 127 7 (by decide) (by decide)
  have q := (c_irem (a &&& 127) 65 65 rfl).1 (by omega)
  omega
theorem own_dv (x : Int32) (h0 : 0 ≤ x.toInt) (h1 : x.toInt ≤ 64) : ((65 : Int32) - x).toInt = 65 - x.toInt := by
  have s := c_isub 65 x
  have r := rng32 (65 - x)
  have e : (65 : Int32).toInt = 65 := rfl
  omega
theorem own_nz (x : Int32) (h : 0 < x.toInt) : ¬ (x = 0) := by rintro rfl; exact absurd h (by decide)
theorem own_rng (a g : Int32) : 0 ≤ (((a &&& (1073741823 : Int32)).toUInt32 >>> (g &&& 31).toUInt32).toInt32).toInt ∧ (((a &&& (1073741823 : Int32)).toUInt32 >>> (g &&& 31).toUInt32).toInt32).toInt < 1073741824 := by
  have m := c_mask a 1073741823 30 (by decide) (by decide)
  have e30 : ((2 ^ 30 : Nat) : Int) = 1073741824 := by decide
  rw [e30] at m
  obtain ⟨k, hk⟩ : ∃ k, g.toBitVec.toNat % 32 = k := ⟨_, rfl⟩
  by_cases h0 : 0 < k
  · have q := c_iushr (a &&& 1073741823) g k hk h0
    have hP : 0 < 2 ^ k := Nat.two_pow_pos k
    rw [q]
    generalize 2 ^ k = P at *
    have e1 := Int.ediv_nonneg (a := (a &&& (1073741823 : Int32)).toInt % 4294967296) (b := (P : Int)) (by omega) (by omega)
    have e2 := Int.ediv_le_self (a := (a &&& (1073741823 : Int32)).toInt % 4294967296) (P : Int) (by omega)
    omega
  · have hk0 : g.toBitVec.toNat % 32 = 0 := by omega
    have e0 : (g &&& 31).toBitVec = 0#32 := by
      apply BitVec.eq_of_toNat_eq
      have hm := c_mask g 31 5 (by decide) (by decide)
      show (g.toBitVec &&& 31#32).toNat = 0
      rw [BitVec.toNat_and]
      show g.toBitVec.toNat &&& (2 ^ 5 - 1) = 0
      rw [Nat.and_two_pow_sub_one_eq_mod]; omega
    have e : ((a &&& (1073741823 : Int32)).toUInt32 >>> (g &&& 31).toUInt32).toInt32 = (a &&& 1073741823) := by
      apply Int32.toBitVec_inj.mp
      show ((a &&& 1073741823).toBitVec >>> ((g &&& 31).toBitVec % 32)) = _
      rw [e0]; simp
    rw [e, m]; omega
def Q_rm0 (Z : State) (p1 : Int32) (p2 : Int32) (p3 : Int32) (q4 : Int64) (q5 : Int64) (p6 : Int32) (h0 : Heap) (n0 : Nat) (v : Option Value) (h : Heap) (L : List Loc) : Prop := v = some (.int (1 : Int32)) ∧ Fr n0 L
set_option maxRecDepth 65536 in
set_option maxHeartbeats 40000000 in
theorem rm0 (l : Launch) (Z : State) (a0 : Array Value) (hw : ∀ d ∈ tables_1, d.before a0 Z = true) (ws : List Jvm.Cond) (p1 : Int32) (p2 : Int32) (p3 : Int32) (q4 : Int64) (q5 : Int64) (p6 : Int32) (h0 : Heap) (n0 : Nat) (Z0 : n0 ≤ h0.size) :
    MetFree l x (head1 (Jvm.Cond.code x code maxLocals ret :: ws) room_1) (fun a U => a = #[(.int p1), (.int p2), (.int p3), (.long q4), (.long q5), (.int p6)] ∧ Z.Warmed39 U.vm ∧ U.heap = h0) (fun _ _ _ _ _ => True) (fun _ U o U' => ∃ v L, o = .returned v ∧ Q_rm0 Z p1 p2 p3 q4 q5 p6 h0 n0 v U'.heap L ∧ FrameEnd U o U' L room_1.cells room_1.slots) := by
  refine MetFree.of_bodySF (plainFor_of_name pn_3) hisR ?_
  intro p e s m args below meth c s₁ Bd hml0 hP hK
  obtain ⟨rfl, hZ, hh⟩ := hP
  have hx := Bd.exec
  have hby := Bd.bytes
  have hml : c.maxLocals = 17 := hml0
  have hown : s.vm.findClass "com/example/kinhash/kinhash/BlockTableRecordPinLaw" = some m.cls := findClass_of_methodNamed Bd.named
  have hnm := (name_of_methodNamed Bd.named Bd.method).1
  have X0 : Stand p l e room_1 s m #[(.int p1), (.int p2), (.int p3), (.long q4), (.long q5), (.int p6)] below meth c s₁ [] 0 0 := Stand.of_body Bd
  have e0 : s₁.heap = h0 := by rw [← hh, Bd.state]; rfl
  have N0 := Fr.nil n0
  have P0 : Rch p e below (s₁.setTop (entryFrame m #[(.int p1), (.int p2), (.int p3), (.long q4), (.long q5), (.int p6)] maxLocals)) (s₁.setTop (mkF m 0 #[iv p1, iv p2, iv p3, lv q4, sd, lv q5, sd, iv p6, un, un, un, un, un, un, un, un, un] [])) := fun t k => castTop (by first | (simp [entryFrame, mkF, argsToLocals, Value.category, maxLocals]; done) | rfl) k
  obtain ⟨x1, hx1⟩ : ∃ z : Int32, z = ((p6 &&& (127 : Int32)) % (65 : Int32)) := ⟨_, rfl⟩
  obtain ⟨x2, hx2⟩ : ∃ z : Int32, z = ((65 : Int32) - ((p6 &&& (127 : Int32)) % (65 : Int32))) := ⟨_, rfl⟩
  obtain ⟨x3, hx3⟩ : ∃ z : Int32, z = (((p6.toUInt32 >>> ((7 : Int32) &&& 31).toUInt32).toInt32) &&& (127 : Int32)) := ⟨_, rfl⟩
  have P4 : Rch p e below (s₁.setTop (entryFrame m #[(.int p1), (.int p2), (.int p3), (.long q4), (.long q5), (.int p6)] maxLocals)) (s₁.setTop (mkF m 23 #[iv p1, iv p2, iv p3, lv q4, sd, lv q5, sd, iv p6, iv x1, un, un, un, un, un, un, un, un] [(.int x2), (.int x3)])) := fun t k => P0 t (by
    subst hx1 hx2 hx3
    show Steps p.tables e below (s₁.setTop (mkF m 0 #[iv p1, iv p2, iv p3, lv q4, sd, lv q5, sd, iv p6, un, un, un, un, un, un, un, un, un] [])) t
    refine XS.iload X0.here hx rfl (hb hby at_0) rfl ?_
    refine XS.bipush X0.here hx rfl (hb hby at_2) ?_
    refine XS.iand X0.here hx rfl (hb hby at_4) rfl ?_
    show Steps p.tables e below (s₁.setTop (mkF m 5 #[iv p1, iv p2, iv p3, lv q4, sd, lv q5, sd, iv p6, un, un, un, un, un, un, un, un, un] [(.int (p6 &&& (127 : Int32)))])) t
    refine XS.bipush X0.here hx rfl (hb hby at_5) ?_
    refine iremM X0 hx rfl (hb hby at_7) rfl (by decide) ?_
    refine XS.istore X0.here hx rfl (hb hby at_8) rfl (l' := #[iv p1, iv p2, iv p3, lv q4, sd, lv q5, sd, iv p6, iv ((p6 &&& (127 : Int32)) % (65 : Int32)), un, un, un, un, un, un, un, un]) rfl ?_
    refine XS.iload X0.here hx rfl (hb hby at_10) rfl ?_
    show Steps p.tables e below (s₁.setTop (mkF m 12 #[iv p1, iv p2, iv p3, lv q4, sd, lv q5, sd, iv p6, iv ((p6 &&& (127 : Int32)) % (65 : Int32)), un, un, un, un, un, un, un, un] [(.int p6)])) t
    refine XS.bipush X0.here hx rfl (hb hby at_12) ?_
    refine XS.iushr X0.here hx rfl (hb hby at_14) rfl ?_
    refine XS.bipush X0.here hx rfl (hb hby at_15) ?_
    refine XS.iand X0.here hx rfl (hb hby at_17) rfl ?_
    show Steps p.tables e below (s₁.setTop (mkF m 18 #[iv p1, iv p2, iv p3, lv q4, sd, lv q5, sd, iv p6, iv ((p6 &&& (127 : Int32)) % (65 : Int32)), un, un, un, un, un, un, un, un] [(.int (((p6.toUInt32 >>> ((7 : Int32) &&& 31).toUInt32).toInt32) &&& (127 : Int32)))])) t
    refine XS.bipush X0.here hx rfl (hb hby at_18) ?_
    refine XS.iload X0.here hx rfl (hb hby at_20) rfl ?_
    refine XS.isub X0.here hx rfl (hb hby at_22) rfl ?_
    exact k)
  have hlb : 0 ≤ x1.toInt ∧ x1.toInt ≤ 64 := by rw [hx1]; exact own_lb p6
  have hdv : x2.toInt = 65 - x1.toInt := by rw [hx2]; first | exact own_dv _ hlb.1 hlb.2 | (rw [← hx1]; exact own_dv _ hlb.1 hlb.2)
  have hnz23 : ¬ (x2 = 0) := own_nz _ (by omega)
  obtain ⟨x5, hx5⟩ : ∃ z : Int32, z = (x3 % x2) := ⟨_, rfl⟩
  obtain ⟨x6, hx6⟩ : ∃ z : Int32, z = (((p1 &&& (1073741823 : Int32)).toUInt32 >>> ((((p6.toUInt32 >>> ((14 : Int32) &&& 31).toUInt32).toInt32) &&& (31 : Int32)) &&& 31).toUInt32).toInt32) := ⟨_, rfl⟩
  have P7 : Rch p e below (s₁.setTop (entryFrame m #[(.int p1), (.int p2), (.int p3), (.long q4), (.long q5), (.int p6)] maxLocals)) (s₁.setTop (mkF m 41 #[iv p1, iv p2, iv p3, lv q4, sd, lv q5, sd, iv p6, iv x1, iv x5, iv x6, un, un, un, un, un, un] [])) := fun t k => P4 t (by
    subst hx5 hx6
    show Steps p.tables e below (s₁.setTop (mkF m 23 #[iv p1, iv p2, iv p3, lv q4, sd, lv q5, sd, iv p6, iv x1, un, un, un, un, un, un, un, un] [(.int x2), (.int x3)])) t
    refine iremM X0 hx rfl (hb hby at_23) rfl hnz23 ?_
    refine XS.istore X0.here hx rfl (hb hby at_24) rfl (l' := #[iv p1, iv p2, iv p3, lv q4, sd, lv q5, sd, iv p6, iv x1, iv (x3 % x2), un, un, un, un, un, un, un]) rfl ?_
    refine XS.iloadN X0.here hx rfl (hb hby at_26) rfl ?_
    show Steps p.tables e below (s₁.setTop (mkF m 27 #[iv p1, iv p2, iv p3, lv q4, sd, lv q5, sd, iv p6, iv x1, iv (x3 % x2), un, un, un, un, un, un, un] [(.int p1)])) t
    refine X0.ldcInt hx hown (mvT hZ (hw _ (List.mem_of_getElem? (i := 0) rfl))) (g := (mkF m 27 #[iv p1, iv p2, iv p3, lv q4, sd, lv q5, sd, iv p6, iv x1, iv (x3 % x2), un, un, un, un, un, un, un] [(.int p1)])) rfl (hb hby at_27) _ ?_
    refine XS.iand X0.here hx rfl (hb hby at_29) rfl ?_
    refine XS.iload X0.here hx rfl (hb hby at_30) rfl ?_
    refine XS.bipush X0.here hx rfl (hb hby at_32) ?_
    show Steps p.tables e below (s₁.setTop (mkF m 34 #[iv p1, iv p2, iv p3, lv q4, sd, lv q5, sd, iv p6, iv x1, iv (x3 % x2), un, un, un, un, un, un, un] [(.int (14 : Int32)), (.int p6), (.int (p1 &&& (1073741823 : Int32)))])) t
    refine XS.iushr X0.here hx rfl (hb hby at_34) rfl ?_
    refine XS.bipush X0.here hx rfl (hb hby at_35) ?_
    refine XS.iand X0.here hx rfl (hb hby at_37) rfl ?_
    refine XS.iushr X0.here hx rfl (hb hby at_38) rfl ?_
    show Steps p.tables e below (s₁.setTop (mkF m 39 #[iv p1, iv p2, iv p3, lv q4, sd, lv q5, sd, iv p6, iv x1, iv (x3 % x2), un, un, un, un, un, un, un] [(.int (((p1 &&& (1073741823 : Int32)).toUInt32 >>> ((((p6.toUInt32 >>> ((14 : Int32) &&& 31).toUInt32).toInt32) &&& (31 : Int32)) &&& 31).toUInt32).toInt32))])) t
    refine XS.istore X0.here hx rfl (hb hby at_39) rfl (l' := #[iv p1, iv p2, iv p3, lv q4, sd, lv q5, sd, iv p6, iv x1, iv (x3 % x2), iv (((p1 &&& (1073741823 : Int32)).toUInt32 >>> ((((p6.toUInt32 >>> ((14 : Int32) &&& 31).toUInt32).toInt32) &&& (31 : Int32)) &&& 31).toUInt32).toInt32), un, un, un, un, un, un]) rfl ?_
    exact k)
  obtain ⟨x8, hx8⟩ : ∃ z : Int32, z = (((p2 &&& (1073741823 : Int32)).toUInt32 >>> ((((p6.toUInt32 >>> ((19 : Int32) &&& 31).toUInt32).toInt32) &&& (31 : Int32)) &&& 31).toUInt32).toInt32) := ⟨_, rfl⟩
  have P9 : Rch p e below (s₁.setTop (entryFrame m #[(.int p1), (.int p2), (.int p3), (.long q4), (.long q5), (.int p6)] maxLocals)) (s₁.setTop (mkF m 56 #[iv p1, iv p2, iv p3, lv q4, sd, lv q5, sd, iv p6, iv x1, iv x5, iv x6, iv x8, un, un, un, un, un] [])) := fun t k => P7 t (by
    subst hx8
    show Steps p.tables e below (s₁.setTop (mkF m 41 #[iv p1, iv p2, iv p3, lv q4, sd, lv q5, sd, iv p6, iv x1, iv x5, iv x6, un, un, un, un, un, un] [])) t
    refine XS.iloadN X0.here hx rfl (hb hby at_41) rfl ?_
    refine X0.ldcInt hx hown (mvT hZ (hw _ (List.mem_of_getElem? (i := 0) rfl))) (g := (mkF m 42 #[iv p1, iv p2, iv p3, lv q4, sd, lv q5, sd, iv p6, iv x1, iv x5, iv x6, un, un, un, un, un, un] [(.int p2)])) rfl (hb hby at_42) _ ?_
    refine XS.iand X0.here hx rfl (hb hby at_44) rfl ?_
    show Steps p.tables e below (s₁.setTop (mkF m 45 #[iv p1, iv p2, iv p3, lv q4, sd, lv q5, sd, iv p6, iv x1, iv x5, iv x6, un, un, un, un, un, un] [(.int (p2 &&& (1073741823 : Int32)))])) t
    refine XS.iload X0.here hx rfl (hb hby at_45) rfl ?_
    refine XS.bipush X0.here hx rfl (hb hby at_47) ?_
    refine XS.iushr X0.here hx rfl (hb hby at_49) rfl ?_
    refine XS.bipush X0.here hx rfl (hb hby at_50) ?_
    show Steps p.tables e below (s₁.setTop (mkF m 52 #[iv p1, iv p2, iv p3, lv q4, sd, lv q5, sd, iv p6, iv x1, iv x5, iv x6, un, un, un, un, un, un] [(.int (31 : Int32)), (.int ((p6.toUInt32 >>> ((19 : Int32) &&& 31).toUInt32).toInt32)), (.int (p2 &&& (1073741823 : Int32)))])) t
    refine XS.iand X0.here hx rfl (hb hby at_52) rfl ?_
    refine XS.iushr X0.here hx rfl (hb hby at_53) rfl ?_
    refine XS.istore X0.here hx rfl (hb hby at_54) rfl (l' := #[iv p1, iv p2, iv p3, lv q4, sd, lv q5, sd, iv p6, iv x1, iv x5, iv x6, iv (((p2 &&& (1073741823 : Int32)).toUInt32 >>> ((((p6.toUInt32 >>> ((19 : Int32) &&& 31).toUInt32).toInt32) &&& (31 : Int32)) &&& 31).toUInt32).toInt32), un, un, un, un, un]) rfl ?_
    exact k)
  obtain ⟨x10, hx10⟩ : ∃ z : Int32, z = (((p3 &&& (1073741823 : Int32)).toUInt32 >>> ((((p6.toUInt32 >>> ((24 : Int32) &&& 31).toUInt32).toInt32) &&& (31 : Int32)) &&& 31).toUInt32).toInt32) := ⟨_, rfl⟩
  have P11 : Rch p e below (s₁.setTop (entryFrame m #[(.int p1), (.int p2), (.int p3), (.long q4), (.long q5), (.int p6)] maxLocals)) (s₁.setTop (mkF m 71 #[iv p1, iv p2, iv p3, lv q4, sd, lv q5, sd, iv p6, iv x1, iv x5, iv x6, iv x8, iv x10, un, un, un, un] [])) := fun t k => P9 t (by
    subst hx10
    show Steps p.tables e below (s₁.setTop (mkF m 56 #[iv p1, iv p2, iv p3, lv q4, sd, lv q5, sd, iv p6, iv x1, iv x5, iv x6, iv x8, un, un, un, un, un] [])) t
    refine XS.iloadN X0.here hx rfl (hb hby at_56) rfl ?_
    refine X0.ldcInt hx hown (mvT hZ (hw _ (List.mem_of_getElem? (i := 0) rfl))) (g := (mkF m 57 #[iv p1, iv p2, iv p3, lv q4, sd, lv q5, sd, iv p6, iv x1, iv x5, iv x6, iv x8, un, un, un, un, un] [(.int p3)])) rfl (hb hby at_57) _ ?_
    refine XS.iand X0.here hx rfl (hb hby at_59) rfl ?_
    show Steps p.tables e below (s₁.setTop (mkF m 60 #[iv p1, iv p2, iv p3, lv q4, sd, lv q5, sd, iv p6, iv x1, iv x5, iv x6, iv x8, un, un, un, un, un] [(.int (p3 &&& (1073741823 : Int32)))])) t
    refine XS.iload X0.here hx rfl (hb hby at_60) rfl ?_
    refine XS.bipush X0.here hx rfl (hb hby at_62) ?_
    refine XS.iushr X0.here hx rfl (hb hby at_64) rfl ?_
    refine XS.bipush X0.here hx rfl (hb hby at_65) ?_
    show Steps p.tables e below (s₁.setTop (mkF m 67 #[iv p1, iv p2, iv p3, lv q4, sd, lv q5, sd, iv p6, iv x1, iv x5, iv x6, iv x8, un, un, un, un, un] [(.int (31 : Int32)), (.int ((p6.toUInt32 >>> ((24 : Int32) &&& 31).toUInt32).toInt32)), (.int (p3 &&& (1073741823 : Int32)))])) t
    refine XS.iand X0.here hx rfl (hb hby at_67) rfl ?_
    refine XS.iushr X0.here hx rfl (hb hby at_68) rfl ?_
    refine XS.istore X0.here hx rfl (hb hby at_69) rfl (l' := #[iv p1, iv p2, iv p3, lv q4, sd, lv q5, sd, iv p6, iv x1, iv x5, iv x6, iv x8, iv (((p3 &&& (1073741823 : Int32)).toUInt32 >>> ((((p6.toUInt32 >>> ((24 : Int32) &&& 31).toUInt32).toInt32) &&& (31 : Int32)) &&& 31).toUInt32).toInt32), un, un, un, un]) rfl ?_
    exact k)
  have hrg10 : 0 ≤ x6.toInt ∧ x6.toInt < 1073741824 := by rw [hx6]; exact own_rng _ _
  have hrg11 : 0 ≤ x8.toInt ∧ x8.toInt < 1073741824 := by rw [hx8]; exact own_rng _ _
  have hrg12 : 0 ≤ x10.toInt ∧ x10.toInt < 1073741824 := by rw [hx10]; exact own_rng _ _
  have P12 : Rch p e below (s₁.setTop (entryFrame m #[(.int p1), (.int p2), (.int p3), (.long q4), (.long q5), (.int p6)] maxLocals)) (s₁.setTop (mkF m 75 #[iv p1, iv p2, iv p3, lv q4, sd, lv q5, sd, iv p6, iv x1, iv x5, iv x6, iv x8, iv x10, un, un, un, un] [(.int x8), (.int x6)])) := fun t k => P11 t (by
    show Steps p.tables e below (s₁.setTop (mkF m 71 #[iv p1, iv p2, iv p3, lv q4, sd, lv q5, sd, iv p6, iv x1, iv x5, iv x6, iv x8, iv x10, un, un, un, un] [])) t
    refine XS.iload X0.here hx rfl (hb hby at_71) rfl ?_
    refine XS.iload X0.here hx rfl (hb hby at_73) rfl ?_
    exact k)
  by_cases c13 : x6 = x8
  · have P14 : Rch p e below (s₁.setTop (entryFrame m #[(.int p1), (.int p2), (.int p3), (.long q4), (.long q5), (.int p6)] maxLocals)) (s₁.setTop (mkF m 93 #[iv p1, iv p2, iv p3, lv q4, sd, lv q5, sd, iv p6, iv x1, iv x5, iv x6, iv x8, iv x10, un, un, un, un] [(.int (1 : Int32))])) := fun t k => P12 t (by
      show Steps p.tables e below (s₁.setTop (mkF m 75 #[iv p1, iv p2, iv p3, lv q4, sd, lv q5, sd, iv p6, iv x1, iv x5, iv x6, iv x8, iv x10, un, un, un, un] [(.int x8), (.int x6)])) t
      refine XS.icmpYes X0.here hx rfl (pc0 := 75) (pc' := 92) rfl (hb hby at_75) rfl (teq c13).1 (by decide) (by decide) ?_
      refine XS.iconst X0.here hx rfl (hb hby at_92) ?_
      exact k)
    obtain ⟨fs, hr, hrun, hended, hW, hsame⟩ := X0.leave (v := some (.int (1 : Int32))) (fun h => by rw [Bd.returns] at h; cases h)
    refine ⟨_, _, P14 _ ?_, hrun, hended, _, _, rfl, ?_, ⟨_, rfl⟩, hW, hsame.mono (by decide) (by decide)⟩
    · exact retN X0 hx (t := .boolean) Bd.returns (by simp) (hb hby at_93) hr
    · show Q_rm0 Z p1 p2 p3 q4 q5 p6 h0 n0 _ s₁.heap _
      rw [e0]
      exact ⟨rfl, N0⟩
  · have P15 : Rch p e below (s₁.setTop (entryFrame m #[(.int p1), (.int p2), (.int p3), (.long q4), (.long q5), (.int p6)] maxLocals)) (s₁.setTop (mkF m 82 #[iv p1, iv p2, iv p3, lv q4, sd, lv q5, sd, iv p6, iv x1, iv x5, iv x6, iv x8, iv x10, un, un, un, un] [(.int x10), (.int x6)])) := fun t k => P12 t (by
      show Steps p.tables e below (s₁.setTop (mkF m 75 #[iv p1, iv p2, iv p3, lv q4, sd, lv q5, sd, iv p6, iv x1, iv x5, iv x6, iv x8, iv x10, un, un, un, un] [(.int x8), (.int x6)])) t
      refine XS.icmpNo X0.here hx rfl (hb hby at_75) rfl (feq c13).1 ?_
      refine XS.iload X0.here hx rfl (hb hby at_78) rfl ?_
      refine XS.iload X0.here hx rfl (hb hby at_80) rfl ?_
      exact k)
    by_cases c16 : x6 = x10
    · have P17 : Rch p e below (s₁.setTop (entryFrame m #[(.int p1), (.int p2), (.int p3), (.long q4), (.long q5), (.int p6)] maxLocals)) (s₁.setTop (mkF m 93 #[iv p1, iv p2, iv p3, lv q4, sd, lv q5, sd, iv p6, iv x1, iv x5, iv x6, iv x8, iv x10, un, un, un, un] [(.int (1 : Int32))])) := fun t k => P15 t (by
        show Steps p.tables e below (s₁.setTop (mkF m 82 #[iv p1, iv p2, iv p3, lv q4, sd, lv q5, sd, iv p6, iv x1, iv x5, iv x6, iv x8, iv x10, un, un, un, un] [(.int x10), (.int x6)])) t
        refine XS.icmpYes X0.here hx rfl (pc0 := 82) (pc' := 92) rfl (hb hby at_82) rfl (teq c16).1 (by decide) (by decide) ?_
        refine XS.iconst X0.here hx rfl (hb hby at_92) ?_
        exact k)
      obtain ⟨fs, hr, hrun, hended, hW, hsame⟩ := X0.leave (v := some (.int (1 : Int32))) (fun h => by rw [Bd.returns] at h; cases h)
      refine ⟨_, _, P17 _ ?_, hrun, hended, _, _, rfl, ?_, ⟨_, rfl⟩, hW, hsame.mono (by decide) (by decide)⟩
      · exact retN X0 hx (t := .boolean) Bd.returns (by simp) (hb hby at_93) hr
      · show Q_rm0 Z p1 p2 p3 q4 q5 p6 h0 n0 _ s₁.heap _
        rw [e0]
        exact ⟨rfl, N0⟩
    · have P18 : Rch p e below (s₁.setTop (entryFrame m #[(.int p1), (.int p2), (.int p3), (.long q4), (.long q5), (.int p6)] maxLocals)) (s₁.setTop (mkF m 89 #[iv p1, iv p2, iv p3, lv q4, sd, lv q5, sd, iv p6, iv x1, iv x5, iv x6, iv x8, iv x10, un, un, un, un] [(.int x10), (.int x8)])) := fun t k => P15 t (by
        show Steps p.tables e below (s₁.setTop (mkF m 82 #[iv p1, iv p2, iv p3, lv q4, sd, lv q5, sd, iv p6, iv x1, iv x5, iv x6, iv x8, iv x10, un, un, un, un] [(.int x10), (.int x6)])) t
        refine XS.icmpNo X0.here hx rfl (hb hby at_82) rfl (feq c16).1 ?_
        refine XS.iload X0.here hx rfl (hb hby at_85) rfl ?_
        refine XS.iload X0.here hx rfl (hb hby at_87) rfl ?_
        exact k)
      by_cases c19 : x8 = x10
      · have P20 : Rch p e below (s₁.setTop (entryFrame m #[(.int p1), (.int p2), (.int p3), (.long q4), (.long q5), (.int p6)] maxLocals)) (s₁.setTop (mkF m 93 #[iv p1, iv p2, iv p3, lv q4, sd, lv q5, sd, iv p6, iv x1, iv x5, iv x6, iv x8, iv x10, un, un, un, un] [(.int (1 : Int32))])) := fun t k => P18 t (by
          show Steps p.tables e below (s₁.setTop (mkF m 89 #[iv p1, iv p2, iv p3, lv q4, sd, lv q5, sd, iv p6, iv x1, iv x5, iv x6, iv x8, iv x10, un, un, un, un] [(.int x10), (.int x8)])) t
          refine XS.icmpNo X0.here hx rfl (hb hby at_89) rfl (teq c19).2 ?_
          refine XS.iconst X0.here hx rfl (hb hby at_92) ?_
          exact k)
        obtain ⟨fs, hr, hrun, hended, hW, hsame⟩ := X0.leave (v := some (.int (1 : Int32))) (fun h => by rw [Bd.returns] at h; cases h)
        refine ⟨_, _, P20 _ ?_, hrun, hended, _, _, rfl, ?_, ⟨_, rfl⟩, hW, hsame.mono (by decide) (by decide)⟩
        · exact retN X0 hx (t := .boolean) Bd.returns (by simp) (hb hby at_93) hr
        · show Q_rm0 Z p1 p2 p3 q4 q5 p6 h0 n0 _ s₁.heap _
          rw [e0]
          exact ⟨rfl, N0⟩
      · obtain ⟨y21, hy21⟩ : ∃ z : Int64, z = ((q4 ^^^ q5) ^^^ (-1 : Int64)) := ⟨_, rfl⟩
        have P22 : Rch p e below (s₁.setTop (entryFrame m #[(.int p1), (.int p2), (.int p3), (.long q4), (.long q5), (.int p6)] maxLocals)) (s₁.setTop (mkF m 104 #[iv p1, iv p2, iv p3, lv q4, sd, lv q5, sd, iv p6, iv x1, iv x5, iv x6, iv x8, iv x10, lv y21, sd, un, un] [])) := fun t k => P18 t (by
          subst hy21
          show Steps p.tables e below (s₁.setTop (mkF m 89 #[iv p1, iv p2, iv p3, lv q4, sd, lv q5, sd, iv p6, iv x1, iv x5, iv x6, iv x8, iv x10, un, un, un, un] [(.int x10), (.int x8)])) t
          refine XS.icmpYes X0.here hx rfl (pc0 := 89) (pc' := 94) rfl (hb hby at_89) rfl (feq c19).2 (by decide) (by decide) ?_
          refine XS.lloadN X0.here hx rfl (hb hby at_94) rfl ?_
          refine XS.lload X0.here hx rfl (hb hby at_95) rfl ?_
          show Steps p.tables e below (s₁.setTop (mkF m 97 #[iv p1, iv p2, iv p3, lv q4, sd, lv q5, sd, iv p6, iv x1, iv x5, iv x6, iv x8, iv x10, un, un, un, un] [(.long q5), (.long q4)])) t
          refine XS.lxor X0.here hx rfl (hb hby at_97) rfl ?_
          refine X0.ldc2Long hx hown (mvT hZ (hw _ (List.mem_of_getElem? (i := 1) rfl))) (g := (mkF m 98 #[iv p1, iv p2, iv p3, lv q4, sd, lv q5, sd, iv p6, iv x1, iv x5, iv x6, iv x8, iv x10, un, un, un, un] [(.long (q4 ^^^ q5))])) rfl (hb hby at_98) _ ?_
          refine XS.lxor X0.here hx rfl (hb hby at_101) rfl ?_
          refine XS.lstore X0.here hx rfl (hb hby at_102) rfl (l' := #[iv p1, iv p2, iv p3, lv q4, sd, lv q5, sd, iv p6, iv x1, iv x5, iv x6, iv x8, iv x10, lv ((q4 ^^^ q5) ^^^ (-1 : Int64)), sd, un, un]) rfl ?_
          exact k)
        obtain ⟨T23, h23, X23, e23, E23, A23, D23, -, st23⟩ := newO X0 hx hZ hown (hw _ (List.mem_of_getElem? (i := 2) rfl)) (hw _ (List.mem_of_getElem? (i := 3) rfl)) (hw _ (List.mem_of_getElem? (i := 4) rfl)) e0 (g := (mkF m 104 #[iv p1, iv p2, iv p3, lv q4, sd, lv q5, sd, iv p6, iv x1, iv x5, iv x6, iv x8, iv x10, lv y21, sd, un, un] [])) rfl (hb hby at_104) (by decide) (by decide)
        obtain ⟨b23, g23⟩ : ∃ z, z = h0.size := ⟨_, rfl⟩
        rw [← g23] at A23 D23 st23
        have g_b23 : n0 ≤ b23 := Nat.le_trans Z0 (Nat.le_of_eq g23.symm)
        have sz_b23 : h0.size ≤ b23 := Nat.le_trans (Keep.refl h0 []).1 (Nat.le_of_eq g23.symm)
        have F23_12 : Fld Z h23 b23 "com/example/kinhash/kinhash/BlockTable" "recordBits" "I" (.int (0 : Int32)) := D23 (Or.inl (hw _ (List.mem_of_getElem? (i := 12) rfl))) (ty := .int) (by decide)
        have F23_14 : Fld Z h23 b23 "com/example/kinhash/kinhash/BlockTable" "mask" "J" (.long (0 : Int64)) := D23 (Or.inr (hw _ (List.mem_of_getElem? (i := 14) rfl))) (ty := .long) (by decide)
        have F23_16 : Fld Z h23 b23 "com/example/kinhash/kinhash/BlockTable" "lowestBit" "I" (.int (0 : Int32)) := D23 (Or.inr (hw _ (List.mem_of_getElem? (i := 16) rfl))) (ty := .int) (by decide)
        have F23_18 : Fld Z h23 b23 "com/example/kinhash/kinhash/BlockTable" "width" "I" (.int (0 : Int32)) := D23 (Or.inr (hw _ (List.mem_of_getElem? (i := 18) rfl))) (ty := .int) (by decide)
        have F23_21 : Fld Z h23 b23 "com/example/kinhash/kinhash/BlockTable" "start" "[I" .null := D23 (Or.inl (hw _ (List.mem_of_getElem? (i := 21) rfl))) (ty := (.array .int)) (by decide)
        have F23_23 : Fld Z h23 b23 "com/example/kinhash/kinhash/BlockTable" "length" "[I" .null := D23 (Or.inl (hw _ (List.mem_of_getElem? (i := 23) rfl))) (ty := (.array .int)) (by decide)
        have F23_25 : Fld Z h23 b23 "com/example/kinhash/kinhash/BlockTable" "room" "[I" .null := D23 (Or.inl (hw _ (List.mem_of_getElem? (i := 25) rfl))) (ty := (.array .int)) (by decide)
        have F23_27 : Fld Z h23 b23 "com/example/kinhash/kinhash/BlockTable" "entries" "[I" .null := D23 (Or.inl (hw _ (List.mem_of_getElem? (i := 27) rfl))) (ty := (.array .int)) (by decide)
        have F23_30 : Fld Z h23 b23 "com/example/kinhash/kinhash/BlockTable" "tags" "[B" .null := D23 (Or.inl (hw _ (List.mem_of_getElem? (i := 30) rfl))) (ty := (.array .byte)) (by decide)
        have F23_42 : Fld Z h23 b23 "com/example/kinhash/kinhash/BlockTable" "bucketBits" "I" (.int (0 : Int32)) := D23 (Or.inl (hw _ (List.mem_of_getElem? (i := 42) rfl))) (ty := .int) (by decide)
        have F23_56 : Fld Z h23 b23 "com/example/kinhash/kinhash/BlockTable" "free" "I" (.int (0 : Int32)) := D23 (Or.inl (hw _ (List.mem_of_getElem? (i := 56) rfl))) (ty := .int) (by decide)
        have P24 : Rch p e below (s₁.setTop (entryFrame m #[(.int p1), (.int p2), (.int p3), (.long q4), (.long q5), (.int p6)] maxLocals)) (T23.setTop (mkF m 107 #[iv p1, iv p2, iv p3, lv q4, sd, lv q5, sd, iv p6, iv x1, iv x5, iv x6, iv x8, iv x10, lv y21, sd, un, un] [(.ref b23)])) := fun t k => P22 t (st23 t k)
        have P25 : Rch p e below (s₁.setTop (entryFrame m #[(.int p1), (.int p2), (.int p3), (.long q4), (.long q5), (.int p6)] maxLocals)) (T23.setTop (mkF m 112 #[iv p1, iv p2, iv p3, lv q4, sd, lv q5, sd, iv p6, iv x1, iv x5, iv x6, iv x8, iv x10, lv y21, sd, un, un] [(.int x5), (.int x1), (.ref b23), (.ref b23)])) := fun t k => P24 t (by
          show Steps p.tables e below (T23.setTop (mkF m 107 #[iv p1, iv p2, iv p3, lv q4, sd, lv q5, sd, iv p6, iv x1, iv x5, iv x6, iv x8, iv x10, lv y21, sd, un, un] [(.ref b23)])) t
          refine XS.dup X23.here hx rfl (hb hby at_107) rfl rfl ?_
          refine XS.iload X23.here hx rfl (hb hby at_108) rfl ?_
          refine XS.iload X23.here hx rfl (hb hby at_110) rfl ?_
          exact k)
        have f27 : n0 ≤ h23.size := (Nat.le_trans Z0 E23.1)
        obtain ⟨_, _, ⟨T26, L26, k26, n26⟩, -, X26, ⟨Lc26, hQ26, l26, y26, z26⟩, st26⟩ := X23.specialBack hx (y := (⟨"com/example/kinhash/kinhash/BlockTable", "<init>", "(II)V"⟩ : MethodName)) rfl hown (mvT hZ (hw _ (List.mem_of_getElem? (i := 5) rfl))) (mvT hZ (hw _ (List.mem_of_getElem? (i := 6) rfl))) (mvT hZ (hw _ (List.mem_of_getElem? (i := 7) rfl))) (by decide) (backOf (W := 1) (rmI l Z a0 hw [] b23 x1 x5 h23 n0 f27 A23 g_b23 F23_12 F23_14 F23_16 F23_18 F23_21 F23_23 F23_25 F23_27 F23_30 F23_42 F23_56) hZ (hw _ (List.mem_of_getElem? (i := 7) rfl)) (hw _ (List.mem_of_getElem? (i := 4) rfl)) (by decide) (by decide)) (g := (mkF m 112 #[iv p1, iv p2, iv p3, lv q4, sd, lv q5, sd, iv p6, iv x1, iv x5, iv x6, iv x8, iv x10, lv y21, sd, un, un] [(.int x5), (.int x1), (.ref b23), (.ref b23)])) rfl (by rw [hml]; rfl) (Steps.refl _) (a := b23) (argsL := [(.int x1), (.int x5)]) (rest := [(.ref b23)]) (lenOf pd_8 rfl) rfl (by show 2 * 0 + _ ≤ _; exact Nat.le_of_eq rfl) (hb hby at_112) (fun _ _ => ⟨rfl, e23, (by decide : 1 + 5 ≤ _), (by decide : 11 + 11 ≤ _)⟩)
        dsimp only [Pt.U, Pt.locs, Pt.cells, Pt.slots] at X26 l26 y26 z26 st26 hQ26
        subst y26 z26
        have f28 : Keep h0 h23 [] := ((Keep.refl h0 []).ext E23)
        obtain ⟨mk_26, aS_26, aL_26, aR_26, aE_26, aT_26, kS_26, kL_26, kR_26, kE_26, kT_26, rfl, N26q, K26, Fz_aS_26, Fz_aL_26, Fz_aR_26, Fz_aE_26, Fz_aT_26, E1_26, Frb_26, Fmk_26, Flb_26, Fbb_26, Ffr_26, Fa_aS_26, Fa_aL_26, Fa_aR_26, Fa_aE_26, Fa_aT_26, V_aS_26, V_aL_26, V_aR_26, V_aE_26, V_aT_26, n_aS_aL_26, n_aS_aR_26, n_aS_aE_26, n_aS_aT_26, n_aL_aR_26, n_aL_aE_26, n_aL_aT_26, n_aR_aE_26, n_aR_aT_26, n_aE_aT_26⟩ := hQ26
        have N26 : Fr n0 L26 := by rw [l26]; exact Fr.app N0 N26q
        have g_aS_26 : n0 ≤ aS_26 := Nat.le_trans f27 Fz_aS_26
        have sz_aS_26 : h0.size ≤ aS_26 := Nat.le_trans f28.1 Fz_aS_26
        have ne_b23_aS_26 : b23 ≠ aS_26 := Nat.ne_of_lt (Nat.lt_of_lt_of_le A23.lt Fz_aS_26)
        have g_aL_26 : n0 ≤ aL_26 := Nat.le_trans f27 Fz_aL_26
        have sz_aL_26 : h0.size ≤ aL_26 := Nat.le_trans f28.1 Fz_aL_26
        have ne_b23_aL_26 : b23 ≠ aL_26 := Nat.ne_of_lt (Nat.lt_of_lt_of_le A23.lt Fz_aL_26)
        have g_aR_26 : n0 ≤ aR_26 := Nat.le_trans f27 Fz_aR_26
        have sz_aR_26 : h0.size ≤ aR_26 := Nat.le_trans f28.1 Fz_aR_26
        have ne_b23_aR_26 : b23 ≠ aR_26 := Nat.ne_of_lt (Nat.lt_of_lt_of_le A23.lt Fz_aR_26)
        have g_aE_26 : n0 ≤ aE_26 := Nat.le_trans f27 Fz_aE_26
        have sz_aE_26 : h0.size ≤ aE_26 := Nat.le_trans f28.1 Fz_aE_26
        have ne_b23_aE_26 : b23 ≠ aE_26 := Nat.ne_of_lt (Nat.lt_of_lt_of_le A23.lt Fz_aE_26)
        have g_aT_26 : n0 ≤ aT_26 := Nat.le_trans f27 Fz_aT_26
        have sz_aT_26 : h0.size ≤ aT_26 := Nat.le_trans f28.1 Fz_aT_26
        have ne_b23_aT_26 : b23 ≠ aT_26 := Nat.ne_of_lt (Nat.lt_of_lt_of_le A23.lt Fz_aT_26)
        have P29 : Rch p e below (s₁.setTop (entryFrame m #[(.int p1), (.int p2), (.int p3), (.long q4), (.long q5), (.int p6)] maxLocals)) (T26.setTop (mkF m 115 #[iv p1, iv p2, iv p3, lv q4, sd, lv q5, sd, iv p6, iv x1, iv x5, iv x6, iv x8, iv x10, lv y21, sd, un, un] [(.ref b23)])) := fun t k => P25 t (st26.trans k)
        have P30 : Rch p e below (s₁.setTop (entryFrame m #[(.int p1), (.int p2), (.int p3), (.long q4), (.long q5), (.int p6)] maxLocals)) (T26.setTop (mkF m 123 #[iv p1, iv p2, iv p3, lv q4, sd, lv q5, sd, iv p6, iv x1, iv x5, iv x6, iv x8, iv x10, lv y21, sd, rv b23, un] [.null, (.long q4), (.int x6), (.ref b23)])) := fun t k => P29 t (by
          show Steps p.tables e below (T26.setTop (mkF m 115 #[iv p1, iv p2, iv p3, lv q4, sd, lv q5, sd, iv p6, iv x1, iv x5, iv x6, iv x8, iv x10, lv y21, sd, un, un] [(.ref b23)])) t
          refine XS.astore X26.here hx rfl (hb hby at_115) rfl rfl (l' := #[iv p1, iv p2, iv p3, lv q4, sd, lv q5, sd, iv p6, iv x1, iv x5, iv x6, iv x8, iv x10, lv y21, sd, rv b23, un]) rfl ?_
          refine XS.aload X26.here hx rfl (hb hby at_117) rfl rfl ?_
          refine XS.iload X26.here hx rfl (hb hby at_119) rfl ?_
          show Steps p.tables e below (T26.setTop (mkF m 121 #[iv p1, iv p2, iv p3, lv q4, sd, lv q5, sd, iv p6, iv x1, iv x5, iv x6, iv x8, iv x10, lv y21, sd, rv b23, un] [(.int x6), (.ref b23)])) t
          refine XS.lloadN X26.here hx rfl (hb hby at_121) rfl ?_
          refine XS.aconstNull X26.here hx rfl (hb hby at_122) ?_
          exact k)
        have f32 : n0 ≤ T26.heap.size := (Nat.le_trans f27 K26.1)
        obtain ⟨cq31, kq31, q31a, q31b, q31c⟩ := isOf hZ rfl E1_26
        obtain ⟨_, _, ⟨T31, L31, k31, n31⟩, -, X31, ⟨Lc31, hQ31, l31, y31, z31⟩, st31⟩ := X26.virtualBack hx (y := (⟨"com/example/kinhash/kinhash/BlockTable", "add", "(IJLjava/util/function/IntToLongFunction;)V"⟩ : MethodName)) (z := (⟨"com/example/kinhash/kinhash/BlockTable", "add", "(IJLjava/util/function/IntToLongFunction;)V"⟩ : MethodName)) hown (mvT hZ (hw _ (List.mem_of_getElem? (i := 31) rfl))) (mvT hZ (hw _ (List.mem_of_getElem? (i := 32) rfl))) (notFace_of_selects (args := #[]) (mvT hZ (hw _ (List.mem_of_getElem? (i := 34) rfl)))) (mvT hZ (hw _ (List.mem_of_getElem? (i := 34) rfl))) (mvT hZ (hw _ (List.mem_of_getElem? (i := 33) rfl))) (by decide) (backOf (W := 0) (rmAdd0 l Z a0 hw [] b23 aS_26 aL_26 aR_26 aE_26 aT_26 kS_26 kL_26 kR_26 kE_26 kT_26 x6 q4 (16 : Int32) x1 mk_26 (0 : Int32) (0 : Int32) (0 : Int32) (0 : Int32) T26.heap n0 f32 E1_26 g_b23 g_aS_26 g_aL_26 g_aR_26 g_aE_26 g_aT_26 ne_b23_aS_26 ne_b23_aL_26 ne_b23_aR_26 ne_b23_aE_26 ne_b23_aT_26 n_aS_aL_26 n_aS_aR_26 n_aS_aE_26 n_aS_aT_26 n_aL_aR_26 n_aL_aE_26 n_aL_aT_26 n_aR_aE_26 n_aR_aT_26 n_aE_aT_26 Frb_26 Fmk_26 Flb_26 Fbb_26 Ffr_26 Fa_aS_26 Fa_aL_26 Fa_aR_26 Fa_aE_26 Fa_aT_26 V_aS_26 V_aL_26 V_aR_26 V_aE_26 V_aT_26 (by decide) hrg10) hZ (hw _ (List.mem_of_getElem? (i := 35) rfl)) (hw _ (List.mem_of_getElem? (i := 4) rfl)) (by decide) (by decide)) q31a q31c (g := (mkF m 123 #[iv p1, iv p2, iv p3, lv q4, sd, lv q5, sd, iv p6, iv x1, iv x5, iv x6, iv x8, iv x10, lv y21, sd, rv b23, un] [.null, (.long q4), (.int x6), (.ref b23)])) rfl (by rw [hml]; rfl) (Steps.refl _) (argsL := [(.int x6), (.long q4), .null]) (rest := []) (lenOf pd_9 rfl) rfl (by show 2 * 0 + _ ≤ _; exact Nat.le_of_eq rfl) (hb hby at_123) (fun _ _ => ⟨rfl, rfl, (by decide : 6 + 0 ≤ _), (by decide : 22 + 0 ≤ _)⟩)
        dsimp only [Pt.U, Pt.locs, Pt.cells, Pt.slots] at X31 l31 y31 z31 st31 hQ31
        subst y31 z31
        obtain ⟨rbx_31, ex0_31, tx_31, rfl, N31q, K31, E1_31, Frb_31, Fmk_31, Flb_31, Fbb_31, Ffr_31, Fa_aS_31, Fa_aL_31, Fa_aR_31, Fa_aE_31, Fa_aT_31, V_aS_31, V_aL_31, V_aR_31, V_aE_31, V_aT_31, hbx_31, okx0_31⟩ := hQ31
        have N31 : Fr n0 L31 := by rw [l31]; exact Fr.app N26 N31q
        have P33 : Rch p e below (s₁.setTop (entryFrame m #[(.int p1), (.int p2), (.int p3), (.long q4), (.long q5), (.int p6)] maxLocals)) (T31.setTop (mkF m 126 #[iv p1, iv p2, iv p3, lv q4, sd, lv q5, sd, iv p6, iv x1, iv x5, iv x6, iv x8, iv x10, lv y21, sd, rv b23, un] [])) := fun t k => P30 t (st31.trans k)
        have P34 : Rch p e below (s₁.setTop (entryFrame m #[(.int p1), (.int p2), (.int p3), (.long q4), (.long q5), (.int p6)] maxLocals)) (T31.setTop (mkF m 133 #[iv p1, iv p2, iv p3, lv q4, sd, lv q5, sd, iv p6, iv x1, iv x5, iv x6, iv x8, iv x10, lv y21, sd, rv b23, un] [.null, (.long q5), (.int x8), (.ref b23)])) := fun t k => P33 t (by
          show Steps p.tables e below (T31.setTop (mkF m 126 #[iv p1, iv p2, iv p3, lv q4, sd, lv q5, sd, iv p6, iv x1, iv x5, iv x6, iv x8, iv x10, lv y21, sd, rv b23, un] [])) t
          refine XS.aload X31.here hx rfl (hb hby at_126) rfl rfl ?_
          refine XS.iload X31.here hx rfl (hb hby at_128) rfl ?_
          refine XS.lload X31.here hx rfl (hb hby at_130) rfl ?_
          show Steps p.tables e below (T31.setTop (mkF m 132 #[iv p1, iv p2, iv p3, lv q4, sd, lv q5, sd, iv p6, iv x1, iv x5, iv x6, iv x8, iv x10, lv y21, sd, rv b23, un] [(.long q5), (.int x8), (.ref b23)])) t
          refine XS.aconstNull X31.here hx rfl (hb hby at_132) ?_
          exact k)
        have f36 : n0 ≤ T31.heap.size := (Nat.le_trans f32 K31.1)
        obtain ⟨cq35, kq35, q35a, q35b, q35c⟩ := isOf hZ rfl E1_31
        obtain ⟨_, _, ⟨T35, L35, k35, n35⟩, -, X35, ⟨Lc35, hQ35, l35, y35, z35⟩, st35⟩ := X31.virtualBack hx (y := (⟨"com/example/kinhash/kinhash/BlockTable", "add", "(IJLjava/util/function/IntToLongFunction;)V"⟩ : MethodName)) (z := (⟨"com/example/kinhash/kinhash/BlockTable", "add", "(IJLjava/util/function/IntToLongFunction;)V"⟩ : MethodName)) hown (mvT hZ (hw _ (List.mem_of_getElem? (i := 31) rfl))) (mvT hZ (hw _ (List.mem_of_getElem? (i := 32) rfl))) (notFace_of_selects (args := #[]) (mvT hZ (hw _ (List.mem_of_getElem? (i := 34) rfl)))) (mvT hZ (hw _ (List.mem_of_getElem? (i := 34) rfl))) (mvT hZ (hw _ (List.mem_of_getElem? (i := 33) rfl))) (by decide) (backOf (W := 0) (rmAdd1 l Z a0 hw [] b23 aS_26 aL_26 aR_26 aE_26 aT_26 kS_26 kL_26 kR_26 kE_26 kT_26 x8 q5 rbx_31 x1 mk_26 ex0_31 tx_31 (0 : Int32) (0 : Int32) (0 : Int32) x6 T31.heap n0 f36 E1_31 g_b23 g_aS_26 g_aL_26 g_aR_26 g_aE_26 g_aT_26 ne_b23_aS_26 ne_b23_aL_26 ne_b23_aR_26 ne_b23_aE_26 ne_b23_aT_26 n_aS_aL_26 n_aS_aR_26 n_aS_aE_26 n_aS_aT_26 n_aL_aR_26 n_aL_aE_26 n_aL_aT_26 n_aR_aE_26 n_aR_aT_26 n_aE_aT_26 Frb_31 Fmk_31 Flb_31 Fbb_31 Ffr_31 Fa_aS_31 Fa_aL_31 Fa_aR_31 Fa_aE_31 Fa_aT_31 V_aS_31 V_aL_31 V_aR_31 V_aE_31 V_aT_31 hbx_31 okx0_31 hrg11) hZ (hw _ (List.mem_of_getElem? (i := 35) rfl)) (hw _ (List.mem_of_getElem? (i := 4) rfl)) (by decide) (by decide)) q35a q35c (g := (mkF m 133 #[iv p1, iv p2, iv p3, lv q4, sd, lv q5, sd, iv p6, iv x1, iv x5, iv x6, iv x8, iv x10, lv y21, sd, rv b23, un] [.null, (.long q5), (.int x8), (.ref b23)])) rfl (by rw [hml]; rfl) (Steps.refl _) (argsL := [(.int x8), (.long q5), .null]) (rest := []) (lenOf pd_9 rfl) rfl (by show 2 * 0 + _ ≤ _; exact Nat.le_of_eq rfl) (hb hby at_133) (fun _ _ => ⟨rfl, rfl, (by decide : 6 + 0 ≤ _), (by decide : 22 + 0 ≤ _)⟩)
        dsimp only [Pt.U, Pt.locs, Pt.cells, Pt.slots] at X35 l35 y35 z35 st35 hQ35
        subst y35 z35
        obtain ⟨rbx_35, ex0_35, ex1_35, tx_35, rfl, N35q, K35, E1_35, Frb_35, Fmk_35, Flb_35, Fbb_35, Ffr_35, Fa_aS_35, Fa_aL_35, Fa_aR_35, Fa_aE_35, Fa_aT_35, V_aS_35, V_aL_35, V_aR_35, V_aE_35, V_aT_35, hbx_35, okx0_35, okx1_35⟩ := hQ35
        have N35 : Fr n0 L35 := by rw [l35]; exact Fr.app N31 N35q
        have P37 : Rch p e below (s₁.setTop (entryFrame m #[(.int p1), (.int p2), (.int p3), (.long q4), (.long q5), (.int p6)] maxLocals)) (T35.setTop (mkF m 136 #[iv p1, iv p2, iv p3, lv q4, sd, lv q5, sd, iv p6, iv x1, iv x5, iv x6, iv x8, iv x10, lv y21, sd, rv b23, un] [])) := fun t k => P34 t (st35.trans k)
        have P38 : Rch p e below (s₁.setTop (entryFrame m #[(.int p1), (.int p2), (.int p3), (.long q4), (.long q5), (.int p6)] maxLocals)) (T35.setTop (mkF m 143 #[iv p1, iv p2, iv p3, lv q4, sd, lv q5, sd, iv p6, iv x1, iv x5, iv x6, iv x8, iv x10, lv y21, sd, rv b23, un] [.null, (.long y21), (.int x10), (.ref b23)])) := fun t k => P37 t (by
          show Steps p.tables e below (T35.setTop (mkF m 136 #[iv p1, iv p2, iv p3, lv q4, sd, lv q5, sd, iv p6, iv x1, iv x5, iv x6, iv x8, iv x10, lv y21, sd, rv b23, un] [])) t
          refine XS.aload X35.here hx rfl (hb hby at_136) rfl rfl ?_
          refine XS.iload X35.here hx rfl (hb hby at_138) rfl ?_
          refine XS.lload X35.here hx rfl (hb hby at_140) rfl ?_
          show Steps p.tables e below (T35.setTop (mkF m 142 #[iv p1, iv p2, iv p3, lv q4, sd, lv q5, sd, iv p6, iv x1, iv x5, iv x6, iv x8, iv x10, lv y21, sd, rv b23, un] [(.long y21), (.int x10), (.ref b23)])) t
          refine XS.aconstNull X35.here hx rfl (hb hby at_142) ?_
          exact k)
        have f40 : n0 ≤ T35.heap.size := (Nat.le_trans f36 K35.1)
        obtain ⟨cq39, kq39, q39a, q39b, q39c⟩ := isOf hZ rfl E1_35
        obtain ⟨_, _, ⟨T39, L39, k39, n39⟩, -, X39, ⟨Lc39, hQ39, l39, y39, z39⟩, st39⟩ := X35.virtualBack hx (y := (⟨"com/example/kinhash/kinhash/BlockTable", "add", "(IJLjava/util/function/IntToLongFunction;)V"⟩ : MethodName)) (z := (⟨"com/example/kinhash/kinhash/BlockTable", "add", "(IJLjava/util/function/IntToLongFunction;)V"⟩ : MethodName)) hown (mvT hZ (hw _ (List.mem_of_getElem? (i := 31) rfl))) (mvT hZ (hw _ (List.mem_of_getElem? (i := 32) rfl))) (notFace_of_selects (args := #[]) (mvT hZ (hw _ (List.mem_of_getElem? (i := 34) rfl)))) (mvT hZ (hw _ (List.mem_of_getElem? (i := 34) rfl))) (mvT hZ (hw _ (List.mem_of_getElem? (i := 33) rfl))) (by decide) (backOf (W := 0) (rmAdd2 l Z a0 hw [] b23 aS_26 aL_26 aR_26 aE_26 aT_26 kS_26 kL_26 kR_26 kE_26 kT_26 x10 y21 rbx_35 x1 mk_26 ex0_35 ex1_35 tx_31 tx_35 (0 : Int32) (0 : Int32) x6 x8 T35.heap n0 f40 E1_35 g_b23 g_aS_26 g_aL_26 g_aR_26 g_aE_26 g_aT_26 ne_b23_aS_26 ne_b23_aL_26 ne_b23_aR_26 ne_b23_aE_26 ne_b23_aT_26 n_aS_aL_26 n_aS_aR_26 n_aS_aE_26 n_aS_aT_26 n_aL_aR_26 n_aL_aE_26 n_aL_aT_26 n_aR_aE_26 n_aR_aT_26 n_aE_aT_26 Frb_35 Fmk_35 Flb_35 Fbb_35 Ffr_35 Fa_aS_35 Fa_aL_35 Fa_aR_35 Fa_aE_35 Fa_aT_35 V_aS_35 V_aL_35 V_aR_35 V_aE_35 V_aT_35 hbx_35 okx0_35 okx1_35 hrg12) hZ (hw _ (List.mem_of_getElem? (i := 35) rfl)) (hw _ (List.mem_of_getElem? (i := 4) rfl)) (by decide) (by decide)) q39a q39c (g := (mkF m 143 #[iv p1, iv p2, iv p3, lv q4, sd, lv q5, sd, iv p6, iv x1, iv x5, iv x6, iv x8, iv x10, lv y21, sd, rv b23, un] [.null, (.long y21), (.int x10), (.ref b23)])) rfl (by rw [hml]; rfl) (Steps.refl _) (argsL := [(.int x10), (.long y21), .null]) (rest := []) (lenOf pd_9 rfl) rfl (by show 2 * 0 + _ ≤ _; exact Nat.le_of_eq rfl) (hb hby at_143) (fun _ _ => ⟨rfl, rfl, (by decide : 6 + 0 ≤ _), (by decide : 22 + 0 ≤ _)⟩)
        dsimp only [Pt.U, Pt.locs, Pt.cells, Pt.slots] at X39 l39 y39 z39 st39 hQ39
        subst y39 z39
        obtain ⟨rbx_39, ex0_39, ex1_39, ex2_39, tx_39, rfl, N39q, K39, E1_39, Frb_39, Fmk_39, Flb_39, Fbb_39, Ffr_39, Fa_aS_39, Fa_aL_39, Fa_aR_39, Fa_aE_39, Fa_aT_39, V_aS_39, V_aL_39, V_aR_39, V_aE_39, V_aT_39, hbx_39, okx0_39, okx1_39, okx2_39⟩ := hQ39
        have N39 : Fr n0 L39 := by rw [l39]; exact Fr.app N35 N39q
        have P41 : Rch p e below (s₁.setTop (entryFrame m #[(.int p1), (.int p2), (.int p3), (.long q4), (.long q5), (.int p6)] maxLocals)) (T39.setTop (mkF m 146 #[iv p1, iv p2, iv p3, lv q4, sd, lv q5, sd, iv p6, iv x1, iv x5, iv x6, iv x8, iv x10, lv y21, sd, rv b23, un] [])) := fun t k => P38 t (st39.trans k)
        have P42 : Rch p e below (s₁.setTop (entryFrame m #[(.int p1), (.int p2), (.int p3), (.long q4), (.long q5), (.int p6)] maxLocals)) (T39.setTop (mkF m 149 #[iv p1, iv p2, iv p3, lv q4, sd, lv q5, sd, iv p6, iv x1, iv x5, iv x6, iv x8, iv x10, lv y21, sd, rv b23, un] [(.int (0 : Int32)), (.ref b23)])) := fun t k => P41 t (by
          show Steps p.tables e below (T39.setTop (mkF m 146 #[iv p1, iv p2, iv p3, lv q4, sd, lv q5, sd, iv p6, iv x1, iv x5, iv x6, iv x8, iv x10, lv y21, sd, rv b23, un] [])) t
          refine XS.aload X39.here hx rfl (hb hby at_146) rfl rfl ?_
          refine XS.iconst X39.here hx rfl (hb hby at_148) ?_
          exact k)
        have f44 : n0 ≤ T39.heap.size := (Nat.le_trans f40 K39.1)
        obtain ⟨cq43, kq43, q43a, q43b, q43c⟩ := isOf hZ rfl E1_39
        obtain ⟨_, _, ⟨T43, L43, k43, n43⟩, -, X43, ⟨Lc43, hQ43, l43, y43, z43⟩, st43⟩ := X39.virtualBack hx (y := (⟨"com/example/kinhash/kinhash/BlockTable", "start", "(I)I"⟩ : MethodName)) (z := (⟨"com/example/kinhash/kinhash/BlockTable", "start", "(I)I"⟩ : MethodName)) hown (mvT hZ (hw _ (List.mem_of_getElem? (i := 83) rfl))) (mvT hZ (hw _ (List.mem_of_getElem? (i := 84) rfl))) (notFace_of_selects (args := #[]) (mvT hZ (hw _ (List.mem_of_getElem? (i := 86) rfl)))) (mvT hZ (hw _ (List.mem_of_getElem? (i := 86) rfl))) (mvT hZ (hw _ (List.mem_of_getElem? (i := 85) rfl))) (by decide) (backOf (W := 0) (rmSt l Z a0 hw [] b23 aS_26 kS_26 (0 : Int32) T39.heap n0 f44 Fa_aS_39 V_aS_39) hZ (hw _ (List.mem_of_getElem? (i := 87) rfl)) (hw _ (List.mem_of_getElem? (i := 4) rfl)) (by decide) (by decide)) q43a q43c (g := (mkF m 149 #[iv p1, iv p2, iv p3, lv q4, sd, lv q5, sd, iv p6, iv x1, iv x5, iv x6, iv x8, iv x10, lv y21, sd, rv b23, un] [(.int (0 : Int32)), (.ref b23)])) rfl (by rw [hml]; rfl) (Steps.refl _) (argsL := [(.int (0 : Int32))]) (rest := []) (lenOf pd_3 rfl) rfl (by show 2 * 0 + _ ≤ _; exact Nat.le_of_eq rfl) (hb hby at_149) (fun _ _ => ⟨rfl, rfl, (by decide : 6 + 0 ≤ _), (by decide : 22 + 0 ≤ _)⟩)
        dsimp only [Pt.U, Pt.locs, Pt.cells, Pt.slots] at X43 l43 y43 z43 st43 hQ43
        subst y43 z43
        obtain ⟨rfl, N43q, e43⟩ := hQ43
        have N43 : Fr n0 L43 := by rw [l43]; exact Fr.app N39 N43q
        have P45 : Rch p e below (s₁.setTop (entryFrame m #[(.int p1), (.int p2), (.int p3), (.long q4), (.long q5), (.int p6)] maxLocals)) (T43.setTop (mkF m 152 #[iv p1, iv p2, iv p3, lv q4, sd, lv q5, sd, iv p6, iv x1, iv x5, iv x6, iv x8, iv x10, lv y21, sd, rv b23, un] [(.int (0 : Int32))])) := fun t k => P42 t (st43.trans k)
        have P46 : Rch p e below (s₁.setTop (entryFrame m #[(.int p1), (.int p2), (.int p3), (.long q4), (.long q5), (.int p6)] maxLocals)) (T43.setTop (mkF m 158 #[iv p1, iv p2, iv p3, lv q4, sd, lv q5, sd, iv p6, iv x1, iv x5, iv x6, iv x8, iv x10, lv y21, sd, rv b23, iv (0 : Int32)] [(.int (0 : Int32)), (.ref b23)])) := fun t k => P45 t (by
          show Steps p.tables e below (T43.setTop (mkF m 152 #[iv p1, iv p2, iv p3, lv q4, sd, lv q5, sd, iv p6, iv x1, iv x5, iv x6, iv x8, iv x10, lv y21, sd, rv b23, un] [(.int (0 : Int32))])) t
          refine XS.istore X43.here hx rfl (hb hby at_152) rfl (l' := #[iv p1, iv p2, iv p3, lv q4, sd, lv q5, sd, iv p6, iv x1, iv x5, iv x6, iv x8, iv x10, lv y21, sd, rv b23, iv (0 : Int32)]) rfl ?_
          refine XS.aload X43.here hx rfl (hb hby at_154) rfl rfl ?_
          refine XS.iload X43.here hx rfl (hb hby at_156) rfl ?_
          exact k)
        obtain ⟨cq47, kq47, q47a, q47b, q47c⟩ := isOf hZ e43 E1_39
        obtain ⟨_, _, ⟨T47, L47, k47, n47⟩, -, X47, ⟨Lc47, hQ47, l47, y47, z47⟩, st47⟩ := X43.virtualBack hx (y := (⟨"com/example/kinhash/kinhash/BlockTable", "record", "(I)I"⟩ : MethodName)) (z := (⟨"com/example/kinhash/kinhash/BlockTable", "record", "(I)I"⟩ : MethodName)) hown (mvT hZ (hw _ (List.mem_of_getElem? (i := 88) rfl))) (mvT hZ (hw _ (List.mem_of_getElem? (i := 89) rfl))) (notFace_of_selects (args := #[]) (mvT hZ (hw _ (List.mem_of_getElem? (i := 91) rfl)))) (mvT hZ (hw _ (List.mem_of_getElem? (i := 91) rfl))) (mvT hZ (hw _ (List.mem_of_getElem? (i := 90) rfl))) (by decide) (backOf (W := 0) (rmRec0 l Z a0 hw [] b23 rbx_39 aE_26 kE_26 ex0_39 ex1_39 ex2_39 (0 : Int32) T39.heap n0 f44 Fa_aE_39 Frb_39 V_aE_39) hZ (hw _ (List.mem_of_getElem? (i := 92) rfl)) (hw _ (List.mem_of_getElem? (i := 4) rfl)) (by decide) (by decide)) q47a q47c (g := (mkF m 158 #[iv p1, iv p2, iv p3, lv q4, sd, lv q5, sd, iv p6, iv x1, iv x5, iv x6, iv x8, iv x10, lv y21, sd, rv b23, iv (0 : Int32)] [(.int (0 : Int32)), (.ref b23)])) rfl (by rw [hml]; rfl) (Steps.refl _) (argsL := [(.int (0 : Int32))]) (rest := []) (lenOf pd_3 rfl) rfl (by show 2 * 0 + _ ≤ _; exact Nat.le_of_eq rfl) (hb hby at_158) (fun _ _ => ⟨rfl, e43, (by decide : 6 + 0 ≤ _), (by decide : 22 + 0 ≤ _)⟩)
        dsimp only [Pt.U, Pt.locs, Pt.cells, Pt.slots] at X47 l47 y47 z47 st47 hQ47
        subst y47 z47
        obtain ⟨rfl, N47q, e47⟩ := hQ47
        have N47 : Fr n0 L47 := by rw [l47]; exact Fr.app N43 N47q
        have P48 : Rch p e below (s₁.setTop (entryFrame m #[(.int p1), (.int p2), (.int p3), (.long q4), (.long q5), (.int p6)] maxLocals)) (T47.setTop (mkF m 161 #[iv p1, iv p2, iv p3, lv q4, sd, lv q5, sd, iv p6, iv x1, iv x5, iv x6, iv x8, iv x10, lv y21, sd, rv b23, iv (0 : Int32)] [(.int (own_rec rbx_39 ex0_39))])) := fun t k => P46 t (st47.trans k)
        obtain ⟨x49, hx49⟩ : ∃ z : Int32, z = (own_rec rbx_39 ex0_39) := ⟨_, rfl⟩
        rw [← hx49] at P48
        have P50 : Rch p e below (s₁.setTop (entryFrame m #[(.int p1), (.int p2), (.int p3), (.long q4), (.long q5), (.int p6)] maxLocals)) (T47.setTop (mkF m 163 #[iv p1, iv p2, iv p3, lv q4, sd, lv q5, sd, iv p6, iv x1, iv x5, iv x6, iv x8, iv x10, lv y21, sd, rv b23, iv (0 : Int32)] [(.int x6), (.int x49)])) := fun t k => P48 t (by
          show Steps p.tables e below (T47.setTop (mkF m 161 #[iv p1, iv p2, iv p3, lv q4, sd, lv q5, sd, iv p6, iv x1, iv x5, iv x6, iv x8, iv x10, lv y21, sd, rv b23, iv (0 : Int32)] [(.int x49)])) t
          refine XS.iload X47.here hx rfl (hb hby at_161) rfl ?_
          exact k)
        have hq10 : x49 = x6 := by rw [hx49]; exact okx0_39
        have P51 : Rch p e below (s₁.setTop (entryFrame m #[(.int p1), (.int p2), (.int p3), (.long q4), (.long q5), (.int p6)] maxLocals)) (T47.setTop (mkF m 172 #[iv p1, iv p2, iv p3, lv q4, sd, lv q5, sd, iv p6, iv x1, iv x5, iv x6, iv x8, iv x10, lv y21, sd, rv b23, iv (0 : Int32)] [(.int (1 : Int32)), (.ref b23)])) := fun t k => P50 t (by
          show Steps p.tables e below (T47.setTop (mkF m 163 #[iv p1, iv p2, iv p3, lv q4, sd, lv q5, sd, iv p6, iv x1, iv x5, iv x6, iv x8, iv x10, lv y21, sd, rv b23, iv (0 : Int32)] [(.int x6), (.int x49)])) t
          refine XS.icmpNo X47.here hx rfl (hb hby at_163) rfl (teq hq10).2 ?_
          refine XS.aload X47.here hx rfl (hb hby at_166) rfl rfl ?_
          refine XS.iload X47.here hx rfl (hb hby at_168) rfl ?_
          show Steps p.tables e below (T47.setTop (mkF m 170 #[iv p1, iv p2, iv p3, lv q4, sd, lv q5, sd, iv p6, iv x1, iv x5, iv x6, iv x8, iv x10, lv y21, sd, rv b23, iv (0 : Int32)] [(.int (0 : Int32)), (.ref b23)])) t
          refine XS.iconst X47.here hx rfl (hb hby at_170) ?_
          refine XS.iadd X47.here hx rfl (hb hby at_171) rfl ?_
          exact k)
        obtain ⟨cq52, kq52, q52a, q52b, q52c⟩ := isOf hZ e47 E1_39
        obtain ⟨_, _, ⟨T52, L52, k52, n52⟩, -, X52, ⟨Lc52, hQ52, l52, y52, z52⟩, st52⟩ := X47.virtualBack hx (y := (⟨"com/example/kinhash/kinhash/BlockTable", "record", "(I)I"⟩ : MethodName)) (z := (⟨"com/example/kinhash/kinhash/BlockTable", "record", "(I)I"⟩ : MethodName)) hown (mvT hZ (hw _ (List.mem_of_getElem? (i := 88) rfl))) (mvT hZ (hw _ (List.mem_of_getElem? (i := 89) rfl))) (notFace_of_selects (args := #[]) (mvT hZ (hw _ (List.mem_of_getElem? (i := 91) rfl)))) (mvT hZ (hw _ (List.mem_of_getElem? (i := 91) rfl))) (mvT hZ (hw _ (List.mem_of_getElem? (i := 90) rfl))) (by decide) (backOf (W := 0) (rmRec1 l Z a0 hw [] b23 rbx_39 aE_26 kE_26 ex0_39 ex1_39 ex2_39 (0 : Int32) T39.heap n0 f44 Fa_aE_39 Frb_39 V_aE_39) hZ (hw _ (List.mem_of_getElem? (i := 92) rfl)) (hw _ (List.mem_of_getElem? (i := 4) rfl)) (by decide) (by decide)) q52a q52c (g := (mkF m 172 #[iv p1, iv p2, iv p3, lv q4, sd, lv q5, sd, iv p6, iv x1, iv x5, iv x6, iv x8, iv x10, lv y21, sd, rv b23, iv (0 : Int32)] [(.int (1 : Int32)), (.ref b23)])) rfl (by rw [hml]; rfl) (Steps.refl _) (argsL := [(.int (1 : Int32))]) (rest := []) (lenOf pd_3 rfl) rfl (by show 2 * 0 + _ ≤ _; exact Nat.le_of_eq rfl) (hb hby at_172) (fun _ _ => ⟨rfl, e47, (by decide : 6 + 0 ≤ _), (by decide : 22 + 0 ≤ _)⟩)
        dsimp only [Pt.U, Pt.locs, Pt.cells, Pt.slots] at X52 l52 y52 z52 st52 hQ52
        subst y52 z52
        obtain ⟨rfl, N52q, e52⟩ := hQ52
        have N52 : Fr n0 L52 := by rw [l52]; exact Fr.app N47 N52q
        have P53 : Rch p e below (s₁.setTop (entryFrame m #[(.int p1), (.int p2), (.int p3), (.long q4), (.long q5), (.int p6)] maxLocals)) (T52.setTop (mkF m 175 #[iv p1, iv p2, iv p3, lv q4, sd, lv q5, sd, iv p6, iv x1, iv x5, iv x6, iv x8, iv x10, lv y21, sd, rv b23, iv (0 : Int32)] [(.int (own_rec rbx_39 ex1_39))])) := fun t k => P51 t (st52.trans k)
        obtain ⟨x54, hx54⟩ : ∃ z : Int32, z = (own_rec rbx_39 ex1_39) := ⟨_, rfl⟩
        rw [← hx54] at P53
        have P55 : Rch p e below (s₁.setTop (entryFrame m #[(.int p1), (.int p2), (.int p3), (.long q4), (.long q5), (.int p6)] maxLocals)) (T52.setTop (mkF m 177 #[iv p1, iv p2, iv p3, lv q4, sd, lv q5, sd, iv p6, iv x1, iv x5, iv x6, iv x8, iv x10, lv y21, sd, rv b23, iv (0 : Int32)] [(.int x8), (.int x54)])) := fun t k => P53 t (by
          show Steps p.tables e below (T52.setTop (mkF m 175 #[iv p1, iv p2, iv p3, lv q4, sd, lv q5, sd, iv p6, iv x1, iv x5, iv x6, iv x8, iv x10, lv y21, sd, rv b23, iv (0 : Int32)] [(.int x54)])) t
          refine XS.iload X52.here hx rfl (hb hby at_175) rfl ?_
          exact k)
        have hq11 : x54 = x8 := by rw [hx54]; exact okx1_39
        have P56 : Rch p e below (s₁.setTop (entryFrame m #[(.int p1), (.int p2), (.int p3), (.long q4), (.long q5), (.int p6)] maxLocals)) (T52.setTop (mkF m 186 #[iv p1, iv p2, iv p3, lv q4, sd, lv q5, sd, iv p6, iv x1, iv x5, iv x6, iv x8, iv x10, lv y21, sd, rv b23, iv (0 : Int32)] [(.int (2 : Int32)), (.ref b23)])) := fun t k => P55 t (by
          show Steps p.tables e below (T52.setTop (mkF m 177 #[iv p1, iv p2, iv p3, lv q4, sd, lv q5, sd, iv p6, iv x1, iv x5, iv x6, iv x8, iv x10, lv y21, sd, rv b23, iv (0 : Int32)] [(.int x8), (.int x54)])) t
          refine XS.icmpNo X52.here hx rfl (hb hby at_177) rfl (teq hq11).2 ?_
          refine XS.aload X52.here hx rfl (hb hby at_180) rfl rfl ?_
          refine XS.iload X52.here hx rfl (hb hby at_182) rfl ?_
          show Steps p.tables e below (T52.setTop (mkF m 184 #[iv p1, iv p2, iv p3, lv q4, sd, lv q5, sd, iv p6, iv x1, iv x5, iv x6, iv x8, iv x10, lv y21, sd, rv b23, iv (0 : Int32)] [(.int (0 : Int32)), (.ref b23)])) t
          refine XS.iconst X52.here hx rfl (hb hby at_184) ?_
          refine XS.iadd X52.here hx rfl (hb hby at_185) rfl ?_
          exact k)
        obtain ⟨cq57, kq57, q57a, q57b, q57c⟩ := isOf hZ e52 E1_39
        obtain ⟨_, _, ⟨T57, L57, k57, n57⟩, -, X57, ⟨Lc57, hQ57, l57, y57, z57⟩, st57⟩ := X52.virtualBack hx (y := (⟨"com/example/kinhash/kinhash/BlockTable", "record", "(I)I"⟩ : MethodName)) (z := (⟨"com/example/kinhash/kinhash/BlockTable", "record", "(I)I"⟩ : MethodName)) hown (mvT hZ (hw _ (List.mem_of_getElem? (i := 88) rfl))) (mvT hZ (hw _ (List.mem_of_getElem? (i := 89) rfl))) (notFace_of_selects (args := #[]) (mvT hZ (hw _ (List.mem_of_getElem? (i := 91) rfl)))) (mvT hZ (hw _ (List.mem_of_getElem? (i := 91) rfl))) (mvT hZ (hw _ (List.mem_of_getElem? (i := 90) rfl))) (by decide) (backOf (W := 0) (rmRec2 l Z a0 hw [] b23 rbx_39 aE_26 kE_26 ex0_39 ex1_39 ex2_39 (0 : Int32) T39.heap n0 f44 Fa_aE_39 Frb_39 V_aE_39) hZ (hw _ (List.mem_of_getElem? (i := 92) rfl)) (hw _ (List.mem_of_getElem? (i := 4) rfl)) (by decide) (by decide)) q57a q57c (g := (mkF m 186 #[iv p1, iv p2, iv p3, lv q4, sd, lv q5, sd, iv p6, iv x1, iv x5, iv x6, iv x8, iv x10, lv y21, sd, rv b23, iv (0 : Int32)] [(.int (2 : Int32)), (.ref b23)])) rfl (by rw [hml]; rfl) (Steps.refl _) (argsL := [(.int (2 : Int32))]) (rest := []) (lenOf pd_3 rfl) rfl (by show 2 * 0 + _ ≤ _; exact Nat.le_of_eq rfl) (hb hby at_186) (fun _ _ => ⟨rfl, e52, (by decide : 6 + 0 ≤ _), (by decide : 22 + 0 ≤ _)⟩)
        dsimp only [Pt.U, Pt.locs, Pt.cells, Pt.slots] at X57 l57 y57 z57 st57 hQ57
        subst y57 z57
        obtain ⟨rfl, N57q, e57⟩ := hQ57
        have N57 : Fr n0 L57 := by rw [l57]; exact Fr.app N52 N57q
        have P58 : Rch p e below (s₁.setTop (entryFrame m #[(.int p1), (.int p2), (.int p3), (.long q4), (.long q5), (.int p6)] maxLocals)) (T57.setTop (mkF m 189 #[iv p1, iv p2, iv p3, lv q4, sd, lv q5, sd, iv p6, iv x1, iv x5, iv x6, iv x8, iv x10, lv y21, sd, rv b23, iv (0 : Int32)] [(.int (own_rec rbx_39 ex2_39))])) := fun t k => P56 t (st57.trans k)
        obtain ⟨x59, hx59⟩ : ∃ z : Int32, z = (own_rec rbx_39 ex2_39) := ⟨_, rfl⟩
        rw [← hx59] at P58
        have P60 : Rch p e below (s₁.setTop (entryFrame m #[(.int p1), (.int p2), (.int p3), (.long q4), (.long q5), (.int p6)] maxLocals)) (T57.setTop (mkF m 191 #[iv p1, iv p2, iv p3, lv q4, sd, lv q5, sd, iv p6, iv x1, iv x5, iv x6, iv x8, iv x10, lv y21, sd, rv b23, iv (0 : Int32)] [(.int x10), (.int x59)])) := fun t k => P58 t (by
          show Steps p.tables e below (T57.setTop (mkF m 189 #[iv p1, iv p2, iv p3, lv q4, sd, lv q5, sd, iv p6, iv x1, iv x5, iv x6, iv x8, iv x10, lv y21, sd, rv b23, iv (0 : Int32)] [(.int x59)])) t
          refine XS.iload X57.here hx rfl (hb hby at_189) rfl ?_
          exact k)
        have hq12 : x59 = x10 := by rw [hx59]; exact okx2_39
        have P61 : Rch p e below (s₁.setTop (entryFrame m #[(.int p1), (.int p2), (.int p3), (.long q4), (.long q5), (.int p6)] maxLocals)) (T57.setTop (mkF m 199 #[iv p1, iv p2, iv p3, lv q4, sd, lv q5, sd, iv p6, iv x1, iv x5, iv x6, iv x8, iv x10, lv y21, sd, rv b23, iv (0 : Int32)] [(.int (1 : Int32))])) := fun t k => P60 t (by
          show Steps p.tables e below (T57.setTop (mkF m 191 #[iv p1, iv p2, iv p3, lv q4, sd, lv q5, sd, iv p6, iv x1, iv x5, iv x6, iv x8, iv x10, lv y21, sd, rv b23, iv (0 : Int32)] [(.int x10), (.int x59)])) t
          refine XS.icmpNo X57.here hx rfl (hb hby at_191) rfl (teq hq12).2 ?_
          refine XS.iconst X57.here hx rfl (hb hby at_194) ?_
          refine XS.goto X57.here hx rfl (pc0 := 195) (pc' := 199) rfl (hb hby at_195) (by decide) (by decide) ?_
          exact k)
        obtain ⟨fs, hr, hrun, hended, hW, hsame⟩ := X57.leave (v := some (.int (1 : Int32))) (fun h => by rw [Bd.returns] at h; cases h)
        refine ⟨_, _, P61 _ ?_, hrun, hended, _, _, rfl, ?_, ⟨_, rfl⟩, hW, hsame.mono (by decide) (by decide)⟩
        · exact retN X57 hx (t := .boolean) Bd.returns (by simp) (hb hby at_199) hr
        · show Q_rm0 Z p1 p2 p3 q4 q5 p6 h0 n0 _ T57.heap _
          rw [e57]
          exact ⟨rfl, N57⟩
set_option maxRecDepth 65536 in
set_option maxHeartbeats 40000000 in
theorem comes_1 {Post : Tables → Env → Array Value → State → Outcome → State → Prop} (hpost : ∀ tb e args s v u, (limb_1_1.after args s (.returned v) u = true ∧ limb_1_2.after args s (.returned v) u = true ∧ True) → FrameEnd s (.returned v) u (Jvm.fieldLocs frame_1_writes args s ++ Jvm.arrayLocs frame_1_arrays args s ++ Jvm.staticLocs frame_1_statics s) 24 128 → Post tb e args s (.returned v) u) :
    ArmFor flags0 classFile x code maxLocals ret World_1 tables_1 room_1 Calls_1 rest_1 Pre_1 Post := by
  intro l hfl _ _ p e ha hc hk s m args below hf hA hF happ hP
  obtain ⟨hcalls, hrest, hpre⟩ := hP
  obtain ⟨-, -, -, hnamed, -, -, -, hat⟩ := (Spec.applies_iff hf).mp happ
  obtain ⟨hg, hn⟩ := and_e (Cond.before_iff.mp (show (Jvm.Cond.and given_1 narrow_1).before args s = true from hpre))
  obtain ⟨gc, gr0⟩ := and_e hg
  obtain ⟨ga0, gr1⟩ := and_e gr0
  obtain ⟨ga1, gr2⟩ := and_e gr1
  obtain ⟨ga2, gr3⟩ := and_e gr2
  obtain ⟨ga3, gr4⟩ := and_e gr3
  obtain ⟨ga4, gr5⟩ := and_e gr4
  obtain ⟨w0, w1, w2, w3, w4, w5, rfl⟩ : ∃ w0 w1 w2 w3 w4 w5 : Value, args = #[w0, w1, w2, w3, w4, w5] := by
    have hs : args.size = 6 := by simpa [Cond.value, given_1] using gc
    obtain ⟨L⟩ := args
    match L, hs with
    | [w0, w1, w2, w3, w4, w5], _ => exact ⟨w0, w1, w2, w3, w4, w5, rfl⟩
  have hw := fun d (hd : d ∈ tables_1) => atoms_spec (ws := Jvm.Cond.code x code maxLocals ret :: tables_1) hat d (List.mem_cons_of_mem _ hd)
  have hfit : Fit s := fun {y c} hc i hi => by
    obtain ⟨ha, rfl⟩ := Array.getElem?_eq_some_iff.mp hc
    have q := List.all_eq_true.mp ((Array.all_eq_true_iff_forall_mem.mp hF) _ (Array.getElem_mem ha)) i (List.mem_range.mpr hi)
    simpa [Array.getElem?_eq_getElem hi] using q
  obtain ⟨i0, ei0⟩ := is_v ga0
  obtain rfl : w0 = (.int i0) := Option.some.inj ei0
  obtain ⟨i1, ei1⟩ := is_v ga1
  obtain rfl : w1 = (.int i1) := Option.some.inj ei1
  obtain ⟨i2, ei2⟩ := is_v ga2
  obtain rfl : w2 = (.int i2) := Option.some.inj ei2
  obtain ⟨i3, ei3⟩ := isL_v ga3
  obtain rfl : w3 = (.long i3) := Option.some.inj ei3
  obtain ⟨i4, ei4⟩ := isL_v ga4
  obtain rfl : w4 = (.long i4) := Option.some.inj ei4
  obtain ⟨i5, ei5⟩ := is_v gr5
  obtain rfl : w5 = (.int i5) := Option.some.inj ei5
  obtain ⟨n, o, h1, h2, h3, _, L, rfl, ⟨rfl, N⟩, hq⟩ := rm0 l s _ hw tables_1 i0 i1 i2 i3 i4 i5 s.heap s.heap.size (Nat.le_refl _)  p e ha hc hk s m _ below hf ((Spec.applies_iff_loose hf).mp happ).1 ⟨rfl, State.Warmed39.refl s, rfl⟩ trivial
  refine ⟨n, _, h1, h2, h3, hpost _ _ _ _ _ _ ⟨Cond.after_iff.mpr rfl, Cond.after_iff.mpr (eq_i res_at (Term.int_eval (1)) rfl), trivial⟩ ⟨hq.1, hq.2.1, (hq.2.2.sift fun y hy => Or.inr (N y hy)).mono (by decide) (by decide)⟩⟩
theorem main_1_1 : Claimed_1_1 := comes_1 fun _ _ _ _ _ _ h hF => ⟨h.1, hF⟩
theorem main_1_2 : Claimed_1_2 := comes_1 fun _ _ _ _ _ _ h hF => ⟨h.2.1, hF⟩
end Jvm.Pilot.@@N@@
namespace Jvm.Pilot.@@N@@
open Jvm Jvm.ClassFile Sem Op Lib Jvm.Free Jvm.Stand Jvm.Pilot.@@N@@.Jvm.D
/-! MADE BY PROGRAM (witnessworld.py) out of the Statement's table words and the real class files: 17 classes; the members and pool entries that the words name. The judged class is class 1, her method 1. -/
namespace start1
open Jvm.ClassFile
def u (s : String) : CpInfo := .utf8 (stringToUtf16 s)
/-- a pool by its gaps: so many unusable entries, then the entry; so many at the end -/
def gap : Nat → List CpInfo → List CpInfo
  | 0, r => r
  | n + 1, r => .unusable :: gap n r
def poolList (es : List (Nat × CpInfo)) (last : Nat) : List CpInfo := es.foldr (fun e r => gap e.1 (e.2 :: r)) (gap last [])
def pool (es : List (Nat × CpInfo)) (last : Nat) : Array CpInfo := ⟨poolList es last⟩
def fileOf (pool : Array CpInfo) (this : Nat) (attrs : Array Attribute := #[]) (ms : Array MethodInfo := #[]) (fl : Nat := 33) (sup : Nat := 0) (ifs : Array Nat := #[]) (fds : Array FieldInfo := #[]) : ClassFile where
  minorVersion := 0
  majorVersion := 65
  constantPool := pool
  accessFlags := fl
  thisClass := this
  superClass := sup
  interfaces := ifs
  fields := fds
  methods := ms
  attributes := attrs
def plain (name : String) (sup : Option ClassId) : Class where
  name := name
  kind := .ordinary
  loader := none
  accessFlags := 33
  super := sup
  interfaces := #[]
  cf := none
  fields := #[]
  methods := #[]
  instanceTypes := #[]
  staticTypes := #[]
  resolved := #[]
  callSites := []
  init := .initialized
  statics := none
  mirror := none

def pool0 : Array CpInfo := pool [(5, u "<init>"), (0, u "()V"), (1, .class_ 10), (1, u "java/lang/Object")] 113

def k0c0 : Code := { maxStack := 0, maxLocals := 1, code := object_method_1_code, exceptionTable := #[], attributes := #[] }
def k0m0 : Method := { name := "<init>", desc := "()V", sig := { parameters := [], returnType := none }, accessFlags := 1, code := some k0c0 }
/-- java/lang/Object -/
def k0 : Class := { plain "java/lang/Object" none with
  accessFlags := 33
  interfaces := #[]
  cf := some (fileOf pool0 8 #[] #[{ accessFlags := 1, nameIndex := 5, descriptorIndex := 6, attributes := #[] }] 33 0 #[] #[])
  fields := #[]
  methods := #[k0m0]
  instanceTypes := #[]
  staticTypes := #[]
  resolved := Array.replicate 124 none
  statics := none }

def pool1 : Array CpInfo := pool [(2, .class_ 4), (1, u "java/lang/Object"), (0, u "<init>"), (0, u "()V"), (0, .integer 1073741823), (0, .long 18446744073709551615), (1, .class_ 11), (0, u "com/example/kinhash/kinhash/BlockTable"), (0, .methodref 10 13), (0, .nameAndType 5 14), (0, u "(II)V"), (0, .methodref 10 16), (0, .nameAndType 17 18), (0, u "add"), (0, u "(IJLjava/util/function/IntToLongFunction;)V"), (0, .methodref 10 20), (0, .nameAndType 21 22), (0, u "start"), (0, u "(I)I"), (0, .methodref 10 24), (0, .nameAndType 25 22), (0, u "record"), (0, .class_ 27), (0, u "com/example/kinhash/kinhash/BlockTableRecordPinLaw"), (2, u "law"), (0, u "(IIIJJI)Z")] 3

def k1m0 : Method := { name := "<init>", desc := "()V", sig := { parameters := [], returnType := none }, accessFlags := 1, code := none }
def k1c1 : Code := { maxStack := 5, maxLocals := 17, code := code, exceptionTable := #[], attributes := #[] }
def k1m1 : Method := { name := "law", desc := "(IIIJJI)Z", sig := { parameters := [.int, .int, .int, .long, .long, .int], returnType := some .boolean }, accessFlags := 9, code := some k1c1 }
/-- com/example/kinhash/kinhash/BlockTableRecordPinLaw -/
def k1 : Class := { plain "com/example/kinhash/kinhash/BlockTableRecordPinLaw" (some 0) with
  accessFlags := 49
  interfaces := #[]
  cf := some (fileOf pool1 26 #[] #[{ accessFlags := 1, nameIndex := 5, descriptorIndex := 6, attributes := #[] }, { accessFlags := 9, nameIndex := 30, descriptorIndex := 31, attributes := #[] }] 49 2 #[] #[])
  fields := #[]
  methods := #[k1m0, k1m1]
  instanceTypes := #[]
  staticTypes := #[]
  resolved := Array.replicate 35 none
  statics := none }

def pool2 : Array CpInfo := pool [(1, .methodref 2 3), (0, .class_ 4), (0, .nameAndType 5 6), (0, u "java/lang/Object"), (0, u "<init>"), (0, u "()V"), (0, .class_ 8), (0, u "com/example/kinhash/kinhash/BlockTable"), (0, .fieldref 7 10), (0, .nameAndType 11 12), (0, u "recordBits"), (0, u "I"), (0, .class_ 14), (0, u "java/lang/Long"), (0, .long 18446744073709551615), (1, .fieldref 7 18), (0, .nameAndType 19 20), (0, u "mask"), (0, u "J"), (0, .fieldref 7 22), (0, .nameAndType 23 12), (0, u "lowestBit"), (0, .fieldref 7 25), (0, .nameAndType 26 12), (0, u "width"), (0, .fieldref 7 28), (0, .nameAndType 29 30), (0, u "start"), (0, u "[I"), (0, .fieldref 7 32), (0, .nameAndType 33 30), (0, u "length"), (0, .fieldref 7 35), (0, .nameAndType 36 30), (0, u "room"), (0, .fieldref 7 38), (0, .nameAndType 39 30), (0, u "entries"), (0, .fieldref 7 41), (0, .nameAndType 42 43), (0, u "tags"), (0, u "[B"), (0, .fieldref 7 45), (0, .nameAndType 46 12), (0, u "bucketBits"), (0, .methodref 7 48), (0, .nameAndType 49 50), (0, u "bucket"), (0, u "(JI)I"), (0, .methodref 7 52), (0, .nameAndType 53 50), (0, u "tag"), (3, .class_ 59), (1, u "java/lang/Integer"), (1, u "(I)I"), (0, .methodref 57 63), (0, .nameAndType 64 61), (0, u "numberOfLeadingZeros"), (0, .methodref 7 66), (0, .nameAndType 67 68), (0, u "widenRecords"), (0, u "(I)V"), (0, .methodref 7 70), (0, .nameAndType 49 71), (0, u "(J)I"), (0, .methodref 7 73), (0, .nameAndType 74 75), (0, u "move"), (0, u "(I)Z"), (4, .methodref 7 81), (0, .nameAndType 82 61), (0, u "end"), (0, .methodref 7 84), (0, .nameAndType 53 71), (0, .methodref 7 86), (0, .nameAndType 87 88), (0, u "put"), (0, u "(III[I[B)V"), (2, u "record"), (9, .methodref 102 103), (0, .class_ 104), (0, .nameAndType 105 106), (0, u "java/lang/Math"), (0, u "max"), (0, u "(II)I"), (0, .fieldref 7 108), (0, .nameAndType 109 12), (0, u "free"), (0, .methodref 111 112), (0, .class_ 113), (0, .nameAndType 114 115), (0, u "java/lang/System"), (0, u "arraycopy"), (0, u "(Ljava/lang/Object;ILjava/lang/Object;II)V"), (20, .methodref 13 137), (0, .nameAndType 138 139), (0, u "rotateRight"), (0, u "(JI)J"), (0, u "MAX_BUCKET_BITS"), (2, u "RECORDS_PER_BUCKET_BITS"), (1, u "SLACK_BITS"), (1, u "MIN_ROOM"), (0, u "MIN_RECORD_BITS"), (1, u "(II)V"), (6, u "add"), (0, u "(IJLjava/util/function/IntToLongFunction;)V")] 20

def k2c0 : Code := { maxStack := 5, maxLocals := 3, code := prog_4_method_1_code, exceptionTable := #[], attributes := #[] }
def k2m0 : Method := { name := "<init>", desc := "(II)V", sig := { parameters := [.int, .int], returnType := none }, accessFlags := 0, code := some k2c0 }
def k2c1 : Code := { maxStack := 4, maxLocals := 3, code := prog_4_method_3_code, exceptionTable := #[], attributes := #[] }
def k2m1 : Method := { name := "bucket", desc := "(J)I", sig := { parameters := [.long], returnType := some .int }, accessFlags := 0, code := some k2c1 }
def k2c2 : Code := { maxStack := 4, maxLocals := 3, code := prog_4_method_4_code, exceptionTable := #[], attributes := #[] }
def k2m2 : Method := { name := "tag", desc := "(J)I", sig := { parameters := [.long], returnType := some .int }, accessFlags := 0, code := some k2c2 }
def k2c3 : Code := { maxStack := 2, maxLocals := 2, code := prog_4_method_5_code, exceptionTable := #[], attributes := #[] }
def k2m3 : Method := { name := "start", desc := "(I)I", sig := { parameters := [.int], returnType := some .int }, accessFlags := 0, code := some k2c3 }
def k2c4 : Code := { maxStack := 3, maxLocals := 2, code := prog_4_method_6_code, exceptionTable := #[], attributes := #[] }
def k2m4 : Method := { name := "end", desc := "(I)I", sig := { parameters := [.int], returnType := some .int }, accessFlags := 0, code := some k2c4 }
def k2c5 : Code := { maxStack := 3, maxLocals := 2, code := prog_4_method_7_code, exceptionTable := #[], attributes := #[] }
def k2m5 : Method := { name := "record", desc := "(I)I", sig := { parameters := [.int], returnType := some .int }, accessFlags := 0, code := some k2c5 }
def k2c6 : Code := { maxStack := 6, maxLocals := 6, code := prog_4_method_9_code, exceptionTable := #[], attributes := #[] }
def k2m6 : Method := { name := "add", desc := "(IJLjava/util/function/IntToLongFunction;)V", sig := { parameters := [.int, .long, (.object "java/util/function/IntToLongFunction")], returnType := none }, accessFlags := 0, code := some k2c6 }
def k2c7 : Code := { maxStack := 5, maxLocals := 6, code := prog_4_method_11_code, exceptionTable := #[], attributes := #[] }
def k2m7 : Method := { name := "widenRecords", desc := "(I)V", sig := { parameters := [.int], returnType := none }, accessFlags := 2, code := some k2c7 }
def k2c8 : Code := { maxStack := 5, maxLocals := 4, code := prog_4_method_12_code, exceptionTable := #[], attributes := #[] }
def k2m8 : Method := { name := "move", desc := "(I)Z", sig := { parameters := [.int], returnType := some .boolean }, accessFlags := 2, code := some k2c8 }
def k2c9 : Code := { maxStack := 4, maxLocals := 6, code := prog_4_method_15_code, exceptionTable := #[], attributes := #[] }
def k2m9 : Method := { name := "put", desc := "(III[I[B)V", sig := { parameters := [.int, .int, .int, (.array .int), (.array .byte)], returnType := none }, accessFlags := 2, code := some k2c9 }
def k2c10 : Code := { maxStack := 6, maxLocals := 4, code := prog_4_method_16_code, exceptionTable := #[], attributes := #[] }
def k2m10 : Method := { name := "bucket", desc := "(JI)I", sig := { parameters := [.long, .int], returnType := some .int }, accessFlags := 2, code := some k2c10 }
def k2c11 : Code := { maxStack := 4, maxLocals := 5, code := prog_4_method_17_code, exceptionTable := #[], attributes := #[] }
def k2m11 : Method := { name := "tag", desc := "(JI)I", sig := { parameters := [.long, .int], returnType := some .int }, accessFlags := 2, code := some k2c11 }
/-- com/example/kinhash/kinhash/BlockTable -/
def k2 : Class := { plain "com/example/kinhash/kinhash/BlockTable" (some 0) with
  accessFlags := 48
  interfaces := #[]
  cf := some (fileOf pool2 7 #[] #[{ accessFlags := 0, nameIndex := 5, descriptorIndex := 150, attributes := #[] }, { accessFlags := 0, nameIndex := 49, descriptorIndex := 71, attributes := #[] }, { accessFlags := 0, nameIndex := 53, descriptorIndex := 71, attributes := #[] }, { accessFlags := 0, nameIndex := 29, descriptorIndex := 61, attributes := #[] }, { accessFlags := 0, nameIndex := 82, descriptorIndex := 61, attributes := #[] }, { accessFlags := 0, nameIndex := 91, descriptorIndex := 61, attributes := #[] }, { accessFlags := 0, nameIndex := 157, descriptorIndex := 158, attributes := #[] }, { accessFlags := 2, nameIndex := 67, descriptorIndex := 68, attributes := #[] }, { accessFlags := 2, nameIndex := 74, descriptorIndex := 75, attributes := #[] }, { accessFlags := 2, nameIndex := 87, descriptorIndex := 88, attributes := #[] }, { accessFlags := 2, nameIndex := 49, descriptorIndex := 50, attributes := #[] }, { accessFlags := 2, nameIndex := 53, descriptorIndex := 50, attributes := #[] }] 48 2 #[] #[{ accessFlags := 26, nameIndex := 140, descriptorIndex := 12, attributes := #[] }, { accessFlags := 26, nameIndex := 143, descriptorIndex := 12, attributes := #[] }, { accessFlags := 26, nameIndex := 145, descriptorIndex := 12, attributes := #[] }, { accessFlags := 26, nameIndex := 147, descriptorIndex := 12, attributes := #[] }, { accessFlags := 26, nameIndex := 148, descriptorIndex := 12, attributes := #[] }, { accessFlags := 18, nameIndex := 19, descriptorIndex := 20, attributes := #[] }, { accessFlags := 18, nameIndex := 23, descriptorIndex := 12, attributes := #[] }, { accessFlags := 18, nameIndex := 26, descriptorIndex := 12, attributes := #[] }, { accessFlags := 2, nameIndex := 46, descriptorIndex := 12, attributes := #[] }, { accessFlags := 2, nameIndex := 11, descriptorIndex := 12, attributes := #[] }, { accessFlags := 2, nameIndex := 29, descriptorIndex := 30, attributes := #[] }, { accessFlags := 2, nameIndex := 33, descriptorIndex := 30, attributes := #[] }, { accessFlags := 2, nameIndex := 36, descriptorIndex := 30, attributes := #[] }, { accessFlags := 2, nameIndex := 39, descriptorIndex := 30, attributes := #[] }, { accessFlags := 2, nameIndex := 42, descriptorIndex := 43, attributes := #[] }, { accessFlags := 2, nameIndex := 109, descriptorIndex := 12, attributes := #[] }])
  fields := #[{ name := "MAX_BUCKET_BITS", type := .int, accessFlags := 26, slot := 0, constantValue := 0 }, { name := "RECORDS_PER_BUCKET_BITS", type := .int, accessFlags := 26, slot := 1, constantValue := 0 }, { name := "SLACK_BITS", type := .int, accessFlags := 26, slot := 2, constantValue := 0 }, { name := "MIN_ROOM", type := .int, accessFlags := 26, slot := 3, constantValue := 0 }, { name := "MIN_RECORD_BITS", type := .int, accessFlags := 26, slot := 4, constantValue := 0 }, { name := "mask", type := .long, accessFlags := 18, slot := 0, constantValue := 0 }, { name := "lowestBit", type := .int, accessFlags := 18, slot := 1, constantValue := 0 }, { name := "width", type := .int, accessFlags := 18, slot := 2, constantValue := 0 }, { name := "bucketBits", type := .int, accessFlags := 2, slot := 3, constantValue := 0 }, { name := "recordBits", type := .int, accessFlags := 2, slot := 4, constantValue := 0 }, { name := "start", type := (.array .int), accessFlags := 2, slot := 5, constantValue := 0 }, { name := "length", type := (.array .int), accessFlags := 2, slot := 6, constantValue := 0 }, { name := "room", type := (.array .int), accessFlags := 2, slot := 7, constantValue := 0 }, { name := "entries", type := (.array .int), accessFlags := 2, slot := 8, constantValue := 0 }, { name := "tags", type := (.array .byte), accessFlags := 2, slot := 9, constantValue := 0 }, { name := "free", type := .int, accessFlags := 2, slot := 10, constantValue := 0 }]
  methods := #[k2m0, k2m1, k2m2, k2m3, k2m4, k2m5, k2m6, k2m7, k2m8, k2m9, k2m10, k2m11]
  instanceTypes := #[.long, .int, .int, .int, .int, (.array .int), (.array .int), (.array .int), (.array .int), (.array .byte), .int]
  staticTypes := #[.int, .int, .int, .int, .int]
  resolved := Array.replicate 179 none
  statics := none }

def pool3 : Array CpInfo := pool [(1, .class_ 2), (0, u "java/lang/Math"), (1, .class_ 6), (1, u "java/lang/Object"), (0, u "<init>"), (0, u "()V"), (89, .class_ 100), (1, u "java/lang/Math$RandomNumberGeneratorHolder"), (71, u "negativeZeroFloatBits"), (0, u "J"), (2, u "negativeZeroDoubleBits"), (21, u "max"), (46, u "$assertionsDisabled"), (0, u "Z"), (88, u "(II)I"), (2, u "twoToTheDoubleScaleDown"), (0, u "D"), (4, u "twoToTheDoubleScaleUp"), (9, u "E"), (3, u "PI"), (2, u "TAU"), (2, u "DEGREES_TO_RADIANS"), (0, u "RADIANS_TO_DEGREES")] 94

def k3m0 : Method := { name := "<init>", desc := "()V", sig := { parameters := [], returnType := none }, accessFlags := 2, code := none }
def k3c1 : Code := { maxStack := 2, maxLocals := 2, code := jdk_29_method_65_code, exceptionTable := #[], attributes := #[] }
def k3m1 : Method := { name := "max", desc := "(II)I", sig := { parameters := [.int, .int], returnType := some .int }, accessFlags := 9, code := some k3c1 }
/-- java/lang/Math -/
def k3 : Class := { plain "java/lang/Math" (some 0) with
  accessFlags := 49
  interfaces := #[]
  cf := some (fileOf pool3 1 #[.nestMembers #[98]] #[{ accessFlags := 2, nameIndex := 7, descriptorIndex := 8, attributes := #[] }, { accessFlags := 9, nameIndex := 198, descriptorIndex := 335, attributes := #[] }] 49 4 #[] #[{ accessFlags := 25, nameIndex := 354, descriptorIndex := 339, attributes := #[] }, { accessFlags := 25, nameIndex := 358, descriptorIndex := 339, attributes := #[] }, { accessFlags := 25, nameIndex := 361, descriptorIndex := 339, attributes := #[] }, { accessFlags := 26, nameIndex := 364, descriptorIndex := 339, attributes := #[] }, { accessFlags := 26, nameIndex := 365, descriptorIndex := 339, attributes := #[] }, { accessFlags := 26, nameIndex := 172, descriptorIndex := 173, attributes := #[] }, { accessFlags := 26, nameIndex := 176, descriptorIndex := 173, attributes := #[] }, { accessFlags := 8, nameIndex := 344, descriptorIndex := 339, attributes := #[] }, { accessFlags := 8, nameIndex := 338, descriptorIndex := 339, attributes := #[] }, { accessFlags := 4120, nameIndex := 245, descriptorIndex := 246, attributes := #[] }])
  fields := #[{ name := "E", type := .double, accessFlags := 25, slot := 0, constantValue := 0 }, { name := "PI", type := .double, accessFlags := 25, slot := 1, constantValue := 0 }, { name := "TAU", type := .double, accessFlags := 25, slot := 2, constantValue := 0 }, { name := "DEGREES_TO_RADIANS", type := .double, accessFlags := 26, slot := 3, constantValue := 0 }, { name := "RADIANS_TO_DEGREES", type := .double, accessFlags := 26, slot := 4, constantValue := 0 }, { name := "negativeZeroFloatBits", type := .long, accessFlags := 26, slot := 5, constantValue := 0 }, { name := "negativeZeroDoubleBits", type := .long, accessFlags := 26, slot := 6, constantValue := 0 }, { name := "twoToTheDoubleScaleUp", type := .double, accessFlags := 8, slot := 7, constantValue := 0 }, { name := "twoToTheDoubleScaleDown", type := .double, accessFlags := 8, slot := 8, constantValue := 0 }, { name := "$assertionsDisabled", type := .boolean, accessFlags := 4120, slot := 9, constantValue := 0 }]
  methods := #[k3m0, k3m1]
  instanceTypes := #[]
  staticTypes := #[.double, .double, .double, .double, .double, .long, .long, .double, .double, .boolean]
  resolved := Array.replicate 460 none
  statics := none }

def pool4 : Array CpInfo := pool [(2, .class_ 4), (1, u "java/lang/Object"), (0, u "<init>"), (0, u "()V"), (1, .class_ 10), (1, u "java/lang/System"), (0, u "allowSecurityManager"), (0, u "I"), (16, u "cons"), (0, u "Ljava/io/Console;"), (77, .class_ 110), (1, u "java/lang/System$CallersHolder"), (43, u "initialErrStream"), (0, u "Ljava/io/PrintStream;"), (19, u "security"), (0, u "Ljava/lang/SecurityManager;"), (31, .class_ 209), (0, u "java/lang/System$1"), (7, u "props"), (0, u "Ljava/util/Properties;"), (2, u "lineSeparator"), (0, u "Ljava/lang/String;"), (96, .class_ 321), (1, u "java/lang/System$LoggerFinder"), (5, .class_ 328), (0, u "java/lang/System$Logger"), (67, u "err"), (2, u "out"), (91, u "notSupportedJnuEncoding"), (15, u "in"), (17, u "initialIn"), (0, u "Ljava/io/InputStream;"), (35, u "bootLayer"), (0, u "Ljava/lang/ModuleLayer;"), (99, .class_ 664), (0, u "java/lang/System$2"), (9, u "NEVER"), (2, u "MAYBE"), (49, u "arraycopy"), (0, u "(Ljava/lang/Object;ILjava/lang/Object;II)V"), (72, .class_ 802), (0, u "java/lang/System$Logger$Level")] 31

def k4m0 : Method := { name := "<init>", desc := "()V", sig := { parameters := [], returnType := none }, accessFlags := 2, code := none }
def k4m1 : Method := { name := "arraycopy", desc := "(Ljava/lang/Object;ILjava/lang/Object;II)V", sig := { parameters := [(.object "java/lang/Object"), .int, (.object "java/lang/Object"), .int, .int], returnType := none }, accessFlags := 265, code := none }
/-- java/lang/System -/
def k4 : Class := { plain "java/lang/System" (some 0) with
  accessFlags := 49
  interfaces := #[]
  cf := some (fileOf pool4 8 #[.nestMembers #[319, 327, 801, 108, 663, 208]] #[{ accessFlags := 2, nameIndex := 5, descriptorIndex := 6, attributes := #[] }, { accessFlags := 265, nameIndex := 727, descriptorIndex := 728, attributes := #[] }] 49 2 #[] #[{ accessFlags := 25, nameIndex := 507, descriptorIndex := 526, attributes := #[] }, { accessFlags := 25, nameIndex := 399, descriptorIndex := 155, attributes := #[] }, { accessFlags := 25, nameIndex := 396, descriptorIndex := 155, attributes := #[] }, { accessFlags := 10, nameIndex := 525, descriptorIndex := 526, attributes := #[] }, { accessFlags := 26, nameIndex := 674, descriptorIndex := 12, attributes := #[] }, { accessFlags := 26, nameIndex := 677, descriptorIndex := 12, attributes := #[] }, { accessFlags := 10, nameIndex := 11, descriptorIndex := 12, attributes := #[] }, { accessFlags := 74, nameIndex := 175, descriptorIndex := 176, attributes := #[] }, { accessFlags := 10, nameIndex := 491, descriptorIndex := 222, attributes := #[] }, { accessFlags := 74, nameIndex := 29, descriptorIndex := 30, attributes := #[] }, { accessFlags := 74, nameIndex := 154, descriptorIndex := 155, attributes := #[] }, { accessFlags := 10, nameIndex := 217, descriptorIndex := 218, attributes := #[] }, { accessFlags := 10, nameIndex := 221, descriptorIndex := 222, attributes := #[] }, { accessFlags := 8, nameIndex := 562, descriptorIndex := 563, attributes := #[] }])
  fields := #[{ name := "in", type := (.object "java/io/InputStream"), accessFlags := 25, slot := 0, constantValue := 0 }, { name := "out", type := (.object "java/io/PrintStream"), accessFlags := 25, slot := 1, constantValue := 0 }, { name := "err", type := (.object "java/io/PrintStream"), accessFlags := 25, slot := 2, constantValue := 0 }, { name := "initialIn", type := (.object "java/io/InputStream"), accessFlags := 10, slot := 3, constantValue := 0 }, { name := "NEVER", type := .int, accessFlags := 26, slot := 4, constantValue := 0 }, { name := "MAYBE", type := .int, accessFlags := 26, slot := 5, constantValue := 0 }, { name := "allowSecurityManager", type := .int, accessFlags := 10, slot := 6, constantValue := 0 }, { name := "security", type := (.object "java/lang/SecurityManager"), accessFlags := 74, slot := 7, constantValue := 0 }, { name := "notSupportedJnuEncoding", type := (.object "java/lang/String"), accessFlags := 10, slot := 8, constantValue := 0 }, { name := "cons", type := (.object "java/io/Console"), accessFlags := 74, slot := 9, constantValue := 0 }, { name := "initialErrStream", type := (.object "java/io/PrintStream"), accessFlags := 74, slot := 10, constantValue := 0 }, { name := "props", type := (.object "java/util/Properties"), accessFlags := 10, slot := 11, constantValue := 0 }, { name := "lineSeparator", type := (.object "java/lang/String"), accessFlags := 10, slot := 12, constantValue := 0 }, { name := "bootLayer", type := (.object "java/lang/ModuleLayer"), accessFlags := 8, slot := 13, constantValue := 0 }]
  methods := #[k4m0, k4m1]
  instanceTypes := #[]
  staticTypes := #[(.object "java/io/InputStream"), (.object "java/io/PrintStream"), (.object "java/io/PrintStream"), (.object "java/io/InputStream"), .int, .int, .int, (.object "java/lang/SecurityManager"), (.object "java/lang/String"), (.object "java/io/Console"), (.object "java/io/PrintStream"), (.object "java/util/Properties"), (.object "java/lang/String"), (.object "java/lang/ModuleLayer")]
  resolved := Array.replicate 834 none
  statics := none }

def pool5 : Array CpInfo := pool [(1, .class_ 2), (0, u "java/io/Serializable"), (0, .class_ 4), (0, u "java/lang/Object")] 2

/-- java/io/Serializable -/
def k5 : Class := { plain "java/io/Serializable" (some 0) with
  accessFlags := 1537
  interfaces := #[]
  cf := some (fileOf pool5 1 #[] #[] 1537 3 #[] #[])
  fields := #[]
  methods := #[]
  instanceTypes := #[]
  staticTypes := #[]
  resolved := Array.replicate 7 none
  statics := none }

def pool6 : Array CpInfo := pool [(2, .class_ 4), (1, u "java/lang/Object"), (0, u "<init>"), (0, u "()V"), (1, .class_ 10), (1, u "java/lang/Number"), (2, .class_ 14), (0, u "java/io/Serializable"), (0, u "serialVersionUID"), (0, u "J")] 20

def k6m0 : Method := { name := "<init>", desc := "()V", sig := { parameters := [], returnType := none }, accessFlags := 1, code := none }
/-- java/lang/Number -/
def k6 : Class := { plain "java/lang/Number" (some 0) with
  accessFlags := 1057
  interfaces := #[5]
  cf := some (fileOf pool6 8 #[] #[{ accessFlags := 1, nameIndex := 5, descriptorIndex := 6, attributes := #[] }] 1057 2 #[13] #[{ accessFlags := 26, nameIndex := 15, descriptorIndex := 16, attributes := #[] }])
  fields := #[{ name := "serialVersionUID", type := .long, accessFlags := 26, slot := 0, constantValue := 0 }]
  methods := #[k6m0]
  instanceTypes := #[]
  staticTypes := #[.long]
  resolved := Array.replicate 37 none
  statics := none }

def pool7 : Array CpInfo := pool [(1, .class_ 2), (0, u "java/lang/Comparable"), (0, .class_ 4), (0, u "java/lang/Object")] 7

/-- java/lang/Comparable -/
def k7 : Class := { plain "java/lang/Comparable" (some 0) with
  accessFlags := 1537
  interfaces := #[]
  cf := some (fileOf pool7 1 #[] #[] 1537 3 #[] #[])
  fields := #[]
  methods := #[]
  instanceTypes := #[]
  staticTypes := #[]
  resolved := Array.replicate 12 none
  statics := none }

def pool8 : Array CpInfo := pool [(1, .class_ 2), (0, u "java/lang/constant/Constable"), (0, .class_ 4), (0, u "java/lang/Object")] 6

/-- java/lang/constant/Constable -/
def k8 : Class := { plain "java/lang/constant/Constable" (some 0) with
  accessFlags := 1537
  interfaces := #[]
  cf := some (fileOf pool8 1 #[] #[] 1537 3 #[] #[])
  fields := #[]
  methods := #[]
  instanceTypes := #[]
  staticTypes := #[]
  resolved := Array.replicate 11 none
  statics := none }

def pool9 : Array CpInfo := pool [(1, .class_ 2), (0, u "java/lang/constant/ConstantDesc"), (0, .class_ 4), (0, u "java/lang/Object")] 32

/-- java/lang/constant/ConstantDesc -/
def k9 : Class := { plain "java/lang/constant/ConstantDesc" (some 0) with
  accessFlags := 1537
  interfaces := #[]
  cf := some (fileOf pool9 1 #[] #[] 1537 3 #[] #[])
  fields := #[]
  methods := #[]
  instanceTypes := #[]
  staticTypes := #[]
  resolved := Array.replicate 37 none
  statics := none }

def pool10 : Array CpInfo := pool [(1, .class_ 2), (0, u "java/lang/Long"), (232, .class_ 237), (1, u "java/lang/Long$LongCache"), (33, .class_ 272), (0, u "java/lang/Number"), (2, u "value"), (0, u "J"), (84, u "TYPE"), (0, u "Ljava/lang/Class;"), (0, .class_ 364), (0, u "java/lang/Comparable"), (0, .class_ 366), (0, u "java/lang/constant/Constable"), (0, .class_ 368), (0, u "java/lang/constant/ConstantDesc"), (0, u "MIN_VALUE"), (1, u "MAX_VALUE"), (4, u "SIZE"), (0, u "I"), (1, u "BYTES"), (1, u "serialVersionUID"), (96, u "(JI)J"), (1, u "rotateRight")] 43

def k10c0 : Code := { maxStack := 5, maxLocals := 3, code := jdk_35_method_52_code, exceptionTable := #[], attributes := #[] }
def k10m0 : Method := { name := "rotateRight", desc := "(JI)J", sig := { parameters := [.long, .int], returnType := some .long }, accessFlags := 9, code := some k10c0 }
/-- java/lang/Long -/
def k10 : Class := { plain "java/lang/Long" (some 6) with
  accessFlags := 49
  interfaces := #[7, 8, 9]
  cf := some (fileOf pool10 1 #[.nestMembers #[235]] #[{ accessFlags := 9, nameIndex := 480, descriptorIndex := 478, attributes := #[] }] 49 271 #[363, 365, 367] #[{ accessFlags := 25, nameIndex := 369, descriptorIndex := 276, attributes := #[] }, { accessFlags := 25, nameIndex := 371, descriptorIndex := 276, attributes := #[] }, { accessFlags := 25, nameIndex := 361, descriptorIndex := 362, attributes := #[] }, { accessFlags := 18, nameIndex := 275, descriptorIndex := 276, attributes := #[] }, { accessFlags := 25, nameIndex := 376, descriptorIndex := 377, attributes := #[] }, { accessFlags := 25, nameIndex := 379, descriptorIndex := 377, attributes := #[] }, { accessFlags := 26, nameIndex := 381, descriptorIndex := 276, attributes := #[] }])
  fields := #[{ name := "MIN_VALUE", type := .long, accessFlags := 25, slot := 0, constantValue := 0 }, { name := "MAX_VALUE", type := .long, accessFlags := 25, slot := 1, constantValue := 0 }, { name := "TYPE", type := (.object "java/lang/Class"), accessFlags := 25, slot := 2, constantValue := 0 }, { name := "value", type := .long, accessFlags := 18, slot := 0, constantValue := 0 }, { name := "SIZE", type := .int, accessFlags := 25, slot := 3, constantValue := 0 }, { name := "BYTES", type := .int, accessFlags := 25, slot := 4, constantValue := 0 }, { name := "serialVersionUID", type := .long, accessFlags := 26, slot := 5, constantValue := 0 }]
  methods := #[k10m0]
  instanceTypes := #[.long]
  staticTypes := #[.long, .long, (.object "java/lang/Class"), .int, .int, .long]
  resolved := Array.replicate 524 none
  statics := none }

def pool11 : Array CpInfo := pool [(1, .class_ 2), (0, u "java/lang/Integer"), (16, u "digits"), (0, u "[C"), (32, u "numberOfLeadingZeros"), (0, u "(I)I"), (30, u "DigitOnes"), (0, u "[B"), (2, u "DigitTens"), (99, .class_ 190), (0, u "java/lang/Integer$IntegerCache"), (3, u "I"), (8, .class_ 204), (0, u "java/lang/Number"), (2, u "value"), (56, .integer 65536), (37, u "TYPE"), (0, u "Ljava/lang/Class;"), (0, .class_ 305), (0, u "java/lang/Comparable"), (0, .class_ 307), (0, u "java/lang/constant/Constable"), (0, .class_ 309), (0, u "java/lang/constant/ConstantDesc"), (0, u "MIN_VALUE"), (1, u "MAX_VALUE"), (3, u "SIZE"), (1, u "BYTES"), (1, u "serialVersionUID"), (0, u "J")] 131

def k11c0 : Code := { maxStack := 3, maxLocals := 2, code := jdk_33_method_47_code, exceptionTable := #[], attributes := #[] }
def k11m0 : Method := { name := "numberOfLeadingZeros", desc := "(I)I", sig := { parameters := [.int], returnType := some .int }, accessFlags := 9, code := some k11c0 }
/-- java/lang/Integer -/
def k11 : Class := { plain "java/lang/Integer" (some 6) with
  accessFlags := 49
  interfaces := #[7, 8, 9]
  cf := some (fileOf pool11 1 #[.nestMembers #[189]] #[{ accessFlags := 9, nameIndex := 53, descriptorIndex := 54, attributes := #[] }] 49 203 #[304, 306, 308] #[{ accessFlags := 25, nameIndex := 310, descriptorIndex := 194, attributes := #[] }, { accessFlags := 25, nameIndex := 312, descriptorIndex := 194, attributes := #[] }, { accessFlags := 25, nameIndex := 302, descriptorIndex := 303, attributes := #[] }, { accessFlags := 24, nameIndex := 19, descriptorIndex := 20, attributes := #[] }, { accessFlags := 24, nameIndex := 89, descriptorIndex := 86, attributes := #[] }, { accessFlags := 24, nameIndex := 85, descriptorIndex := 86, attributes := #[] }, { accessFlags := 18, nameIndex := 207, descriptorIndex := 194, attributes := #[] }, { accessFlags := 25, nameIndex := 316, descriptorIndex := 194, attributes := #[] }, { accessFlags := 25, nameIndex := 318, descriptorIndex := 194, attributes := #[] }, { accessFlags := 26, nameIndex := 320, descriptorIndex := 321, attributes := #[] }])
  fields := #[{ name := "MIN_VALUE", type := .int, accessFlags := 25, slot := 0, constantValue := 0 }, { name := "MAX_VALUE", type := .int, accessFlags := 25, slot := 1, constantValue := 0 }, { name := "TYPE", type := (.object "java/lang/Class"), accessFlags := 25, slot := 2, constantValue := 0 }, { name := "digits", type := (.array .char), accessFlags := 24, slot := 3, constantValue := 0 }, { name := "DigitTens", type := (.array .byte), accessFlags := 24, slot := 4, constantValue := 0 }, { name := "DigitOnes", type := (.array .byte), accessFlags := 24, slot := 5, constantValue := 0 }, { name := "value", type := .int, accessFlags := 18, slot := 0, constantValue := 0 }, { name := "SIZE", type := .int, accessFlags := 25, slot := 6, constantValue := 0 }, { name := "BYTES", type := .int, accessFlags := 25, slot := 7, constantValue := 0 }, { name := "serialVersionUID", type := .long, accessFlags := 26, slot := 8, constantValue := 0 }]
  methods := #[k11m0]
  instanceTypes := #[.int]
  staticTypes := #[.int, .int, (.object "java/lang/Class"), (.array .char), (.array .byte), (.array .byte), .int, .int, .long]
  resolved := Array.replicate 453 none
  statics := none }

def pool12 : Array CpInfo := pool [(1, u "java/lang/Cloneable"), (0, .class_ 1), (0, u "java/lang/Object"), (0, .class_ 3)] 3

/-- java/lang/Cloneable -/
def k12 : Class := { plain "java/lang/Cloneable" (some 0) with
  accessFlags := 1537
  interfaces := #[]
  cf := some (fileOf pool12 2 #[] #[] 1537 4 #[] #[])
  fields := #[]
  methods := #[]
  instanceTypes := #[]
  staticTypes := #[]
  resolved := Array.replicate 8 none
  statics := none }

/-- the primitive byte -/
def k13 : Class := { plain "byte" none with kind := .primitive 'B', accessFlags := 0x411 }
/-- [B -/
def k14 : Class := { plain "[B" (some 0) with kind := .array 13 .byte, interfaces := #[12, 5], accessFlags := 1041 }

/-- the primitive int -/
def k15 : Class := { plain "int" none with kind := .primitive 'I', accessFlags := 0x411 }
/-- [I -/
def k16 : Class := { plain "[I" (some 0) with kind := .array 15 .int, interfaces := #[12, 5], accessFlags := 1041 }

def heap : Heap := #[]
def classes : Array Class := #[k0, k1, k2, k3, k4, k5, k6, k7, k8, k9, k10, k11, k12, k13, k14, k15, k16]
def interned : List (Array UInt16 × Addr) := []
def slotsUsed : Nat := 0
def theMethod : MethodId := ⟨1, 1⟩
def args0 : Array Value := #[.int 7, .int 100000, .int 9, .long 5, .long 77, .int 66]
def aboutOver (below : List Frame) : State where
  vm := { classes := classes, interned := interned.toArray }
  heap := heap
  slotsUsed := slotsUsed
  threads := #[{ frames := .invoking theMethod args0 :: below }]
def below0 : List Frame := [.native { method := ⟨0, 0⟩, args := #[] }]
def about1 : State := aboutOver below0
def p0 : Program := .bare "" "" ""
def e0 : Env := launch0.env 0 0 0
theorem w_frames : about1.frames = Frame.invoking theMethod args0 :: below0 := rfl
set_option maxRecDepth 65536 in
theorem w_args : argsFit about1.vm theMethod args0 = true := by decide +kernel
set_option maxRecDepth 65536 in
theorem w_heap : heapFits about1 = true := by decide +kernel
set_option maxRecDepth 65536 in
theorem w_runnable : about1.curStatus? = some .runnable := by decide +kernel
set_option maxRecDepth 65536 in
theorem w_alone : about1.alone = true := by decide +kernel
set_option maxRecDepth 65536 in
theorem w_named : about1.methodNamed? x = some theMethod := by decide +kernel
set_option maxRecDepth 65536 in
theorem w_hears : about1.hears theMethod below0 = true := by decide +kernel
set_option maxRecDepth 65536 in
theorem w_ripe : about1.ripe theMethod args0 below0 = true := by decide +kernel
theorem w_running : about1.status = .running := rfl
set_option maxRecDepth 65536 in
theorem w_room : about1.hasRoom e0.platform room_1 = true :=
  launch0.hasRoom_least _ room_1 (by decide +kernel) (by decide +kernel) (by decide +kernel) (by decide +kernel) (by decide +kernel) (by decide +kernel)
theorem allAtoms_all (ts : List Jvm.Cond) (a : Array Jvm.Value) (st : Jvm.State) : (allAtoms ts).before a st = ts.all (fun c => c.before a st) := by
  induction ts with
  | nil => rfl
  | cons c t ih =>
    show (Jvm.Cond.and c (allAtoms t)).before a st = _
    rw [Jvm.Cond.before_and, ih, List.all_cons]
def words1 : List Jvm.Cond := Jvm.Cond.code x code maxLocals ret :: tables_1
/-- a 'code' word, met by the world's own term for the bytes: nothing is compared byte by byte -/
theorem code_word {y : MethodName} {bytes : ByteArray} {mx : Nat} {rt : Option FieldType} {a : Array Value} {s : State} {m : MethodId} {meth : Method} {c : Code} (h1 : s.methodNamed? y = some m) (h2 : s.vm.method? m = some meth) (h3 : meth.code = some c) (h4 : c.code = bytes)
    (h5 : (c.maxLocals == mx && c.exceptionTable.isEmpty && decide (c.maxStack ≤ mostOperands) && decide (meth.sig.returnType = rt) && !meth.locks && decide (parseMethodDescriptor y.desc = some meth.sig)) = true) : (Jvm.Cond.code y bytes mx rt).before a s = true := by
  simp only [Bool.and_eq_true, beq_iff_eq, Bool.not_eq_true', decide_eq_true_eq] at h5
  obtain ⟨⟨⟨⟨⟨g1, g2⟩, g3⟩, g4⟩, g5⟩, g6⟩ := h5
  simp [Cond.before, Cond.holds, Cond.value, h1, h2, h3, h4, g1, g2, g3, g4, g5, g6]
def isCode : Jvm.Cond → Bool
  | .code _ _ _ _ => true
  | _ => false
theorem all_split {L : List Jvm.Cond} {P : Jvm.Cond → Bool} (h1 : L.all (fun c => isCode c || P c) = true) (h2 : ∀ c ∈ L.filter isCode, P c = true) : L.all P = true := by
  refine List.all_eq_true.mpr fun c hc => ?_
  have h := List.all_eq_true.mp h1 c hc
  rcases Bool.eq_false_or_eq_true (isCode c) with hi | hi
  · exact h2 c (List.mem_filter.mpr ⟨hc, hi⟩)
  · simpa [hi] using h
set_option maxRecDepth 65536 in
theorem w_c0 : (Jvm.Cond.code x code maxLocals ret).before args0 about1 = true := code_word (m := ⟨1, 1⟩) (meth := k1m1) (c := k1c1) (by decide +kernel) rfl rfl rfl (by decide +kernel)
set_option maxRecDepth 65536 in
theorem w_c1 : (Jvm.Cond.code ({ cls := "com/example/kinhash/kinhash/BlockTable", name := "<init>", desc := "(II)V" } : Jvm.MethodName) prog_4_method_1_code (3 : Nat) (Option.none : Option Jvm.ClassFile.FieldType)).before args0 about1 = true := code_word (m := ⟨2, 0⟩) (meth := k2m0) (c := k2c0) (by decide +kernel) rfl rfl rfl (by decide +kernel)
set_option maxRecDepth 65536 in
theorem w_c2 : (Jvm.Cond.code ({ cls := "java/lang/Object", name := "<init>", desc := "()V" } : Jvm.MethodName) object_method_1_code (1 : Nat) (Option.none : Option Jvm.ClassFile.FieldType)).before args0 about1 = true := code_word (m := ⟨0, 0⟩) (meth := k0m0) (c := k0c0) (by decide +kernel) rfl rfl rfl (by decide +kernel)
set_option maxRecDepth 65536 in
theorem w_c3 : (Jvm.Cond.code ({ cls := "com/example/kinhash/kinhash/BlockTable", name := "add", desc := "(IJLjava/util/function/IntToLongFunction;)V" } : Jvm.MethodName) prog_4_method_9_code (6 : Nat) (Option.none : Option Jvm.ClassFile.FieldType)).before args0 about1 = true := code_word (m := ⟨2, 6⟩) (meth := k2m6) (c := k2c6) (by decide +kernel) rfl rfl rfl (by decide +kernel)
set_option maxRecDepth 65536 in
theorem w_c4 : (Jvm.Cond.code ({ cls := "com/example/kinhash/kinhash/BlockTable", name := "bucket", desc := "(J)I" } : Jvm.MethodName) prog_4_method_3_code (3 : Nat) (Option.some Jvm.ClassFile.FieldType.int)).before args0 about1 = true := code_word (m := ⟨2, 1⟩) (meth := k2m1) (c := k2c1) (by decide +kernel) rfl rfl rfl (by decide +kernel)
set_option maxRecDepth 65536 in
theorem w_c5 : (Jvm.Cond.code ({ cls := "com/example/kinhash/kinhash/BlockTable", name := "bucket", desc := "(JI)I" } : Jvm.MethodName) prog_4_method_16_code (4 : Nat) (Option.some Jvm.ClassFile.FieldType.int)).before args0 about1 = true := code_word (m := ⟨2, 10⟩) (meth := k2m10) (c := k2c10) (by decide +kernel) rfl rfl rfl (by decide +kernel)
set_option maxRecDepth 65536 in
theorem w_c6 : (Jvm.Cond.code ({ cls := "com/example/kinhash/kinhash/BlockTable", name := "move", desc := "(I)Z" } : Jvm.MethodName) prog_4_method_12_code (4 : Nat) (Option.some Jvm.ClassFile.FieldType.boolean)).before args0 about1 = true := code_word (m := ⟨2, 8⟩) (meth := k2m8) (c := k2c8) (by decide +kernel) rfl rfl rfl (by decide +kernel)
set_option maxRecDepth 65536 in
theorem w_c7 : (Jvm.Cond.code ({ cls := "java/lang/Math", name := "max", desc := "(II)I" } : Jvm.MethodName) jdk_29_method_65_code (2 : Nat) (Option.some Jvm.ClassFile.FieldType.int)).before args0 about1 = true := code_word (m := ⟨3, 1⟩) (meth := k3m1) (c := k3c1) (by decide +kernel) rfl rfl rfl (by decide +kernel)
set_option maxRecDepth 65536 in
theorem w_c8 : (Jvm.Cond.code ({ cls := "com/example/kinhash/kinhash/BlockTable", name := "end", desc := "(I)I" } : Jvm.MethodName) prog_4_method_6_code (2 : Nat) (Option.some Jvm.ClassFile.FieldType.int)).before args0 about1 = true := code_word (m := ⟨2, 4⟩) (meth := k2m4) (c := k2c4) (by decide +kernel) rfl rfl rfl (by decide +kernel)
set_option maxRecDepth 65536 in
theorem w_c9 : (Jvm.Cond.code ({ cls := "com/example/kinhash/kinhash/BlockTable", name := "tag", desc := "(J)I" } : Jvm.MethodName) prog_4_method_4_code (3 : Nat) (Option.some Jvm.ClassFile.FieldType.int)).before args0 about1 = true := code_word (m := ⟨2, 2⟩) (meth := k2m2) (c := k2c2) (by decide +kernel) rfl rfl rfl (by decide +kernel)
set_option maxRecDepth 65536 in
theorem w_c10 : (Jvm.Cond.code ({ cls := "com/example/kinhash/kinhash/BlockTable", name := "tag", desc := "(JI)I" } : Jvm.MethodName) prog_4_method_17_code (5 : Nat) (Option.some Jvm.ClassFile.FieldType.int)).before args0 about1 = true := code_word (m := ⟨2, 11⟩) (meth := k2m11) (c := k2c11) (by decide +kernel) rfl rfl rfl (by decide +kernel)
set_option maxRecDepth 65536 in
theorem w_c11 : (Jvm.Cond.code ({ cls := "java/lang/Long", name := "rotateRight", desc := "(JI)J" } : Jvm.MethodName) jdk_35_method_52_code (3 : Nat) (Option.some Jvm.ClassFile.FieldType.long)).before args0 about1 = true := code_word (m := ⟨10, 0⟩) (meth := k10m0) (c := k10c0) (by decide +kernel) rfl rfl rfl (by decide +kernel)
set_option maxRecDepth 65536 in
theorem w_c12 : (Jvm.Cond.code ({ cls := "com/example/kinhash/kinhash/BlockTable", name := "put", desc := "(III[I[B)V" } : Jvm.MethodName) prog_4_method_15_code (6 : Nat) (Option.none : Option Jvm.ClassFile.FieldType)).before args0 about1 = true := code_word (m := ⟨2, 9⟩) (meth := k2m9) (c := k2c9) (by decide +kernel) rfl rfl rfl (by decide +kernel)
set_option maxRecDepth 65536 in
theorem w_c13 : (Jvm.Cond.code ({ cls := "com/example/kinhash/kinhash/BlockTable", name := "start", desc := "(I)I" } : Jvm.MethodName) prog_4_method_5_code (2 : Nat) (Option.some Jvm.ClassFile.FieldType.int)).before args0 about1 = true := code_word (m := ⟨2, 3⟩) (meth := k2m3) (c := k2c3) (by decide +kernel) rfl rfl rfl (by decide +kernel)
set_option maxRecDepth 65536 in
theorem w_c14 : (Jvm.Cond.code ({ cls := "com/example/kinhash/kinhash/BlockTable", name := "record", desc := "(I)I" } : Jvm.MethodName) prog_4_method_7_code (2 : Nat) (Option.some Jvm.ClassFile.FieldType.int)).before args0 about1 = true := code_word (m := ⟨2, 5⟩) (meth := k2m5) (c := k2c5) (by decide +kernel) rfl rfl rfl (by decide +kernel)
set_option maxRecDepth 65536 in
theorem w_c15 : (Jvm.Cond.code ({ cls := "java/lang/Integer", name := "numberOfLeadingZeros", desc := "(I)I" } : Jvm.MethodName) jdk_33_method_47_code (2 : Nat) (Option.some Jvm.ClassFile.FieldType.int)).before args0 about1 = true := code_word (m := ⟨11, 0⟩) (meth := k11m0) (c := k11c0) (by decide +kernel) rfl rfl rfl (by decide +kernel)
set_option maxRecDepth 65536 in
theorem w_c16 : (Jvm.Cond.code ({ cls := "com/example/kinhash/kinhash/BlockTable", name := "widenRecords", desc := "(I)V" } : Jvm.MethodName) prog_4_method_11_code (6 : Nat) (Option.none : Option Jvm.ClassFile.FieldType)).before args0 about1 = true := code_word (m := ⟨2, 7⟩) (meth := k2m7) (c := k2c7) (by decide +kernel) rfl rfl rfl (by decide +kernel)
def codes1 : List Jvm.Cond := [Jvm.Cond.code x code maxLocals ret, Jvm.Cond.code ({ cls := "com/example/kinhash/kinhash/BlockTable", name := "<init>", desc := "(II)V" } : Jvm.MethodName) prog_4_method_1_code (3 : Nat) (Option.none : Option Jvm.ClassFile.FieldType), Jvm.Cond.code ({ cls := "java/lang/Object", name := "<init>", desc := "()V" } : Jvm.MethodName) object_method_1_code (1 : Nat) (Option.none : Option Jvm.ClassFile.FieldType), Jvm.Cond.code ({ cls := "com/example/kinhash/kinhash/BlockTable", name := "add", desc := "(IJLjava/util/function/IntToLongFunction;)V" } : Jvm.MethodName) prog_4_method_9_code (6 : Nat) (Option.none : Option Jvm.ClassFile.FieldType), Jvm.Cond.code ({ cls := "com/example/kinhash/kinhash/BlockTable", name := "bucket", desc := "(J)I" } : Jvm.MethodName) prog_4_method_3_code (3 : Nat) (Option.some Jvm.ClassFile.FieldType.int), Jvm.Cond.code ({ cls := "com/example/kinhash/kinhash/BlockTable", name := "bucket", desc := "(JI)I" } : Jvm.MethodName) prog_4_method_16_code (4 : Nat) (Option.some Jvm.ClassFile.FieldType.int), Jvm.Cond.code ({ cls := "com/example/kinhash/kinhash/BlockTable", name := "move", desc := "(I)Z" } : Jvm.MethodName) prog_4_method_12_code (4 : Nat) (Option.some Jvm.ClassFile.FieldType.boolean), Jvm.Cond.code ({ cls := "java/lang/Math", name := "max", desc := "(II)I" } : Jvm.MethodName) jdk_29_method_65_code (2 : Nat) (Option.some Jvm.ClassFile.FieldType.int), Jvm.Cond.code ({ cls := "com/example/kinhash/kinhash/BlockTable", name := "end", desc := "(I)I" } : Jvm.MethodName) prog_4_method_6_code (2 : Nat) (Option.some Jvm.ClassFile.FieldType.int), Jvm.Cond.code ({ cls := "com/example/kinhash/kinhash/BlockTable", name := "tag", desc := "(J)I" } : Jvm.MethodName) prog_4_method_4_code (3 : Nat) (Option.some Jvm.ClassFile.FieldType.int), Jvm.Cond.code ({ cls := "com/example/kinhash/kinhash/BlockTable", name := "tag", desc := "(JI)I" } : Jvm.MethodName) prog_4_method_17_code (5 : Nat) (Option.some Jvm.ClassFile.FieldType.int), Jvm.Cond.code ({ cls := "java/lang/Long", name := "rotateRight", desc := "(JI)J" } : Jvm.MethodName) jdk_35_method_52_code (3 : Nat) (Option.some Jvm.ClassFile.FieldType.long), Jvm.Cond.code ({ cls := "com/example/kinhash/kinhash/BlockTable", name := "put", desc := "(III[I[B)V" } : Jvm.MethodName) prog_4_method_15_code (6 : Nat) (Option.none : Option Jvm.ClassFile.FieldType), Jvm.Cond.code ({ cls := "com/example/kinhash/kinhash/BlockTable", name := "start", desc := "(I)I" } : Jvm.MethodName) prog_4_method_5_code (2 : Nat) (Option.some Jvm.ClassFile.FieldType.int), Jvm.Cond.code ({ cls := "com/example/kinhash/kinhash/BlockTable", name := "record", desc := "(I)I" } : Jvm.MethodName) prog_4_method_7_code (2 : Nat) (Option.some Jvm.ClassFile.FieldType.int), Jvm.Cond.code ({ cls := "java/lang/Integer", name := "numberOfLeadingZeros", desc := "(I)I" } : Jvm.MethodName) jdk_33_method_47_code (2 : Nat) (Option.some Jvm.ClassFile.FieldType.int), Jvm.Cond.code ({ cls := "com/example/kinhash/kinhash/BlockTable", name := "widenRecords", desc := "(I)V" } : Jvm.MethodName) prog_4_method_11_code (6 : Nat) (Option.none : Option Jvm.ClassFile.FieldType)]
set_option maxRecDepth 65536 in
theorem codes_eq : words1.filter isCode = codes1 := rfl
theorem w_codes : ∀ c ∈ words1.filter isCode, c.before args0 about1 = true := by
  rw [codes_eq]
  intro c hc
  simp only [codes1, List.mem_cons, List.not_mem_nil, or_false] at hc
  rcases hc with rfl | rfl | rfl | rfl | rfl | rfl | rfl | rfl | rfl | rfl | rfl | rfl | rfl | rfl | rfl | rfl | rfl
  · exact w_c0
  · exact w_c1
  · exact w_c2
  · exact w_c3
  · exact w_c4
  · exact w_c5
  · exact w_c6
  · exact w_c7
  · exact w_c8
  · exact w_c9
  · exact w_c10
  · exact w_c11
  · exact w_c12
  · exact w_c13
  · exact w_c14
  · exact w_c15
  · exact w_c16
set_option maxRecDepth 65536 in
theorem w_t1 : (words1.take 24).all (fun c => isCode c || c.before args0 about1) = true := by decide +kernel
set_option maxRecDepth 65536 in
theorem w_t2 : ((words1.drop 24).take 24).all (fun c => isCode c || c.before args0 about1) = true := by decide +kernel
set_option maxRecDepth 65536 in
theorem w_t3 : (((words1.drop 24).drop 24).take 24).all (fun c => isCode c || c.before args0 about1) = true := by decide +kernel
set_option maxRecDepth 65536 in
theorem w_t4 : ((((words1.drop 24).drop 24).drop 24).take 24).all (fun c => isCode c || c.before args0 about1) = true := by decide +kernel
set_option maxRecDepth 65536 in
theorem w_t5 : ((((words1.drop 24).drop 24).drop 24).drop 24).all (fun c => isCode c || c.before args0 about1) = true := by decide +kernel
theorem w_tables : (allAtoms (Jvm.Cond.code x code maxLocals ret :: tables_1)).before args0 about1 = true := by
  rw [allAtoms_all]
  show words1.all (fun c => c.before args0 about1) = true
  refine all_split ?_ w_codes
  rw [← List.take_append_drop 24 words1, List.all_append, w_t1, ← List.take_append_drop 24 (words1.drop 24), List.all_append, w_t2, ← List.take_append_drop 24 ((words1.drop 24).drop 24), List.all_append, w_t3, ← List.take_append_drop 24 (((words1.drop 24).drop 24).drop 24), List.all_append, w_t4, w_t5]
  rfl
set_option maxRecDepth 65536 in
theorem w_case : (Jvm.Cond.and given_1 narrow_1).before args0 about1 = true := by decide +kernel
theorem w_applies : (headSpec (Jvm.Cond.code x code maxLocals ret :: tables_1) room_1).applies x e0.platform about1 = true :=
  (Spec.applies_iff w_frames).mpr ⟨w_running, w_runnable, w_alone, w_named, w_hears, w_ripe, w_room, w_tables⟩
theorem atStart : AtStart classFile x code maxLocals ret World_1 tables_1 room_1 Calls_1 rest_1 Pre_1 launch0 p0 e0 about1 theMethod args0 below0 :=
  ⟨lists_1, trivial, launch0.admits_env _ _ _, launch0.least_env, fairChoices_fair.cas, fairChoices_fair.clock, w_frames, w_args, w_heap, w_applies, trivial, trivial, w_case⟩
end start1
theorem witness_1 : WitnessClaimed_1 := ⟨start1.p0, start1.e0, start1.about1, start1.theMethod, start1.args0, start1.below0, start1.atStart⟩
end Jvm.Pilot.@@N@@
