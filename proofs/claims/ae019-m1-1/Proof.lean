import JvmDerived
import JvmDerived.Pilot.@@N@@Statement
import JvmDerived.Pilot.@@N@@Code
set_option linter.unusedVariables false
set_option linter.unusedSimpArgs false
namespace Jvm.RoadKit
open Sem ClassFile Op Lib Jvm.Stand Jvm.Free Jvm.LawKit
section New
variable {p : Program} {l : Launch} {e : Env} {R : Room} {s : State} {m : MethodId} {args : Array Value} {below : List Frame} {meth : Method} {c : Code} {T : State} {locs : List Loc} {cells slots : Nat}
theorem retI (X : Stand p l e R s m args below meth c T locs cells slots) (hx : p.tables.exec = Jvm.exec) {pc : Nat} {Ls : Array Slot} {z : Int32} {rest : List Value} (hret : meth.sig.returnType = some .int) (hd : decode c.code pc = .ok (.ireturn, 1)) {fs : List Frame}
    (hl : ∀ (f : JFrame) (acts : List Action), f.method = m → f.locked = none → f.entered = [] → (doReturn e (T.setTop f) acts (some (.int z))).1 = T.setFrames fs) : Steps p.tables e below (T.setTop (mkF m pc Ls (.int z :: rest))) (T.setFrames fs) := by
  have hm' : T.vm.method? m = some meth := X.method'
  have hn : narrow .int (.int z) = .int z := rfl
  show Steps p.tables e below (T.setTop { method := m, pc := pc, locals := Ls, stack := _ :: rest, locked := none }) _
  jvm_step X.here [X.here.top, hx, hd, hm', hret, hn]
  first | (intro acts; rw [hl _ acts rfl rfl rfl]) | rw [hl _ _ rfl rfl rfl]
  exact Steps.refl _
end New
end Jvm.RoadKit
namespace Jvm.Pilot.@@N@@
open Jvm Jvm.ClassFile Sem Op Lib Jvm.Free Jvm.Stand Jvm.LawKit Jvm.RoadKit Bundle Jvm.Pilot.@@N@@.Jvm.D
theorem own_more {p : Program} {l : Launch} {e : Env} {R : Room} {s : State} {m : MethodId} {args : Array Value} {below : List Frame} {meth : Method} {c : Code} {T : State} {locs : List Loc} {k n k' n' : Nat} (X : Stand p l e R s m args below meth c T locs k n) (hk : k ≤ k') (hn : n ≤ n') : Stand p l e R s m args below meth c T locs k' n' := { X with same := X.same.mono hk hn }
theorem own_nar {t : FieldType} {v : Value} (h : v.isRef = true) (ht : t.isReference = true := by rfl) : narrow t v = v := by
  rcases ref_cases h with rfl | ⟨a, rfl⟩ <;> cases t <;> first | rfl | (cases ht; done)
theorem own_fit {t : FieldType} {v : Value} (h : v.isRef = true) (ht : t.isReference = true := by rfl) : fits t v = true := by
  rcases ref_cases h with rfl | ⟨a, rfl⟩ <;> cases t <;> first | rfl | (cases ht; done)
theorem own_ifc {P Q : Prop} [Decidable P] [Decidable Q] {α : Type} {a b c d : α} (h : P ↔ Q) (h1 : a = c) (h2 : b = d) : (if P then a else b) = (if Q then c else d) := by
  subst h1 h2; by_cases q : Q
  · rw [if_pos q, if_pos (h.mpr q)]
  · rw [if_neg q, if_neg (fun p => q (h.mp p))]
theorem own_cat {v : Value} (h : v.isRef = true) : v.category = 1 := by rcases ref_cases h with rfl | ⟨a, rfl⟩ <;> rfl
abbrev Rch (p : Program) (e : Env) (below : List Frame) (A B : State) : Prop := ∀ t, Steps p.tables e below B t → Steps p.tables e below A t

theorem own_ci (p : Int32) (h0 : ¬ (p < (-128 : Int32))) (h1 : ¬ ((127 : Int32) < p)) : (¬ (p + (128 : Int32)) < 0 ∧ (p + (128 : Int32)) < (256 : Int32)) ∧ (p + (128 : Int32)).toNatClampNeg < 256 := by
  have a := c_iadd p 128
  have r := rng32 (p + 128)
  have e1 : (128 : Int32).toInt = 128 := rfl
  have e2 : (-128 : Int32).toInt = -128 := rfl
  have e3 : (127 : Int32).toInt = 127 := rfl
  have e4 : (256 : Int32).toInt = 256 := rfl
  have e5 : (0 : Int32).toInt = 0 := rfl
  rw [Int32.lt_iff_toInt_lt] at h0 h1
  refine ⟨⟨?_, ?_⟩, ?_⟩
  · rw [Int32.lt_iff_toInt_lt]; omega
  · rw [Int32.lt_iff_toInt_lt]; omega
  · simp only [Int32.toNatClampNeg]; omega
theorem own_nsRoot {Z : State} {a0 : Array Value} {O K : String} {n : Nat} (w : (Cond.noSuperclass O).before a0 Z = true) (wk : (Cond.instantiable K n).before a0 Z = true) (hn : O ≠ K) : NS Z O K := by
  obtain ⟨c, k, hc, hk, hs, -⟩ := Cond.noSuperclass_spec w
  obtain ⟨t, kt, ht, -⟩ := Cond.instantiable_spec wk
  refine ⟨c, t, hc, ht, fun fuel => ?_⟩
  have hne := ids_ne hc ht hn
  cases fuel <;> simp [Vm.isSubclassAux, hne, hk, hs]
theorem own_nsNo {Z : State} {a0 : Array Value} {C S K : String} {n : Nat} (w : (Cond.superclass C S).before a0 Z = true) (wk : (Cond.instantiable K n).before a0 Z = true) (N : NS Z C K) (hn : C ≠ K) : ∃ c t, Z.vm.findClass C = some c ∧ Z.vm.findClass K = some t ∧ Z.vm.assignable c t = false := by
  obtain ⟨c, t, hc, ht, hN⟩ := N
  obtain ⟨_, k, _, -, hk, -, -, hord, -, -⟩ := Cond.superclass_spec hc w
  obtain ⟨t', kt, ht', hkt, hordt, hfl, -⟩ := Cond.instantiable_spec wk
  cases ht.symm.trans ht'
  have hi : kt.isInterface = false := (Bool.or_eq_false_iff.mp hfl).1
  have hne := ids_ne hc ht hn
  refine ⟨c, t, hc, ht, ?_⟩
  show Z.vm.assignableAux (255 + 1) c t = false
  simp [Vm.assignableAux, hne, hk, hkt, hord, hordt, hi, Vm.isSubclass, hN]
theorem own_hasL (c : Cell) : ∀ (L : List Value) (i : Nat), (∀ j, j < L.length → c.slots[i + j]? = L[j]?) → HasL c i L
  | [], _, _ => trivial
  | v :: r, i, h => ⟨by simpa using h 0 (by simp), own_hasL c r (i + 1) fun j hj => by
      have := h (j + 1) (by simpa using hj)
      rw [show i + 1 + j = i + (j + 1) by omega, this]; simp⟩
theorem own_cache {s : State} {args : Array Value} {a : Addr} {cl : Cell} {t : Term} {d : Jvm.Cond} (hf : Fit s) (ht : ∀ idx, t.eval args s none idx s = some (.ref a)) (A : Arr s s.heap a cl (.object "java/lang/Integer")) (l1 : cl.slots.size < 2 ^ 31) (l2 : cl.slots.size.toInt32 = (256 : Int32)) (h : (Jvm.Cond.all t (Jvm.Cond.and (Jvm.Cond.exactly (Term.elem t (Term.index 0)) "java/lang/Integer") d)).value args s none s [] = some true) :
    Arv s s.heap a cl.cls (.object "java/lang/Integer") (256 : Int32) cl.slots.toList .null ∧ ∀ i : Nat, i < 256 → ∃ r : Addr, cl.slots.toList.getD i .null = .ref r ∧ Exa s s.heap r "java/lang/Integer" := by
  have hs : cl.slots.size = 256 := by
    have e := len_toInt l1
    rw [l2] at e
    have : (256 : Int32).toInt = 256 := rfl
    omega
  refine ⟨Arv.start hf A l1 l2 (by decide) (by show 256 = _; simp [hs]) (own_hasL cl _ 0 fun j hj => by simp), fun i hi => ?_⟩
  have hi' : i < cl.slots.size := by omega
  have hv := Cond.all_elim (ht []) (A.fin (Vm.Alike.refl _)) h i hi'
  obtain ⟨hx, -⟩ := and_e hv
  obtain ⟨r, hr⟩ := exa_v hx
  have hj : (Term.index 0).eval args s none [i] s = some (.int i.toInt32) := rfl
  have q := (elem_in hr (ht [i]) hj A.1).2
  have e : i.toInt32.toNatClampNeg = i := by
    have := len_toInt (n := i) (by omega)
    simp only [Int32.toNatClampNeg, this]; omega
  rw [e] at q
  refine ⟨r, ?_, exa_at hr hx⟩
  rw [List.getD_eq_getElem?_getD, Array.getElem?_toList, q]; rfl

theorem own_si {args : Array Value} {s : State} {t : Term} {k : Int32} (h : (Cond.eq t (Term.int k)).value args s none s [] = some true) : t.eval args s none [] s = some (.int k) := by
  obtain ⟨u, w, h1, h2, -, h4⟩ := cmp_v (Or.inl h)
  have e2 : w = .int k := by simpa [Term.eval] using h2.symm
  subst e2
  obtain ⟨z, rfl⟩ := h4
  have q : z = k := by simpa [Cond.value, h1, h2] using h
  subst q; exact h1
theorem own_len {args : Array Value} {s : State} {t : Term} {a : Addr} {cl : Cell} {k : Int32} (ht : t.eval args s none [] s = some (.ref a)) (ha : s.arrayAt? a = some cl) (h : (Cond.eq (Term.length t) (Term.int k)).value args s none s [] = some true) : cl.slots.size < 2 ^ 31 ∧ cl.slots.size.toInt32 = k := by
  obtain ⟨p, w, h1, h2, -, -⟩ := cmp_v (Or.inl h)
  by_cases q : cl.slots.size < 2 ^ 31
  · refine ⟨q, ?_⟩
    rw [Cond.eq_ints (len_f ht ha q) (Term.int_eval k)] at h
    simpa using h
  · simp [Term.eval, ht, ha, q] at h1
theorem own_ord {args : Array Value} {s : State} {t : Term} {x : Addr} {k : Int32} {C n d : String} (ht : t.eval args s none [] s = some (.ref x)) (h : (Cond.eq (Term.field t C n d) (Term.int k)).value args s none s [] = some true) : Fld s s.heap x C n d (.int k) := by
  obtain ⟨u, w, h1, h2, -, h4⟩ := cmp_v (Or.inl h)
  have e2 : w = .int k := by simpa [Term.eval] using h2.symm
  subst e2
  obtain ⟨z, rfl⟩ := h4
  have q : z = k := by simpa [Cond.value, h1, h2] using h
  subst q
  rw [fld_at ht] at h1
  exact Fld.start h1

theorem d7_0 : decode jdk_18_method_1_code 0 = .ok (.aload_n 0, 1) := by decide +kernel
theorem d7_1 : decode jdk_18_method_1_code 1 = .ok (.invokespecial 1, 3) := by decide +kernel
theorem d7_4 : decode jdk_18_method_1_code 4 = .ok (.return_, 1) := by decide +kernel
theorem pn_0 : plainName "java/lang/Number" = true := by first | (simp [plainName, overriddenIn]; done) | decide +kernel
theorem d6_0 : decode jdk_33_method_23_code 0 = .ok (.aload_n 0, 1) := by decide +kernel
theorem d6_1 : decode jdk_33_method_23_code 1 = .ok (.invokespecial 202, 3) := by decide +kernel
theorem d6_4 : decode jdk_33_method_23_code 4 = .ok (.aload_n 0, 1) := by decide +kernel
theorem d6_5 : decode jdk_33_method_23_code 5 = .ok (.iload_n 1, 1) := by decide +kernel
theorem d6_6 : decode jdk_33_method_23_code 6 = .ok (.putfield 205, 3) := by decide +kernel
theorem d6_9 : decode jdk_33_method_23_code 9 = .ok (.return_, 1) := by decide +kernel
theorem pn_1 : plainName "java/lang/Integer" = true := by first | (simp [plainName, overriddenIn]; done) | decide +kernel
theorem d5_0 : decode jdk_33_method_22_code 0 = .ok (.iload_n 0, 1) := by decide +kernel
theorem d5_1 : decode jdk_33_method_22_code 1 = .ok (.bipush (-128), 2) := by decide +kernel
theorem d5_3 : decode jdk_33_method_22_code 3 = .ok (.if_icmp .lt 20, 3) := by decide +kernel
theorem d5_23 : decode jdk_33_method_22_code 23 = .ok (.new 1, 3) := by decide +kernel
theorem d5_6 : decode jdk_33_method_22_code 6 = .ok (.iload_n 0, 1) := by decide +kernel
theorem d5_7 : decode jdk_33_method_22_code 7 = .ok (.getstatic 191, 3) := by decide +kernel
theorem d5_26 : decode jdk_33_method_22_code 26 = .ok (.dup, 1) := by decide +kernel
theorem d5_27 : decode jdk_33_method_22_code 27 = .ok (.iload_n 0, 1) := by decide +kernel
theorem d5_28 : decode jdk_33_method_22_code 28 = .ok (.invokespecial 199, 3) := by decide +kernel
theorem d5_31 : decode jdk_33_method_22_code 31 = .ok (.areturn, 1) := by decide +kernel
theorem d5_10 : decode jdk_33_method_22_code 10 = .ok (.if_icmp .gt 13, 3) := by decide +kernel
theorem d5_13 : decode jdk_33_method_22_code 13 = .ok (.getstatic 195, 3) := by decide +kernel
theorem d5_16 : decode jdk_33_method_22_code 16 = .ok (.iload_n 0, 1) := by decide +kernel
theorem d5_17 : decode jdk_33_method_22_code 17 = .ok (.sipush 128, 3) := by decide +kernel
theorem d5_20 : decode jdk_33_method_22_code 20 = .ok (.iadd, 1) := by decide +kernel
theorem d5_21 : decode jdk_33_method_22_code 21 = .ok (.aaload, 1) := by decide +kernel
theorem d5_22 : decode jdk_33_method_22_code 22 = .ok (.areturn, 1) := by decide +kernel
theorem d1_0 : decode method_2_code 0 = .ok (.iload_n 0, 1) := by decide +kernel
theorem d1_1 : decode method_2_code 1 = .ok (.ldc 7, 2) := by decide +kernel
theorem d1_3 : decode method_2_code 3 = .ok (.iand, 1) := by decide +kernel
theorem d1_4 : decode method_2_code 4 = .ok (.iconst 3, 1) := by decide +kernel
theorem d1_5 : decode method_2_code 5 = .ok (.irem, 1) := by decide +kernel
theorem d1_6 : decode method_2_code 6 = .ok (.istore_n 1, 1) := by decide +kernel
theorem d1_7 : decode method_2_code 7 = .ok (.iload_n 1, 1) := by decide +kernel
theorem d1_8 : decode method_2_code 8 = .ok (.ifCond .ne 7, 3) := by decide +kernel
theorem d1_15 : decode method_2_code 15 = .ok (.iload_n 1, 1) := by decide +kernel
theorem d1_16 : decode method_2_code 16 = .ok (.iconst 1, 1) := by decide +kernel
theorem d1_17 : decode method_2_code 17 = .ok (.if_icmp .ne 7, 3) := by decide +kernel
theorem d1_24 : decode method_2_code 24 = .ok (.getstatic 17, 3) := by decide +kernel
theorem d1_20 : decode method_2_code 20 = .ok (.getstatic 14, 3) := by decide +kernel
theorem d1_11 : decode method_2_code 11 = .ok (.getstatic 8, 3) := by decide +kernel
theorem d1_14 : decode method_2_code 14 = .ok (.areturn, 1) := by decide +kernel
theorem d1_23 : decode method_2_code 23 = .ok (.areturn, 1) := by decide +kernel
theorem d1_27 : decode method_2_code 27 = .ok (.areturn, 1) := by decide +kernel
theorem pn_2 : plainName "com/example/usher/usher/server/MemberStatusEqualsPinLaw" = true := by first | (simp [plainName, overriddenIn]; done) | decide +kernel
theorem d2_0 : decode prog_70_method_1_code 0 = .ok (.aload_n 0, 1) := by decide +kernel
theorem d2_1 : decode prog_70_method_1_code 1 = .ok (.invokespecial 1, 3) := by decide +kernel
theorem d2_4 : decode prog_70_method_1_code 4 = .ok (.aload_n 0, 1) := by decide +kernel
theorem d2_5 : decode prog_70_method_1_code 5 = .ok (.iload_n 1, 1) := by decide +kernel
theorem d2_6 : decode prog_70_method_1_code 6 = .ok (.putfield 7, 3) := by decide +kernel
theorem d2_9 : decode prog_70_method_1_code 9 = .ok (.aload_n 0, 1) := by decide +kernel
theorem d2_10 : decode prog_70_method_1_code 10 = .ok (.aload_n 2, 1) := by decide +kernel
theorem d2_11 : decode prog_70_method_1_code 11 = .ok (.putfield 13, 3) := by decide +kernel
theorem d2_14 : decode prog_70_method_1_code 14 = .ok (.aload_n 0, 1) := by decide +kernel
theorem d2_15 : decode prog_70_method_1_code 15 = .ok (.iload_n 3, 1) := by decide +kernel
theorem d2_16 : decode prog_70_method_1_code 16 = .ok (.putfield 17, 3) := by decide +kernel
theorem d2_19 : decode prog_70_method_1_code 19 = .ok (.aload_n 0, 1) := by decide +kernel
theorem d2_20 : decode prog_70_method_1_code 20 = .ok (.lload 4, 2) := by decide +kernel
theorem d2_22 : decode prog_70_method_1_code 22 = .ok (.putfield 20, 3) := by decide +kernel
theorem d2_25 : decode prog_70_method_1_code 25 = .ok (.aload_n 0, 1) := by decide +kernel
theorem d2_26 : decode prog_70_method_1_code 26 = .ok (.iload 6, 2) := by decide +kernel
theorem d2_28 : decode prog_70_method_1_code 28 = .ok (.putfield 24, 3) := by decide +kernel
theorem d2_31 : decode prog_70_method_1_code 31 = .ok (.return_, 1) := by decide +kernel
theorem pn_3 : plainName "com/example/usher/usher/server/MemberStatus" = true := by first | (simp [plainName, overriddenIn]; done) | decide +kernel
theorem d4_0 : decode prog_70_method_10_code 0 = .ok (.aload_n 1, 1) := by decide +kernel
theorem d4_1 : decode prog_70_method_10_code 1 = .ok (.instanceof 8, 3) := by decide +kernel
theorem d4_4 : decode prog_70_method_10_code 4 = .ok (.ifCond .eq 68, 3) := by decide +kernel
theorem d4_7 : decode prog_70_method_10_code 7 = .ok (.aload_n 1, 1) := by decide +kernel
theorem d4_8 : decode prog_70_method_10_code 8 = .ok (.checkcast 8, 3) := by decide +kernel
theorem d4_11 : decode prog_70_method_10_code 11 = .ok (.astore_n 2, 1) := by decide +kernel
theorem d4_12 : decode prog_70_method_10_code 12 = .ok (.aload_n 0, 1) := by decide +kernel
theorem d4_13 : decode prog_70_method_10_code 13 = .ok (.getfield 7, 3) := by decide +kernel
theorem d4_16 : decode prog_70_method_10_code 16 = .ok (.aload_n 2, 1) := by decide +kernel
theorem d4_17 : decode prog_70_method_10_code 17 = .ok (.getfield 7, 3) := by decide +kernel
theorem d4_20 : decode prog_70_method_10_code 20 = .ok (.if_icmp .ne 52, 3) := by decide +kernel
theorem d4_72 : decode prog_70_method_10_code 72 = .ok (.iconst 0, 1) := by decide +kernel
theorem d4_23 : decode prog_70_method_10_code 23 = .ok (.aload_n 0, 1) := by decide +kernel
theorem d4_24 : decode prog_70_method_10_code 24 = .ok (.getfield 13, 3) := by decide +kernel
theorem d4_27 : decode prog_70_method_10_code 27 = .ok (.aload_n 2, 1) := by decide +kernel
theorem d4_28 : decode prog_70_method_10_code 28 = .ok (.getfield 13, 3) := by decide +kernel
theorem d4_31 : decode prog_70_method_10_code 31 = .ok (.if_acmp .ne 41, 3) := by decide +kernel
theorem d4_34 : decode prog_70_method_10_code 34 = .ok (.aload_n 0, 1) := by decide +kernel
theorem d4_35 : decode prog_70_method_10_code 35 = .ok (.getfield 17, 3) := by decide +kernel
theorem d4_38 : decode prog_70_method_10_code 38 = .ok (.aload_n 2, 1) := by decide +kernel
theorem d4_39 : decode prog_70_method_10_code 39 = .ok (.getfield 17, 3) := by decide +kernel
theorem d4_42 : decode prog_70_method_10_code 42 = .ok (.if_icmp .ne 30, 3) := by decide +kernel
theorem d4_45 : decode prog_70_method_10_code 45 = .ok (.aload_n 0, 1) := by decide +kernel
theorem d4_46 : decode prog_70_method_10_code 46 = .ok (.getfield 20, 3) := by decide +kernel
theorem d4_49 : decode prog_70_method_10_code 49 = .ok (.aload_n 2, 1) := by decide +kernel
theorem d4_50 : decode prog_70_method_10_code 50 = .ok (.getfield 20, 3) := by decide +kernel
theorem d4_53 : decode prog_70_method_10_code 53 = .ok (.lcmp, 1) := by decide +kernel
theorem d4_54 : decode prog_70_method_10_code 54 = .ok (.ifCond .ne 18, 3) := by decide +kernel
theorem d4_57 : decode prog_70_method_10_code 57 = .ok (.aload_n 0, 1) := by decide +kernel
theorem d4_58 : decode prog_70_method_10_code 58 = .ok (.getfield 24, 3) := by decide +kernel
theorem d4_61 : decode prog_70_method_10_code 61 = .ok (.aload_n 2, 1) := by decide +kernel
theorem d4_62 : decode prog_70_method_10_code 62 = .ok (.getfield 24, 3) := by decide +kernel
theorem d4_65 : decode prog_70_method_10_code 65 = .ok (.if_icmp .ne 7, 3) := by decide +kernel
theorem d4_68 : decode prog_70_method_10_code 68 = .ok (.iconst 1, 1) := by decide +kernel
theorem d4_69 : decode prog_70_method_10_code 69 = .ok (.goto 4, 3) := by decide +kernel
theorem d4_73 : decode prog_70_method_10_code 73 = .ok (.ireturn, 1) := by decide +kernel
theorem pd_0 : parseMethodDescriptor "()V" = some ⟨[], none⟩ := by decide +kernel
theorem pd_1 : parseMethodDescriptor "(I)V" = some ⟨[.int], none⟩ := by decide +kernel
theorem pd_2 : parseMethodDescriptor "(I)Lcom/example/usher/usher/server/MemberStatus$Role;" = some ⟨[.int], some (.object "com/example/usher/usher/server/MemberStatus$Role")⟩ := by decide +kernel
theorem pd_3 : parseMethodDescriptor "(ILcom/example/usher/usher/server/MemberStatus$Role;IJZ)V" = some ⟨[.int, (.object "com/example/usher/usher/server/MemberStatus$Role"), .int, .long, .boolean], none⟩ := by decide +kernel
theorem pd_4 : parseMethodDescriptor "(Ljava/lang/Object;)Z" = some ⟨[(.object "java/lang/Object")], some .boolean⟩ := by decide +kernel
theorem pd_5 : parseMethodDescriptor "(I)Ljava/lang/Integer;" = some ⟨[.int], some (.object "java/lang/Integer")⟩ := by decide +kernel
def Q_rmNum (Z : State) (a1 : Addr) (h0 : Heap) (n0 : Nat) (v : Option Value) (h : Heap) (L : List Loc) : Prop := v = none ∧ Fr n0 L ∧ h = h0
set_option maxRecDepth 65536 in
set_option maxHeartbeats 40000000 in
theorem rmNum (l : Launch) (Z : State) (a0 : Array Value) (hw : ∀ d ∈ tables_1, d.before a0 Z = true) (ws : List Jvm.Cond) (a1 : Addr) (h0 : Heap) (n0 : Nat) (Z0 : n0 ≤ h0.size) :
    MetFree l (⟨"java/lang/Number", "<init>", "()V"⟩ : MethodName) (head1 (Jvm.Cond.code (⟨"java/lang/Number", "<init>", "()V"⟩ : MethodName) jdk_18_method_1_code 1 none :: ws) ({ frames := 1, cells := 0, slots := 0, locals := 12 } : Room)) (fun a U => a = #[(.ref a1)] ∧ Z.Warmed39 U.vm ∧ U.heap = h0) (fun _ _ _ _ _ => True) (fun _ U o U' => ∃ v L, o = .returned v ∧ Q_rmNum Z a1 h0 n0 v U'.heap L ∧ FrameEnd U o U' L ({ frames := 1, cells := 0, slots := 0, locals := 12 } : Room).cells ({ frames := 1, cells := 0, slots := 0, locals := 12 } : Room).slots) := by
  refine MetFree.of_bodySF (plainFor_of_name pn_0) hisR ?_
  intro p e s m args below meth c s₁ Bd hml0 hP hK
  obtain ⟨rfl, hZ, hh⟩ := hP
  have hx := Bd.exec
  have hby := Bd.bytes
  have hml : c.maxLocals = 1 := hml0
  have hown : s.vm.findClass "java/lang/Number" = some m.cls := findClass_of_methodNamed Bd.named
  have hnm := (name_of_methodNamed Bd.named Bd.method).1
  have X0 : Stand p l e ({ frames := 1, cells := 0, slots := 0, locals := 12 } : Room) s m #[(.ref a1)] below meth c s₁ [] 0 0 := Stand.of_body Bd
  have e0 : s₁.heap = h0 := by rw [← hh, Bd.state]; rfl
  have N0 := Fr.nil n0
  have P0 : Rch p e below (s₁.setTop (entryFrame m #[(.ref a1)] 1)) (s₁.setTop (mkF m 0 #[.val (.ref a1)] [])) := fun t k => castTop (by first | (simp [entryFrame, mkF, argsToLocals, Value.category]; done) | rfl) k
  have P1 : Rch p e below (s₁.setTop (entryFrame m #[(.ref a1)] 1)) (s₁.setTop (mkF m 1 #[.val (.ref a1)] [(.ref a1)])) := fun t k => P0 t (by
    show Steps p.tables e below (s₁.setTop (mkF m 0 #[.val (.ref a1)] [])) t
    refine XS.aloadN X0.here hx rfl (hb hby d7_0) rfl rfl ?_
    exact k)
  obtain ⟨T2, X2, e2, st2⟩ := initO X0 hx hZ hown (hw _ (List.mem_of_getElem? (i := 60) rfl)) (hw _ (List.mem_of_getElem? (i := 15) rfl)) (hw _ (List.mem_of_getElem? (i := 16) rfl)) e0 (g := (mkF m 1 #[.val (.ref a1)] [(.ref a1)])) rfl (by rw [hml]; rfl) rfl (hb hby d7_1) (by decide) (W := 0) (by show 2 * 0 + _ ≤ _; exact Nat.le_of_eq rfl) (by decide)
  have P3 : Rch p e below (s₁.setTop (entryFrame m #[(.ref a1)] 1)) (T2.setTop (mkF m 4 #[.val (.ref a1)] [])) := fun t k => P1 t (st2 t k)
  obtain ⟨fs, hr, hrun, hended, hW, hsame⟩ := X2.leave (v := none) (fun _ => rfl)
  refine ⟨_, _, P3 _ ?_, hrun, hended, _, _, rfl, ?_, ⟨_, rfl⟩, hW, hsame.mono (by decide) (by decide)⟩
  · exact X2.returnOut hx Bd.returns (hb hby d7_4) hr
  · show Q_rmNum Z a1 h0 n0 _ T2.heap _
    rw [e2]
    exact ⟨rfl, N0, rfl⟩
def Q_rmInt (Z : State) (a1 : Addr) (p2 : Int32) (h0 : Heap) (n0 : Nat) (v : Option Value) (h : Heap) (L : List Loc) : Prop := v = none ∧ Fr n0 L ∧ Keep h0 h [a1] ∧ (Exa Z h a1 "java/lang/Integer") ∧ (Fld Z h a1 "java/lang/Integer" "value" "I" (.int p2))
set_option maxRecDepth 65536 in
set_option maxHeartbeats 40000000 in
theorem rmInt (l : Launch) (Z : State) (a0 : Array Value) (hw : ∀ d ∈ tables_1, d.before a0 Z = true) (ws : List Jvm.Cond) (a1 : Addr) (p2 : Int32) (h0 : Heap) (n0 : Nat) (Z0 : n0 ≤ h0.size) (E1 : Exa Z h0 a1 "java/lang/Integer") (g1 : n0 ≤ a1) (F0 : Fld Z h0 a1 "java/lang/Integer" "value" "I" (.int (0 : Int32))) :
    MetFree l (⟨"java/lang/Integer", "<init>", "(I)V"⟩ : MethodName) (head1 (Jvm.Cond.code (⟨"java/lang/Integer", "<init>", "(I)V"⟩ : MethodName) jdk_33_method_23_code 2 none :: ws) ({ frames := 2, cells := 0, slots := 0, locals := 24 } : Room)) (fun a U => a = #[(.ref a1), (.int p2)] ∧ Z.Warmed39 U.vm ∧ U.heap = h0) (fun _ _ _ _ _ => True) (fun _ U o U' => ∃ v L, o = .returned v ∧ Q_rmInt Z a1 p2 h0 n0 v U'.heap L ∧ FrameEnd U o U' L ({ frames := 2, cells := 0, slots := 0, locals := 24 } : Room).cells ({ frames := 2, cells := 0, slots := 0, locals := 24 } : Room).slots) := by
  refine MetFree.of_bodySF (plainFor_of_name pn_1) hisR ?_
  intro p e s m args below meth c s₁ Bd hml0 hP hK
  obtain ⟨rfl, hZ, hh⟩ := hP
  have hx := Bd.exec
  have hby := Bd.bytes
  have hml : c.maxLocals = 2 := hml0
  have hown : s.vm.findClass "java/lang/Integer" = some m.cls := findClass_of_methodNamed Bd.named
  have hnm := (name_of_methodNamed Bd.named Bd.method).1
  have X0 : Stand p l e ({ frames := 2, cells := 0, slots := 0, locals := 24 } : Room) s m #[(.ref a1), (.int p2)] below meth c s₁ [] 0 0 := Stand.of_body Bd
  have e0 : s₁.heap = h0 := by rw [← hh, Bd.state]; rfl
  have N0 := Fr.nil n0
  have P0 : Rch p e below (s₁.setTop (entryFrame m #[(.ref a1), (.int p2)] 2)) (s₁.setTop (mkF m 0 #[.val (.ref a1), .val (.int p2)] [])) := fun t k => castTop (by first | (simp [entryFrame, mkF, argsToLocals, Value.category]; done) | rfl) k
  have P1 : Rch p e below (s₁.setTop (entryFrame m #[(.ref a1), (.int p2)] 2)) (s₁.setTop (mkF m 1 #[.val (.ref a1), .val (.int p2)] [(.ref a1)])) := fun t k => P0 t (by
    show Steps p.tables e below (s₁.setTop (mkF m 0 #[.val (.ref a1), .val (.int p2)] [])) t
    refine XS.aloadN X0.here hx rfl (hb hby d6_0) rfl rfl ?_
    exact k)
  obtain ⟨_, _, ⟨T2, L2, k2, n2⟩, -, X2, ⟨Lc2, hQ2, l2, y2, z2⟩, st2⟩ := X0.specialBack hx (y := (⟨"java/lang/Number", "<init>", "()V"⟩ : MethodName)) rfl hown (mvT hZ (hw _ (List.mem_of_getElem? (i := 54) rfl))) (mvT hZ (hw _ (List.mem_of_getElem? (i := 55) rfl))) (mvT hZ (hw _ (List.mem_of_getElem? (i := 59) rfl))) (by decide) (backOf (W := 0) (rmNum l Z a0 hw [] a1 h0 n0 Z0 ) hZ (hw _ (List.mem_of_getElem? (i := 59) rfl)) (hw _ (List.mem_of_getElem? (i := 58) rfl)) (by decide) (by decide)) (g := (mkF m 1 #[.val (.ref a1), .val (.int p2)] [(.ref a1)])) rfl (by rw [hml]; rfl) (Steps.refl _) (a := a1) (argsL := []) (rest := []) (lenOf pd_0 rfl) rfl (by show 2 * 0 + _ ≤ _; exact Nat.le_of_eq rfl) (hb hby d6_1) (fun _ _ => ⟨rfl, e0, (by decide : 0 + 0 ≤ _), (by decide : 0 + 0 ≤ _)⟩)
  dsimp only [Pt.U, Pt.locs, Pt.cells, Pt.slots] at X2 l2 y2 z2 st2 hQ2
  subst l2 y2 z2
  obtain ⟨rfl, N2q, e2⟩ := hQ2
  have N2 := Fr.app N0 N2q
  have P3 : Rch p e below (s₁.setTop (entryFrame m #[(.ref a1), (.int p2)] 2)) (T2.setTop (mkF m 4 #[.val (.ref a1), .val (.int p2)] [])) := fun t k => P1 t (st2.trans k)
  have P4 : Rch p e below (s₁.setTop (entryFrame m #[(.ref a1), (.int p2)] 2)) (T2.setTop (mkF m 6 #[.val (.ref a1), .val (.int p2)] [(.int p2), (.ref a1)])) := fun t k => P3 t (by
    show Steps p.tables e below (T2.setTop (mkF m 4 #[.val (.ref a1), .val (.int p2)] [])) t
    refine XS.aloadN X2.here hx rfl (hb hby d6_4) rfl rfl ?_
    show Steps p.tables e below (T2.setTop (mkF m 5 #[.val (.ref a1), .val (.int p2)] [(.ref a1)])) t
    refine XS.iloadN X2.here hx rfl (hb hby d6_5) rfl ?_
    exact k)
  obtain ⟨T5, h5, X5, e5, W5, st5⟩ := putF X2 hx hZ hown (host := "") (Or.inl (hw _ (List.mem_of_getElem? (i := 61) rfl))) Via.refl e2 F0 E1 (Or.inr ⟨(hw _ (List.mem_of_getElem? (i := 62) rfl)), rfl, hnm⟩) (hw _ (List.mem_of_getElem? (i := 49) rfl)) (ty := .int) (by decide) rfl rfl (g := (mkF m 6 #[.val (.ref a1), .val (.int p2)] [(.int p2), (.ref a1)])) rfl rfl (hb hby d6_6)
  have Fw5 := F0.same W5
  have P6 : Rch p e below (s₁.setTop (entryFrame m #[(.ref a1), (.int p2)] 2)) (T5.setTop (mkF m 9 #[.val (.ref a1), .val (.int p2)] [])) := fun t k => P4 t (st5 t k)
  have N5 := Fr.snoc X5 N2 g1
  obtain ⟨fs, hr, hrun, hended, hW, hsame⟩ := X5.leave (v := none) (fun _ => rfl)
  refine ⟨_, _, P6 _ ?_, hrun, hended, _, _, rfl, ?_, ⟨_, rfl⟩, hW, hsame.mono (by decide) (by decide)⟩
  · exact X5.returnOut hx Bd.returns (hb hby d6_9) hr
  · show Q_rmInt Z a1 p2 h0 n0 _ T5.heap _
    rw [e5]
    have f7 : Keep h0 h5 [a1] := ((Keep.refl h0 [a1]).wr W5 (Or.inl (List.mem_of_getElem? (i := 0) rfl)))
    exact ⟨rfl, N5, f7, (E1.wr W5), Fw5⟩
def Q_rmVal (Z : State) (p1 : Int32) (aC : Addr) (kC : ClassId) (vC : List Value) (h0 : Heap) (n0 : Nat) (v : Option Value) (h : Heap) (L : List Loc) : Prop := ∃ (r_ : Addr), v = some (.ref r_) ∧ Fr n0 L ∧ Keep h0 h [] ∧ (Exa Z h r_ "java/lang/Integer")
set_option maxRecDepth 65536 in
set_option maxHeartbeats 40000000 in
theorem rmVal (l : Launch) (Z : State) (a0 : Array Value) (hw : ∀ d ∈ tables_1, d.before a0 Z = true) (ws : List Jvm.Cond) (p1 : Int32) (aC : Addr) (kC : ClassId) (vC : List Value) (h0 : Heap) (n0 : Nat) (Z0 : n0 ≤ h0.size) (O0 : Old Z n0 h0) (Shi : Sta Z Z.heap "java/lang/Integer$IntegerCache" "high" "I" (.int (127 : Int32))) (Sca : Sta Z Z.heap "java/lang/Integer$IntegerCache" "cache" "[Ljava/lang/Integer;" (.ref aC)) (Vca : Arv Z Z.heap aC kC (.object "java/lang/Integer") (256 : Int32) vC .null) (hca : ∀ i : Nat, i < 256 → ∃ r : Addr, vC.getD i .null = .ref r ∧ Exa Z Z.heap r "java/lang/Integer") :
    MetFree l (⟨"java/lang/Integer", "valueOf", "(I)Ljava/lang/Integer;"⟩ : MethodName) (head1 (Jvm.Cond.code (⟨"java/lang/Integer", "valueOf", "(I)Ljava/lang/Integer;"⟩ : MethodName) jdk_33_method_22_code 1 (some (.object "java/lang/Integer")) :: ws) ({ frames := 3, cells := 1, slots := 1, locals := 38 } : Room)) (fun a U => a = #[(.int p1)] ∧ Z.Warmed39 U.vm ∧ U.heap = h0) (fun _ _ _ _ _ => True) (fun _ U o U' => ∃ v L, o = .returned v ∧ Q_rmVal Z p1 aC kC vC h0 n0 v U'.heap L ∧ FrameEnd U o U' L ({ frames := 3, cells := 1, slots := 1, locals := 38 } : Room).cells ({ frames := 3, cells := 1, slots := 1, locals := 38 } : Room).slots) := by
  refine MetFree.of_bodySF (plainFor_of_name pn_1) hisR ?_
  intro p e s m args below meth c s₁ Bd hml0 hP hK
  obtain ⟨rfl, hZ, hh⟩ := hP
  have hx := Bd.exec
  have hby := Bd.bytes
  have hml : c.maxLocals = 1 := hml0
  have hown : s.vm.findClass "java/lang/Integer" = some m.cls := findClass_of_methodNamed Bd.named
  have hnm := (name_of_methodNamed Bd.named Bd.method).1
  have X0 : Stand p l e ({ frames := 3, cells := 1, slots := 1, locals := 38 } : Room) s m #[(.int p1)] below meth c s₁ [] 0 0 := Stand.of_body Bd
  have e0 : s₁.heap = h0 := by rw [← hh, Bd.state]; rfl
  have N0 := Fr.nil n0
  have P0 : Rch p e below (s₁.setTop (entryFrame m #[(.int p1)] 1)) (s₁.setTop (mkF m 0 #[.val (.int p1)] [])) := fun t k => castTop (by first | (simp [entryFrame, mkF, argsToLocals, Value.category]; done) | rfl) k
  have P1 : Rch p e below (s₁.setTop (entryFrame m #[(.int p1)] 1)) (s₁.setTop (mkF m 3 #[.val (.int p1)] [(.int (-128 : Int32)), (.int p1)])) := fun t k => P0 t (by
    show Steps p.tables e below (s₁.setTop (mkF m 0 #[.val (.int p1)] [])) t
    refine XS.iloadN X0.here hx rfl (hb hby d5_0) rfl ?_
    show Steps p.tables e below (s₁.setTop (mkF m 1 #[.val (.int p1)] [(.int p1)])) t
    refine XS.bipush X0.here hx rfl (hb hby d5_1) ?_
    exact k)
  by_cases c2 : p1 < (-128 : Int32)
  · have P3 : Rch p e below (s₁.setTop (entryFrame m #[(.int p1)] 1)) (s₁.setTop (mkF m 23 #[.val (.int p1)] [])) := fun t k => P1 t (by
      show Steps p.tables e below (s₁.setTop (mkF m 3 #[.val (.int p1)] [(.int (-128 : Int32)), (.int p1)])) t
      refine XS.icmpYes X0.here hx rfl (pc0 := 3) (pc' := 23) rfl (hb hby d5_3) rfl (tlt c2).1 (by decide) (by decide) ?_
      exact k)
    obtain ⟨T4, h4, X4, e4, E4, A4, D4, -, st4⟩ := newO X0 hx hZ hown (hw _ (List.mem_of_getElem? (i := 48) rfl)) (hw _ (List.mem_of_getElem? (i := 49) rfl)) (hw _ (List.mem_of_getElem? (i := 36) rfl)) e0 (g := (mkF m 23 #[.val (.int p1)] [])) rfl (hb hby d5_23) (by decide) (by decide)
    obtain ⟨b4, g4⟩ : ∃ z, z = h0.size := ⟨_, rfl⟩
    rw [← g4] at A4 D4 st4
    have g_b4 : n0 ≤ b4 := Nat.le_trans Z0 (Nat.le_of_eq g4.symm)
    have sz_b4 : h0.size ≤ b4 := Nat.le_trans (Keep.refl h0 []).1 (Nat.le_of_eq g4.symm)
    have F4_62 : Fld Z h4 b4 "java/lang/Integer" "value" "I" (.int (0 : Int32)) := D4 (Or.inr (hw _ (List.mem_of_getElem? (i := 62) rfl))) (ty := .int) (by decide)
    have P5 : Rch p e below (s₁.setTop (entryFrame m #[(.int p1)] 1)) (T4.setTop (mkF m 26 #[.val (.int p1)] [(.ref b4)])) := fun t k => P3 t (st4 t k)
    have P6 : Rch p e below (s₁.setTop (entryFrame m #[(.int p1)] 1)) (T4.setTop (mkF m 28 #[.val (.int p1)] [(.int p1), (.ref b4), (.ref b4)])) := fun t k => P5 t (by
      show Steps p.tables e below (T4.setTop (mkF m 26 #[.val (.int p1)] [(.ref b4)])) t
      refine XS.dup X4.here hx rfl (hb hby d5_26) rfl rfl ?_
      show Steps p.tables e below (T4.setTop (mkF m 27 #[.val (.int p1)] [(.ref b4), (.ref b4)])) t
      refine XS.iloadN X4.here hx rfl (hb hby d5_27) rfl ?_
      exact k)
    have f8 : n0 ≤ h4.size := (Nat.le_trans Z0 E4.1)
    obtain ⟨_, _, ⟨T7, L7, k7, n7⟩, -, X7, ⟨Lc7, hQ7, l7, y7, z7⟩, st7⟩ := X4.specialBack hx (y := (⟨"java/lang/Integer", "<init>", "(I)V"⟩ : MethodName)) rfl hown (mvT hZ (hw _ (List.mem_of_getElem? (i := 50) rfl))) (mvT hZ (hw _ (List.mem_of_getElem? (i := 51) rfl))) (mvT hZ (hw _ (List.mem_of_getElem? (i := 53) rfl))) (by decide) (backOf (W := 1) (rmInt l Z a0 hw [] b4 p1 h4 n0 f8 A4 g_b4 F4_62) hZ (hw _ (List.mem_of_getElem? (i := 53) rfl)) (hw _ (List.mem_of_getElem? (i := 36) rfl)) (by decide) (by decide)) (g := (mkF m 28 #[.val (.int p1)] [(.int p1), (.ref b4), (.ref b4)])) rfl (by rw [hml]; rfl) (Steps.refl _) (a := b4) (argsL := [(.int p1)]) (rest := [(.ref b4)]) (lenOf pd_1 rfl) rfl (by show 2 * 0 + _ ≤ _; exact Nat.le_of_eq rfl) (hb hby d5_28) (fun _ _ => ⟨rfl, e4, (by decide : 1 + 0 ≤ _), (by decide : 1 + 0 ≤ _)⟩)
    dsimp only [Pt.U, Pt.locs, Pt.cells, Pt.slots] at X7 l7 y7 z7 st7 hQ7
    subst l7 y7 z7
    obtain ⟨rfl, N7q, K7, E_7, G0_7⟩ := hQ7
    have N7 := Fr.app N0 N7q
    have P9 : Rch p e below (s₁.setTop (entryFrame m #[(.int p1)] 1)) (T7.setTop (mkF m 31 #[.val (.int p1)] [(.ref b4)])) := fun t k => P6 t (st7.trans k)
    obtain ⟨fs, hr, hrun, hended, hW, hsame⟩ := X7.leave (v := some (.ref b4)) (fun h => by rw [Bd.returns] at h; cases h)
    refine ⟨_, _, P9 _ ?_, hrun, hended, _, _, rfl, ?_, ⟨_, rfl⟩, hW, hsame.mono (by decide) (by decide)⟩
    · exact retOut X7 hx Bd.returns rfl (Or.inr (Or.inr (Or.inr (Or.inr ⟨rfl, rfl, rfl⟩)))) (hb hby d5_31) hr
    · show Q_rmVal Z p1 aC kC vC h0 n0 _ T7.heap _
      have f10 : Keep h0 T7.heap [] := (((Keep.refl h0 []).ext E4).trans K7 (allS (P := fun x => x ∈ [] ∨ h0.size ≤ x) (Or.inr sz_b4) all0))
      exact ⟨b4, rfl, N7, f10, E_7⟩
  · have P11 : Rch p e below (s₁.setTop (entryFrame m #[(.int p1)] 1)) (s₁.setTop (mkF m 7 #[.val (.int p1)] [(.int p1)])) := fun t k => P1 t (by
      show Steps p.tables e below (s₁.setTop (mkF m 3 #[.val (.int p1)] [(.int (-128 : Int32)), (.int p1)])) t
      refine XS.icmpNo X0.here hx rfl (hb hby d5_3) rfl (flt c2).1 ?_
      show Steps p.tables e below (s₁.setTop (mkF m 6 #[.val (.int p1)] [])) t
      refine XS.iloadN X0.here hx rfl (hb hby d5_6) rfl ?_
      exact k)
    obtain ⟨T12, X12, e12, st12⟩ := getS2 X0 hx hZ hown (host := "") (Or.inl (hw _ (List.mem_of_getElem? (i := 38) rfl))) Via.refl e0 (Shi.ext O0.2) (g := (mkF m 7 #[.val (.int p1)] [(.int p1)])) rfl (hb hby d5_7)
    have P13 : Rch p e below (s₁.setTop (entryFrame m #[(.int p1)] 1)) (T12.setTop (mkF m 10 #[.val (.int p1)] [(.int (127 : Int32)), (.int p1)])) := fun t k => P11 t (st12 t k)
    by_cases c14 : (127 : Int32) < p1
    · have P15 : Rch p e below (s₁.setTop (entryFrame m #[(.int p1)] 1)) (T12.setTop (mkF m 23 #[.val (.int p1)] [])) := fun t k => P13 t (by
        show Steps p.tables e below (T12.setTop (mkF m 10 #[.val (.int p1)] [(.int (127 : Int32)), (.int p1)])) t
        refine XS.icmpYes X12.here hx rfl (pc0 := 10) (pc' := 23) rfl (hb hby d5_10) rfl (tlt c14).2.2.1 (by decide) (by decide) ?_
        exact k)
      obtain ⟨T16, h16, X16, e16, E16, A16, D16, -, st16⟩ := newO X12 hx hZ hown (hw _ (List.mem_of_getElem? (i := 48) rfl)) (hw _ (List.mem_of_getElem? (i := 49) rfl)) (hw _ (List.mem_of_getElem? (i := 36) rfl)) e12 (g := (mkF m 23 #[.val (.int p1)] [])) rfl (hb hby d5_23) (by decide) (by decide)
      obtain ⟨b16, g16⟩ : ∃ z, z = h0.size := ⟨_, rfl⟩
      rw [← g16] at A16 D16 st16
      have g_b16 : n0 ≤ b16 := Nat.le_trans Z0 (Nat.le_of_eq g16.symm)
      have sz_b16 : h0.size ≤ b16 := Nat.le_trans (Keep.refl h0 []).1 (Nat.le_of_eq g16.symm)
      have F16_62 : Fld Z h16 b16 "java/lang/Integer" "value" "I" (.int (0 : Int32)) := D16 (Or.inr (hw _ (List.mem_of_getElem? (i := 62) rfl))) (ty := .int) (by decide)
      have P17 : Rch p e below (s₁.setTop (entryFrame m #[(.int p1)] 1)) (T16.setTop (mkF m 26 #[.val (.int p1)] [(.ref b16)])) := fun t k => P15 t (st16 t k)
      have P18 : Rch p e below (s₁.setTop (entryFrame m #[(.int p1)] 1)) (T16.setTop (mkF m 28 #[.val (.int p1)] [(.int p1), (.ref b16), (.ref b16)])) := fun t k => P17 t (by
        show Steps p.tables e below (T16.setTop (mkF m 26 #[.val (.int p1)] [(.ref b16)])) t
        refine XS.dup X16.here hx rfl (hb hby d5_26) rfl rfl ?_
        show Steps p.tables e below (T16.setTop (mkF m 27 #[.val (.int p1)] [(.ref b16), (.ref b16)])) t
        refine XS.iloadN X16.here hx rfl (hb hby d5_27) rfl ?_
        exact k)
      have f20 : n0 ≤ h16.size := (Nat.le_trans Z0 E16.1)
      obtain ⟨_, _, ⟨T19, L19, k19, n19⟩, -, X19, ⟨Lc19, hQ19, l19, y19, z19⟩, st19⟩ := X16.specialBack hx (y := (⟨"java/lang/Integer", "<init>", "(I)V"⟩ : MethodName)) rfl hown (mvT hZ (hw _ (List.mem_of_getElem? (i := 50) rfl))) (mvT hZ (hw _ (List.mem_of_getElem? (i := 51) rfl))) (mvT hZ (hw _ (List.mem_of_getElem? (i := 53) rfl))) (by decide) (backOf (W := 1) (rmInt l Z a0 hw [] b16 p1 h16 n0 f20 A16 g_b16 F16_62) hZ (hw _ (List.mem_of_getElem? (i := 53) rfl)) (hw _ (List.mem_of_getElem? (i := 36) rfl)) (by decide) (by decide)) (g := (mkF m 28 #[.val (.int p1)] [(.int p1), (.ref b16), (.ref b16)])) rfl (by rw [hml]; rfl) (Steps.refl _) (a := b16) (argsL := [(.int p1)]) (rest := [(.ref b16)]) (lenOf pd_1 rfl) rfl (by show 2 * 0 + _ ≤ _; exact Nat.le_of_eq rfl) (hb hby d5_28) (fun _ _ => ⟨rfl, e16, (by decide : 1 + 0 ≤ _), (by decide : 1 + 0 ≤ _)⟩)
      dsimp only [Pt.U, Pt.locs, Pt.cells, Pt.slots] at X19 l19 y19 z19 st19 hQ19
      subst l19 y19 z19
      obtain ⟨rfl, N19q, K19, E_19, G0_19⟩ := hQ19
      have N19 := Fr.app N0 N19q
      have P21 : Rch p e below (s₁.setTop (entryFrame m #[(.int p1)] 1)) (T19.setTop (mkF m 31 #[.val (.int p1)] [(.ref b16)])) := fun t k => P18 t (st19.trans k)
      obtain ⟨fs, hr, hrun, hended, hW, hsame⟩ := X19.leave (v := some (.ref b16)) (fun h => by rw [Bd.returns] at h; cases h)
      refine ⟨_, _, P21 _ ?_, hrun, hended, _, _, rfl, ?_, ⟨_, rfl⟩, hW, hsame.mono (by decide) (by decide)⟩
      · exact retOut X19 hx Bd.returns rfl (Or.inr (Or.inr (Or.inr (Or.inr ⟨rfl, rfl, rfl⟩)))) (hb hby d5_31) hr
      · show Q_rmVal Z p1 aC kC vC h0 n0 _ T19.heap _
        have f22 : Keep h0 T19.heap [] := (((Keep.refl h0 []).ext E16).trans K19 (allS (P := fun x => x ∈ [] ∨ h0.size ≤ x) (Or.inr sz_b16) all0))
        exact ⟨b16, rfl, N19, f22, E_19⟩
    · have P23 : Rch p e below (s₁.setTop (entryFrame m #[(.int p1)] 1)) (T12.setTop (mkF m 13 #[.val (.int p1)] [])) := fun t k => P13 t (by
        show Steps p.tables e below (T12.setTop (mkF m 10 #[.val (.int p1)] [(.int (127 : Int32)), (.int p1)])) t
        refine XS.icmpNo X12.here hx rfl (hb hby d5_10) rfl (flt c14).2.2.1 ?_
        exact k)
      have Vc_ := Vca.ext O0.2
      obtain ⟨T24, X24, e24, st24⟩ := getS2 X12 hx hZ hown (host := "") (Or.inl (hw _ (List.mem_of_getElem? (i := 40) rfl))) Via.refl e12 (Sca.ext O0.2) (g := (mkF m 13 #[.val (.int p1)] [])) rfl (hb hby d5_13)
      have P25 : Rch p e below (s₁.setTop (entryFrame m #[(.int p1)] 1)) (T24.setTop (mkF m 16 #[.val (.int p1)] [(.ref aC)])) := fun t k => P23 t (st24 t k)
      obtain ⟨x26, hx26⟩ : ∃ z : Int32, z = (p1 + (128 : Int32)) := ⟨_, rfl⟩
      have P27 : Rch p e below (s₁.setTop (entryFrame m #[(.int p1)] 1)) (T24.setTop (mkF m 21 #[.val (.int p1)] [(.int x26), (.ref aC)])) := fun t k => P25 t (by
        subst hx26
        show Steps p.tables e below (T24.setTop (mkF m 16 #[.val (.int p1)] [(.ref aC)])) t
        refine XS.iloadN X24.here hx rfl (hb hby d5_16) rfl ?_
        show Steps p.tables e below (T24.setTop (mkF m 17 #[.val (.int p1)] [(.int p1), (.ref aC)])) t
        refine XS.sipush X24.here hx rfl (hb hby d5_17) ?_
        show Steps p.tables e below (T24.setTop (mkF m 20 #[.val (.int p1)] [(.int (128 : Int32)), (.int p1), (.ref aC)])) t
        refine XS.iadd X24.here hx rfl (hb hby d5_20) rfl ?_
        exact k)
      have hci := own_ci p1 c2 c14
      rw [← hx26] at hci
      obtain ⟨r9, hr9, E9⟩ := hca _ hci.2
      have V_o28 := (Vca.ext O0.2)
      obtain ⟨co28, Aro28, qo28, So28, Mo28, Ho28, Go28⟩ := V_o28
      have hin29 : ¬ (x26 < 0 ∨ co28.slots.size ≤ (x26).toNatClampNeg) := inb_of So28 hci.1
      have hat29 : co28.slots[(x26).toNatClampNeg]? = some (.ref r9) := Has.at Ho28 hin29 hr9
      have P30 : Rch p e below (s₁.setTop (entryFrame m #[(.int p1)] 1)) (T24.setTop (mkF m 22 #[.val (.int p1)] [(.ref r9)])) := fun t k => P27 t (X24.aaload hx (j := x26) (v := (.ref r9)) (by rw [e24]; exact Aro28.1) (State.isArrayOf_alike hZ.alike Aro28.2.1) rfl Aro28.2.2 hin29 hat29 (g := (mkF m 21 #[.val (.int p1)] [(.int x26), (.ref aC)])) rfl rfl (hb hby d5_21) t k)
      obtain ⟨fs, hr, hrun, hended, hW, hsame⟩ := X24.leave (v := some (.ref r9)) (fun h => by rw [Bd.returns] at h; cases h)
      refine ⟨_, _, P30 _ ?_, hrun, hended, _, _, rfl, ?_, ⟨_, rfl⟩, hW, hsame.mono (by decide) (by decide)⟩
      · exact retOut X24 hx Bd.returns rfl (Or.inr (Or.inr (Or.inr (Or.inr ⟨rfl, rfl, rfl⟩)))) (hb hby d5_22) hr
      · show Q_rmVal Z p1 aC kC vC h0 n0 _ T24.heap _
        rw [e24]
        exact ⟨r9, rfl, N0, (Keep.refl h0 []), (E9.ext O0.2)⟩
def Q_rmR (Z : State) (p1 : Int32) (aL : Addr) (aF : Addr) (aD : Addr) (h0 : Heap) (n0 : Nat) (v : Option Value) (h : Heap) (L : List Loc) : Prop := v = some (.ref (if ((p1 &&& (2147483647 : Int32)) % (3 : Int32)) = (0 : Int32) then aL else (if ((p1 &&& (2147483647 : Int32)) % (3 : Int32)) = (1 : Int32) then aF else aD))) ∧ Fr n0 L ∧ h = h0
set_option maxRecDepth 65536 in
set_option maxHeartbeats 40000000 in
theorem rmR (l : Launch) (Z : State) (a0 : Array Value) (hw : ∀ d ∈ tables_1, d.before a0 Z = true) (ws : List Jvm.Cond) (p1 : Int32) (aL : Addr) (aF : Addr) (aD : Addr) (h0 : Heap) (n0 : Nat) (Z0 : n0 ≤ h0.size) (O0 : Old Z n0 h0) (SaL : Sta Z Z.heap "com/example/usher/usher/server/MemberStatus$Role" "LOOKING" "Lcom/example/usher/usher/server/MemberStatus$Role;" (.ref aL)) (SaF : Sta Z Z.heap "com/example/usher/usher/server/MemberStatus$Role" "FOLLOWING" "Lcom/example/usher/usher/server/MemberStatus$Role;" (.ref aF)) (SaD : Sta Z Z.heap "com/example/usher/usher/server/MemberStatus$Role" "LEADING" "Lcom/example/usher/usher/server/MemberStatus$Role;" (.ref aD)) :
    MetFree l (⟨"com/example/usher/usher/server/MemberStatusEqualsPinLaw", "role", "(I)Lcom/example/usher/usher/server/MemberStatus$Role;"⟩ : MethodName) (head1 (Jvm.Cond.code (⟨"com/example/usher/usher/server/MemberStatusEqualsPinLaw", "role", "(I)Lcom/example/usher/usher/server/MemberStatus$Role;"⟩ : MethodName) method_2_code 2 (some (.object "com/example/usher/usher/server/MemberStatus$Role")) :: ws) ({ frames := 0, cells := 0, slots := 0, locals := 0 } : Room)) (fun a U => a = #[(.int p1)] ∧ Z.Warmed39 U.vm ∧ U.heap = h0) (fun _ _ _ _ _ => True) (fun _ U o U' => ∃ v L, o = .returned v ∧ Q_rmR Z p1 aL aF aD h0 n0 v U'.heap L ∧ FrameEnd U o U' L ({ frames := 0, cells := 0, slots := 0, locals := 0 } : Room).cells ({ frames := 0, cells := 0, slots := 0, locals := 0 } : Room).slots) := by
  refine MetFree.of_bodySF (plainFor_of_name pn_2) hisR ?_
  intro p e s m args below meth c s₁ Bd hml0 hP hK
  obtain ⟨rfl, hZ, hh⟩ := hP
  have hx := Bd.exec
  have hby := Bd.bytes
  have hml : c.maxLocals = 2 := hml0
  have hown : s.vm.findClass "com/example/usher/usher/server/MemberStatusEqualsPinLaw" = some m.cls := findClass_of_methodNamed Bd.named
  have hnm := (name_of_methodNamed Bd.named Bd.method).1
  have X0 : Stand p l e ({ frames := 0, cells := 0, slots := 0, locals := 0 } : Room) s m #[(.int p1)] below meth c s₁ [] 0 0 := Stand.of_body Bd
  have e0 : s₁.heap = h0 := by rw [← hh, Bd.state]; rfl
  have N0 := Fr.nil n0
  have P0 : Rch p e below (s₁.setTop (entryFrame m #[(.int p1)] 2)) (s₁.setTop (mkF m 0 #[.val (.int p1), .unset] [])) := fun t k => castTop (by first | (simp [entryFrame, mkF, argsToLocals, Value.category]; done) | rfl) k
  obtain ⟨x1, hx1⟩ : ∃ z : Int32, z = ((p1 &&& (2147483647 : Int32)) % (3 : Int32)) := ⟨_, rfl⟩
  have P2 : Rch p e below (s₁.setTop (entryFrame m #[(.int p1)] 2)) (s₁.setTop (mkF m 7 #[.val (.int p1), .val (.int x1)] [])) := fun t k => P0 t (by
    subst hx1
    show Steps p.tables e below (s₁.setTop (mkF m 0 #[.val (.int p1), .unset] [])) t
    refine XS.iloadN X0.here hx rfl (hb hby d1_0) rfl ?_
    show Steps p.tables e below (s₁.setTop (mkF m 1 #[.val (.int p1), .unset] [(.int p1)])) t
    refine X0.ldcInt hx hown (mvT hZ (hw _ (List.mem_of_getElem? (i := 4) rfl))) (g := (mkF m 1 #[.val (.int p1), .unset] [(.int p1)])) rfl (hb hby d1_1) _ ?_
    show Steps p.tables e below (s₁.setTop (mkF m 3 #[.val (.int p1), .unset] [(.int (2147483647 : Int32)), (.int p1)])) t
    refine XS.iand X0.here hx rfl (hb hby d1_3) rfl ?_
    show Steps p.tables e below (s₁.setTop (mkF m 4 #[.val (.int p1), .unset] [(.int (p1 &&& (2147483647 : Int32)))])) t
    refine XS.iconst X0.here hx rfl (hb hby d1_4) ?_
    show Steps p.tables e below (s₁.setTop (mkF m 5 #[.val (.int p1), .unset] [(.int (3 : Int32)), (.int (p1 &&& (2147483647 : Int32)))])) t
    refine iremM X0 hx rfl (hb hby d1_5) rfl (by decide) ?_
    show Steps p.tables e below (s₁.setTop (mkF m 6 #[.val (.int p1), .unset] [(.int ((p1 &&& (2147483647 : Int32)) % (3 : Int32)))])) t
    refine XS.istoreN X0.here hx rfl (hb hby d1_6) rfl (l' := #[.val (.int p1), .val (.int ((p1 &&& (2147483647 : Int32)) % (3 : Int32)))]) rfl ?_
    exact k)
  have P3 : Rch p e below (s₁.setTop (entryFrame m #[(.int p1)] 2)) (s₁.setTop (mkF m 8 #[.val (.int p1), .val (.int x1)] [(.int x1)])) := fun t k => P2 t (by
    show Steps p.tables e below (s₁.setTop (mkF m 7 #[.val (.int p1), .val (.int x1)] [])) t
    refine XS.iloadN X0.here hx rfl (hb hby d1_7) rfl ?_
    exact k)
  by_cases c4 : x1 = (0 : Int32)
  · have P5 : Rch p e below (s₁.setTop (entryFrame m #[(.int p1)] 2)) (s₁.setTop (mkF m 11 #[.val (.int p1), .val (.int x1)] [])) := fun t k => P3 t (by
      show Steps p.tables e below (s₁.setTop (mkF m 8 #[.val (.int p1), .val (.int x1)] [(.int x1)])) t
      refine XS.ifNo X0.here hx rfl (hb hby d1_8) rfl ((if0 _ _).trans (teq c4).2) ?_
      exact k)
    obtain ⟨T6, X6, e6, st6⟩ := getS2 X0 hx hZ hown (host := "") (Or.inl (hw _ (List.mem_of_getElem? (i := 5) rfl))) Via.refl e0 (SaL.ext O0.2) (g := (mkF m 11 #[.val (.int p1), .val (.int x1)] [])) rfl (hb hby d1_11)
    have P7 : Rch p e below (s₁.setTop (entryFrame m #[(.int p1)] 2)) (T6.setTop (mkF m 14 #[.val (.int p1), .val (.int x1)] [(.ref aL)])) := fun t k => P5 t (st6 t k)
    obtain ⟨fs, hr, hrun, hended, hW, hsame⟩ := X6.leave (v := some (.ref aL)) (fun h => by rw [Bd.returns] at h; cases h)
    refine ⟨_, _, P7 _ ?_, hrun, hended, _, _, rfl, ?_, ⟨_, rfl⟩, hW, hsame.mono (by decide) (by decide)⟩
    · exact retOut X6 hx Bd.returns rfl (Or.inr (Or.inr (Or.inr (Or.inr ⟨rfl, rfl, rfl⟩)))) (hb hby d1_14) hr
    · show Q_rmR Z p1 aL aF aD h0 n0 _ T6.heap _
      rw [e6]
      exact ⟨(by subst hx1; first | rfl | rw [if_pos c4] | simp only [if_pos c4] | simp [*]), N0, rfl⟩
  · have P8 : Rch p e below (s₁.setTop (entryFrame m #[(.int p1)] 2)) (s₁.setTop (mkF m 17 #[.val (.int p1), .val (.int x1)] [(.int (1 : Int32)), (.int x1)])) := fun t k => P3 t (by
      show Steps p.tables e below (s₁.setTop (mkF m 8 #[.val (.int p1), .val (.int x1)] [(.int x1)])) t
      refine XS.ifYes X0.here hx rfl (pc0 := 8) (pc' := 15) rfl (hb hby d1_8) rfl ((if0 _ _).trans (feq c4).2) (by decide) (by decide) ?_
      show Steps p.tables e below (s₁.setTop (mkF m 15 #[.val (.int p1), .val (.int x1)] [])) t
      refine XS.iloadN X0.here hx rfl (hb hby d1_15) rfl ?_
      show Steps p.tables e below (s₁.setTop (mkF m 16 #[.val (.int p1), .val (.int x1)] [(.int x1)])) t
      refine XS.iconst X0.here hx rfl (hb hby d1_16) ?_
      exact k)
    by_cases c9 : x1 = (1 : Int32)
    · have P10 : Rch p e below (s₁.setTop (entryFrame m #[(.int p1)] 2)) (s₁.setTop (mkF m 20 #[.val (.int p1), .val (.int x1)] [])) := fun t k => P8 t (by
        show Steps p.tables e below (s₁.setTop (mkF m 17 #[.val (.int p1), .val (.int x1)] [(.int (1 : Int32)), (.int x1)])) t
        refine XS.icmpNo X0.here hx rfl (hb hby d1_17) rfl (teq c9).2 ?_
        exact k)
      obtain ⟨T11, X11, e11, st11⟩ := getS2 X0 hx hZ hown (host := "") (Or.inl (hw _ (List.mem_of_getElem? (i := 44) rfl))) Via.refl e0 (SaF.ext O0.2) (g := (mkF m 20 #[.val (.int p1), .val (.int x1)] [])) rfl (hb hby d1_20)
      have P12 : Rch p e below (s₁.setTop (entryFrame m #[(.int p1)] 2)) (T11.setTop (mkF m 23 #[.val (.int p1), .val (.int x1)] [(.ref aF)])) := fun t k => P10 t (st11 t k)
      obtain ⟨fs, hr, hrun, hended, hW, hsame⟩ := X11.leave (v := some (.ref aF)) (fun h => by rw [Bd.returns] at h; cases h)
      refine ⟨_, _, P12 _ ?_, hrun, hended, _, _, rfl, ?_, ⟨_, rfl⟩, hW, hsame.mono (by decide) (by decide)⟩
      · exact retOut X11 hx Bd.returns rfl (Or.inr (Or.inr (Or.inr (Or.inr ⟨rfl, rfl, rfl⟩)))) (hb hby d1_23) hr
      · show Q_rmR Z p1 aL aF aD h0 n0 _ T11.heap _
        rw [e11]
        exact ⟨(by subst hx1; first | rfl | rw [if_neg c4, if_pos c9] | simp only [if_neg c4, if_pos c9] | simp [*]), N0, rfl⟩
    · have P13 : Rch p e below (s₁.setTop (entryFrame m #[(.int p1)] 2)) (s₁.setTop (mkF m 24 #[.val (.int p1), .val (.int x1)] [])) := fun t k => P8 t (by
        show Steps p.tables e below (s₁.setTop (mkF m 17 #[.val (.int p1), .val (.int x1)] [(.int (1 : Int32)), (.int x1)])) t
        refine XS.icmpYes X0.here hx rfl (pc0 := 17) (pc' := 24) rfl (hb hby d1_17) rfl (feq c9).2 (by decide) (by decide) ?_
        exact k)
      obtain ⟨T14, X14, e14, st14⟩ := getS2 X0 hx hZ hown (host := "") (Or.inl (hw _ (List.mem_of_getElem? (i := 46) rfl))) Via.refl e0 (SaD.ext O0.2) (g := (mkF m 24 #[.val (.int p1), .val (.int x1)] [])) rfl (hb hby d1_24)
      have P15 : Rch p e below (s₁.setTop (entryFrame m #[(.int p1)] 2)) (T14.setTop (mkF m 27 #[.val (.int p1), .val (.int x1)] [(.ref aD)])) := fun t k => P13 t (st14 t k)
      obtain ⟨fs, hr, hrun, hended, hW, hsame⟩ := X14.leave (v := some (.ref aD)) (fun h => by rw [Bd.returns] at h; cases h)
      refine ⟨_, _, P15 _ ?_, hrun, hended, _, _, rfl, ?_, ⟨_, rfl⟩, hW, hsame.mono (by decide) (by decide)⟩
      · exact retOut X14 hx Bd.returns rfl (Or.inr (Or.inr (Or.inr (Or.inr ⟨rfl, rfl, rfl⟩)))) (hb hby d1_27) hr
      · show Q_rmR Z p1 aL aF aD h0 n0 _ T14.heap _
        rw [e14]
        exact ⟨(by subst hx1; first | rfl | rw [if_neg c4, if_neg c9] | simp only [if_neg c4, if_neg c9] | simp [*]), N0, rfl⟩
def Q_rmI (Z : State) (a1 : Addr) (p2 : Int32) (r3 : Addr) (p4 : Int32) (q5 : Int64) (p6 : Int32) (h0 : Heap) (n0 : Nat) (v : Option Value) (h : Heap) (L : List Loc) : Prop := v = none ∧ Fr n0 L ∧ Keep h0 h [a1] ∧ (Exa Z h a1 "com/example/usher/usher/server/MemberStatus") ∧ (Fld Z h a1 "com/example/usher/usher/server/MemberStatus" "id" "I" (.int p2)) ∧ (Fld Z h a1 "com/example/usher/usher/server/MemberStatus" "role" "Lcom/example/usher/usher/server/MemberStatus$Role;" (.ref r3)) ∧ (Fld Z h a1 "com/example/usher/usher/server/MemberStatus" "leader" "I" (.int p4)) ∧ (Fld Z h a1 "com/example/usher/usher/server/MemberStatus" "lastZxid" "J" (.long q5)) ∧ (Fld Z h a1 "com/example/usher/usher/server/MemberStatus" "serving" "Z" (.int (nar .boolean p6)))
set_option maxRecDepth 65536 in
set_option maxHeartbeats 40000000 in
theorem rmI (l : Launch) (Z : State) (a0 : Array Value) (hw : ∀ d ∈ tables_1, d.before a0 Z = true) (ws : List Jvm.Cond) (a1 : Addr) (p2 : Int32) (r3 : Addr) (p4 : Int32) (q5 : Int64) (p6 : Int32) (h0 : Heap) (n0 : Nat) (Z0 : n0 ≤ h0.size) (E1 : Exa Z h0 a1 "com/example/usher/usher/server/MemberStatus") (g1 : n0 ≤ a1) (F0 : Fld Z h0 a1 "com/example/usher/usher/server/MemberStatus" "id" "I" (.int (0 : Int32))) (F1 : Fld Z h0 a1 "com/example/usher/usher/server/MemberStatus" "role" "Lcom/example/usher/usher/server/MemberStatus$Role;" .null) (F2 : Fld Z h0 a1 "com/example/usher/usher/server/MemberStatus" "leader" "I" (.int (0 : Int32))) (F3 : Fld Z h0 a1 "com/example/usher/usher/server/MemberStatus" "lastZxid" "J" (.long (0 : Int64))) (F4 : Fld Z h0 a1 "com/example/usher/usher/server/MemberStatus" "serving" "Z" (.int (0 : Int32))) :
    MetFree l (⟨"com/example/usher/usher/server/MemberStatus", "<init>", "(ILcom/example/usher/usher/server/MemberStatus$Role;IJZ)V"⟩ : MethodName) (head1 (Jvm.Cond.code (⟨"com/example/usher/usher/server/MemberStatus", "<init>", "(ILcom/example/usher/usher/server/MemberStatus$Role;IJZ)V"⟩ : MethodName) prog_70_method_1_code 7 none :: ws) ({ frames := 1, cells := 0, slots := 0, locals := 12 } : Room)) (fun a U => a = #[(.ref a1), (.int p2), (.ref r3), (.int p4), (.long q5), (.int p6)] ∧ Z.Warmed39 U.vm ∧ U.heap = h0) (fun _ _ _ _ _ => True) (fun _ U o U' => ∃ v L, o = .returned v ∧ Q_rmI Z a1 p2 r3 p4 q5 p6 h0 n0 v U'.heap L ∧ FrameEnd U o U' L ({ frames := 1, cells := 0, slots := 0, locals := 12 } : Room).cells ({ frames := 1, cells := 0, slots := 0, locals := 12 } : Room).slots) := by
  refine MetFree.of_bodySF (plainFor_of_name pn_3) hisR ?_
  intro p e s m args below meth c s₁ Bd hml0 hP hK
  obtain ⟨rfl, hZ, hh⟩ := hP
  have hx := Bd.exec
  have hby := Bd.bytes
  have hml : c.maxLocals = 7 := hml0
  have hown : s.vm.findClass "com/example/usher/usher/server/MemberStatus" = some m.cls := findClass_of_methodNamed Bd.named
  have hnm := (name_of_methodNamed Bd.named Bd.method).1
  have X0 : Stand p l e ({ frames := 1, cells := 0, slots := 0, locals := 12 } : Room) s m #[(.ref a1), (.int p2), (.ref r3), (.int p4), (.long q5), (.int p6)] below meth c s₁ [] 0 0 := Stand.of_body Bd
  have e0 : s₁.heap = h0 := by rw [← hh, Bd.state]; rfl
  have N0 := Fr.nil n0
  have P0 : Rch p e below (s₁.setTop (entryFrame m #[(.ref a1), (.int p2), (.ref r3), (.int p4), (.long q5), (.int p6)] 7)) (s₁.setTop (mkF m 0 #[.val (.ref a1), .val (.int p2), .val (.ref r3), .val (.int p4), .val (.long q5), .second, .val (.int p6)] [])) := fun t k => castTop (by first | (simp [entryFrame, mkF, argsToLocals, Value.category]; done) | rfl) k
  have P1 : Rch p e below (s₁.setTop (entryFrame m #[(.ref a1), (.int p2), (.ref r3), (.int p4), (.long q5), (.int p6)] 7)) (s₁.setTop (mkF m 1 #[.val (.ref a1), .val (.int p2), .val (.ref r3), .val (.int p4), .val (.long q5), .second, .val (.int p6)] [(.ref a1)])) := fun t k => P0 t (by
    show Steps p.tables e below (s₁.setTop (mkF m 0 #[.val (.ref a1), .val (.int p2), .val (.ref r3), .val (.int p4), .val (.long q5), .second, .val (.int p6)] [])) t
    refine XS.aloadN X0.here hx rfl (hb hby d2_0) rfl rfl ?_
    exact k)
  obtain ⟨T2, X2, e2, st2⟩ := initO X0 hx hZ hown (hw _ (List.mem_of_getElem? (i := 14) rfl)) (hw _ (List.mem_of_getElem? (i := 15) rfl)) (hw _ (List.mem_of_getElem? (i := 16) rfl)) e0 (g := (mkF m 1 #[.val (.ref a1), .val (.int p2), .val (.ref r3), .val (.int p4), .val (.long q5), .second, .val (.int p6)] [(.ref a1)])) rfl (by rw [hml]; rfl) rfl (hb hby d2_1) (by decide) (W := 0) (by show 2 * 0 + _ ≤ _; exact Nat.le_of_eq rfl) (by decide)
  have P3 : Rch p e below (s₁.setTop (entryFrame m #[(.ref a1), (.int p2), (.ref r3), (.int p4), (.long q5), (.int p6)] 7)) (T2.setTop (mkF m 4 #[.val (.ref a1), .val (.int p2), .val (.ref r3), .val (.int p4), .val (.long q5), .second, .val (.int p6)] [])) := fun t k => P1 t (st2 t k)
  have P4 : Rch p e below (s₁.setTop (entryFrame m #[(.ref a1), (.int p2), (.ref r3), (.int p4), (.long q5), (.int p6)] 7)) (T2.setTop (mkF m 6 #[.val (.ref a1), .val (.int p2), .val (.ref r3), .val (.int p4), .val (.long q5), .second, .val (.int p6)] [(.int p2), (.ref a1)])) := fun t k => P3 t (by
    show Steps p.tables e below (T2.setTop (mkF m 4 #[.val (.ref a1), .val (.int p2), .val (.ref r3), .val (.int p4), .val (.long q5), .second, .val (.int p6)] [])) t
    refine XS.aloadN X2.here hx rfl (hb hby d2_4) rfl rfl ?_
    show Steps p.tables e below (T2.setTop (mkF m 5 #[.val (.ref a1), .val (.int p2), .val (.ref r3), .val (.int p4), .val (.long q5), .second, .val (.int p6)] [(.ref a1)])) t
    refine XS.iloadN X2.here hx rfl (hb hby d2_5) rfl ?_
    exact k)
  obtain ⟨T5, h5, X5, e5, W5, st5⟩ := putF X2 hx hZ hown (host := "") (Or.inl (hw _ (List.mem_of_getElem? (i := 17) rfl))) Via.refl e2 F0 E1 (Or.inr ⟨(hw _ (List.mem_of_getElem? (i := 18) rfl)), rfl, hnm⟩) (hw _ (List.mem_of_getElem? (i := 9) rfl)) (ty := .int) (by decide) rfl rfl (g := (mkF m 6 #[.val (.ref a1), .val (.int p2), .val (.ref r3), .val (.int p4), .val (.long q5), .second, .val (.int p6)] [(.int p2), (.ref a1)])) rfl rfl (hb hby d2_6)
  have Fw5 := F0.same W5
  have P6 : Rch p e below (s₁.setTop (entryFrame m #[(.ref a1), (.int p2), (.ref r3), (.int p4), (.long q5), (.int p6)] 7)) (T5.setTop (mkF m 9 #[.val (.ref a1), .val (.int p2), .val (.ref r3), .val (.int p4), .val (.long q5), .second, .val (.int p6)] [])) := fun t k => P4 t (st5 t k)
  have N5 := Fr.snoc X5 N0 g1
  have P7 : Rch p e below (s₁.setTop (entryFrame m #[(.ref a1), (.int p2), (.ref r3), (.int p4), (.long q5), (.int p6)] 7)) (T5.setTop (mkF m 11 #[.val (.ref a1), .val (.int p2), .val (.ref r3), .val (.int p4), .val (.long q5), .second, .val (.int p6)] [(.ref r3), (.ref a1)])) := fun t k => P6 t (by
    show Steps p.tables e below (T5.setTop (mkF m 9 #[.val (.ref a1), .val (.int p2), .val (.ref r3), .val (.int p4), .val (.long q5), .second, .val (.int p6)] [])) t
    refine XS.aloadN X5.here hx rfl (hb hby d2_9) rfl rfl ?_
    show Steps p.tables e below (T5.setTop (mkF m 10 #[.val (.ref a1), .val (.int p2), .val (.ref r3), .val (.int p4), .val (.long q5), .second, .val (.int p6)] [(.ref a1)])) t
    refine XS.aloadN X5.here hx rfl (hb hby d2_10) rfl rfl ?_
    exact k)
  have f9 : Fld Z h5 a1 "com/example/usher/usher/server/MemberStatus" "role" "Lcom/example/usher/usher/server/MemberStatus$Role;" .null := (F1.other W5 (Or.inr (slot_ne (Or.inr (hw _ (List.mem_of_getElem? (i := 20) rfl))) (Or.inr (hw _ (List.mem_of_getElem? (i := 18) rfl))) (by decide) (t := (.object "com/example/usher/usher/server/MemberStatus$Role")) (t' := .int) (by decide) (by decide))))
  obtain ⟨T8, h8, X8, e8, W8, st8⟩ := putF X5 hx hZ hown (host := "") (Or.inl (hw _ (List.mem_of_getElem? (i := 19) rfl))) Via.refl e5 f9 (E1.wr W5) (Or.inr ⟨(hw _ (List.mem_of_getElem? (i := 20) rfl)), rfl, hnm⟩) (hw _ (List.mem_of_getElem? (i := 9) rfl)) (ty := (.object "com/example/usher/usher/server/MemberStatus$Role")) (by decide) rfl rfl (g := (mkF m 11 #[.val (.ref a1), .val (.int p2), .val (.ref r3), .val (.int p4), .val (.long q5), .second, .val (.int p6)] [(.ref r3), (.ref a1)])) rfl rfl (hb hby d2_11)
  have Fw8 := f9.same W8
  have P10 : Rch p e below (s₁.setTop (entryFrame m #[(.ref a1), (.int p2), (.ref r3), (.int p4), (.long q5), (.int p6)] 7)) (T8.setTop (mkF m 14 #[.val (.ref a1), .val (.int p2), .val (.ref r3), .val (.int p4), .val (.long q5), .second, .val (.int p6)] [])) := fun t k => P7 t (st8 t k)
  have N8 := Fr.snoc X8 N5 g1
  have P11 : Rch p e below (s₁.setTop (entryFrame m #[(.ref a1), (.int p2), (.ref r3), (.int p4), (.long q5), (.int p6)] 7)) (T8.setTop (mkF m 16 #[.val (.ref a1), .val (.int p2), .val (.ref r3), .val (.int p4), .val (.long q5), .second, .val (.int p6)] [(.int p4), (.ref a1)])) := fun t k => P10 t (by
    show Steps p.tables e below (T8.setTop (mkF m 14 #[.val (.ref a1), .val (.int p2), .val (.ref r3), .val (.int p4), .val (.long q5), .second, .val (.int p6)] [])) t
    refine XS.aloadN X8.here hx rfl (hb hby d2_14) rfl rfl ?_
    show Steps p.tables e below (T8.setTop (mkF m 15 #[.val (.ref a1), .val (.int p2), .val (.ref r3), .val (.int p4), .val (.long q5), .second, .val (.int p6)] [(.ref a1)])) t
    refine XS.iloadN X8.here hx rfl (hb hby d2_15) rfl ?_
    exact k)
  have f13 : Fld Z h8 a1 "com/example/usher/usher/server/MemberStatus" "leader" "I" (.int (0 : Int32)) := ((F2.other W5 (Or.inr (slot_ne (Or.inr (hw _ (List.mem_of_getElem? (i := 22) rfl))) (Or.inr (hw _ (List.mem_of_getElem? (i := 18) rfl))) (by decide) (t := .int) (t' := .int) (by decide) (by decide)))).other W8 (Or.inr (slot_ne (Or.inr (hw _ (List.mem_of_getElem? (i := 22) rfl))) (Or.inr (hw _ (List.mem_of_getElem? (i := 20) rfl))) (by decide) (t := .int) (t' := (.object "com/example/usher/usher/server/MemberStatus$Role")) (by decide) (by decide))))
  obtain ⟨T12, h12, X12, e12, W12, st12⟩ := putF X8 hx hZ hown (host := "") (Or.inl (hw _ (List.mem_of_getElem? (i := 21) rfl))) Via.refl e8 f13 ((E1.wr W5).wr W8) (Or.inr ⟨(hw _ (List.mem_of_getElem? (i := 22) rfl)), rfl, hnm⟩) (hw _ (List.mem_of_getElem? (i := 9) rfl)) (ty := .int) (by decide) rfl rfl (g := (mkF m 16 #[.val (.ref a1), .val (.int p2), .val (.ref r3), .val (.int p4), .val (.long q5), .second, .val (.int p6)] [(.int p4), (.ref a1)])) rfl rfl (hb hby d2_16)
  have Fw12 := f13.same W12
  have P14 : Rch p e below (s₁.setTop (entryFrame m #[(.ref a1), (.int p2), (.ref r3), (.int p4), (.long q5), (.int p6)] 7)) (T12.setTop (mkF m 19 #[.val (.ref a1), .val (.int p2), .val (.ref r3), .val (.int p4), .val (.long q5), .second, .val (.int p6)] [])) := fun t k => P11 t (st12 t k)
  have N12 := Fr.snoc X12 N8 g1
  have P15 : Rch p e below (s₁.setTop (entryFrame m #[(.ref a1), (.int p2), (.ref r3), (.int p4), (.long q5), (.int p6)] 7)) (T12.setTop (mkF m 22 #[.val (.ref a1), .val (.int p2), .val (.ref r3), .val (.int p4), .val (.long q5), .second, .val (.int p6)] [(.long q5), (.ref a1)])) := fun t k => P14 t (by
    show Steps p.tables e below (T12.setTop (mkF m 19 #[.val (.ref a1), .val (.int p2), .val (.ref r3), .val (.int p4), .val (.long q5), .second, .val (.int p6)] [])) t
    refine XS.aloadN X12.here hx rfl (hb hby d2_19) rfl rfl ?_
    show Steps p.tables e below (T12.setTop (mkF m 20 #[.val (.ref a1), .val (.int p2), .val (.ref r3), .val (.int p4), .val (.long q5), .second, .val (.int p6)] [(.ref a1)])) t
    refine XS.lload X12.here hx rfl (hb hby d2_20) rfl ?_
    exact k)
  have f17 : Fld Z h12 a1 "com/example/usher/usher/server/MemberStatus" "lastZxid" "J" (.long (0 : Int64)) := (((F3.other W5 (Or.inr (slot_ne (Or.inr (hw _ (List.mem_of_getElem? (i := 24) rfl))) (Or.inr (hw _ (List.mem_of_getElem? (i := 18) rfl))) (by decide) (t := .long) (t' := .int) (by decide) (by decide)))).other W8 (Or.inr (slot_ne (Or.inr (hw _ (List.mem_of_getElem? (i := 24) rfl))) (Or.inr (hw _ (List.mem_of_getElem? (i := 20) rfl))) (by decide) (t := .long) (t' := (.object "com/example/usher/usher/server/MemberStatus$Role")) (by decide) (by decide)))).other W12 (Or.inr (slot_ne (Or.inr (hw _ (List.mem_of_getElem? (i := 24) rfl))) (Or.inr (hw _ (List.mem_of_getElem? (i := 22) rfl))) (by decide) (t := .long) (t' := .int) (by decide) (by decide))))
  obtain ⟨T16, h16, X16, e16, W16, st16⟩ := putF X12 hx hZ hown (host := "") (Or.inl (hw _ (List.mem_of_getElem? (i := 23) rfl))) Via.refl e12 f17 (((E1.wr W5).wr W8).wr W12) (Or.inr ⟨(hw _ (List.mem_of_getElem? (i := 24) rfl)), rfl, hnm⟩) (hw _ (List.mem_of_getElem? (i := 9) rfl)) (ty := .long) (by decide) rfl rfl (g := (mkF m 22 #[.val (.ref a1), .val (.int p2), .val (.ref r3), .val (.int p4), .val (.long q5), .second, .val (.int p6)] [(.long q5), (.ref a1)])) rfl rfl (hb hby d2_22)
  have Fw16 := f17.same W16
  have P18 : Rch p e below (s₁.setTop (entryFrame m #[(.ref a1), (.int p2), (.ref r3), (.int p4), (.long q5), (.int p6)] 7)) (T16.setTop (mkF m 25 #[.val (.ref a1), .val (.int p2), .val (.ref r3), .val (.int p4), .val (.long q5), .second, .val (.int p6)] [])) := fun t k => P15 t (st16 t k)
  have N16 := Fr.snoc X16 N12 g1
  have P19 : Rch p e below (s₁.setTop (entryFrame m #[(.ref a1), (.int p2), (.ref r3), (.int p4), (.long q5), (.int p6)] 7)) (T16.setTop (mkF m 28 #[.val (.ref a1), .val (.int p2), .val (.ref r3), .val (.int p4), .val (.long q5), .second, .val (.int p6)] [(.int p6), (.ref a1)])) := fun t k => P18 t (by
    show Steps p.tables e below (T16.setTop (mkF m 25 #[.val (.ref a1), .val (.int p2), .val (.ref r3), .val (.int p4), .val (.long q5), .second, .val (.int p6)] [])) t
    refine XS.aloadN X16.here hx rfl (hb hby d2_25) rfl rfl ?_
    show Steps p.tables e below (T16.setTop (mkF m 26 #[.val (.ref a1), .val (.int p2), .val (.ref r3), .val (.int p4), .val (.long q5), .second, .val (.int p6)] [(.ref a1)])) t
    refine XS.iload X16.here hx rfl (hb hby d2_26) rfl ?_
    exact k)
  have f21 : Fld Z h16 a1 "com/example/usher/usher/server/MemberStatus" "serving" "Z" (.int (0 : Int32)) := ((((F4.other W5 (Or.inr (slot_ne (Or.inr (hw _ (List.mem_of_getElem? (i := 26) rfl))) (Or.inr (hw _ (List.mem_of_getElem? (i := 18) rfl))) (by decide) (t := .boolean) (t' := .int) (by decide) (by decide)))).other W8 (Or.inr (slot_ne (Or.inr (hw _ (List.mem_of_getElem? (i := 26) rfl))) (Or.inr (hw _ (List.mem_of_getElem? (i := 20) rfl))) (by decide) (t := .boolean) (t' := (.object "com/example/usher/usher/server/MemberStatus$Role")) (by decide) (by decide)))).other W12 (Or.inr (slot_ne (Or.inr (hw _ (List.mem_of_getElem? (i := 26) rfl))) (Or.inr (hw _ (List.mem_of_getElem? (i := 22) rfl))) (by decide) (t := .boolean) (t' := .int) (by decide) (by decide)))).other W16 (Or.inr (slot_ne (Or.inr (hw _ (List.mem_of_getElem? (i := 26) rfl))) (Or.inr (hw _ (List.mem_of_getElem? (i := 24) rfl))) (by decide) (t := .boolean) (t' := .long) (by decide) (by decide))))
  obtain ⟨T20, h20, X20, e20, W20, st20⟩ := putFN X16 hx hZ hown (hw _ (List.mem_of_getElem? (i := 25) rfl)) Via.refl e16 f21 ((((E1.wr W5).wr W8).wr W12).wr W16) (Or.inr ⟨(hw _ (List.mem_of_getElem? (i := 26) rfl)), rfl, hnm⟩) (hw _ (List.mem_of_getElem? (i := 9) rfl)) (ty := .boolean) (v' := (.int (nar .boolean p6))) (by decide) rfl (fits_nar_bool _) (g := (mkF m 28 #[.val (.ref a1), .val (.int p2), .val (.ref r3), .val (.int p4), .val (.long q5), .second, .val (.int p6)] [(.int p6), (.ref a1)])) rfl rfl (hb hby d2_28)
  have Fw20 := f21.same W20
  have P22 : Rch p e below (s₁.setTop (entryFrame m #[(.ref a1), (.int p2), (.ref r3), (.int p4), (.long q5), (.int p6)] 7)) (T20.setTop (mkF m 31 #[.val (.ref a1), .val (.int p2), .val (.ref r3), .val (.int p4), .val (.long q5), .second, .val (.int p6)] [])) := fun t k => P19 t (st20 t k)
  have N20 := Fr.snoc X20 N16 g1
  obtain ⟨fs, hr, hrun, hended, hW, hsame⟩ := X20.leave (v := none) (fun _ => rfl)
  refine ⟨_, _, P22 _ ?_, hrun, hended, _, _, rfl, ?_, ⟨_, rfl⟩, hW, hsame.mono (by decide) (by decide)⟩
  · exact X20.returnOut hx Bd.returns (hb hby d2_31) hr
  · show Q_rmI Z a1 p2 r3 p4 q5 p6 h0 n0 _ T20.heap _
    rw [e20]
    have f23 : Keep h0 h20 [a1] := ((((((Keep.refl h0 [a1]).wr W5 (Or.inl (List.mem_of_getElem? (i := 0) rfl))).wr W8 (Or.inl (List.mem_of_getElem? (i := 0) rfl))).wr W12 (Or.inl (List.mem_of_getElem? (i := 0) rfl))).wr W16 (Or.inl (List.mem_of_getElem? (i := 0) rfl))).wr W20 (Or.inl (List.mem_of_getElem? (i := 0) rfl)))
    have f24 : Fld Z h20 a1 "com/example/usher/usher/server/MemberStatus" "id" "I" (.int p2) := ((((Fw5.other W8 (Or.inr (slot_ne (Or.inr (hw _ (List.mem_of_getElem? (i := 18) rfl))) (Or.inr (hw _ (List.mem_of_getElem? (i := 20) rfl))) (by decide) (t := .int) (t' := (.object "com/example/usher/usher/server/MemberStatus$Role")) (by decide) (by decide)))).other W12 (Or.inr (slot_ne (Or.inr (hw _ (List.mem_of_getElem? (i := 18) rfl))) (Or.inr (hw _ (List.mem_of_getElem? (i := 22) rfl))) (by decide) (t := .int) (t' := .int) (by decide) (by decide)))).other W16 (Or.inr (slot_ne (Or.inr (hw _ (List.mem_of_getElem? (i := 18) rfl))) (Or.inr (hw _ (List.mem_of_getElem? (i := 24) rfl))) (by decide) (t := .int) (t' := .long) (by decide) (by decide)))).other W20 (Or.inr (slot_ne (Or.inr (hw _ (List.mem_of_getElem? (i := 18) rfl))) (Or.inr (hw _ (List.mem_of_getElem? (i := 26) rfl))) (by decide) (t := .int) (t' := .boolean) (by decide) (by decide))))
    have f25 : Fld Z h20 a1 "com/example/usher/usher/server/MemberStatus" "role" "Lcom/example/usher/usher/server/MemberStatus$Role;" (.ref r3) := (((Fw8.other W12 (Or.inr (slot_ne (Or.inr (hw _ (List.mem_of_getElem? (i := 20) rfl))) (Or.inr (hw _ (List.mem_of_getElem? (i := 22) rfl))) (by decide) (t := (.object "com/example/usher/usher/server/MemberStatus$Role")) (t' := .int) (by decide) (by decide)))).other W16 (Or.inr (slot_ne (Or.inr (hw _ (List.mem_of_getElem? (i := 20) rfl))) (Or.inr (hw _ (List.mem_of_getElem? (i := 24) rfl))) (by decide) (t := (.object "com/example/usher/usher/server/MemberStatus$Role")) (t' := .long) (by decide) (by decide)))).other W20 (Or.inr (slot_ne (Or.inr (hw _ (List.mem_of_getElem? (i := 20) rfl))) (Or.inr (hw _ (List.mem_of_getElem? (i := 26) rfl))) (by decide) (t := (.object "com/example/usher/usher/server/MemberStatus$Role")) (t' := .boolean) (by decide) (by decide))))
    have f26 : Fld Z h20 a1 "com/example/usher/usher/server/MemberStatus" "leader" "I" (.int p4) := ((Fw12.other W16 (Or.inr (slot_ne (Or.inr (hw _ (List.mem_of_getElem? (i := 22) rfl))) (Or.inr (hw _ (List.mem_of_getElem? (i := 24) rfl))) (by decide) (t := .int) (t' := .long) (by decide) (by decide)))).other W20 (Or.inr (slot_ne (Or.inr (hw _ (List.mem_of_getElem? (i := 22) rfl))) (Or.inr (hw _ (List.mem_of_getElem? (i := 26) rfl))) (by decide) (t := .int) (t' := .boolean) (by decide) (by decide))))
    have f27 : Fld Z h20 a1 "com/example/usher/usher/server/MemberStatus" "lastZxid" "J" (.long q5) := (Fw16.other W20 (Or.inr (slot_ne (Or.inr (hw _ (List.mem_of_getElem? (i := 24) rfl))) (Or.inr (hw _ (List.mem_of_getElem? (i := 26) rfl))) (by decide) (t := .long) (t' := .boolean) (by decide) (by decide))))
    exact ⟨rfl, N20, f23, (((((E1.wr W5).wr W8).wr W12).wr W16).wr W20), f24, f25, f26, f27, Fw20⟩
def own_eqf (w1_ : Int32) (u1_ : Addr) (x1_ : Int32) (y1_ : Int64) (z1_ : Int32) (w2_ : Int32) (u2_ : Addr) (x2_ : Int32) (y2_ : Int64) (z2_ : Int32) : Int32 := (if w1_ = w2_ then (if u1_ = u2_ then (if x1_ = x2_ then (if y1_ = y2_ then (if z1_ = z2_ then (1 : Int32) else (0 : Int32)) else (0 : Int32)) else (0 : Int32)) else (0 : Int32)) else (0 : Int32))
def Q_rmE1 (Z : State) (a1 : Addr) (a2 : Addr) (w1_ : Int32) (u1_ : Addr) (x1_ : Int32) (y1_ : Int64) (z1_ : Int32) (w2_ : Int32) (u2_ : Addr) (x2_ : Int32) (y2_ : Int64) (z2_ : Int32) (h0 : Heap) (n0 : Nat) (v : Option Value) (h : Heap) (L : List Loc) : Prop := v = some (.int (own_eqf w1_ u1_ x1_ y1_ z1_ w2_ u2_ x2_ y2_ z2_)) ∧ Fr n0 L ∧ h = h0
set_option maxRecDepth 65536 in
set_option maxHeartbeats 40000000 in
theorem rmE1 (l : Launch) (Z : State) (a0 : Array Value) (hw : ∀ d ∈ tables_1, d.before a0 Z = true) (ws : List Jvm.Cond) (a1 : Addr) (a2 : Addr) (w1_ : Int32) (u1_ : Addr) (x1_ : Int32) (y1_ : Int64) (z1_ : Int32) (w2_ : Int32) (u2_ : Addr) (x2_ : Int32) (y2_ : Int64) (z2_ : Int32) (h0 : Heap) (n0 : Nat) (Z0 : n0 ≤ h0.size) (E2 : Exa Z h0 a2 "com/example/usher/usher/server/MemberStatus") (F0 : Fld Z h0 a1 "com/example/usher/usher/server/MemberStatus" "id" "I" (.int w1_)) (F1 : Fld Z h0 a1 "com/example/usher/usher/server/MemberStatus" "role" "Lcom/example/usher/usher/server/MemberStatus$Role;" (.ref u1_)) (F2 : Fld Z h0 a1 "com/example/usher/usher/server/MemberStatus" "leader" "I" (.int x1_)) (F3 : Fld Z h0 a1 "com/example/usher/usher/server/MemberStatus" "lastZxid" "J" (.long y1_)) (F4 : Fld Z h0 a1 "com/example/usher/usher/server/MemberStatus" "serving" "Z" (.int z1_)) (F5 : Fld Z h0 a2 "com/example/usher/usher/server/MemberStatus" "id" "I" (.int w2_)) (F6 : Fld Z h0 a2 "com/example/usher/usher/server/MemberStatus" "role" "Lcom/example/usher/usher/server/MemberStatus$Role;" (.ref u2_)) (F7 : Fld Z h0 a2 "com/example/usher/usher/server/MemberStatus" "leader" "I" (.int x2_)) (F8 : Fld Z h0 a2 "com/example/usher/usher/server/MemberStatus" "lastZxid" "J" (.long y2_)) (F9 : Fld Z h0 a2 "com/example/usher/usher/server/MemberStatus" "serving" "Z" (.int z2_)) :
    MetFree l (⟨"com/example/usher/usher/server/MemberStatus", "equals", "(Ljava/lang/Object;)Z"⟩ : MethodName) (head1 (Jvm.Cond.code (⟨"com/example/usher/usher/server/MemberStatus", "equals", "(Ljava/lang/Object;)Z"⟩ : MethodName) prog_70_method_10_code 3 (some .boolean) :: ws) ({ frames := 0, cells := 0, slots := 0, locals := 0 } : Room)) (fun a U => a = #[(.ref a1), (.ref a2)] ∧ Z.Warmed39 U.vm ∧ U.heap = h0) (fun _ _ _ _ _ => True) (fun _ U o U' => ∃ v L, o = .returned v ∧ Q_rmE1 Z a1 a2 w1_ u1_ x1_ y1_ z1_ w2_ u2_ x2_ y2_ z2_ h0 n0 v U'.heap L ∧ FrameEnd U o U' L ({ frames := 0, cells := 0, slots := 0, locals := 0 } : Room).cells ({ frames := 0, cells := 0, slots := 0, locals := 0 } : Room).slots) := by
  refine MetFree.of_bodySF (plainFor_of_name pn_3) hisR ?_
  intro p e s m args below meth c s₁ Bd hml0 hP hK
  obtain ⟨rfl, hZ, hh⟩ := hP
  have hx := Bd.exec
  have hby := Bd.bytes
  have hml : c.maxLocals = 3 := hml0
  have hown : s.vm.findClass "com/example/usher/usher/server/MemberStatus" = some m.cls := findClass_of_methodNamed Bd.named
  have hnm := (name_of_methodNamed Bd.named Bd.method).1
  have X0 : Stand p l e ({ frames := 0, cells := 0, slots := 0, locals := 0 } : Room) s m #[(.ref a1), (.ref a2)] below meth c s₁ [] 0 0 := Stand.of_body Bd
  have e0 : s₁.heap = h0 := by rw [← hh, Bd.state]; rfl
  have N0 := Fr.nil n0
  have P0 : Rch p e below (s₁.setTop (entryFrame m #[(.ref a1), (.ref a2)] 3)) (s₁.setTop (mkF m 0 #[.val (.ref a1), .val (.ref a2), .unset] [])) := fun t k => castTop (by first | (simp [entryFrame, mkF, argsToLocals, Value.category]; done) | rfl) k
  have P1 : Rch p e below (s₁.setTop (entryFrame m #[(.ref a1), (.ref a2)] 3)) (s₁.setTop (mkF m 1 #[.val (.ref a1), .val (.ref a2), .unset] [(.ref a2)])) := fun t k => P0 t (by
    show Steps p.tables e below (s₁.setTop (mkF m 0 #[.val (.ref a1), .val (.ref a2), .unset] [])) t
    refine XS.aloadN X0.here hx rfl (hb hby d4_0) rfl rfl ?_
    exact k)
  obtain ⟨T2, X2, e2, st2⟩ := instY X0 hx hZ hown (hw _ (List.mem_of_getElem? (i := 32) rfl)) e0 (Ins.self E2) (g := (mkF m 1 #[.val (.ref a1), .val (.ref a2), .unset] [(.ref a2)])) rfl rfl (hb hby d4_1)
  have P3 : Rch p e below (s₁.setTop (entryFrame m #[(.ref a1), (.ref a2)] 3)) (T2.setTop (mkF m 4 #[.val (.ref a1), .val (.ref a2), .unset] [(.int (1 : Int32))])) := fun t k => P1 t (st2 t k)
  have P4 : Rch p e below (s₁.setTop (entryFrame m #[(.ref a1), (.ref a2)] 3)) (T2.setTop (mkF m 8 #[.val (.ref a1), .val (.ref a2), .unset] [(.ref a2)])) := fun t k => P3 t (by
    show Steps p.tables e below (T2.setTop (mkF m 4 #[.val (.ref a1), .val (.ref a2), .unset] [(.int (1 : Int32))])) t
    refine XS.ifNo X2.here hx rfl (hb hby d4_4) rfl ((if0 _ _).trans (feq (by decide)).1) ?_
    show Steps p.tables e below (T2.setTop (mkF m 7 #[.val (.ref a1), .val (.ref a2), .unset] [])) t
    refine XS.aloadN X2.here hx rfl (hb hby d4_7) rfl rfl ?_
    exact k)
  obtain ⟨T5, X5, e5, st5⟩ := castY X2 hx hZ hown (hw _ (List.mem_of_getElem? (i := 32) rfl)) e2 (Ins.self E2) (g := (mkF m 8 #[.val (.ref a1), .val (.ref a2), .unset] [(.ref a2)])) rfl rfl (hb hby d4_8)
  have P6 : Rch p e below (s₁.setTop (entryFrame m #[(.ref a1), (.ref a2)] 3)) (T5.setTop (mkF m 11 #[.val (.ref a1), .val (.ref a2), .unset] [(.ref a2)])) := fun t k => P4 t (st5 t k)
  have P7 : Rch p e below (s₁.setTop (entryFrame m #[(.ref a1), (.ref a2)] 3)) (T5.setTop (mkF m 13 #[.val (.ref a1), .val (.ref a2), .val (.ref a2)] [(.ref a1)])) := fun t k => P6 t (by
    show Steps p.tables e below (T5.setTop (mkF m 11 #[.val (.ref a1), .val (.ref a2), .unset] [(.ref a2)])) t
    refine XS.astoreN X5.here hx rfl (hb hby d4_11) rfl rfl (l' := #[.val (.ref a1), .val (.ref a2), .val (.ref a2)]) rfl ?_
    show Steps p.tables e below (T5.setTop (mkF m 12 #[.val (.ref a1), .val (.ref a2), .val (.ref a2)] [])) t
    refine XS.aloadN X5.here hx rfl (hb hby d4_12) rfl rfl ?_
    exact k)
  obtain ⟨T8, X8, e8, st8⟩ := getF X5 hx hZ hown (host := "") (Or.inl (hw _ (List.mem_of_getElem? (i := 17) rfl))) Via.refl e5 F0 (g := (mkF m 13 #[.val (.ref a1), .val (.ref a2), .val (.ref a2)] [(.ref a1)])) rfl rfl (hb hby d4_13)
  have P9 : Rch p e below (s₁.setTop (entryFrame m #[(.ref a1), (.ref a2)] 3)) (T8.setTop (mkF m 16 #[.val (.ref a1), .val (.ref a2), .val (.ref a2)] [(.int w1_)])) := fun t k => P7 t (st8 t k)
  have P10 : Rch p e below (s₁.setTop (entryFrame m #[(.ref a1), (.ref a2)] 3)) (T8.setTop (mkF m 17 #[.val (.ref a1), .val (.ref a2), .val (.ref a2)] [(.ref a2), (.int w1_)])) := fun t k => P9 t (by
    show Steps p.tables e below (T8.setTop (mkF m 16 #[.val (.ref a1), .val (.ref a2), .val (.ref a2)] [(.int w1_)])) t
    refine XS.aloadN X8.here hx rfl (hb hby d4_16) rfl rfl ?_
    exact k)
  obtain ⟨T11, X11, e11, st11⟩ := getF X8 hx hZ hown (host := "") (Or.inl (hw _ (List.mem_of_getElem? (i := 17) rfl))) Via.refl e8 F5 (g := (mkF m 17 #[.val (.ref a1), .val (.ref a2), .val (.ref a2)] [(.ref a2), (.int w1_)])) rfl rfl (hb hby d4_17)
  have P12 : Rch p e below (s₁.setTop (entryFrame m #[(.ref a1), (.ref a2)] 3)) (T11.setTop (mkF m 20 #[.val (.ref a1), .val (.ref a2), .val (.ref a2)] [(.int w2_), (.int w1_)])) := fun t k => P10 t (st11 t k)
  by_cases c13 : w1_ = w2_
  · have P14 : Rch p e below (s₁.setTop (entryFrame m #[(.ref a1), (.ref a2)] 3)) (T11.setTop (mkF m 24 #[.val (.ref a1), .val (.ref a2), .val (.ref a2)] [(.ref a1)])) := fun t k => P12 t (by
      show Steps p.tables e below (T11.setTop (mkF m 20 #[.val (.ref a1), .val (.ref a2), .val (.ref a2)] [(.int w2_), (.int w1_)])) t
      refine XS.icmpNo X11.here hx rfl (hb hby d4_20) rfl (teq c13).2 ?_
      show Steps p.tables e below (T11.setTop (mkF m 23 #[.val (.ref a1), .val (.ref a2), .val (.ref a2)] [])) t
      refine XS.aloadN X11.here hx rfl (hb hby d4_23) rfl rfl ?_
      exact k)
    obtain ⟨T15, X15, e15, st15⟩ := getF X11 hx hZ hown (host := "") (Or.inl (hw _ (List.mem_of_getElem? (i := 19) rfl))) Via.refl e11 F1 (g := (mkF m 24 #[.val (.ref a1), .val (.ref a2), .val (.ref a2)] [(.ref a1)])) rfl rfl (hb hby d4_24)
    have P16 : Rch p e below (s₁.setTop (entryFrame m #[(.ref a1), (.ref a2)] 3)) (T15.setTop (mkF m 27 #[.val (.ref a1), .val (.ref a2), .val (.ref a2)] [(.ref u1_)])) := fun t k => P14 t (st15 t k)
    have P17 : Rch p e below (s₁.setTop (entryFrame m #[(.ref a1), (.ref a2)] 3)) (T15.setTop (mkF m 28 #[.val (.ref a1), .val (.ref a2), .val (.ref a2)] [(.ref a2), (.ref u1_)])) := fun t k => P16 t (by
      show Steps p.tables e below (T15.setTop (mkF m 27 #[.val (.ref a1), .val (.ref a2), .val (.ref a2)] [(.ref u1_)])) t
      refine XS.aloadN X15.here hx rfl (hb hby d4_27) rfl rfl ?_
      exact k)
    obtain ⟨T18, X18, e18, st18⟩ := getF X15 hx hZ hown (host := "") (Or.inl (hw _ (List.mem_of_getElem? (i := 19) rfl))) Via.refl e15 F6 (g := (mkF m 28 #[.val (.ref a1), .val (.ref a2), .val (.ref a2)] [(.ref a2), (.ref u1_)])) rfl rfl (hb hby d4_28)
    have P19 : Rch p e below (s₁.setTop (entryFrame m #[(.ref a1), (.ref a2)] 3)) (T18.setTop (mkF m 31 #[.val (.ref a1), .val (.ref a2), .val (.ref a2)] [(.ref u2_), (.ref u1_)])) := fun t k => P17 t (st18 t k)
    by_cases c20 : u1_ = u2_
    · have P21 : Rch p e below (s₁.setTop (entryFrame m #[(.ref a1), (.ref a2)] 3)) (T18.setTop (mkF m 35 #[.val (.ref a1), .val (.ref a2), .val (.ref a2)] [(.ref a1)])) := fun t k => P19 t (by
        show Steps p.tables e below (T18.setTop (mkF m 31 #[.val (.ref a1), .val (.ref a2), .val (.ref a2)] [(.ref u2_), (.ref u1_)])) t
        refine Jvm.RoadKit.acmp (g := (mkF m 31 #[.val (.ref a1), .val (.ref a2), .val (.ref a2)] [(.ref u2_), (.ref u1_)])) X18 hx rfl rfl rfl (pc0 := 31) (pc' := 34) (same := true) rfl (hb hby d4_31) rfl (decide_eq_true (congrArg Value.ref c20)) (by decide) (by decide) ?_
        show Steps p.tables e below (T18.setTop (mkF m 34 #[.val (.ref a1), .val (.ref a2), .val (.ref a2)] [])) t
        refine XS.aloadN X18.here hx rfl (hb hby d4_34) rfl rfl ?_
        exact k)
      obtain ⟨T22, X22, e22, st22⟩ := getF X18 hx hZ hown (host := "") (Or.inl (hw _ (List.mem_of_getElem? (i := 21) rfl))) Via.refl e18 F2 (g := (mkF m 35 #[.val (.ref a1), .val (.ref a2), .val (.ref a2)] [(.ref a1)])) rfl rfl (hb hby d4_35)
      have P23 : Rch p e below (s₁.setTop (entryFrame m #[(.ref a1), (.ref a2)] 3)) (T22.setTop (mkF m 38 #[.val (.ref a1), .val (.ref a2), .val (.ref a2)] [(.int x1_)])) := fun t k => P21 t (st22 t k)
      have P24 : Rch p e below (s₁.setTop (entryFrame m #[(.ref a1), (.ref a2)] 3)) (T22.setTop (mkF m 39 #[.val (.ref a1), .val (.ref a2), .val (.ref a2)] [(.ref a2), (.int x1_)])) := fun t k => P23 t (by
        show Steps p.tables e below (T22.setTop (mkF m 38 #[.val (.ref a1), .val (.ref a2), .val (.ref a2)] [(.int x1_)])) t
        refine XS.aloadN X22.here hx rfl (hb hby d4_38) rfl rfl ?_
        exact k)
      obtain ⟨T25, X25, e25, st25⟩ := getF X22 hx hZ hown (host := "") (Or.inl (hw _ (List.mem_of_getElem? (i := 21) rfl))) Via.refl e22 F7 (g := (mkF m 39 #[.val (.ref a1), .val (.ref a2), .val (.ref a2)] [(.ref a2), (.int x1_)])) rfl rfl (hb hby d4_39)
      have P26 : Rch p e below (s₁.setTop (entryFrame m #[(.ref a1), (.ref a2)] 3)) (T25.setTop (mkF m 42 #[.val (.ref a1), .val (.ref a2), .val (.ref a2)] [(.int x2_), (.int x1_)])) := fun t k => P24 t (st25 t k)
      by_cases c27 : x1_ = x2_
      · have P28 : Rch p e below (s₁.setTop (entryFrame m #[(.ref a1), (.ref a2)] 3)) (T25.setTop (mkF m 46 #[.val (.ref a1), .val (.ref a2), .val (.ref a2)] [(.ref a1)])) := fun t k => P26 t (by
          show Steps p.tables e below (T25.setTop (mkF m 42 #[.val (.ref a1), .val (.ref a2), .val (.ref a2)] [(.int x2_), (.int x1_)])) t
          refine XS.icmpNo X25.here hx rfl (hb hby d4_42) rfl (teq c27).2 ?_
          show Steps p.tables e below (T25.setTop (mkF m 45 #[.val (.ref a1), .val (.ref a2), .val (.ref a2)] [])) t
          refine XS.aloadN X25.here hx rfl (hb hby d4_45) rfl rfl ?_
          exact k)
        obtain ⟨T29, X29, e29, st29⟩ := getF X25 hx hZ hown (host := "") (Or.inl (hw _ (List.mem_of_getElem? (i := 23) rfl))) Via.refl e25 F3 (g := (mkF m 46 #[.val (.ref a1), .val (.ref a2), .val (.ref a2)] [(.ref a1)])) rfl rfl (hb hby d4_46)
        have P30 : Rch p e below (s₁.setTop (entryFrame m #[(.ref a1), (.ref a2)] 3)) (T29.setTop (mkF m 49 #[.val (.ref a1), .val (.ref a2), .val (.ref a2)] [(.long y1_)])) := fun t k => P28 t (st29 t k)
        have P31 : Rch p e below (s₁.setTop (entryFrame m #[(.ref a1), (.ref a2)] 3)) (T29.setTop (mkF m 50 #[.val (.ref a1), .val (.ref a2), .val (.ref a2)] [(.ref a2), (.long y1_)])) := fun t k => P30 t (by
          show Steps p.tables e below (T29.setTop (mkF m 49 #[.val (.ref a1), .val (.ref a2), .val (.ref a2)] [(.long y1_)])) t
          refine XS.aloadN X29.here hx rfl (hb hby d4_49) rfl rfl ?_
          exact k)
        obtain ⟨T32, X32, e32, st32⟩ := getF X29 hx hZ hown (host := "") (Or.inl (hw _ (List.mem_of_getElem? (i := 23) rfl))) Via.refl e29 F8 (g := (mkF m 50 #[.val (.ref a1), .val (.ref a2), .val (.ref a2)] [(.ref a2), (.long y1_)])) rfl rfl (hb hby d4_50)
        have P33 : Rch p e below (s₁.setTop (entryFrame m #[(.ref a1), (.ref a2)] 3)) (T32.setTop (mkF m 53 #[.val (.ref a1), .val (.ref a2), .val (.ref a2)] [(.long y2_), (.long y1_)])) := fun t k => P31 t (st32 t k)
        have P34 : Rch p e below (s₁.setTop (entryFrame m #[(.ref a1), (.ref a2)] 3)) (T32.setTop (mkF m 54 #[.val (.ref a1), .val (.ref a2), .val (.ref a2)] [(.int (lcmpW y1_ y2_))])) := fun t k => P33 t (by
          show Steps p.tables e below (T32.setTop (mkF m 53 #[.val (.ref a1), .val (.ref a2), .val (.ref a2)] [(.long y2_), (.long y1_)])) t
          refine XS.lcmp X32.here hx rfl (hb hby d4_53) rfl ?_
          exact k)
        by_cases c35 : y1_ = y2_
        · have P36 : Rch p e below (s₁.setTop (entryFrame m #[(.ref a1), (.ref a2)] 3)) (T32.setTop (mkF m 58 #[.val (.ref a1), .val (.ref a2), .val (.ref a2)] [(.ref a1)])) := fun t k => P34 t (by
            show Steps p.tables e below (T32.setTop (mkF m 54 #[.val (.ref a1), .val (.ref a2), .val (.ref a2)] [(.int (lcmpW y1_ y2_))])) t
            refine XS.ifNo X32.here hx rfl (hb hby d4_54) rfl ((if0 _ _).trans (teq ((lw_eq y1_ y2_).mpr c35)).2) ?_
            show Steps p.tables e below (T32.setTop (mkF m 57 #[.val (.ref a1), .val (.ref a2), .val (.ref a2)] [])) t
            refine XS.aloadN X32.here hx rfl (hb hby d4_57) rfl rfl ?_
            exact k)
          obtain ⟨T37, X37, e37, st37⟩ := getF X32 hx hZ hown (host := "") (Or.inl (hw _ (List.mem_of_getElem? (i := 25) rfl))) Via.refl e32 F4 (g := (mkF m 58 #[.val (.ref a1), .val (.ref a2), .val (.ref a2)] [(.ref a1)])) rfl rfl (hb hby d4_58)
          have P38 : Rch p e below (s₁.setTop (entryFrame m #[(.ref a1), (.ref a2)] 3)) (T37.setTop (mkF m 61 #[.val (.ref a1), .val (.ref a2), .val (.ref a2)] [(.int z1_)])) := fun t k => P36 t (st37 t k)
          have P39 : Rch p e below (s₁.setTop (entryFrame m #[(.ref a1), (.ref a2)] 3)) (T37.setTop (mkF m 62 #[.val (.ref a1), .val (.ref a2), .val (.ref a2)] [(.ref a2), (.int z1_)])) := fun t k => P38 t (by
            show Steps p.tables e below (T37.setTop (mkF m 61 #[.val (.ref a1), .val (.ref a2), .val (.ref a2)] [(.int z1_)])) t
            refine XS.aloadN X37.here hx rfl (hb hby d4_61) rfl rfl ?_
            exact k)
          obtain ⟨T40, X40, e40, st40⟩ := getF X37 hx hZ hown (host := "") (Or.inl (hw _ (List.mem_of_getElem? (i := 25) rfl))) Via.refl e37 F9 (g := (mkF m 62 #[.val (.ref a1), .val (.ref a2), .val (.ref a2)] [(.ref a2), (.int z1_)])) rfl rfl (hb hby d4_62)
          have P41 : Rch p e below (s₁.setTop (entryFrame m #[(.ref a1), (.ref a2)] 3)) (T40.setTop (mkF m 65 #[.val (.ref a1), .val (.ref a2), .val (.ref a2)] [(.int z2_), (.int z1_)])) := fun t k => P39 t (st40 t k)
          obtain ⟨v43, hv43, P44⟩ : ∃ (v43 : Int32), v43 = (if z1_ = z2_ then (1 : Int32) else (0 : Int32)) ∧ Rch p e below (s₁.setTop (entryFrame m #[(.ref a1), (.ref a2)] 3)) (T40.setTop (mkF m 73 #[.val (.ref a1), .val (.ref a2), .val (.ref a2)] [(.int v43)])) := by
            by_cases c42 : z1_ = z2_
            · refine ⟨(1 : Int32), (by first | rfl | rw [if_pos c42] | simp only [if_pos c42]), fun t k => P41 t ?_⟩
              show Steps p.tables e below (T40.setTop (mkF m 65 #[.val (.ref a1), .val (.ref a2), .val (.ref a2)] [(.int z2_), (.int z1_)])) t
              refine XS.icmpNo X40.here hx rfl (hb hby d4_65) rfl (teq c42).2 ?_
              show Steps p.tables e below (T40.setTop (mkF m 68 #[.val (.ref a1), .val (.ref a2), .val (.ref a2)] [])) t
              refine XS.iconst X40.here hx rfl (hb hby d4_68) ?_
              show Steps p.tables e below (T40.setTop (mkF m 69 #[.val (.ref a1), .val (.ref a2), .val (.ref a2)] [(.int (1 : Int32))])) t
              refine XS.goto X40.here hx rfl (pc0 := 69) (pc' := 73) rfl (hb hby d4_69) (by decide) (by decide) ?_
              exact k
            · refine ⟨(0 : Int32), (by first | rfl | rw [if_neg c42] | simp only [if_neg c42]), fun t k => P41 t ?_⟩
              show Steps p.tables e below (T40.setTop (mkF m 65 #[.val (.ref a1), .val (.ref a2), .val (.ref a2)] [(.int z2_), (.int z1_)])) t
              refine XS.icmpYes X40.here hx rfl (pc0 := 65) (pc' := 72) rfl (hb hby d4_65) rfl (feq c42).2 (by decide) (by decide) ?_
              show Steps p.tables e below (T40.setTop (mkF m 72 #[.val (.ref a1), .val (.ref a2), .val (.ref a2)] [])) t
              refine XS.iconst X40.here hx rfl (hb hby d4_72) ?_
              exact k
          have hz45 : nar .boolean v43 = v43 := by rw [hv43]; (repeat' split) <;> rfl
          obtain ⟨fs, hr, hrun, hended, hW, hsame⟩ := X40.leave (v := some (.int (nar .boolean v43))) (fun h => by rw [Bd.returns] at h; cases h)
          refine ⟨_, _, P44 _ ?_, hrun, hended, _, _, rfl, ?_, ⟨_, rfl⟩, hW, hsame.mono (by decide) (by decide)⟩
          · exact retN X40 hx (t := .boolean) Bd.returns (by simp) (hb hby d4_73) hr
          · show Q_rmE1 Z a1 a2 w1_ u1_ x1_ y1_ z1_ w2_ u2_ x2_ y2_ z2_ h0 n0 _ T40.heap _
            rw [e40]
            exact ⟨(by rw [hz45]; unfold own_eqf; subst hv43; first | rfl | rw [if_pos c13, if_pos c20, if_pos c27, if_pos c35] | simp only [if_pos c13, if_pos c20, if_pos c27, if_pos c35] | simp [*]), N0, rfl⟩
        · have P46 : Rch p e below (s₁.setTop (entryFrame m #[(.ref a1), (.ref a2)] 3)) (T32.setTop (mkF m 73 #[.val (.ref a1), .val (.ref a2), .val (.ref a2)] [(.int (0 : Int32))])) := fun t k => P34 t (by
            show Steps p.tables e below (T32.setTop (mkF m 54 #[.val (.ref a1), .val (.ref a2), .val (.ref a2)] [(.int (lcmpW y1_ y2_))])) t
            refine XS.ifYes X32.here hx rfl (pc0 := 54) (pc' := 72) rfl (hb hby d4_54) rfl ((if0 _ _).trans (feq (fun q_ => c35 ((lw_eq y1_ y2_).mp q_))).2) (by decide) (by decide) ?_
            show Steps p.tables e below (T32.setTop (mkF m 72 #[.val (.ref a1), .val (.ref a2), .val (.ref a2)] [])) t
            refine XS.iconst X32.here hx rfl (hb hby d4_72) ?_
            exact k)
          obtain ⟨fs, hr, hrun, hended, hW, hsame⟩ := X32.leave (v := some (.int (0 : Int32))) (fun h => by rw [Bd.returns] at h; cases h)
          refine ⟨_, _, P46 _ ?_, hrun, hended, _, _, rfl, ?_, ⟨_, rfl⟩, hW, hsame.mono (by decide) (by decide)⟩
          · exact retN X32 hx (t := .boolean) Bd.returns (by simp) (hb hby d4_73) hr
          · show Q_rmE1 Z a1 a2 w1_ u1_ x1_ y1_ z1_ w2_ u2_ x2_ y2_ z2_ h0 n0 _ T32.heap _
            rw [e32]
            exact ⟨(by unfold own_eqf; first | rfl | rw [if_pos c13, if_pos c20, if_pos c27, if_neg c35] | simp only [if_pos c13, if_pos c20, if_pos c27, if_neg c35] | simp [*]), N0, rfl⟩
      · have P47 : Rch p e below (s₁.setTop (entryFrame m #[(.ref a1), (.ref a2)] 3)) (T25.setTop (mkF m 73 #[.val (.ref a1), .val (.ref a2), .val (.ref a2)] [(.int (0 : Int32))])) := fun t k => P26 t (by
          show Steps p.tables e below (T25.setTop (mkF m 42 #[.val (.ref a1), .val (.ref a2), .val (.ref a2)] [(.int x2_), (.int x1_)])) t
          refine XS.icmpYes X25.here hx rfl (pc0 := 42) (pc' := 72) rfl (hb hby d4_42) rfl (feq c27).2 (by decide) (by decide) ?_
          show Steps p.tables e below (T25.setTop (mkF m 72 #[.val (.ref a1), .val (.ref a2), .val (.ref a2)] [])) t
          refine XS.iconst X25.here hx rfl (hb hby d4_72) ?_
          exact k)
        obtain ⟨fs, hr, hrun, hended, hW, hsame⟩ := X25.leave (v := some (.int (0 : Int32))) (fun h => by rw [Bd.returns] at h; cases h)
        refine ⟨_, _, P47 _ ?_, hrun, hended, _, _, rfl, ?_, ⟨_, rfl⟩, hW, hsame.mono (by decide) (by decide)⟩
        · exact retN X25 hx (t := .boolean) Bd.returns (by simp) (hb hby d4_73) hr
        · show Q_rmE1 Z a1 a2 w1_ u1_ x1_ y1_ z1_ w2_ u2_ x2_ y2_ z2_ h0 n0 _ T25.heap _
          rw [e25]
          exact ⟨(by unfold own_eqf; first | rfl | rw [if_pos c13, if_pos c20, if_neg c27] | simp only [if_pos c13, if_pos c20, if_neg c27] | simp [*]), N0, rfl⟩
    · have P48 : Rch p e below (s₁.setTop (entryFrame m #[(.ref a1), (.ref a2)] 3)) (T18.setTop (mkF m 73 #[.val (.ref a1), .val (.ref a2), .val (.ref a2)] [(.int (0 : Int32))])) := fun t k => P19 t (by
        show Steps p.tables e below (T18.setTop (mkF m 31 #[.val (.ref a1), .val (.ref a2), .val (.ref a2)] [(.ref u2_), (.ref u1_)])) t
        refine Jvm.RoadKit.acmp (g := (mkF m 31 #[.val (.ref a1), .val (.ref a2), .val (.ref a2)] [(.ref u2_), (.ref u1_)])) X18 hx rfl rfl rfl (pc0 := 31) (pc' := 72) (same := false) rfl (hb hby d4_31) rfl (decide_eq_false fun q => c20 (Value.ref.inj q)) (by decide) (by decide) ?_
        show Steps p.tables e below (T18.setTop (mkF m 72 #[.val (.ref a1), .val (.ref a2), .val (.ref a2)] [])) t
        refine XS.iconst X18.here hx rfl (hb hby d4_72) ?_
        exact k)
      obtain ⟨fs, hr, hrun, hended, hW, hsame⟩ := X18.leave (v := some (.int (0 : Int32))) (fun h => by rw [Bd.returns] at h; cases h)
      refine ⟨_, _, P48 _ ?_, hrun, hended, _, _, rfl, ?_, ⟨_, rfl⟩, hW, hsame.mono (by decide) (by decide)⟩
      · exact retN X18 hx (t := .boolean) Bd.returns (by simp) (hb hby d4_73) hr
      · show Q_rmE1 Z a1 a2 w1_ u1_ x1_ y1_ z1_ w2_ u2_ x2_ y2_ z2_ h0 n0 _ T18.heap _
        rw [e18]
        exact ⟨(by unfold own_eqf; first | rfl | rw [if_pos c13, if_neg c20] | simp only [if_pos c13, if_neg c20] | simp [*]), N0, rfl⟩
  · have P49 : Rch p e below (s₁.setTop (entryFrame m #[(.ref a1), (.ref a2)] 3)) (T11.setTop (mkF m 73 #[.val (.ref a1), .val (.ref a2), .val (.ref a2)] [(.int (0 : Int32))])) := fun t k => P12 t (by
      show Steps p.tables e below (T11.setTop (mkF m 20 #[.val (.ref a1), .val (.ref a2), .val (.ref a2)] [(.int w2_), (.int w1_)])) t
      refine XS.icmpYes X11.here hx rfl (pc0 := 20) (pc' := 72) rfl (hb hby d4_20) rfl (feq c13).2 (by decide) (by decide) ?_
      show Steps p.tables e below (T11.setTop (mkF m 72 #[.val (.ref a1), .val (.ref a2), .val (.ref a2)] [])) t
      refine XS.iconst X11.here hx rfl (hb hby d4_72) ?_
      exact k)
    obtain ⟨fs, hr, hrun, hended, hW, hsame⟩ := X11.leave (v := some (.int (0 : Int32))) (fun h => by rw [Bd.returns] at h; cases h)
    refine ⟨_, _, P49 _ ?_, hrun, hended, _, _, rfl, ?_, ⟨_, rfl⟩, hW, hsame.mono (by decide) (by decide)⟩
    · exact retN X11 hx (t := .boolean) Bd.returns (by simp) (hb hby d4_73) hr
    · show Q_rmE1 Z a1 a2 w1_ u1_ x1_ y1_ z1_ w2_ u2_ x2_ y2_ z2_ h0 n0 _ T11.heap _
      rw [e11]
      exact ⟨(by unfold own_eqf; first | rfl | rw [if_neg c13] | simp only [if_neg c13] | simp [*]), N0, rfl⟩
def Q_rmE0 (Z : State) (a1 : Addr) (h0 : Heap) (n0 : Nat) (v : Option Value) (h : Heap) (L : List Loc) : Prop := v = some (.int (0 : Int32)) ∧ Fr n0 L ∧ h = h0
set_option maxRecDepth 65536 in
set_option maxHeartbeats 40000000 in
theorem rmE0 (l : Launch) (Z : State) (a0 : Array Value) (hw : ∀ d ∈ tables_1, d.before a0 Z = true) (ws : List Jvm.Cond) (a1 : Addr) (h0 : Heap) (n0 : Nat) (Z0 : n0 ≤ h0.size) :
    MetFree l (⟨"com/example/usher/usher/server/MemberStatus", "equals", "(Ljava/lang/Object;)Z"⟩ : MethodName) (head1 (Jvm.Cond.code (⟨"com/example/usher/usher/server/MemberStatus", "equals", "(Ljava/lang/Object;)Z"⟩ : MethodName) prog_70_method_10_code 3 (some .boolean) :: ws) ({ frames := 0, cells := 0, slots := 0, locals := 0 } : Room)) (fun a U => a = #[(.ref a1), .null] ∧ Z.Warmed39 U.vm ∧ U.heap = h0) (fun _ _ _ _ _ => True) (fun _ U o U' => ∃ v L, o = .returned v ∧ Q_rmE0 Z a1 h0 n0 v U'.heap L ∧ FrameEnd U o U' L ({ frames := 0, cells := 0, slots := 0, locals := 0 } : Room).cells ({ frames := 0, cells := 0, slots := 0, locals := 0 } : Room).slots) := by
  refine MetFree.of_bodySF (plainFor_of_name pn_3) hisR ?_
  intro p e s m args below meth c s₁ Bd hml0 hP hK
  obtain ⟨rfl, hZ, hh⟩ := hP
  have hx := Bd.exec
  have hby := Bd.bytes
  have hml : c.maxLocals = 3 := hml0
  have hown : s.vm.findClass "com/example/usher/usher/server/MemberStatus" = some m.cls := findClass_of_methodNamed Bd.named
  have hnm := (name_of_methodNamed Bd.named Bd.method).1
  have X0 : Stand p l e ({ frames := 0, cells := 0, slots := 0, locals := 0 } : Room) s m #[(.ref a1), .null] below meth c s₁ [] 0 0 := Stand.of_body Bd
  have e0 : s₁.heap = h0 := by rw [← hh, Bd.state]; rfl
  have N0 := Fr.nil n0
  have P0 : Rch p e below (s₁.setTop (entryFrame m #[(.ref a1), .null] 3)) (s₁.setTop (mkF m 0 #[.val (.ref a1), .val .null, .unset] [])) := fun t k => castTop (by first | (simp [entryFrame, mkF, argsToLocals, Value.category]; done) | rfl) k
  have P1 : Rch p e below (s₁.setTop (entryFrame m #[(.ref a1), .null] 3)) (s₁.setTop (mkF m 1 #[.val (.ref a1), .val .null, .unset] [.null])) := fun t k => P0 t (by
    show Steps p.tables e below (s₁.setTop (mkF m 0 #[.val (.ref a1), .val .null, .unset] [])) t
    refine XS.aloadN X0.here hx rfl (hb hby d4_0) rfl rfl ?_
    exact k)
  have P3 : Rch p e below (s₁.setTop (entryFrame m #[(.ref a1), .null] 3)) (s₁.setTop (mkF m 4 #[.val (.ref a1), .val .null, .unset] [(.int (0 : Int32))])) := fun t k => P1 t (X0.instanceofNull hx (g := (mkF m 1 #[.val (.ref a1), .val .null, .unset] [.null])) rfl rfl (hb hby d4_1) t k)
  have P4 : Rch p e below (s₁.setTop (entryFrame m #[(.ref a1), .null] 3)) (s₁.setTop (mkF m 73 #[.val (.ref a1), .val .null, .unset] [(.int (0 : Int32))])) := fun t k => P3 t (by
    show Steps p.tables e below (s₁.setTop (mkF m 4 #[.val (.ref a1), .val .null, .unset] [(.int (0 : Int32))])) t
    refine XS.ifYes X0.here hx rfl (pc0 := 4) (pc' := 72) rfl (hb hby d4_4) rfl ((if0 _ _).trans (teq (by decide)).1) (by decide) (by decide) ?_
    show Steps p.tables e below (s₁.setTop (mkF m 72 #[.val (.ref a1), .val .null, .unset] [])) t
    refine XS.iconst X0.here hx rfl (hb hby d4_72) ?_
    exact k)
  obtain ⟨fs, hr, hrun, hended, hW, hsame⟩ := X0.leave (v := some (.int (0 : Int32))) (fun h => by rw [Bd.returns] at h; cases h)
  refine ⟨_, _, P4 _ ?_, hrun, hended, _, _, rfl, ?_, ⟨_, rfl⟩, hW, hsame.mono (by decide) (by decide)⟩
  · exact retN X0 hx (t := .boolean) Bd.returns (by simp) (hb hby d4_73) hr
  · show Q_rmE0 Z a1 h0 n0 _ s₁.heap _
    rw [e0]
    exact ⟨rfl, N0, rfl⟩
def Q_rmE3 (Z : State) (a1 : Addr) (a2 : Addr) (h0 : Heap) (n0 : Nat) (v : Option Value) (h : Heap) (L : List Loc) : Prop := v = some (.int (0 : Int32)) ∧ Fr n0 L ∧ h = h0
set_option maxRecDepth 65536 in
set_option maxHeartbeats 40000000 in
theorem rmE3 (l : Launch) (Z : State) (a0 : Array Value) (hw : ∀ d ∈ tables_1, d.before a0 Z = true) (ws : List Jvm.Cond) (a1 : Addr) (a2 : Addr) (h0 : Heap) (n0 : Nat) (Z0 : n0 ≤ h0.size) (E2 : Exa Z h0 a2 "java/lang/Integer") :
    MetFree l (⟨"com/example/usher/usher/server/MemberStatus", "equals", "(Ljava/lang/Object;)Z"⟩ : MethodName) (head1 (Jvm.Cond.code (⟨"com/example/usher/usher/server/MemberStatus", "equals", "(Ljava/lang/Object;)Z"⟩ : MethodName) prog_70_method_10_code 3 (some .boolean) :: ws) ({ frames := 0, cells := 0, slots := 0, locals := 0 } : Room)) (fun a U => a = #[(.ref a1), (.ref a2)] ∧ Z.Warmed39 U.vm ∧ U.heap = h0) (fun _ _ _ _ _ => True) (fun _ U o U' => ∃ v L, o = .returned v ∧ Q_rmE3 Z a1 a2 h0 n0 v U'.heap L ∧ FrameEnd U o U' L ({ frames := 0, cells := 0, slots := 0, locals := 0 } : Room).cells ({ frames := 0, cells := 0, slots := 0, locals := 0 } : Room).slots) := by
  refine MetFree.of_bodySF (plainFor_of_name pn_3) hisR ?_
  intro p e s m args below meth c s₁ Bd hml0 hP hK
  obtain ⟨rfl, hZ, hh⟩ := hP
  have hx := Bd.exec
  have hby := Bd.bytes
  have hml : c.maxLocals = 3 := hml0
  have hown : s.vm.findClass "com/example/usher/usher/server/MemberStatus" = some m.cls := findClass_of_methodNamed Bd.named
  have hnm := (name_of_methodNamed Bd.named Bd.method).1
  have X0 : Stand p l e ({ frames := 0, cells := 0, slots := 0, locals := 0 } : Room) s m #[(.ref a1), (.ref a2)] below meth c s₁ [] 0 0 := Stand.of_body Bd
  have e0 : s₁.heap = h0 := by rw [← hh, Bd.state]; rfl
  have N0 := Fr.nil n0
  have P0 : Rch p e below (s₁.setTop (entryFrame m #[(.ref a1), (.ref a2)] 3)) (s₁.setTop (mkF m 0 #[.val (.ref a1), .val (.ref a2), .unset] [])) := fun t k => castTop (by first | (simp [entryFrame, mkF, argsToLocals, Value.category]; done) | rfl) k
  have P1 : Rch p e below (s₁.setTop (entryFrame m #[(.ref a1), (.ref a2)] 3)) (s₁.setTop (mkF m 1 #[.val (.ref a1), .val (.ref a2), .unset] [(.ref a2)])) := fun t k => P0 t (by
    show Steps p.tables e below (s₁.setTop (mkF m 0 #[.val (.ref a1), .val (.ref a2), .unset] [])) t
    refine XS.aloadN X0.here hx rfl (hb hby d4_0) rfl rfl ?_
    exact k)
  obtain ⟨T2, X2, e2, st2⟩ := instNo X0 hx hZ hown (hw _ (List.mem_of_getElem? (i := 32) rfl)) e0 E2 (own_nsNo (hw _ (List.mem_of_getElem? (i := 41) rfl)) (hw _ (List.mem_of_getElem? (i := 9) rfl)) (NS.step (hw _ (List.mem_of_getElem? (i := 41) rfl)) (NS.step (hw _ (List.mem_of_getElem? (i := 42) rfl)) (own_nsRoot (hw _ (List.mem_of_getElem? (i := 43) rfl)) (hw _ (List.mem_of_getElem? (i := 9) rfl)) (by decide)) (by decide)) (by decide)) (by decide)) (g := (mkF m 1 #[.val (.ref a1), .val (.ref a2), .unset] [(.ref a2)])) rfl rfl (hb hby d4_1)
  have P3 : Rch p e below (s₁.setTop (entryFrame m #[(.ref a1), (.ref a2)] 3)) (T2.setTop (mkF m 4 #[.val (.ref a1), .val (.ref a2), .unset] [(.int (0 : Int32))])) := fun t k => P1 t (st2 t k)
  have P4 : Rch p e below (s₁.setTop (entryFrame m #[(.ref a1), (.ref a2)] 3)) (T2.setTop (mkF m 73 #[.val (.ref a1), .val (.ref a2), .unset] [(.int (0 : Int32))])) := fun t k => P3 t (by
    show Steps p.tables e below (T2.setTop (mkF m 4 #[.val (.ref a1), .val (.ref a2), .unset] [(.int (0 : Int32))])) t
    refine XS.ifYes X2.here hx rfl (pc0 := 4) (pc' := 72) rfl (hb hby d4_4) rfl ((if0 _ _).trans (teq (by decide)).1) (by decide) (by decide) ?_
    show Steps p.tables e below (T2.setTop (mkF m 72 #[.val (.ref a1), .val (.ref a2), .unset] [])) t
    refine XS.iconst X2.here hx rfl (hb hby d4_72) ?_
    exact k)
  obtain ⟨fs, hr, hrun, hended, hW, hsame⟩ := X2.leave (v := some (.int (0 : Int32))) (fun h => by rw [Bd.returns] at h; cases h)
  refine ⟨_, _, P4 _ ?_, hrun, hended, _, _, rfl, ?_, ⟨_, rfl⟩, hW, hsame.mono (by decide) (by decide)⟩
  · exact retN X2 hx (t := .boolean) Bd.returns (by simp) (hb hby d4_73) hr
  · show Q_rmE3 Z a1 a2 h0 n0 _ T2.heap _
    rw [e2]
    exact ⟨rfl, N0, rfl⟩
theorem own_b01 {P : Prop} [Decidable P] {v : Int32} (h : v = (if P then (0 : Int32) else (1 : Int32))) : nar .boolean v = v := by rw [h]; split <;> rfl
theorem own_sw1 {s1 s2 : Int32} (h1 : nar .boolean s1 = s1) (h2 : nar .boolean s2 = s2) (a c : Int32) (b b' : Addr) (d d' : Int64) (a' c' : Int32) : own_eqf a b c d (nar .boolean s1) a' b' c' d' (nar .boolean s2) = (if a = a' then (if b = b' then (if c = c' then (if d = d' then (if s1 = s2 then (1 : Int32) else (0 : Int32)) else (0 : Int32)) else (0 : Int32)) else (0 : Int32)) else (0 : Int32)) := by
  rw [h1, h2]; rfl
theorem own_sw2 {s1 s2 : Int32} (h1 : nar .boolean s1 = s1) (h2 : nar .boolean s2 = s2) (a c : Int32) (b b' : Addr) (d d' : Int64) (a' c' : Int32) : own_eqf a' b' c' d' (nar .boolean s2) a b c d (nar .boolean s1) = (if a = a' then (if b = b' then (if c = c' then (if d = d' then (if s1 = s2 then (1 : Int32) else (0 : Int32)) else (0 : Int32)) else (0 : Int32)) else (0 : Int32)) else (0 : Int32)) := by
  rw [h1, h2]; unfold own_eqf
  exact own_ifc eq_comm (own_ifc eq_comm (own_ifc eq_comm (own_ifc eq_comm (own_ifc eq_comm rfl rfl) rfl) rfl) rfl) rfl
theorem own_sw3 (a : Int32) (b : Addr) (c : Int32) (d : Int64) (e : Int32) : own_eqf a b c d e a b c d e = 1 := by simp [own_eqf]
def Q_rm0 (Z : State) (p1 : Int32) (p2 : Int32) (p3 : Int32) (q4 : Int64) (q5 : Int64) (p6 : Int32) (aL : Addr) (aF : Addr) (aD : Addr) (aC : Addr) (kC : ClassId) (vC : List Value) (h0 : Heap) (n0 : Nat) (v : Option Value) (h : Heap) (L : List Loc) : Prop := v = some (.int (1 : Int32)) ∧ Fr n0 L
set_option maxRecDepth 65536 in
set_option maxHeartbeats 40000000 in
theorem rm0 (l : Launch) (Z : State) (a0 : Array Value) (hw : ∀ d ∈ tables_1, d.before a0 Z = true) (ws : List Jvm.Cond) (p1 : Int32) (p2 : Int32) (p3 : Int32) (q4 : Int64) (q5 : Int64) (p6 : Int32) (aL : Addr) (aF : Addr) (aD : Addr) (aC : Addr) (kC : ClassId) (vC : List Value) (h0 : Heap) (n0 : Nat) (Z0 : n0 ≤ h0.size) (O0 : Old Z n0 h0) (Shi : Sta Z Z.heap "java/lang/Integer$IntegerCache" "high" "I" (.int (127 : Int32))) (Sca : Sta Z Z.heap "java/lang/Integer$IntegerCache" "cache" "[Ljava/lang/Integer;" (.ref aC)) (Vca : Arv Z Z.heap aC kC (.object "java/lang/Integer") (256 : Int32) vC .null) (hca : ∀ i : Nat, i < 256 → ∃ r : Addr, vC.getD i .null = .ref r ∧ Exa Z Z.heap r "java/lang/Integer") (SaL : Sta Z Z.heap "com/example/usher/usher/server/MemberStatus$Role" "LOOKING" "Lcom/example/usher/usher/server/MemberStatus$Role;" (.ref aL)) (SaF : Sta Z Z.heap "com/example/usher/usher/server/MemberStatus$Role" "FOLLOWING" "Lcom/example/usher/usher/server/MemberStatus$Role;" (.ref aF)) (SaD : Sta Z Z.heap "com/example/usher/usher/server/MemberStatus$Role" "LEADING" "Lcom/example/usher/usher/server/MemberStatus$Role;" (.ref aD)) :
    MetFree l x (head1 (Jvm.Cond.code x code maxLocals ret :: ws) room_1) (fun a U => a = #[(.int p1), (.int p2), (.int p3), (.long q4), (.long q5), (.int p6)] ∧ Z.Warmed39 U.vm ∧ U.heap = h0) (fun _ _ _ _ _ => True) (fun _ U o U' => ∃ v L, o = .returned v ∧ Q_rm0 Z p1 p2 p3 q4 q5 p6 aL aF aD aC kC vC h0 n0 v U'.heap L ∧ FrameEnd U o U' L room_1.cells room_1.slots) := by
  refine MetFree.of_bodySF (plainFor_of_name pn_2) hisR ?_
  intro p e s m args below meth c s₁ Bd hml0 hP hK
  obtain ⟨rfl, hZ, hh⟩ := hP
  have hx := Bd.exec
  have hby := Bd.bytes
  have hml : c.maxLocals = 24 := hml0
  have hown : s.vm.findClass "com/example/usher/usher/server/MemberStatusEqualsPinLaw" = some m.cls := findClass_of_methodNamed Bd.named
  have hnm := (name_of_methodNamed Bd.named Bd.method).1
  have X0 : Stand p l e room_1 s m #[(.int p1), (.int p2), (.int p3), (.long q4), (.long q5), (.int p6)] below meth c s₁ [] 0 0 := Stand.of_body Bd
  have e0 : s₁.heap = h0 := by rw [← hh, Bd.state]; rfl
  have N0 := Fr.nil n0
  have P0 : Rch p e below (s₁.setTop (entryFrame m #[(.int p1), (.int p2), (.int p3), (.long q4), (.long q5), (.int p6)] maxLocals)) (s₁.setTop (mkF m 0 #[.val (.int p1), .val (.int p2), .val (.int p3), .val (.long q4), .second, .val (.long q5), .second, .val (.int p6), .unset, .unset, .unset, .unset, .unset, .unset, .unset, .unset, .unset, .unset, .unset, .unset, .unset, .unset, .unset, .unset] [])) := fun t k => castTop (by first | (simp [entryFrame, mkF, argsToLocals, Value.category, maxLocals]; done) | rfl) k
  have P1 : Rch p e below (s₁.setTop (entryFrame m #[(.int p1), (.int p2), (.int p3), (.long q4), (.long q5), (.int p6)] maxLocals)) (s₁.setTop (mkF m 2 #[.val (.int p1), .val (.int p2), .val (.int p3), .val (.long q4), .second, .val (.long q5), .second, .val (.int p6), .unset, .unset, .unset, .unset, .unset, .unset, .unset, .unset, .unset, .unset, .unset, .unset, .unset, .unset, .unset, .unset] [(.int p6)])) := fun t k => P0 t (by
    show Steps p.tables e below (s₁.setTop (mkF m 0 #[.val (.int p1), .val (.int p2), .val (.int p3), .val (.long q4), .second, .val (.long q5), .second, .val (.int p6), .unset, .unset, .unset, .unset, .unset, .unset, .unset, .unset, .unset, .unset, .unset, .unset, .unset, .unset, .unset, .unset] [])) t
    refine XS.iload X0.here hx rfl (hb hby at_0) rfl ?_
    exact k)
  obtain ⟨_, _, ⟨T2, L2, k2, n2⟩, -, X2, ⟨Lc2, hQ2, l2, y2, z2⟩, st2⟩ := Jvm.LawKit.callS X0 hx (y := (⟨"com/example/usher/usher/server/MemberStatusEqualsPinLaw", "role", "(I)Lcom/example/usher/usher/server/MemberStatus$Role;"⟩ : MethodName)) hown (mvT hZ (hw _ (List.mem_of_getElem? (i := 0) rfl))) (mvT hZ (hw _ (List.mem_of_getElem? (i := 1) rfl))) (mvT hZ (hw _ (List.mem_of_getElem? (i := 2) rfl))) (mvT hZ (hw _ (List.mem_of_getElem? (i := 3) rfl))) (by decide) (backOf (W := 0) (rmR l Z a0 hw [] p6 aL aF aD h0 n0 Z0 O0 SaL SaF SaD) hZ (hw _ (List.mem_of_getElem? (i := 3) rfl)) (hw _ (List.mem_of_getElem? (i := 2) rfl)) (by decide) (by decide)) (g := (mkF m 2 #[.val (.int p1), .val (.int p2), .val (.int p3), .val (.long q4), .second, .val (.long q5), .second, .val (.int p6), .unset, .unset, .unset, .unset, .unset, .unset, .unset, .unset, .unset, .unset, .unset, .unset, .unset, .unset, .unset, .unset] [(.int p6)])) rfl (by rw [hml]; rfl) (argsL := [(.int p6)]) (rest := []) (lenOf pd_2 rfl) rfl (by show 2 * 0 + _ ≤ _; exact Nat.le_of_eq rfl) (hb hby at_2) (fun _ _ => ⟨rfl, e0, (by decide : 0 + 0 ≤ _), (by decide : 0 + 0 ≤ _)⟩)
  dsimp only [Pt.U, Pt.locs, Pt.cells, Pt.slots] at X2 l2 y2 z2 st2 hQ2
  subst l2 y2 z2
  obtain ⟨rfl, N2q, e2⟩ := hQ2
  have N2 := Fr.app N0 N2q
  have P3 : Rch p e below (s₁.setTop (entryFrame m #[(.int p1), (.int p2), (.int p3), (.long q4), (.long q5), (.int p6)] maxLocals)) (T2.setTop (mkF m 5 #[.val (.int p1), .val (.int p2), .val (.int p3), .val (.long q4), .second, .val (.long q5), .second, .val (.int p6), .unset, .unset, .unset, .unset, .unset, .unset, .unset, .unset, .unset, .unset, .unset, .unset, .unset, .unset, .unset, .unset] [(.ref (if ((p6 &&& (2147483647 : Int32)) % (3 : Int32)) = (0 : Int32) then aL else (if ((p6 &&& (2147483647 : Int32)) % (3 : Int32)) = (1 : Int32) then aF else aD)))])) := fun t k => P1 t (st2 t k)
  obtain ⟨r4, hr4⟩ : ∃ z : Addr, z = (if ((p6 &&& (2147483647 : Int32)) % (3 : Int32)) = (0 : Int32) then aL else (if ((p6 &&& (2147483647 : Int32)) % (3 : Int32)) = (1 : Int32) then aF else aD)) := ⟨_, rfl⟩
  rw [← hr4] at P3
  obtain ⟨x5, hx5⟩ : ∃ z : Int32, z = ((p6.toUInt32 >>> ((2 : Int32) &&& 31).toUInt32).toInt32) := ⟨_, rfl⟩
  have P6 : Rch p e below (s₁.setTop (entryFrame m #[(.int p1), (.int p2), (.int p3), (.long q4), (.long q5), (.int p6)] maxLocals)) (T2.setTop (mkF m 11 #[.val (.int p1), .val (.int p2), .val (.int p3), .val (.long q4), .second, .val (.long q5), .second, .val (.int p6), .val (.ref r4), .unset, .unset, .unset, .unset, .unset, .unset, .unset, .unset, .unset, .unset, .unset, .unset, .unset, .unset, .unset] [(.int x5)])) := fun t k => P3 t (by
    subst hx5
    show Steps p.tables e below (T2.setTop (mkF m 5 #[.val (.int p1), .val (.int p2), .val (.int p3), .val (.long q4), .second, .val (.long q5), .second, .val (.int p6), .unset, .unset, .unset, .unset, .unset, .unset, .unset, .unset, .unset, .unset, .unset, .unset, .unset, .unset, .unset, .unset] [(.ref r4)])) t
    refine XS.astore X2.here hx rfl (hb hby at_5) rfl rfl (l' := #[.val (.int p1), .val (.int p2), .val (.int p3), .val (.long q4), .second, .val (.long q5), .second, .val (.int p6), .val (.ref r4), .unset, .unset, .unset, .unset, .unset, .unset, .unset, .unset, .unset, .unset, .unset, .unset, .unset, .unset, .unset]) rfl ?_
    show Steps p.tables e below (T2.setTop (mkF m 7 #[.val (.int p1), .val (.int p2), .val (.int p3), .val (.long q4), .second, .val (.long q5), .second, .val (.int p6), .val (.ref r4), .unset, .unset, .unset, .unset, .unset, .unset, .unset, .unset, .unset, .unset, .unset, .unset, .unset, .unset, .unset] [])) t
    refine XS.iload X2.here hx rfl (hb hby at_7) rfl ?_
    show Steps p.tables e below (T2.setTop (mkF m 9 #[.val (.int p1), .val (.int p2), .val (.int p3), .val (.long q4), .second, .val (.long q5), .second, .val (.int p6), .val (.ref r4), .unset, .unset, .unset, .unset, .unset, .unset, .unset, .unset, .unset, .unset, .unset, .unset, .unset, .unset, .unset] [(.int p6)])) t
    refine XS.iconst X2.here hx rfl (hb hby at_9) ?_
    show Steps p.tables e below (T2.setTop (mkF m 10 #[.val (.int p1), .val (.int p2), .val (.int p3), .val (.long q4), .second, .val (.long q5), .second, .val (.int p6), .val (.ref r4), .unset, .unset, .unset, .unset, .unset, .unset, .unset, .unset, .unset, .unset, .unset, .unset, .unset, .unset, .unset] [(.int (2 : Int32)), (.int p6)])) t
    refine XS.iushr X2.here hx rfl (hb hby at_10) rfl ?_
    exact k)
  obtain ⟨_, _, ⟨T7, L7, k7, n7⟩, -, X7, ⟨Lc7, hQ7, l7, y7, z7⟩, st7⟩ := Jvm.LawKit.callS X2 hx (y := (⟨"com/example/usher/usher/server/MemberStatusEqualsPinLaw", "role", "(I)Lcom/example/usher/usher/server/MemberStatus$Role;"⟩ : MethodName)) hown (mvT hZ (hw _ (List.mem_of_getElem? (i := 0) rfl))) (mvT hZ (hw _ (List.mem_of_getElem? (i := 1) rfl))) (mvT hZ (hw _ (List.mem_of_getElem? (i := 2) rfl))) (mvT hZ (hw _ (List.mem_of_getElem? (i := 3) rfl))) (by decide) (backOf (W := 0) (rmR l Z a0 hw [] x5 aL aF aD h0 n0 Z0 O0 SaL SaF SaD) hZ (hw _ (List.mem_of_getElem? (i := 3) rfl)) (hw _ (List.mem_of_getElem? (i := 2) rfl)) (by decide) (by decide)) (g := (mkF m 11 #[.val (.int p1), .val (.int p2), .val (.int p3), .val (.long q4), .second, .val (.long q5), .second, .val (.int p6), .val (.ref r4), .unset, .unset, .unset, .unset, .unset, .unset, .unset, .unset, .unset, .unset, .unset, .unset, .unset, .unset, .unset] [(.int x5)])) rfl (by rw [hml]; rfl) (argsL := [(.int x5)]) (rest := []) (lenOf pd_2 rfl) rfl (by show 2 * 0 + _ ≤ _; exact Nat.le_of_eq rfl) (hb hby at_11) (fun _ _ => ⟨rfl, e2, (by decide : 0 + 0 ≤ _), (by decide : 0 + 0 ≤ _)⟩)
  dsimp only [Pt.U, Pt.locs, Pt.cells, Pt.slots] at X7 l7 y7 z7 st7 hQ7
  subst l7 y7 z7
  obtain ⟨rfl, N7q, e7⟩ := hQ7
  have N7 := Fr.app N2 N7q
  have P8 : Rch p e below (s₁.setTop (entryFrame m #[(.int p1), (.int p2), (.int p3), (.long q4), (.long q5), (.int p6)] maxLocals)) (T7.setTop (mkF m 14 #[.val (.int p1), .val (.int p2), .val (.int p3), .val (.long q4), .second, .val (.long q5), .second, .val (.int p6), .val (.ref r4), .unset, .unset, .unset, .unset, .unset, .unset, .unset, .unset, .unset, .unset, .unset, .unset, .unset, .unset, .unset] [(.ref (if ((x5 &&& (2147483647 : Int32)) % (3 : Int32)) = (0 : Int32) then aL else (if ((x5 &&& (2147483647 : Int32)) % (3 : Int32)) = (1 : Int32) then aF else aD)))])) := fun t k => P6 t (st7 t k)
  obtain ⟨r9, hr9⟩ : ∃ z : Addr, z = (if ((x5 &&& (2147483647 : Int32)) % (3 : Int32)) = (0 : Int32) then aL else (if ((x5 &&& (2147483647 : Int32)) % (3 : Int32)) = (1 : Int32) then aF else aD)) := ⟨_, rfl⟩
  rw [← hr9] at P8
  obtain ⟨x10, hx10⟩ : ∃ z : Int32, z = (((p6.toUInt32 >>> ((4 : Int32) &&& 31).toUInt32).toInt32) &&& (1 : Int32)) := ⟨_, rfl⟩
  have P11 : Rch p e below (s₁.setTop (entryFrame m #[(.int p1), (.int p2), (.int p3), (.long q4), (.long q5), (.int p6)] maxLocals)) (T7.setTop (mkF m 22 #[.val (.int p1), .val (.int p2), .val (.int p3), .val (.long q4), .second, .val (.long q5), .second, .val (.int p6), .val (.ref r4), .val (.ref r9), .unset, .unset, .unset, .unset, .unset, .unset, .unset, .unset, .unset, .unset, .unset, .unset, .unset, .unset] [(.int x10)])) := fun t k => P8 t (by
    subst hx10
    show Steps p.tables e below (T7.setTop (mkF m 14 #[.val (.int p1), .val (.int p2), .val (.int p3), .val (.long q4), .second, .val (.long q5), .second, .val (.int p6), .val (.ref r4), .unset, .unset, .unset, .unset, .unset, .unset, .unset, .unset, .unset, .unset, .unset, .unset, .unset, .unset, .unset] [(.ref r9)])) t
    refine XS.astore X7.here hx rfl (hb hby at_14) rfl rfl (l' := #[.val (.int p1), .val (.int p2), .val (.int p3), .val (.long q4), .second, .val (.long q5), .second, .val (.int p6), .val (.ref r4), .val (.ref r9), .unset, .unset, .unset, .unset, .unset, .unset, .unset, .unset, .unset, .unset, .unset, .unset, .unset, .unset]) rfl ?_
    show Steps p.tables e below (T7.setTop (mkF m 16 #[.val (.int p1), .val (.int p2), .val (.int p3), .val (.long q4), .second, .val (.long q5), .second, .val (.int p6), .val (.ref r4), .val (.ref r9), .unset, .unset, .unset, .unset, .unset, .unset, .unset, .unset, .unset, .unset, .unset, .unset, .unset, .unset] [])) t
    refine XS.iload X7.here hx rfl (hb hby at_16) rfl ?_
    show Steps p.tables e below (T7.setTop (mkF m 18 #[.val (.int p1), .val (.int p2), .val (.int p3), .val (.long q4), .second, .val (.long q5), .second, .val (.int p6), .val (.ref r4), .val (.ref r9), .unset, .unset, .unset, .unset, .unset, .unset, .unset, .unset, .unset, .unset, .unset, .unset, .unset, .unset] [(.int p6)])) t
    refine XS.iconst X7.here hx rfl (hb hby at_18) ?_
    show Steps p.tables e below (T7.setTop (mkF m 19 #[.val (.int p1), .val (.int p2), .val (.int p3), .val (.long q4), .second, .val (.long q5), .second, .val (.int p6), .val (.ref r4), .val (.ref r9), .unset, .unset, .unset, .unset, .unset, .unset, .unset, .unset, .unset, .unset, .unset, .unset, .unset, .unset] [(.int (4 : Int32)), (.int p6)])) t
    refine XS.iushr X7.here hx rfl (hb hby at_19) rfl ?_
    show Steps p.tables e below (T7.setTop (mkF m 20 #[.val (.int p1), .val (.int p2), .val (.int p3), .val (.long q4), .second, .val (.long q5), .second, .val (.int p6), .val (.ref r4), .val (.ref r9), .unset, .unset, .unset, .unset, .unset, .unset, .unset, .unset, .unset, .unset, .unset, .unset, .unset, .unset] [(.int ((p6.toUInt32 >>> ((4 : Int32) &&& 31).toUInt32).toInt32))])) t
    refine XS.iconst X7.here hx rfl (hb hby at_20) ?_
    show Steps p.tables e below (T7.setTop (mkF m 21 #[.val (.int p1), .val (.int p2), .val (.int p3), .val (.long q4), .second, .val (.long q5), .second, .val (.int p6), .val (.ref r4), .val (.ref r9), .unset, .unset, .unset, .unset, .unset, .unset, .unset, .unset, .unset, .unset, .unset, .unset, .unset, .unset] [(.int (1 : Int32)), (.int ((p6.toUInt32 >>> ((4 : Int32) &&& 31).toUInt32).toInt32))])) t
    refine XS.iand X7.here hx rfl (hb hby at_21) rfl ?_
    exact k)
  obtain ⟨v13, hv13, P14⟩ : ∃ (v13 : Int32), v13 = (if x10 = (0 : Int32) then (0 : Int32) else (1 : Int32)) ∧ Rch p e below (s₁.setTop (entryFrame m #[(.int p1), (.int p2), (.int p3), (.long q4), (.long q5), (.int p6)] maxLocals)) (T7.setTop (mkF m 30 #[.val (.int p1), .val (.int p2), .val (.int p3), .val (.long q4), .second, .val (.long q5), .second, .val (.int p6), .val (.ref r4), .val (.ref r9), .unset, .unset, .unset, .unset, .unset, .unset, .unset, .unset, .unset, .unset, .unset, .unset, .unset, .unset] [(.int v13)])) := by
    by_cases c12 : x10 = (0 : Int32)
    · refine ⟨(0 : Int32), (by first | rfl | rw [if_pos c12] | simp only [if_pos c12]), fun t k => P11 t ?_⟩
      show Steps p.tables e below (T7.setTop (mkF m 22 #[.val (.int p1), .val (.int p2), .val (.int p3), .val (.long q4), .second, .val (.long q5), .second, .val (.int p6), .val (.ref r4), .val (.ref r9), .unset, .unset, .unset, .unset, .unset, .unset, .unset, .unset, .unset, .unset, .unset, .unset, .unset, .unset] [(.int x10)])) t
      refine XS.ifYes X7.here hx rfl (pc0 := 22) (pc' := 29) rfl (hb hby at_22) rfl ((if0 _ _).trans (teq c12).1) (by decide) (by decide) ?_
      show Steps p.tables e below (T7.setTop (mkF m 29 #[.val (.int p1), .val (.int p2), .val (.int p3), .val (.long q4), .second, .val (.long q5), .second, .val (.int p6), .val (.ref r4), .val (.ref r9), .unset, .unset, .unset, .unset, .unset, .unset, .unset, .unset, .unset, .unset, .unset, .unset, .unset, .unset] [])) t
      refine XS.iconst X7.here hx rfl (hb hby at_29) ?_
      exact k
    · refine ⟨(1 : Int32), (by first | rfl | rw [if_neg c12] | simp only [if_neg c12]), fun t k => P11 t ?_⟩
      show Steps p.tables e below (T7.setTop (mkF m 22 #[.val (.int p1), .val (.int p2), .val (.int p3), .val (.long q4), .second, .val (.long q5), .second, .val (.int p6), .val (.ref r4), .val (.ref r9), .unset, .unset, .unset, .unset, .unset, .unset, .unset, .unset, .unset, .unset, .unset, .unset, .unset, .unset] [(.int x10)])) t
      refine XS.ifNo X7.here hx rfl (hb hby at_22) rfl ((if0 _ _).trans (feq c12).1) ?_
      show Steps p.tables e below (T7.setTop (mkF m 25 #[.val (.int p1), .val (.int p2), .val (.int p3), .val (.long q4), .second, .val (.long q5), .second, .val (.int p6), .val (.ref r4), .val (.ref r9), .unset, .unset, .unset, .unset, .unset, .unset, .unset, .unset, .unset, .unset, .unset, .unset, .unset, .unset] [])) t
      refine XS.iconst X7.here hx rfl (hb hby at_25) ?_
      show Steps p.tables e below (T7.setTop (mkF m 26 #[.val (.int p1), .val (.int p2), .val (.int p3), .val (.long q4), .second, .val (.long q5), .second, .val (.int p6), .val (.ref r4), .val (.ref r9), .unset, .unset, .unset, .unset, .unset, .unset, .unset, .unset, .unset, .unset, .unset, .unset, .unset, .unset] [(.int (1 : Int32))])) t
      refine XS.goto X7.here hx rfl (pc0 := 26) (pc' := 30) rfl (hb hby at_26) (by decide) (by decide) ?_
      exact k
  obtain ⟨x15, hx15⟩ : ∃ z : Int32, z = (((p6.toUInt32 >>> ((5 : Int32) &&& 31).toUInt32).toInt32) &&& (1 : Int32)) := ⟨_, rfl⟩
  have P16 : Rch p e below (s₁.setTop (entryFrame m #[(.int p1), (.int p2), (.int p3), (.long q4), (.long q5), (.int p6)] maxLocals)) (T7.setTop (mkF m 38 #[.val (.int p1), .val (.int p2), .val (.int p3), .val (.long q4), .second, .val (.long q5), .second, .val (.int p6), .val (.ref r4), .val (.ref r9), .val (.int v13), .unset, .unset, .unset, .unset, .unset, .unset, .unset, .unset, .unset, .unset, .unset, .unset, .unset] [(.int x15)])) := fun t k => P14 t (by
    subst hx15
    show Steps p.tables e below (T7.setTop (mkF m 30 #[.val (.int p1), .val (.int p2), .val (.int p3), .val (.long q4), .second, .val (.long q5), .second, .val (.int p6), .val (.ref r4), .val (.ref r9), .unset, .unset, .unset, .unset, .unset, .unset, .unset, .unset, .unset, .unset, .unset, .unset, .unset, .unset] [(.int v13)])) t
    refine XS.istore X7.here hx rfl (hb hby at_30) rfl (l' := #[.val (.int p1), .val (.int p2), .val (.int p3), .val (.long q4), .second, .val (.long q5), .second, .val (.int p6), .val (.ref r4), .val (.ref r9), .val (.int v13), .unset, .unset, .unset, .unset, .unset, .unset, .unset, .unset, .unset, .unset, .unset, .unset, .unset]) rfl ?_
    show Steps p.tables e below (T7.setTop (mkF m 32 #[.val (.int p1), .val (.int p2), .val (.int p3), .val (.long q4), .second, .val (.long q5), .second, .val (.int p6), .val (.ref r4), .val (.ref r9), .val (.int v13), .unset, .unset, .unset, .unset, .unset, .unset, .unset, .unset, .unset, .unset, .unset, .unset, .unset] [])) t
    refine XS.iload X7.here hx rfl (hb hby at_32) rfl ?_
    show Steps p.tables e below (T7.setTop (mkF m 34 #[.val (.int p1), .val (.int p2), .val (.int p3), .val (.long q4), .second, .val (.long q5), .second, .val (.int p6), .val (.ref r4), .val (.ref r9), .val (.int v13), .unset, .unset, .unset, .unset, .unset, .unset, .unset, .unset, .unset, .unset, .unset, .unset, .unset] [(.int p6)])) t
    refine XS.iconst X7.here hx rfl (hb hby at_34) ?_
    show Steps p.tables e below (T7.setTop (mkF m 35 #[.val (.int p1), .val (.int p2), .val (.int p3), .val (.long q4), .second, .val (.long q5), .second, .val (.int p6), .val (.ref r4), .val (.ref r9), .val (.int v13), .unset, .unset, .unset, .unset, .unset, .unset, .unset, .unset, .unset, .unset, .unset, .unset, .unset] [(.int (5 : Int32)), (.int p6)])) t
    refine XS.iushr X7.here hx rfl (hb hby at_35) rfl ?_
    show Steps p.tables e below (T7.setTop (mkF m 36 #[.val (.int p1), .val (.int p2), .val (.int p3), .val (.long q4), .second, .val (.long q5), .second, .val (.int p6), .val (.ref r4), .val (.ref r9), .val (.int v13), .unset, .unset, .unset, .unset, .unset, .unset, .unset, .unset, .unset, .unset, .unset, .unset, .unset] [(.int ((p6.toUInt32 >>> ((5 : Int32) &&& 31).toUInt32).toInt32))])) t
    refine XS.iconst X7.here hx rfl (hb hby at_36) ?_
    show Steps p.tables e below (T7.setTop (mkF m 37 #[.val (.int p1), .val (.int p2), .val (.int p3), .val (.long q4), .second, .val (.long q5), .second, .val (.int p6), .val (.ref r4), .val (.ref r9), .val (.int v13), .unset, .unset, .unset, .unset, .unset, .unset, .unset, .unset, .unset, .unset, .unset, .unset, .unset] [(.int (1 : Int32)), (.int ((p6.toUInt32 >>> ((5 : Int32) &&& 31).toUInt32).toInt32))])) t
    refine XS.iand X7.here hx rfl (hb hby at_37) rfl ?_
    exact k)
  obtain ⟨v18, hv18, P19⟩ : ∃ (v18 : Int32), v18 = (if x15 = (0 : Int32) then (0 : Int32) else (1 : Int32)) ∧ Rch p e below (s₁.setTop (entryFrame m #[(.int p1), (.int p2), (.int p3), (.long q4), (.long q5), (.int p6)] maxLocals)) (T7.setTop (mkF m 46 #[.val (.int p1), .val (.int p2), .val (.int p3), .val (.long q4), .second, .val (.long q5), .second, .val (.int p6), .val (.ref r4), .val (.ref r9), .val (.int v13), .unset, .unset, .unset, .unset, .unset, .unset, .unset, .unset, .unset, .unset, .unset, .unset, .unset] [(.int v18)])) := by
    by_cases c17 : x15 = (0 : Int32)
    · refine ⟨(0 : Int32), (by first | rfl | rw [if_pos c17] | simp only [if_pos c17]), fun t k => P16 t ?_⟩
      show Steps p.tables e below (T7.setTop (mkF m 38 #[.val (.int p1), .val (.int p2), .val (.int p3), .val (.long q4), .second, .val (.long q5), .second, .val (.int p6), .val (.ref r4), .val (.ref r9), .val (.int v13), .unset, .unset, .unset, .unset, .unset, .unset, .unset, .unset, .unset, .unset, .unset, .unset, .unset] [(.int x15)])) t
      refine XS.ifYes X7.here hx rfl (pc0 := 38) (pc' := 45) rfl (hb hby at_38) rfl ((if0 _ _).trans (teq c17).1) (by decide) (by decide) ?_
      show Steps p.tables e below (T7.setTop (mkF m 45 #[.val (.int p1), .val (.int p2), .val (.int p3), .val (.long q4), .second, .val (.long q5), .second, .val (.int p6), .val (.ref r4), .val (.ref r9), .val (.int v13), .unset, .unset, .unset, .unset, .unset, .unset, .unset, .unset, .unset, .unset, .unset, .unset, .unset] [])) t
      refine XS.iconst X7.here hx rfl (hb hby at_45) ?_
      exact k
    · refine ⟨(1 : Int32), (by first | rfl | rw [if_neg c17] | simp only [if_neg c17]), fun t k => P16 t ?_⟩
      show Steps p.tables e below (T7.setTop (mkF m 38 #[.val (.int p1), .val (.int p2), .val (.int p3), .val (.long q4), .second, .val (.long q5), .second, .val (.int p6), .val (.ref r4), .val (.ref r9), .val (.int v13), .unset, .unset, .unset, .unset, .unset, .unset, .unset, .unset, .unset, .unset, .unset, .unset, .unset] [(.int x15)])) t
      refine XS.ifNo X7.here hx rfl (hb hby at_38) rfl ((if0 _ _).trans (feq c17).1) ?_
      show Steps p.tables e below (T7.setTop (mkF m 41 #[.val (.int p1), .val (.int p2), .val (.int p3), .val (.long q4), .second, .val (.long q5), .second, .val (.int p6), .val (.ref r4), .val (.ref r9), .val (.int v13), .unset, .unset, .unset, .unset, .unset, .unset, .unset, .unset, .unset, .unset, .unset, .unset, .unset] [])) t
      refine XS.iconst X7.here hx rfl (hb hby at_41) ?_
      show Steps p.tables e below (T7.setTop (mkF m 42 #[.val (.int p1), .val (.int p2), .val (.int p3), .val (.long q4), .second, .val (.long q5), .second, .val (.int p6), .val (.ref r4), .val (.ref r9), .val (.int v13), .unset, .unset, .unset, .unset, .unset, .unset, .unset, .unset, .unset, .unset, .unset, .unset, .unset] [(.int (1 : Int32))])) t
      refine XS.goto X7.here hx rfl (pc0 := 42) (pc' := 46) rfl (hb hby at_42) (by decide) (by decide) ?_
      exact k
  obtain ⟨x20, hx20⟩ : ∃ z : Int32, z = (((p6.toUInt32 >>> ((6 : Int32) &&& 31).toUInt32).toInt32) &&& (1 : Int32)) := ⟨_, rfl⟩
  have P21 : Rch p e below (s₁.setTop (entryFrame m #[(.int p1), (.int p2), (.int p3), (.long q4), (.long q5), (.int p6)] maxLocals)) (T7.setTop (mkF m 55 #[.val (.int p1), .val (.int p2), .val (.int p3), .val (.long q4), .second, .val (.long q5), .second, .val (.int p6), .val (.ref r4), .val (.ref r9), .val (.int v13), .val (.int v18), .unset, .unset, .unset, .unset, .unset, .unset, .unset, .unset, .unset, .unset, .unset, .unset] [(.int x20)])) := fun t k => P19 t (by
    subst hx20
    show Steps p.tables e below (T7.setTop (mkF m 46 #[.val (.int p1), .val (.int p2), .val (.int p3), .val (.long q4), .second, .val (.long q5), .second, .val (.int p6), .val (.ref r4), .val (.ref r9), .val (.int v13), .unset, .unset, .unset, .unset, .unset, .unset, .unset, .unset, .unset, .unset, .unset, .unset, .unset] [(.int v18)])) t
    refine XS.istore X7.here hx rfl (hb hby at_46) rfl (l' := #[.val (.int p1), .val (.int p2), .val (.int p3), .val (.long q4), .second, .val (.long q5), .second, .val (.int p6), .val (.ref r4), .val (.ref r9), .val (.int v13), .val (.int v18), .unset, .unset, .unset, .unset, .unset, .unset, .unset, .unset, .unset, .unset, .unset, .unset]) rfl ?_
    show Steps p.tables e below (T7.setTop (mkF m 48 #[.val (.int p1), .val (.int p2), .val (.int p3), .val (.long q4), .second, .val (.long q5), .second, .val (.int p6), .val (.ref r4), .val (.ref r9), .val (.int v13), .val (.int v18), .unset, .unset, .unset, .unset, .unset, .unset, .unset, .unset, .unset, .unset, .unset, .unset] [])) t
    refine XS.iload X7.here hx rfl (hb hby at_48) rfl ?_
    show Steps p.tables e below (T7.setTop (mkF m 50 #[.val (.int p1), .val (.int p2), .val (.int p3), .val (.long q4), .second, .val (.long q5), .second, .val (.int p6), .val (.ref r4), .val (.ref r9), .val (.int v13), .val (.int v18), .unset, .unset, .unset, .unset, .unset, .unset, .unset, .unset, .unset, .unset, .unset, .unset] [(.int p6)])) t
    refine XS.bipush X7.here hx rfl (hb hby at_50) ?_
    show Steps p.tables e below (T7.setTop (mkF m 52 #[.val (.int p1), .val (.int p2), .val (.int p3), .val (.long q4), .second, .val (.long q5), .second, .val (.int p6), .val (.ref r4), .val (.ref r9), .val (.int v13), .val (.int v18), .unset, .unset, .unset, .unset, .unset, .unset, .unset, .unset, .unset, .unset, .unset, .unset] [(.int (6 : Int32)), (.int p6)])) t
    refine XS.iushr X7.here hx rfl (hb hby at_52) rfl ?_
    show Steps p.tables e below (T7.setTop (mkF m 53 #[.val (.int p1), .val (.int p2), .val (.int p3), .val (.long q4), .second, .val (.long q5), .second, .val (.int p6), .val (.ref r4), .val (.ref r9), .val (.int v13), .val (.int v18), .unset, .unset, .unset, .unset, .unset, .unset, .unset, .unset, .unset, .unset, .unset, .unset] [(.int ((p6.toUInt32 >>> ((6 : Int32) &&& 31).toUInt32).toInt32))])) t
    refine XS.iconst X7.here hx rfl (hb hby at_53) ?_
    show Steps p.tables e below (T7.setTop (mkF m 54 #[.val (.int p1), .val (.int p2), .val (.int p3), .val (.long q4), .second, .val (.long q5), .second, .val (.int p6), .val (.ref r4), .val (.ref r9), .val (.int v13), .val (.int v18), .unset, .unset, .unset, .unset, .unset, .unset, .unset, .unset, .unset, .unset, .unset, .unset] [(.int (1 : Int32)), (.int ((p6.toUInt32 >>> ((6 : Int32) &&& 31).toUInt32).toInt32))])) t
    refine XS.iand X7.here hx rfl (hb hby at_54) rfl ?_
    exact k)
  obtain ⟨v23, hv23, P24⟩ : ∃ (v23 : Int32), v23 = (if x20 = (0 : Int32) then p2 else p1) ∧ Rch p e below (s₁.setTop (entryFrame m #[(.int p1), (.int p2), (.int p3), (.long q4), (.long q5), (.int p6)] maxLocals)) (T7.setTop (mkF m 63 #[.val (.int p1), .val (.int p2), .val (.int p3), .val (.long q4), .second, .val (.long q5), .second, .val (.int p6), .val (.ref r4), .val (.ref r9), .val (.int v13), .val (.int v18), .unset, .unset, .unset, .unset, .unset, .unset, .unset, .unset, .unset, .unset, .unset, .unset] [(.int v23)])) := by
    by_cases c22 : x20 = (0 : Int32)
    · refine ⟨p2, (by first | rfl | rw [if_pos c22] | simp only [if_pos c22]), fun t k => P21 t ?_⟩
      show Steps p.tables e below (T7.setTop (mkF m 55 #[.val (.int p1), .val (.int p2), .val (.int p3), .val (.long q4), .second, .val (.long q5), .second, .val (.int p6), .val (.ref r4), .val (.ref r9), .val (.int v13), .val (.int v18), .unset, .unset, .unset, .unset, .unset, .unset, .unset, .unset, .unset, .unset, .unset, .unset] [(.int x20)])) t
      refine XS.ifYes X7.here hx rfl (pc0 := 55) (pc' := 62) rfl (hb hby at_55) rfl ((if0 _ _).trans (teq c22).1) (by decide) (by decide) ?_
      show Steps p.tables e below (T7.setTop (mkF m 62 #[.val (.int p1), .val (.int p2), .val (.int p3), .val (.long q4), .second, .val (.long q5), .second, .val (.int p6), .val (.ref r4), .val (.ref r9), .val (.int v13), .val (.int v18), .unset, .unset, .unset, .unset, .unset, .unset, .unset, .unset, .unset, .unset, .unset, .unset] [])) t
      refine XS.iloadN X7.here hx rfl (hb hby at_62) rfl ?_
      exact k
    · refine ⟨p1, (by first | rfl | rw [if_neg c22] | simp only [if_neg c22]), fun t k => P21 t ?_⟩
      show Steps p.tables e below (T7.setTop (mkF m 55 #[.val (.int p1), .val (.int p2), .val (.int p3), .val (.long q4), .second, .val (.long q5), .second, .val (.int p6), .val (.ref r4), .val (.ref r9), .val (.int v13), .val (.int v18), .unset, .unset, .unset, .unset, .unset, .unset, .unset, .unset, .unset, .unset, .unset, .unset] [(.int x20)])) t
      refine XS.ifNo X7.here hx rfl (hb hby at_55) rfl ((if0 _ _).trans (feq c22).1) ?_
      show Steps p.tables e below (T7.setTop (mkF m 58 #[.val (.int p1), .val (.int p2), .val (.int p3), .val (.long q4), .second, .val (.long q5), .second, .val (.int p6), .val (.ref r4), .val (.ref r9), .val (.int v13), .val (.int v18), .unset, .unset, .unset, .unset, .unset, .unset, .unset, .unset, .unset, .unset, .unset, .unset] [])) t
      refine XS.iloadN X7.here hx rfl (hb hby at_58) rfl ?_
      show Steps p.tables e below (T7.setTop (mkF m 59 #[.val (.int p1), .val (.int p2), .val (.int p3), .val (.long q4), .second, .val (.long q5), .second, .val (.int p6), .val (.ref r4), .val (.ref r9), .val (.int v13), .val (.int v18), .unset, .unset, .unset, .unset, .unset, .unset, .unset, .unset, .unset, .unset, .unset, .unset] [(.int p1)])) t
      refine XS.goto X7.here hx rfl (pc0 := 59) (pc' := 63) rfl (hb hby at_59) (by decide) (by decide) ?_
      exact k
  obtain ⟨x25, hx25⟩ : ∃ z : Int32, z = (((p6.toUInt32 >>> ((7 : Int32) &&& 31).toUInt32).toInt32) &&& (1 : Int32)) := ⟨_, rfl⟩
  have P26 : Rch p e below (s₁.setTop (entryFrame m #[(.int p1), (.int p2), (.int p3), (.long q4), (.long q5), (.int p6)] maxLocals)) (T7.setTop (mkF m 72 #[.val (.int p1), .val (.int p2), .val (.int p3), .val (.long q4), .second, .val (.long q5), .second, .val (.int p6), .val (.ref r4), .val (.ref r9), .val (.int v13), .val (.int v18), .val (.int v23), .unset, .unset, .unset, .unset, .unset, .unset, .unset, .unset, .unset, .unset, .unset] [(.int x25)])) := fun t k => P24 t (by
    subst hx25
    show Steps p.tables e below (T7.setTop (mkF m 63 #[.val (.int p1), .val (.int p2), .val (.int p3), .val (.long q4), .second, .val (.long q5), .second, .val (.int p6), .val (.ref r4), .val (.ref r9), .val (.int v13), .val (.int v18), .unset, .unset, .unset, .unset, .unset, .unset, .unset, .unset, .unset, .unset, .unset, .unset] [(.int v23)])) t
    refine XS.istore X7.here hx rfl (hb hby at_63) rfl (l' := #[.val (.int p1), .val (.int p2), .val (.int p3), .val (.long q4), .second, .val (.long q5), .second, .val (.int p6), .val (.ref r4), .val (.ref r9), .val (.int v13), .val (.int v18), .val (.int v23), .unset, .unset, .unset, .unset, .unset, .unset, .unset, .unset, .unset, .unset, .unset]) rfl ?_
    show Steps p.tables e below (T7.setTop (mkF m 65 #[.val (.int p1), .val (.int p2), .val (.int p3), .val (.long q4), .second, .val (.long q5), .second, .val (.int p6), .val (.ref r4), .val (.ref r9), .val (.int v13), .val (.int v18), .val (.int v23), .unset, .unset, .unset, .unset, .unset, .unset, .unset, .unset, .unset, .unset, .unset] [])) t
    refine XS.iload X7.here hx rfl (hb hby at_65) rfl ?_
    show Steps p.tables e below (T7.setTop (mkF m 67 #[.val (.int p1), .val (.int p2), .val (.int p3), .val (.long q4), .second, .val (.long q5), .second, .val (.int p6), .val (.ref r4), .val (.ref r9), .val (.int v13), .val (.int v18), .val (.int v23), .unset, .unset, .unset, .unset, .unset, .unset, .unset, .unset, .unset, .unset, .unset] [(.int p6)])) t
    refine XS.bipush X7.here hx rfl (hb hby at_67) ?_
    show Steps p.tables e below (T7.setTop (mkF m 69 #[.val (.int p1), .val (.int p2), .val (.int p3), .val (.long q4), .second, .val (.long q5), .second, .val (.int p6), .val (.ref r4), .val (.ref r9), .val (.int v13), .val (.int v18), .val (.int v23), .unset, .unset, .unset, .unset, .unset, .unset, .unset, .unset, .unset, .unset, .unset] [(.int (7 : Int32)), (.int p6)])) t
    refine XS.iushr X7.here hx rfl (hb hby at_69) rfl ?_
    show Steps p.tables e below (T7.setTop (mkF m 70 #[.val (.int p1), .val (.int p2), .val (.int p3), .val (.long q4), .second, .val (.long q5), .second, .val (.int p6), .val (.ref r4), .val (.ref r9), .val (.int v13), .val (.int v18), .val (.int v23), .unset, .unset, .unset, .unset, .unset, .unset, .unset, .unset, .unset, .unset, .unset] [(.int ((p6.toUInt32 >>> ((7 : Int32) &&& 31).toUInt32).toInt32))])) t
    refine XS.iconst X7.here hx rfl (hb hby at_70) ?_
    show Steps p.tables e below (T7.setTop (mkF m 71 #[.val (.int p1), .val (.int p2), .val (.int p3), .val (.long q4), .second, .val (.long q5), .second, .val (.int p6), .val (.ref r4), .val (.ref r9), .val (.int v13), .val (.int v18), .val (.int v23), .unset, .unset, .unset, .unset, .unset, .unset, .unset, .unset, .unset, .unset, .unset] [(.int (1 : Int32)), (.int ((p6.toUInt32 >>> ((7 : Int32) &&& 31).toUInt32).toInt32))])) t
    refine XS.iand X7.here hx rfl (hb hby at_71) rfl ?_
    exact k)
  obtain ⟨v28, hv28, P29⟩ : ∃ (v28 : Int64), v28 = (if x25 = (0 : Int32) then q5 else q4) ∧ Rch p e below (s₁.setTop (entryFrame m #[(.int p1), (.int p2), (.int p3), (.long q4), (.long q5), (.int p6)] maxLocals)) (T7.setTop (mkF m 81 #[.val (.int p1), .val (.int p2), .val (.int p3), .val (.long q4), .second, .val (.long q5), .second, .val (.int p6), .val (.ref r4), .val (.ref r9), .val (.int v13), .val (.int v18), .val (.int v23), .unset, .unset, .unset, .unset, .unset, .unset, .unset, .unset, .unset, .unset, .unset] [(.long v28)])) := by
    by_cases c27 : x25 = (0 : Int32)
    · refine ⟨q5, (by first | rfl | rw [if_pos c27] | simp only [if_pos c27]), fun t k => P26 t ?_⟩
      show Steps p.tables e below (T7.setTop (mkF m 72 #[.val (.int p1), .val (.int p2), .val (.int p3), .val (.long q4), .second, .val (.long q5), .second, .val (.int p6), .val (.ref r4), .val (.ref r9), .val (.int v13), .val (.int v18), .val (.int v23), .unset, .unset, .unset, .unset, .unset, .unset, .unset, .unset, .unset, .unset, .unset] [(.int x25)])) t
      refine XS.ifYes X7.here hx rfl (pc0 := 72) (pc' := 79) rfl (hb hby at_72) rfl ((if0 _ _).trans (teq c27).1) (by decide) (by decide) ?_
      show Steps p.tables e below (T7.setTop (mkF m 79 #[.val (.int p1), .val (.int p2), .val (.int p3), .val (.long q4), .second, .val (.long q5), .second, .val (.int p6), .val (.ref r4), .val (.ref r9), .val (.int v13), .val (.int v18), .val (.int v23), .unset, .unset, .unset, .unset, .unset, .unset, .unset, .unset, .unset, .unset, .unset] [])) t
      refine XS.lload X7.here hx rfl (hb hby at_79) rfl ?_
      exact k
    · refine ⟨q4, (by first | rfl | rw [if_neg c27] | simp only [if_neg c27]), fun t k => P26 t ?_⟩
      show Steps p.tables e below (T7.setTop (mkF m 72 #[.val (.int p1), .val (.int p2), .val (.int p3), .val (.long q4), .second, .val (.long q5), .second, .val (.int p6), .val (.ref r4), .val (.ref r9), .val (.int v13), .val (.int v18), .val (.int v23), .unset, .unset, .unset, .unset, .unset, .unset, .unset, .unset, .unset, .unset, .unset] [(.int x25)])) t
      refine XS.ifNo X7.here hx rfl (hb hby at_72) rfl ((if0 _ _).trans (feq c27).1) ?_
      show Steps p.tables e below (T7.setTop (mkF m 75 #[.val (.int p1), .val (.int p2), .val (.int p3), .val (.long q4), .second, .val (.long q5), .second, .val (.int p6), .val (.ref r4), .val (.ref r9), .val (.int v13), .val (.int v18), .val (.int v23), .unset, .unset, .unset, .unset, .unset, .unset, .unset, .unset, .unset, .unset, .unset] [])) t
      refine XS.lloadN X7.here hx rfl (hb hby at_75) rfl ?_
      show Steps p.tables e below (T7.setTop (mkF m 76 #[.val (.int p1), .val (.int p2), .val (.int p3), .val (.long q4), .second, .val (.long q5), .second, .val (.int p6), .val (.ref r4), .val (.ref r9), .val (.int v13), .val (.int v18), .val (.int v23), .unset, .unset, .unset, .unset, .unset, .unset, .unset, .unset, .unset, .unset, .unset] [(.long q4)])) t
      refine XS.goto X7.here hx rfl (pc0 := 76) (pc' := 81) rfl (hb hby at_76) (by decide) (by decide) ?_
      exact k
  obtain ⟨x30, hx30⟩ : ∃ z : Int32, z = (((p6.toUInt32 >>> ((8 : Int32) &&& 31).toUInt32).toInt32) &&& (1 : Int32)) := ⟨_, rfl⟩
  have P31 : Rch p e below (s₁.setTop (entryFrame m #[(.int p1), (.int p2), (.int p3), (.long q4), (.long q5), (.int p6)] maxLocals)) (T7.setTop (mkF m 90 #[.val (.int p1), .val (.int p2), .val (.int p3), .val (.long q4), .second, .val (.long q5), .second, .val (.int p6), .val (.ref r4), .val (.ref r9), .val (.int v13), .val (.int v18), .val (.int v23), .val (.long v28), .second, .unset, .unset, .unset, .unset, .unset, .unset, .unset, .unset, .unset] [(.int x30)])) := fun t k => P29 t (by
    subst hx30
    show Steps p.tables e below (T7.setTop (mkF m 81 #[.val (.int p1), .val (.int p2), .val (.int p3), .val (.long q4), .second, .val (.long q5), .second, .val (.int p6), .val (.ref r4), .val (.ref r9), .val (.int v13), .val (.int v18), .val (.int v23), .unset, .unset, .unset, .unset, .unset, .unset, .unset, .unset, .unset, .unset, .unset] [(.long v28)])) t
    refine XS.lstore X7.here hx rfl (hb hby at_81) rfl (l' := #[.val (.int p1), .val (.int p2), .val (.int p3), .val (.long q4), .second, .val (.long q5), .second, .val (.int p6), .val (.ref r4), .val (.ref r9), .val (.int v13), .val (.int v18), .val (.int v23), .val (.long v28), .second, .unset, .unset, .unset, .unset, .unset, .unset, .unset, .unset, .unset]) rfl ?_
    show Steps p.tables e below (T7.setTop (mkF m 83 #[.val (.int p1), .val (.int p2), .val (.int p3), .val (.long q4), .second, .val (.long q5), .second, .val (.int p6), .val (.ref r4), .val (.ref r9), .val (.int v13), .val (.int v18), .val (.int v23), .val (.long v28), .second, .unset, .unset, .unset, .unset, .unset, .unset, .unset, .unset, .unset] [])) t
    refine XS.iload X7.here hx rfl (hb hby at_83) rfl ?_
    show Steps p.tables e below (T7.setTop (mkF m 85 #[.val (.int p1), .val (.int p2), .val (.int p3), .val (.long q4), .second, .val (.long q5), .second, .val (.int p6), .val (.ref r4), .val (.ref r9), .val (.int v13), .val (.int v18), .val (.int v23), .val (.long v28), .second, .unset, .unset, .unset, .unset, .unset, .unset, .unset, .unset, .unset] [(.int p6)])) t
    refine XS.bipush X7.here hx rfl (hb hby at_85) ?_
    show Steps p.tables e below (T7.setTop (mkF m 87 #[.val (.int p1), .val (.int p2), .val (.int p3), .val (.long q4), .second, .val (.long q5), .second, .val (.int p6), .val (.ref r4), .val (.ref r9), .val (.int v13), .val (.int v18), .val (.int v23), .val (.long v28), .second, .unset, .unset, .unset, .unset, .unset, .unset, .unset, .unset, .unset] [(.int (8 : Int32)), (.int p6)])) t
    refine XS.iushr X7.here hx rfl (hb hby at_87) rfl ?_
    show Steps p.tables e below (T7.setTop (mkF m 88 #[.val (.int p1), .val (.int p2), .val (.int p3), .val (.long q4), .second, .val (.long q5), .second, .val (.int p6), .val (.ref r4), .val (.ref r9), .val (.int v13), .val (.int v18), .val (.int v23), .val (.long v28), .second, .unset, .unset, .unset, .unset, .unset, .unset, .unset, .unset, .unset] [(.int ((p6.toUInt32 >>> ((8 : Int32) &&& 31).toUInt32).toInt32))])) t
    refine XS.iconst X7.here hx rfl (hb hby at_88) ?_
    show Steps p.tables e below (T7.setTop (mkF m 89 #[.val (.int p1), .val (.int p2), .val (.int p3), .val (.long q4), .second, .val (.long q5), .second, .val (.int p6), .val (.ref r4), .val (.ref r9), .val (.int v13), .val (.int v18), .val (.int v23), .val (.long v28), .second, .unset, .unset, .unset, .unset, .unset, .unset, .unset, .unset, .unset] [(.int (1 : Int32)), (.int ((p6.toUInt32 >>> ((8 : Int32) &&& 31).toUInt32).toInt32))])) t
    refine XS.iand X7.here hx rfl (hb hby at_89) rfl ?_
    exact k)
  obtain ⟨v33, hv33, P34⟩ : ∃ (v33 : Int32), v33 = (if x30 = (0 : Int32) then (((q5.toUInt64 >>> ((32 : Int32) &&& 0x3f).toInt64.toUInt64).toInt64).toInt32) else p3) ∧ Rch p e below (s₁.setTop (entryFrame m #[(.int p1), (.int p2), (.int p3), (.long q4), (.long q5), (.int p6)] maxLocals)) (T7.setTop (mkF m 103 #[.val (.int p1), .val (.int p2), .val (.int p3), .val (.long q4), .second, .val (.long q5), .second, .val (.int p6), .val (.ref r4), .val (.ref r9), .val (.int v13), .val (.int v18), .val (.int v23), .val (.long v28), .second, .unset, .unset, .unset, .unset, .unset, .unset, .unset, .unset, .unset] [(.int v33)])) := by
    by_cases c32 : x30 = (0 : Int32)
    · refine ⟨(((q5.toUInt64 >>> ((32 : Int32) &&& 0x3f).toInt64.toUInt64).toInt64).toInt32), (by first | rfl | rw [if_pos c32] | simp only [if_pos c32]), fun t k => P31 t ?_⟩
      show Steps p.tables e below (T7.setTop (mkF m 90 #[.val (.int p1), .val (.int p2), .val (.int p3), .val (.long q4), .second, .val (.long q5), .second, .val (.int p6), .val (.ref r4), .val (.ref r9), .val (.int v13), .val (.int v18), .val (.int v23), .val (.long v28), .second, .unset, .unset, .unset, .unset, .unset, .unset, .unset, .unset, .unset] [(.int x30)])) t
      refine XS.ifYes X7.here hx rfl (pc0 := 90) (pc' := 97) rfl (hb hby at_90) rfl ((if0 _ _).trans (teq c32).1) (by decide) (by decide) ?_
      show Steps p.tables e below (T7.setTop (mkF m 97 #[.val (.int p1), .val (.int p2), .val (.int p3), .val (.long q4), .second, .val (.long q5), .second, .val (.int p6), .val (.ref r4), .val (.ref r9), .val (.int v13), .val (.int v18), .val (.int v23), .val (.long v28), .second, .unset, .unset, .unset, .unset, .unset, .unset, .unset, .unset, .unset] [])) t
      refine XS.lload X7.here hx rfl (hb hby at_97) rfl ?_
      show Steps p.tables e below (T7.setTop (mkF m 99 #[.val (.int p1), .val (.int p2), .val (.int p3), .val (.long q4), .second, .val (.long q5), .second, .val (.int p6), .val (.ref r4), .val (.ref r9), .val (.int v13), .val (.int v18), .val (.int v23), .val (.long v28), .second, .unset, .unset, .unset, .unset, .unset, .unset, .unset, .unset, .unset] [(.long q5)])) t
      refine XS.bipush X7.here hx rfl (hb hby at_99) ?_
      show Steps p.tables e below (T7.setTop (mkF m 101 #[.val (.int p1), .val (.int p2), .val (.int p3), .val (.long q4), .second, .val (.long q5), .second, .val (.int p6), .val (.ref r4), .val (.ref r9), .val (.int v13), .val (.int v18), .val (.int v23), .val (.long v28), .second, .unset, .unset, .unset, .unset, .unset, .unset, .unset, .unset, .unset] [(.int (32 : Int32)), (.long q5)])) t
      refine XS.lushr X7.here hx rfl (hb hby at_101) rfl ?_
      show Steps p.tables e below (T7.setTop (mkF m 102 #[.val (.int p1), .val (.int p2), .val (.int p3), .val (.long q4), .second, .val (.long q5), .second, .val (.int p6), .val (.ref r4), .val (.ref r9), .val (.int v13), .val (.int v18), .val (.int v23), .val (.long v28), .second, .unset, .unset, .unset, .unset, .unset, .unset, .unset, .unset, .unset] [(.long ((q5.toUInt64 >>> ((32 : Int32) &&& 0x3f).toInt64.toUInt64).toInt64))])) t
      refine XS.l2i X7.here hx rfl (hb hby at_102) rfl ?_
      exact k
    · refine ⟨p3, (by first | rfl | rw [if_neg c32] | simp only [if_neg c32]), fun t k => P31 t ?_⟩
      show Steps p.tables e below (T7.setTop (mkF m 90 #[.val (.int p1), .val (.int p2), .val (.int p3), .val (.long q4), .second, .val (.long q5), .second, .val (.int p6), .val (.ref r4), .val (.ref r9), .val (.int v13), .val (.int v18), .val (.int v23), .val (.long v28), .second, .unset, .unset, .unset, .unset, .unset, .unset, .unset, .unset, .unset] [(.int x30)])) t
      refine XS.ifNo X7.here hx rfl (hb hby at_90) rfl ((if0 _ _).trans (feq c32).1) ?_
      show Steps p.tables e below (T7.setTop (mkF m 93 #[.val (.int p1), .val (.int p2), .val (.int p3), .val (.long q4), .second, .val (.long q5), .second, .val (.int p6), .val (.ref r4), .val (.ref r9), .val (.int v13), .val (.int v18), .val (.int v23), .val (.long v28), .second, .unset, .unset, .unset, .unset, .unset, .unset, .unset, .unset, .unset] [])) t
      refine XS.iloadN X7.here hx rfl (hb hby at_93) rfl ?_
      show Steps p.tables e below (T7.setTop (mkF m 94 #[.val (.int p1), .val (.int p2), .val (.int p3), .val (.long q4), .second, .val (.long q5), .second, .val (.int p6), .val (.ref r4), .val (.ref r9), .val (.int v13), .val (.int v18), .val (.int v23), .val (.long v28), .second, .unset, .unset, .unset, .unset, .unset, .unset, .unset, .unset, .unset] [(.int p3)])) t
      refine XS.goto X7.here hx rfl (pc0 := 94) (pc' := 103) rfl (hb hby at_94) (by decide) (by decide) ?_
      exact k
  have P35 : Rch p e below (s₁.setTop (entryFrame m #[(.int p1), (.int p2), (.int p3), (.long q4), (.long q5), (.int p6)] maxLocals)) (T7.setTop (mkF m 105 #[.val (.int p1), .val (.int p2), .val (.int p3), .val (.long q4), .second, .val (.long q5), .second, .val (.int p6), .val (.ref r4), .val (.ref r9), .val (.int v13), .val (.int v18), .val (.int v23), .val (.long v28), .second, .val (.int v33), .unset, .unset, .unset, .unset, .unset, .unset, .unset, .unset] [])) := fun t k => P34 t (by
    show Steps p.tables e below (T7.setTop (mkF m 103 #[.val (.int p1), .val (.int p2), .val (.int p3), .val (.long q4), .second, .val (.long q5), .second, .val (.int p6), .val (.ref r4), .val (.ref r9), .val (.int v13), .val (.int v18), .val (.int v23), .val (.long v28), .second, .unset, .unset, .unset, .unset, .unset, .unset, .unset, .unset, .unset] [(.int v33)])) t
    refine XS.istore X7.here hx rfl (hb hby at_103) rfl (l' := #[.val (.int p1), .val (.int p2), .val (.int p3), .val (.long q4), .second, .val (.long q5), .second, .val (.int p6), .val (.ref r4), .val (.ref r9), .val (.int v13), .val (.int v18), .val (.int v23), .val (.long v28), .second, .val (.int v33), .unset, .unset, .unset, .unset, .unset, .unset, .unset, .unset]) rfl ?_
    exact k)
  obtain ⟨T36, h36, X36, e36, E36, A36, D36, -, st36⟩ := newO X7 hx hZ hown (hw _ (List.mem_of_getElem? (i := 8) rfl)) (hw _ (List.mem_of_getElem? (i := 9) rfl)) (hw _ (List.mem_of_getElem? (i := 10) rfl)) e7 (g := (mkF m 105 #[.val (.int p1), .val (.int p2), .val (.int p3), .val (.long q4), .second, .val (.long q5), .second, .val (.int p6), .val (.ref r4), .val (.ref r9), .val (.int v13), .val (.int v18), .val (.int v23), .val (.long v28), .second, .val (.int v33), .unset, .unset, .unset, .unset, .unset, .unset, .unset, .unset] [])) rfl (hb hby at_105) (by decide) (by decide)
  obtain ⟨b36, g36⟩ : ∃ z, z = h0.size := ⟨_, rfl⟩
  rw [← g36] at A36 D36 st36
  have g_b36 : n0 ≤ b36 := Nat.le_trans Z0 (Nat.le_of_eq g36.symm)
  have sz_b36 : h0.size ≤ b36 := Nat.le_trans (Keep.refl h0 []).1 (Nat.le_of_eq g36.symm)
  have F36_18 : Fld Z h36 b36 "com/example/usher/usher/server/MemberStatus" "id" "I" (.int (0 : Int32)) := D36 (Or.inr (hw _ (List.mem_of_getElem? (i := 18) rfl))) (ty := .int) (by decide)
  have F36_20 : Fld Z h36 b36 "com/example/usher/usher/server/MemberStatus" "role" "Lcom/example/usher/usher/server/MemberStatus$Role;" .null := D36 (Or.inr (hw _ (List.mem_of_getElem? (i := 20) rfl))) (ty := (.object "com/example/usher/usher/server/MemberStatus$Role")) (by decide)
  have F36_22 : Fld Z h36 b36 "com/example/usher/usher/server/MemberStatus" "leader" "I" (.int (0 : Int32)) := D36 (Or.inr (hw _ (List.mem_of_getElem? (i := 22) rfl))) (ty := .int) (by decide)
  have F36_24 : Fld Z h36 b36 "com/example/usher/usher/server/MemberStatus" "lastZxid" "J" (.long (0 : Int64)) := D36 (Or.inr (hw _ (List.mem_of_getElem? (i := 24) rfl))) (ty := .long) (by decide)
  have F36_26 : Fld Z h36 b36 "com/example/usher/usher/server/MemberStatus" "serving" "Z" (.int (0 : Int32)) := D36 (Or.inr (hw _ (List.mem_of_getElem? (i := 26) rfl))) (ty := .boolean) (by decide)
  have P37 : Rch p e below (s₁.setTop (entryFrame m #[(.int p1), (.int p2), (.int p3), (.long q4), (.long q5), (.int p6)] maxLocals)) (T36.setTop (mkF m 108 #[.val (.int p1), .val (.int p2), .val (.int p3), .val (.long q4), .second, .val (.long q5), .second, .val (.int p6), .val (.ref r4), .val (.ref r9), .val (.int v13), .val (.int v18), .val (.int v23), .val (.long v28), .second, .val (.int v33), .unset, .unset, .unset, .unset, .unset, .unset, .unset, .unset] [(.ref b36)])) := fun t k => P35 t (st36 t k)
  have P38 : Rch p e below (s₁.setTop (entryFrame m #[(.int p1), (.int p2), (.int p3), (.long q4), (.long q5), (.int p6)] maxLocals)) (T36.setTop (mkF m 116 #[.val (.int p1), .val (.int p2), .val (.int p3), .val (.long q4), .second, .val (.long q5), .second, .val (.int p6), .val (.ref r4), .val (.ref r9), .val (.int v13), .val (.int v18), .val (.int v23), .val (.long v28), .second, .val (.int v33), .unset, .unset, .unset, .unset, .unset, .unset, .unset, .unset] [(.int v13), (.long q4), (.int p3), (.ref r4), (.int p1), (.ref b36), (.ref b36)])) := fun t k => P37 t (by
    show Steps p.tables e below (T36.setTop (mkF m 108 #[.val (.int p1), .val (.int p2), .val (.int p3), .val (.long q4), .second, .val (.long q5), .second, .val (.int p6), .val (.ref r4), .val (.ref r9), .val (.int v13), .val (.int v18), .val (.int v23), .val (.long v28), .second, .val (.int v33), .unset, .unset, .unset, .unset, .unset, .unset, .unset, .unset] [(.ref b36)])) t
    refine XS.dup X36.here hx rfl (hb hby at_108) rfl rfl ?_
    show Steps p.tables e below (T36.setTop (mkF m 109 #[.val (.int p1), .val (.int p2), .val (.int p3), .val (.long q4), .second, .val (.long q5), .second, .val (.int p6), .val (.ref r4), .val (.ref r9), .val (.int v13), .val (.int v18), .val (.int v23), .val (.long v28), .second, .val (.int v33), .unset, .unset, .unset, .unset, .unset, .unset, .unset, .unset] [(.ref b36), (.ref b36)])) t
    refine XS.iloadN X36.here hx rfl (hb hby at_109) rfl ?_
    show Steps p.tables e below (T36.setTop (mkF m 110 #[.val (.int p1), .val (.int p2), .val (.int p3), .val (.long q4), .second, .val (.long q5), .second, .val (.int p6), .val (.ref r4), .val (.ref r9), .val (.int v13), .val (.int v18), .val (.int v23), .val (.long v28), .second, .val (.int v33), .unset, .unset, .unset, .unset, .unset, .unset, .unset, .unset] [(.int p1), (.ref b36), (.ref b36)])) t
    refine XS.aload X36.here hx rfl (hb hby at_110) rfl rfl ?_
    show Steps p.tables e below (T36.setTop (mkF m 112 #[.val (.int p1), .val (.int p2), .val (.int p3), .val (.long q4), .second, .val (.long q5), .second, .val (.int p6), .val (.ref r4), .val (.ref r9), .val (.int v13), .val (.int v18), .val (.int v23), .val (.long v28), .second, .val (.int v33), .unset, .unset, .unset, .unset, .unset, .unset, .unset, .unset] [(.ref r4), (.int p1), (.ref b36), (.ref b36)])) t
    refine XS.iloadN X36.here hx rfl (hb hby at_112) rfl ?_
    show Steps p.tables e below (T36.setTop (mkF m 113 #[.val (.int p1), .val (.int p2), .val (.int p3), .val (.long q4), .second, .val (.long q5), .second, .val (.int p6), .val (.ref r4), .val (.ref r9), .val (.int v13), .val (.int v18), .val (.int v23), .val (.long v28), .second, .val (.int v33), .unset, .unset, .unset, .unset, .unset, .unset, .unset, .unset] [(.int p3), (.ref r4), (.int p1), (.ref b36), (.ref b36)])) t
    refine XS.lloadN X36.here hx rfl (hb hby at_113) rfl ?_
    show Steps p.tables e below (T36.setTop (mkF m 114 #[.val (.int p1), .val (.int p2), .val (.int p3), .val (.long q4), .second, .val (.long q5), .second, .val (.int p6), .val (.ref r4), .val (.ref r9), .val (.int v13), .val (.int v18), .val (.int v23), .val (.long v28), .second, .val (.int v33), .unset, .unset, .unset, .unset, .unset, .unset, .unset, .unset] [(.long q4), (.int p3), (.ref r4), (.int p1), (.ref b36), (.ref b36)])) t
    refine XS.iload X36.here hx rfl (hb hby at_114) rfl ?_
    exact k)
  have f40 : n0 ≤ h36.size := (Nat.le_trans Z0 E36.1)
  obtain ⟨_, _, ⟨T39, L39, k39, n39⟩, -, X39, ⟨Lc39, hQ39, l39, y39, z39⟩, st39⟩ := X36.specialBack hx (y := (⟨"com/example/usher/usher/server/MemberStatus", "<init>", "(ILcom/example/usher/usher/server/MemberStatus$Role;IJZ)V"⟩ : MethodName)) rfl hown (mvT hZ (hw _ (List.mem_of_getElem? (i := 11) rfl))) (mvT hZ (hw _ (List.mem_of_getElem? (i := 12) rfl))) (mvT hZ (hw _ (List.mem_of_getElem? (i := 13) rfl))) (by decide) (backOf (W := 1) (rmI l Z a0 hw [] b36 p1 r4 p3 q4 v13 h36 n0 f40 A36 g_b36 F36_18 F36_20 F36_22 F36_24 F36_26) hZ (hw _ (List.mem_of_getElem? (i := 13) rfl)) (hw _ (List.mem_of_getElem? (i := 10) rfl)) (by decide) (by decide)) (g := (mkF m 116 #[.val (.int p1), .val (.int p2), .val (.int p3), .val (.long q4), .second, .val (.long q5), .second, .val (.int p6), .val (.ref r4), .val (.ref r9), .val (.int v13), .val (.int v18), .val (.int v23), .val (.long v28), .second, .val (.int v33), .unset, .unset, .unset, .unset, .unset, .unset, .unset, .unset] [(.int v13), (.long q4), (.int p3), (.ref r4), (.int p1), (.ref b36), (.ref b36)])) rfl (by rw [hml]; rfl) (Steps.refl _) (a := b36) (argsL := [(.int p1), (.ref r4), (.int p3), (.long q4), (.int v13)]) (rest := [(.ref b36)]) (lenOf pd_3 rfl) rfl (by show 2 * 0 + _ ≤ _; exact Nat.le_of_eq rfl) (hb hby at_116) (fun _ _ => ⟨rfl, e36, (by decide : 1 + 0 ≤ _), (by decide : 5 + 0 ≤ _)⟩)
  dsimp only [Pt.U, Pt.locs, Pt.cells, Pt.slots] at X39 l39 y39 z39 st39 hQ39
  subst l39 y39 z39
  obtain ⟨rfl, N39q, K39, E_39, G0_39, G1_39, G2_39, G3_39, G4_39⟩ := hQ39
  have N39 := Fr.app N7 N39q
  have P41 : Rch p e below (s₁.setTop (entryFrame m #[(.int p1), (.int p2), (.int p3), (.long q4), (.long q5), (.int p6)] maxLocals)) (T39.setTop (mkF m 119 #[.val (.int p1), .val (.int p2), .val (.int p3), .val (.long q4), .second, .val (.long q5), .second, .val (.int p6), .val (.ref r4), .val (.ref r9), .val (.int v13), .val (.int v18), .val (.int v23), .val (.long v28), .second, .val (.int v33), .unset, .unset, .unset, .unset, .unset, .unset, .unset, .unset] [(.ref b36)])) := fun t k => P38 t (st39.trans k)
  have P42 : Rch p e below (s₁.setTop (entryFrame m #[(.int p1), (.int p2), (.int p3), (.long q4), (.long q5), (.int p6)] maxLocals)) (T39.setTop (mkF m 121 #[.val (.int p1), .val (.int p2), .val (.int p3), .val (.long q4), .second, .val (.long q5), .second, .val (.int p6), .val (.ref r4), .val (.ref r9), .val (.int v13), .val (.int v18), .val (.int v23), .val (.long v28), .second, .val (.int v33), .val (.ref b36), .unset, .unset, .unset, .unset, .unset, .unset, .unset] [])) := fun t k => P41 t (by
    show Steps p.tables e below (T39.setTop (mkF m 119 #[.val (.int p1), .val (.int p2), .val (.int p3), .val (.long q4), .second, .val (.long q5), .second, .val (.int p6), .val (.ref r4), .val (.ref r9), .val (.int v13), .val (.int v18), .val (.int v23), .val (.long v28), .second, .val (.int v33), .unset, .unset, .unset, .unset, .unset, .unset, .unset, .unset] [(.ref b36)])) t
    refine XS.astore X39.here hx rfl (hb hby at_119) rfl rfl (l' := #[.val (.int p1), .val (.int p2), .val (.int p3), .val (.long q4), .second, .val (.long q5), .second, .val (.int p6), .val (.ref r4), .val (.ref r9), .val (.int v13), .val (.int v18), .val (.int v23), .val (.long v28), .second, .val (.int v33), .val (.ref b36), .unset, .unset, .unset, .unset, .unset, .unset, .unset]) rfl ?_
    exact k)
  have f44 : n0 ≤ T39.heap.size := (Nat.le_trans f40 K39.1)
  have f45 : Keep h0 T39.heap [] := (((Keep.refl h0 []).ext E36).trans K39 (allS (P := fun x => x ∈ [] ∨ h0.size ≤ x) (Or.inr sz_b36) all0))
  obtain ⟨T43, h43, X43, e43, E43, A43, D43, -, st43⟩ := newO X39 hx hZ hown (hw _ (List.mem_of_getElem? (i := 8) rfl)) (hw _ (List.mem_of_getElem? (i := 9) rfl)) (hw _ (List.mem_of_getElem? (i := 10) rfl)) rfl (g := (mkF m 121 #[.val (.int p1), .val (.int p2), .val (.int p3), .val (.long q4), .second, .val (.long q5), .second, .val (.int p6), .val (.ref r4), .val (.ref r9), .val (.int v13), .val (.int v18), .val (.int v23), .val (.long v28), .second, .val (.int v33), .val (.ref b36), .unset, .unset, .unset, .unset, .unset, .unset, .unset] [])) rfl (hb hby at_121) (by decide) (by decide)
  obtain ⟨b43, g43⟩ : ∃ z, z = T39.heap.size := ⟨_, rfl⟩
  rw [← g43] at A43 D43 st43
  have g_b43 : n0 ≤ b43 := Nat.le_trans f44 (Nat.le_of_eq g43.symm)
  have sz_b43 : h0.size ≤ b43 := Nat.le_trans f45.1 (Nat.le_of_eq g43.symm)
  have ne_b36_b43 : b36 ≠ b43 := Nat.ne_of_lt (Nat.lt_of_lt_of_le (A36.keep K39).lt (Nat.le_of_eq g43.symm))
  have F43_18 : Fld Z h43 b43 "com/example/usher/usher/server/MemberStatus" "id" "I" (.int (0 : Int32)) := D43 (Or.inr (hw _ (List.mem_of_getElem? (i := 18) rfl))) (ty := .int) (by decide)
  have F43_20 : Fld Z h43 b43 "com/example/usher/usher/server/MemberStatus" "role" "Lcom/example/usher/usher/server/MemberStatus$Role;" .null := D43 (Or.inr (hw _ (List.mem_of_getElem? (i := 20) rfl))) (ty := (.object "com/example/usher/usher/server/MemberStatus$Role")) (by decide)
  have F43_22 : Fld Z h43 b43 "com/example/usher/usher/server/MemberStatus" "leader" "I" (.int (0 : Int32)) := D43 (Or.inr (hw _ (List.mem_of_getElem? (i := 22) rfl))) (ty := .int) (by decide)
  have F43_24 : Fld Z h43 b43 "com/example/usher/usher/server/MemberStatus" "lastZxid" "J" (.long (0 : Int64)) := D43 (Or.inr (hw _ (List.mem_of_getElem? (i := 24) rfl))) (ty := .long) (by decide)
  have F43_26 : Fld Z h43 b43 "com/example/usher/usher/server/MemberStatus" "serving" "Z" (.int (0 : Int32)) := D43 (Or.inr (hw _ (List.mem_of_getElem? (i := 26) rfl))) (ty := .boolean) (by decide)
  have P46 : Rch p e below (s₁.setTop (entryFrame m #[(.int p1), (.int p2), (.int p3), (.long q4), (.long q5), (.int p6)] maxLocals)) (T43.setTop (mkF m 124 #[.val (.int p1), .val (.int p2), .val (.int p3), .val (.long q4), .second, .val (.long q5), .second, .val (.int p6), .val (.ref r4), .val (.ref r9), .val (.int v13), .val (.int v18), .val (.int v23), .val (.long v28), .second, .val (.int v33), .val (.ref b36), .unset, .unset, .unset, .unset, .unset, .unset, .unset] [(.ref b43)])) := fun t k => P42 t (st43 t k)
  have P47 : Rch p e below (s₁.setTop (entryFrame m #[(.int p1), (.int p2), (.int p3), (.long q4), (.long q5), (.int p6)] maxLocals)) (T43.setTop (mkF m 135 #[.val (.int p1), .val (.int p2), .val (.int p3), .val (.long q4), .second, .val (.long q5), .second, .val (.int p6), .val (.ref r4), .val (.ref r9), .val (.int v13), .val (.int v18), .val (.int v23), .val (.long v28), .second, .val (.int v33), .val (.ref b36), .unset, .unset, .unset, .unset, .unset, .unset, .unset] [(.int v18), (.long v28), (.int v33), (.ref r9), (.int v23), (.ref b43), (.ref b43)])) := fun t k => P46 t (by
    show Steps p.tables e below (T43.setTop (mkF m 124 #[.val (.int p1), .val (.int p2), .val (.int p3), .val (.long q4), .second, .val (.long q5), .second, .val (.int p6), .val (.ref r4), .val (.ref r9), .val (.int v13), .val (.int v18), .val (.int v23), .val (.long v28), .second, .val (.int v33), .val (.ref b36), .unset, .unset, .unset, .unset, .unset, .unset, .unset] [(.ref b43)])) t
    refine XS.dup X43.here hx rfl (hb hby at_124) rfl rfl ?_
    show Steps p.tables e below (T43.setTop (mkF m 125 #[.val (.int p1), .val (.int p2), .val (.int p3), .val (.long q4), .second, .val (.long q5), .second, .val (.int p6), .val (.ref r4), .val (.ref r9), .val (.int v13), .val (.int v18), .val (.int v23), .val (.long v28), .second, .val (.int v33), .val (.ref b36), .unset, .unset, .unset, .unset, .unset, .unset, .unset] [(.ref b43), (.ref b43)])) t
    refine XS.iload X43.here hx rfl (hb hby at_125) rfl ?_
    show Steps p.tables e below (T43.setTop (mkF m 127 #[.val (.int p1), .val (.int p2), .val (.int p3), .val (.long q4), .second, .val (.long q5), .second, .val (.int p6), .val (.ref r4), .val (.ref r9), .val (.int v13), .val (.int v18), .val (.int v23), .val (.long v28), .second, .val (.int v33), .val (.ref b36), .unset, .unset, .unset, .unset, .unset, .unset, .unset] [(.int v23), (.ref b43), (.ref b43)])) t
    refine XS.aload X43.here hx rfl (hb hby at_127) rfl rfl ?_
    show Steps p.tables e below (T43.setTop (mkF m 129 #[.val (.int p1), .val (.int p2), .val (.int p3), .val (.long q4), .second, .val (.long q5), .second, .val (.int p6), .val (.ref r4), .val (.ref r9), .val (.int v13), .val (.int v18), .val (.int v23), .val (.long v28), .second, .val (.int v33), .val (.ref b36), .unset, .unset, .unset, .unset, .unset, .unset, .unset] [(.ref r9), (.int v23), (.ref b43), (.ref b43)])) t
    refine XS.iload X43.here hx rfl (hb hby at_129) rfl ?_
    show Steps p.tables e below (T43.setTop (mkF m 131 #[.val (.int p1), .val (.int p2), .val (.int p3), .val (.long q4), .second, .val (.long q5), .second, .val (.int p6), .val (.ref r4), .val (.ref r9), .val (.int v13), .val (.int v18), .val (.int v23), .val (.long v28), .second, .val (.int v33), .val (.ref b36), .unset, .unset, .unset, .unset, .unset, .unset, .unset] [(.int v33), (.ref r9), (.int v23), (.ref b43), (.ref b43)])) t
    refine XS.lload X43.here hx rfl (hb hby at_131) rfl ?_
    show Steps p.tables e below (T43.setTop (mkF m 133 #[.val (.int p1), .val (.int p2), .val (.int p3), .val (.long q4), .second, .val (.long q5), .second, .val (.int p6), .val (.ref r4), .val (.ref r9), .val (.int v13), .val (.int v18), .val (.int v23), .val (.long v28), .second, .val (.int v33), .val (.ref b36), .unset, .unset, .unset, .unset, .unset, .unset, .unset] [(.long v28), (.int v33), (.ref r9), (.int v23), (.ref b43), (.ref b43)])) t
    refine XS.iload X43.here hx rfl (hb hby at_133) rfl ?_
    exact k)
  have f49 : n0 ≤ h43.size := (Nat.le_trans f44 E43.1)
  obtain ⟨_, _, ⟨T48, L48, k48, n48⟩, -, X48, ⟨Lc48, hQ48, l48, y48, z48⟩, st48⟩ := X43.specialBack hx (y := (⟨"com/example/usher/usher/server/MemberStatus", "<init>", "(ILcom/example/usher/usher/server/MemberStatus$Role;IJZ)V"⟩ : MethodName)) rfl hown (mvT hZ (hw _ (List.mem_of_getElem? (i := 11) rfl))) (mvT hZ (hw _ (List.mem_of_getElem? (i := 12) rfl))) (mvT hZ (hw _ (List.mem_of_getElem? (i := 13) rfl))) (by decide) (backOf (W := 1) (rmI l Z a0 hw [] b43 v23 r9 v33 v28 v18 h43 n0 f49 A43 g_b43 F43_18 F43_20 F43_22 F43_24 F43_26) hZ (hw _ (List.mem_of_getElem? (i := 13) rfl)) (hw _ (List.mem_of_getElem? (i := 10) rfl)) (by decide) (by decide)) (g := (mkF m 135 #[.val (.int p1), .val (.int p2), .val (.int p3), .val (.long q4), .second, .val (.long q5), .second, .val (.int p6), .val (.ref r4), .val (.ref r9), .val (.int v13), .val (.int v18), .val (.int v23), .val (.long v28), .second, .val (.int v33), .val (.ref b36), .unset, .unset, .unset, .unset, .unset, .unset, .unset] [(.int v18), (.long v28), (.int v33), (.ref r9), (.int v23), (.ref b43), (.ref b43)])) rfl (by rw [hml]; rfl) (Steps.refl _) (a := b43) (argsL := [(.int v23), (.ref r9), (.int v33), (.long v28), (.int v18)]) (rest := [(.ref b43)]) (lenOf pd_3 rfl) rfl (by show 2 * 0 + _ ≤ _; exact Nat.le_of_eq rfl) (hb hby at_135) (fun _ _ => ⟨rfl, e43, (by decide : 2 + 0 ≤ _), (by decide : 10 + 0 ≤ _)⟩)
  dsimp only [Pt.U, Pt.locs, Pt.cells, Pt.slots] at X48 l48 y48 z48 st48 hQ48
  subst l48 y48 z48
  obtain ⟨rfl, N48q, K48, E_48, G0_48, G1_48, G2_48, G3_48, G4_48⟩ := hQ48
  have N48 := Fr.app N39 N48q
  have P50 : Rch p e below (s₁.setTop (entryFrame m #[(.int p1), (.int p2), (.int p3), (.long q4), (.long q5), (.int p6)] maxLocals)) (T48.setTop (mkF m 138 #[.val (.int p1), .val (.int p2), .val (.int p3), .val (.long q4), .second, .val (.long q5), .second, .val (.int p6), .val (.ref r4), .val (.ref r9), .val (.int v13), .val (.int v18), .val (.int v23), .val (.long v28), .second, .val (.int v33), .val (.ref b36), .unset, .unset, .unset, .unset, .unset, .unset, .unset] [(.ref b43)])) := fun t k => P47 t (st48.trans k)
  have P51 : Rch p e below (s₁.setTop (entryFrame m #[(.int p1), (.int p2), (.int p3), (.long q4), (.long q5), (.int p6)] maxLocals)) (T48.setTop (mkF m 143 #[.val (.int p1), .val (.int p2), .val (.int p3), .val (.long q4), .second, .val (.long q5), .second, .val (.int p6), .val (.ref r4), .val (.ref r9), .val (.int v13), .val (.int v18), .val (.int v23), .val (.long v28), .second, .val (.int v33), .val (.ref b36), .val (.ref b43), .unset, .unset, .unset, .unset, .unset, .unset] [(.int v23), (.int p1)])) := fun t k => P50 t (by
    show Steps p.tables e below (T48.setTop (mkF m 138 #[.val (.int p1), .val (.int p2), .val (.int p3), .val (.long q4), .second, .val (.long q5), .second, .val (.int p6), .val (.ref r4), .val (.ref r9), .val (.int v13), .val (.int v18), .val (.int v23), .val (.long v28), .second, .val (.int v33), .val (.ref b36), .unset, .unset, .unset, .unset, .unset, .unset, .unset] [(.ref b43)])) t
    refine XS.astore X48.here hx rfl (hb hby at_138) rfl rfl (l' := #[.val (.int p1), .val (.int p2), .val (.int p3), .val (.long q4), .second, .val (.long q5), .second, .val (.int p6), .val (.ref r4), .val (.ref r9), .val (.int v13), .val (.int v18), .val (.int v23), .val (.long v28), .second, .val (.int v33), .val (.ref b36), .val (.ref b43), .unset, .unset, .unset, .unset, .unset, .unset]) rfl ?_
    show Steps p.tables e below (T48.setTop (mkF m 140 #[.val (.int p1), .val (.int p2), .val (.int p3), .val (.long q4), .second, .val (.long q5), .second, .val (.int p6), .val (.ref r4), .val (.ref r9), .val (.int v13), .val (.int v18), .val (.int v23), .val (.long v28), .second, .val (.int v33), .val (.ref b36), .val (.ref b43), .unset, .unset, .unset, .unset, .unset, .unset] [])) t
    refine XS.iloadN X48.here hx rfl (hb hby at_140) rfl ?_
    show Steps p.tables e below (T48.setTop (mkF m 141 #[.val (.int p1), .val (.int p2), .val (.int p3), .val (.long q4), .second, .val (.long q5), .second, .val (.int p6), .val (.ref r4), .val (.ref r9), .val (.int v13), .val (.int v18), .val (.int v23), .val (.long v28), .second, .val (.int v33), .val (.ref b36), .val (.ref b43), .unset, .unset, .unset, .unset, .unset, .unset] [(.int p1)])) t
    refine XS.iload X48.here hx rfl (hb hby at_141) rfl ?_
    exact k)
  obtain ⟨v57, hv57, P58⟩ : ∃ (v57 : Int32), v57 = (if p1 = v23 then (if r4 = r9 then (if p3 = v33 then (if q4 = v28 then (if v13 = v18 then (1 : Int32) else (0 : Int32)) else (0 : Int32)) else (0 : Int32)) else (0 : Int32)) else (0 : Int32)) ∧ Rch p e below (s₁.setTop (entryFrame m #[(.int p1), (.int p2), (.int p3), (.long q4), (.long q5), (.int p6)] maxLocals)) (T48.setTop (mkF m 178 #[.val (.int p1), .val (.int p2), .val (.int p3), .val (.long q4), .second, .val (.long q5), .second, .val (.int p6), .val (.ref r4), .val (.ref r9), .val (.int v13), .val (.int v18), .val (.int v23), .val (.long v28), .second, .val (.int v33), .val (.ref b36), .val (.ref b43), .unset, .unset, .unset, .unset, .unset, .unset] [(.int v57)])) := by
    by_cases c52 : p1 = v23
    · by_cases c53 : r4 = r9
      · by_cases c54 : p3 = v33
        · by_cases c55 : q4 = v28
          · by_cases c56 : v13 = v18
            · refine ⟨(1 : Int32), (by first | rfl | rw [if_pos c52, if_pos c53, if_pos c54, if_pos c55, if_pos c56] | simp only [if_pos c52, if_pos c53, if_pos c54, if_pos c55, if_pos c56]), fun t k => P51 t ?_⟩
              show Steps p.tables e below (T48.setTop (mkF m 143 #[.val (.int p1), .val (.int p2), .val (.int p3), .val (.long q4), .second, .val (.long q5), .second, .val (.int p6), .val (.ref r4), .val (.ref r9), .val (.int v13), .val (.int v18), .val (.int v23), .val (.long v28), .second, .val (.int v33), .val (.ref b36), .val (.ref b43), .unset, .unset, .unset, .unset, .unset, .unset] [(.int v23), (.int p1)])) t
              refine XS.icmpNo X48.here hx rfl (hb hby at_143) rfl (teq c52).2 ?_
              show Steps p.tables e below (T48.setTop (mkF m 146 #[.val (.int p1), .val (.int p2), .val (.int p3), .val (.long q4), .second, .val (.long q5), .second, .val (.int p6), .val (.ref r4), .val (.ref r9), .val (.int v13), .val (.int v18), .val (.int v23), .val (.long v28), .second, .val (.int v33), .val (.ref b36), .val (.ref b43), .unset, .unset, .unset, .unset, .unset, .unset] [])) t
              refine XS.aload X48.here hx rfl (hb hby at_146) rfl rfl ?_
              show Steps p.tables e below (T48.setTop (mkF m 148 #[.val (.int p1), .val (.int p2), .val (.int p3), .val (.long q4), .second, .val (.long q5), .second, .val (.int p6), .val (.ref r4), .val (.ref r9), .val (.int v13), .val (.int v18), .val (.int v23), .val (.long v28), .second, .val (.int v33), .val (.ref b36), .val (.ref b43), .unset, .unset, .unset, .unset, .unset, .unset] [(.ref r4)])) t
              refine XS.aload X48.here hx rfl (hb hby at_148) rfl rfl ?_
              show Steps p.tables e below (T48.setTop (mkF m 150 #[.val (.int p1), .val (.int p2), .val (.int p3), .val (.long q4), .second, .val (.long q5), .second, .val (.int p6), .val (.ref r4), .val (.ref r9), .val (.int v13), .val (.int v18), .val (.int v23), .val (.long v28), .second, .val (.int v33), .val (.ref b36), .val (.ref b43), .unset, .unset, .unset, .unset, .unset, .unset] [(.ref r9), (.ref r4)])) t
              refine Jvm.RoadKit.acmp (g := (mkF m 150 #[.val (.int p1), .val (.int p2), .val (.int p3), .val (.long q4), .second, .val (.long q5), .second, .val (.int p6), .val (.ref r4), .val (.ref r9), .val (.int v13), .val (.int v18), .val (.int v23), .val (.long v28), .second, .val (.int v33), .val (.ref b36), .val (.ref b43), .unset, .unset, .unset, .unset, .unset, .unset] [(.ref r9), (.ref r4)])) X48 hx rfl rfl rfl (pc0 := 150) (pc' := 153) (same := true) rfl (hb hby at_150) rfl (decide_eq_true (congrArg Value.ref c53)) (by decide) (by decide) ?_
              show Steps p.tables e below (T48.setTop (mkF m 153 #[.val (.int p1), .val (.int p2), .val (.int p3), .val (.long q4), .second, .val (.long q5), .second, .val (.int p6), .val (.ref r4), .val (.ref r9), .val (.int v13), .val (.int v18), .val (.int v23), .val (.long v28), .second, .val (.int v33), .val (.ref b36), .val (.ref b43), .unset, .unset, .unset, .unset, .unset, .unset] [])) t
              refine XS.iloadN X48.here hx rfl (hb hby at_153) rfl ?_
              show Steps p.tables e below (T48.setTop (mkF m 154 #[.val (.int p1), .val (.int p2), .val (.int p3), .val (.long q4), .second, .val (.long q5), .second, .val (.int p6), .val (.ref r4), .val (.ref r9), .val (.int v13), .val (.int v18), .val (.int v23), .val (.long v28), .second, .val (.int v33), .val (.ref b36), .val (.ref b43), .unset, .unset, .unset, .unset, .unset, .unset] [(.int p3)])) t
              refine XS.iload X48.here hx rfl (hb hby at_154) rfl ?_
              show Steps p.tables e below (T48.setTop (mkF m 156 #[.val (.int p1), .val (.int p2), .val (.int p3), .val (.long q4), .second, .val (.long q5), .second, .val (.int p6), .val (.ref r4), .val (.ref r9), .val (.int v13), .val (.int v18), .val (.int v23), .val (.long v28), .second, .val (.int v33), .val (.ref b36), .val (.ref b43), .unset, .unset, .unset, .unset, .unset, .unset] [(.int v33), (.int p3)])) t
              refine XS.icmpNo X48.here hx rfl (hb hby at_156) rfl (teq c54).2 ?_
              show Steps p.tables e below (T48.setTop (mkF m 159 #[.val (.int p1), .val (.int p2), .val (.int p3), .val (.long q4), .second, .val (.long q5), .second, .val (.int p6), .val (.ref r4), .val (.ref r9), .val (.int v13), .val (.int v18), .val (.int v23), .val (.long v28), .second, .val (.int v33), .val (.ref b36), .val (.ref b43), .unset, .unset, .unset, .unset, .unset, .unset] [])) t
              refine XS.lloadN X48.here hx rfl (hb hby at_159) rfl ?_
              show Steps p.tables e below (T48.setTop (mkF m 160 #[.val (.int p1), .val (.int p2), .val (.int p3), .val (.long q4), .second, .val (.long q5), .second, .val (.int p6), .val (.ref r4), .val (.ref r9), .val (.int v13), .val (.int v18), .val (.int v23), .val (.long v28), .second, .val (.int v33), .val (.ref b36), .val (.ref b43), .unset, .unset, .unset, .unset, .unset, .unset] [(.long q4)])) t
              refine XS.lload X48.here hx rfl (hb hby at_160) rfl ?_
              show Steps p.tables e below (T48.setTop (mkF m 162 #[.val (.int p1), .val (.int p2), .val (.int p3), .val (.long q4), .second, .val (.long q5), .second, .val (.int p6), .val (.ref r4), .val (.ref r9), .val (.int v13), .val (.int v18), .val (.int v23), .val (.long v28), .second, .val (.int v33), .val (.ref b36), .val (.ref b43), .unset, .unset, .unset, .unset, .unset, .unset] [(.long v28), (.long q4)])) t
              refine XS.lcmp X48.here hx rfl (hb hby at_162) rfl ?_
              show Steps p.tables e below (T48.setTop (mkF m 163 #[.val (.int p1), .val (.int p2), .val (.int p3), .val (.long q4), .second, .val (.long q5), .second, .val (.int p6), .val (.ref r4), .val (.ref r9), .val (.int v13), .val (.int v18), .val (.int v23), .val (.long v28), .second, .val (.int v33), .val (.ref b36), .val (.ref b43), .unset, .unset, .unset, .unset, .unset, .unset] [(.int (lcmpW q4 v28))])) t
              refine XS.ifNo X48.here hx rfl (hb hby at_163) rfl ((if0 _ _).trans (teq ((lw_eq q4 v28).mpr c55)).2) ?_
              show Steps p.tables e below (T48.setTop (mkF m 166 #[.val (.int p1), .val (.int p2), .val (.int p3), .val (.long q4), .second, .val (.long q5), .second, .val (.int p6), .val (.ref r4), .val (.ref r9), .val (.int v13), .val (.int v18), .val (.int v23), .val (.long v28), .second, .val (.int v33), .val (.ref b36), .val (.ref b43), .unset, .unset, .unset, .unset, .unset, .unset] [])) t
              refine XS.iload X48.here hx rfl (hb hby at_166) rfl ?_
              show Steps p.tables e below (T48.setTop (mkF m 168 #[.val (.int p1), .val (.int p2), .val (.int p3), .val (.long q4), .second, .val (.long q5), .second, .val (.int p6), .val (.ref r4), .val (.ref r9), .val (.int v13), .val (.int v18), .val (.int v23), .val (.long v28), .second, .val (.int v33), .val (.ref b36), .val (.ref b43), .unset, .unset, .unset, .unset, .unset, .unset] [(.int v13)])) t
              refine XS.iload X48.here hx rfl (hb hby at_168) rfl ?_
              show Steps p.tables e below (T48.setTop (mkF m 170 #[.val (.int p1), .val (.int p2), .val (.int p3), .val (.long q4), .second, .val (.long q5), .second, .val (.int p6), .val (.ref r4), .val (.ref r9), .val (.int v13), .val (.int v18), .val (.int v23), .val (.long v28), .second, .val (.int v33), .val (.ref b36), .val (.ref b43), .unset, .unset, .unset, .unset, .unset, .unset] [(.int v18), (.int v13)])) t
              refine XS.icmpNo X48.here hx rfl (hb hby at_170) rfl (teq c56).2 ?_
              show Steps p.tables e below (T48.setTop (mkF m 173 #[.val (.int p1), .val (.int p2), .val (.int p3), .val (.long q4), .second, .val (.long q5), .second, .val (.int p6), .val (.ref r4), .val (.ref r9), .val (.int v13), .val (.int v18), .val (.int v23), .val (.long v28), .second, .val (.int v33), .val (.ref b36), .val (.ref b43), .unset, .unset, .unset, .unset, .unset, .unset] [])) t
              refine XS.iconst X48.here hx rfl (hb hby at_173) ?_
              show Steps p.tables e below (T48.setTop (mkF m 174 #[.val (.int p1), .val (.int p2), .val (.int p3), .val (.long q4), .second, .val (.long q5), .second, .val (.int p6), .val (.ref r4), .val (.ref r9), .val (.int v13), .val (.int v18), .val (.int v23), .val (.long v28), .second, .val (.int v33), .val (.ref b36), .val (.ref b43), .unset, .unset, .unset, .unset, .unset, .unset] [(.int (1 : Int32))])) t
              refine XS.goto X48.here hx rfl (pc0 := 174) (pc' := 178) rfl (hb hby at_174) (by decide) (by decide) ?_
              exact k
            · refine ⟨(0 : Int32), (by first | rfl | rw [if_pos c52, if_pos c53, if_pos c54, if_pos c55, if_neg c56] | simp only [if_pos c52, if_pos c53, if_pos c54, if_pos c55, if_neg c56]), fun t k => P51 t ?_⟩
              show Steps p.tables e below (T48.setTop (mkF m 143 #[.val (.int p1), .val (.int p2), .val (.int p3), .val (.long q4), .second, .val (.long q5), .second, .val (.int p6), .val (.ref r4), .val (.ref r9), .val (.int v13), .val (.int v18), .val (.int v23), .val (.long v28), .second, .val (.int v33), .val (.ref b36), .val (.ref b43), .unset, .unset, .unset, .unset, .unset, .unset] [(.int v23), (.int p1)])) t
              refine XS.icmpNo X48.here hx rfl (hb hby at_143) rfl (teq c52).2 ?_
              show Steps p.tables e below (T48.setTop (mkF m 146 #[.val (.int p1), .val (.int p2), .val (.int p3), .val (.long q4), .second, .val (.long q5), .second, .val (.int p6), .val (.ref r4), .val (.ref r9), .val (.int v13), .val (.int v18), .val (.int v23), .val (.long v28), .second, .val (.int v33), .val (.ref b36), .val (.ref b43), .unset, .unset, .unset, .unset, .unset, .unset] [])) t
              refine XS.aload X48.here hx rfl (hb hby at_146) rfl rfl ?_
              show Steps p.tables e below (T48.setTop (mkF m 148 #[.val (.int p1), .val (.int p2), .val (.int p3), .val (.long q4), .second, .val (.long q5), .second, .val (.int p6), .val (.ref r4), .val (.ref r9), .val (.int v13), .val (.int v18), .val (.int v23), .val (.long v28), .second, .val (.int v33), .val (.ref b36), .val (.ref b43), .unset, .unset, .unset, .unset, .unset, .unset] [(.ref r4)])) t
              refine XS.aload X48.here hx rfl (hb hby at_148) rfl rfl ?_
              show Steps p.tables e below (T48.setTop (mkF m 150 #[.val (.int p1), .val (.int p2), .val (.int p3), .val (.long q4), .second, .val (.long q5), .second, .val (.int p6), .val (.ref r4), .val (.ref r9), .val (.int v13), .val (.int v18), .val (.int v23), .val (.long v28), .second, .val (.int v33), .val (.ref b36), .val (.ref b43), .unset, .unset, .unset, .unset, .unset, .unset] [(.ref r9), (.ref r4)])) t
              refine Jvm.RoadKit.acmp (g := (mkF m 150 #[.val (.int p1), .val (.int p2), .val (.int p3), .val (.long q4), .second, .val (.long q5), .second, .val (.int p6), .val (.ref r4), .val (.ref r9), .val (.int v13), .val (.int v18), .val (.int v23), .val (.long v28), .second, .val (.int v33), .val (.ref b36), .val (.ref b43), .unset, .unset, .unset, .unset, .unset, .unset] [(.ref r9), (.ref r4)])) X48 hx rfl rfl rfl (pc0 := 150) (pc' := 153) (same := true) rfl (hb hby at_150) rfl (decide_eq_true (congrArg Value.ref c53)) (by decide) (by decide) ?_
              show Steps p.tables e below (T48.setTop (mkF m 153 #[.val (.int p1), .val (.int p2), .val (.int p3), .val (.long q4), .second, .val (.long q5), .second, .val (.int p6), .val (.ref r4), .val (.ref r9), .val (.int v13), .val (.int v18), .val (.int v23), .val (.long v28), .second, .val (.int v33), .val (.ref b36), .val (.ref b43), .unset, .unset, .unset, .unset, .unset, .unset] [])) t
              refine XS.iloadN X48.here hx rfl (hb hby at_153) rfl ?_
              show Steps p.tables e below (T48.setTop (mkF m 154 #[.val (.int p1), .val (.int p2), .val (.int p3), .val (.long q4), .second, .val (.long q5), .second, .val (.int p6), .val (.ref r4), .val (.ref r9), .val (.int v13), .val (.int v18), .val (.int v23), .val (.long v28), .second, .val (.int v33), .val (.ref b36), .val (.ref b43), .unset, .unset, .unset, .unset, .unset, .unset] [(.int p3)])) t
              refine XS.iload X48.here hx rfl (hb hby at_154) rfl ?_
              show Steps p.tables e below (T48.setTop (mkF m 156 #[.val (.int p1), .val (.int p2), .val (.int p3), .val (.long q4), .second, .val (.long q5), .second, .val (.int p6), .val (.ref r4), .val (.ref r9), .val (.int v13), .val (.int v18), .val (.int v23), .val (.long v28), .second, .val (.int v33), .val (.ref b36), .val (.ref b43), .unset, .unset, .unset, .unset, .unset, .unset] [(.int v33), (.int p3)])) t
              refine XS.icmpNo X48.here hx rfl (hb hby at_156) rfl (teq c54).2 ?_
              show Steps p.tables e below (T48.setTop (mkF m 159 #[.val (.int p1), .val (.int p2), .val (.int p3), .val (.long q4), .second, .val (.long q5), .second, .val (.int p6), .val (.ref r4), .val (.ref r9), .val (.int v13), .val (.int v18), .val (.int v23), .val (.long v28), .second, .val (.int v33), .val (.ref b36), .val (.ref b43), .unset, .unset, .unset, .unset, .unset, .unset] [])) t
              refine XS.lloadN X48.here hx rfl (hb hby at_159) rfl ?_
              show Steps p.tables e below (T48.setTop (mkF m 160 #[.val (.int p1), .val (.int p2), .val (.int p3), .val (.long q4), .second, .val (.long q5), .second, .val (.int p6), .val (.ref r4), .val (.ref r9), .val (.int v13), .val (.int v18), .val (.int v23), .val (.long v28), .second, .val (.int v33), .val (.ref b36), .val (.ref b43), .unset, .unset, .unset, .unset, .unset, .unset] [(.long q4)])) t
              refine XS.lload X48.here hx rfl (hb hby at_160) rfl ?_
              show Steps p.tables e below (T48.setTop (mkF m 162 #[.val (.int p1), .val (.int p2), .val (.int p3), .val (.long q4), .second, .val (.long q5), .second, .val (.int p6), .val (.ref r4), .val (.ref r9), .val (.int v13), .val (.int v18), .val (.int v23), .val (.long v28), .second, .val (.int v33), .val (.ref b36), .val (.ref b43), .unset, .unset, .unset, .unset, .unset, .unset] [(.long v28), (.long q4)])) t
              refine XS.lcmp X48.here hx rfl (hb hby at_162) rfl ?_
              show Steps p.tables e below (T48.setTop (mkF m 163 #[.val (.int p1), .val (.int p2), .val (.int p3), .val (.long q4), .second, .val (.long q5), .second, .val (.int p6), .val (.ref r4), .val (.ref r9), .val (.int v13), .val (.int v18), .val (.int v23), .val (.long v28), .second, .val (.int v33), .val (.ref b36), .val (.ref b43), .unset, .unset, .unset, .unset, .unset, .unset] [(.int (lcmpW q4 v28))])) t
              refine XS.ifNo X48.here hx rfl (hb hby at_163) rfl ((if0 _ _).trans (teq ((lw_eq q4 v28).mpr c55)).2) ?_
              show Steps p.tables e below (T48.setTop (mkF m 166 #[.val (.int p1), .val (.int p2), .val (.int p3), .val (.long q4), .second, .val (.long q5), .second, .val (.int p6), .val (.ref r4), .val (.ref r9), .val (.int v13), .val (.int v18), .val (.int v23), .val (.long v28), .second, .val (.int v33), .val (.ref b36), .val (.ref b43), .unset, .unset, .unset, .unset, .unset, .unset] [])) t
              refine XS.iload X48.here hx rfl (hb hby at_166) rfl ?_
              show Steps p.tables e below (T48.setTop (mkF m 168 #[.val (.int p1), .val (.int p2), .val (.int p3), .val (.long q4), .second, .val (.long q5), .second, .val (.int p6), .val (.ref r4), .val (.ref r9), .val (.int v13), .val (.int v18), .val (.int v23), .val (.long v28), .second, .val (.int v33), .val (.ref b36), .val (.ref b43), .unset, .unset, .unset, .unset, .unset, .unset] [(.int v13)])) t
              refine XS.iload X48.here hx rfl (hb hby at_168) rfl ?_
              show Steps p.tables e below (T48.setTop (mkF m 170 #[.val (.int p1), .val (.int p2), .val (.int p3), .val (.long q4), .second, .val (.long q5), .second, .val (.int p6), .val (.ref r4), .val (.ref r9), .val (.int v13), .val (.int v18), .val (.int v23), .val (.long v28), .second, .val (.int v33), .val (.ref b36), .val (.ref b43), .unset, .unset, .unset, .unset, .unset, .unset] [(.int v18), (.int v13)])) t
              refine XS.icmpYes X48.here hx rfl (pc0 := 170) (pc' := 177) rfl (hb hby at_170) rfl (feq c56).2 (by decide) (by decide) ?_
              show Steps p.tables e below (T48.setTop (mkF m 177 #[.val (.int p1), .val (.int p2), .val (.int p3), .val (.long q4), .second, .val (.long q5), .second, .val (.int p6), .val (.ref r4), .val (.ref r9), .val (.int v13), .val (.int v18), .val (.int v23), .val (.long v28), .second, .val (.int v33), .val (.ref b36), .val (.ref b43), .unset, .unset, .unset, .unset, .unset, .unset] [])) t
              refine XS.iconst X48.here hx rfl (hb hby at_177) ?_
              exact k
          · refine ⟨(0 : Int32), (by first | rfl | rw [if_pos c52, if_pos c53, if_pos c54, if_neg c55] | simp only [if_pos c52, if_pos c53, if_pos c54, if_neg c55]), fun t k => P51 t ?_⟩
            show Steps p.tables e below (T48.setTop (mkF m 143 #[.val (.int p1), .val (.int p2), .val (.int p3), .val (.long q4), .second, .val (.long q5), .second, .val (.int p6), .val (.ref r4), .val (.ref r9), .val (.int v13), .val (.int v18), .val (.int v23), .val (.long v28), .second, .val (.int v33), .val (.ref b36), .val (.ref b43), .unset, .unset, .unset, .unset, .unset, .unset] [(.int v23), (.int p1)])) t
            refine XS.icmpNo X48.here hx rfl (hb hby at_143) rfl (teq c52).2 ?_
            show Steps p.tables e below (T48.setTop (mkF m 146 #[.val (.int p1), .val (.int p2), .val (.int p3), .val (.long q4), .second, .val (.long q5), .second, .val (.int p6), .val (.ref r4), .val (.ref r9), .val (.int v13), .val (.int v18), .val (.int v23), .val (.long v28), .second, .val (.int v33), .val (.ref b36), .val (.ref b43), .unset, .unset, .unset, .unset, .unset, .unset] [])) t
            refine XS.aload X48.here hx rfl (hb hby at_146) rfl rfl ?_
            show Steps p.tables e below (T48.setTop (mkF m 148 #[.val (.int p1), .val (.int p2), .val (.int p3), .val (.long q4), .second, .val (.long q5), .second, .val (.int p6), .val (.ref r4), .val (.ref r9), .val (.int v13), .val (.int v18), .val (.int v23), .val (.long v28), .second, .val (.int v33), .val (.ref b36), .val (.ref b43), .unset, .unset, .unset, .unset, .unset, .unset] [(.ref r4)])) t
            refine XS.aload X48.here hx rfl (hb hby at_148) rfl rfl ?_
            show Steps p.tables e below (T48.setTop (mkF m 150 #[.val (.int p1), .val (.int p2), .val (.int p3), .val (.long q4), .second, .val (.long q5), .second, .val (.int p6), .val (.ref r4), .val (.ref r9), .val (.int v13), .val (.int v18), .val (.int v23), .val (.long v28), .second, .val (.int v33), .val (.ref b36), .val (.ref b43), .unset, .unset, .unset, .unset, .unset, .unset] [(.ref r9), (.ref r4)])) t
            refine Jvm.RoadKit.acmp (g := (mkF m 150 #[.val (.int p1), .val (.int p2), .val (.int p3), .val (.long q4), .second, .val (.long q5), .second, .val (.int p6), .val (.ref r4), .val (.ref r9), .val (.int v13), .val (.int v18), .val (.int v23), .val (.long v28), .second, .val (.int v33), .val (.ref b36), .val (.ref b43), .unset, .unset, .unset, .unset, .unset, .unset] [(.ref r9), (.ref r4)])) X48 hx rfl rfl rfl (pc0 := 150) (pc' := 153) (same := true) rfl (hb hby at_150) rfl (decide_eq_true (congrArg Value.ref c53)) (by decide) (by decide) ?_
            show Steps p.tables e below (T48.setTop (mkF m 153 #[.val (.int p1), .val (.int p2), .val (.int p3), .val (.long q4), .second, .val (.long q5), .second, .val (.int p6), .val (.ref r4), .val (.ref r9), .val (.int v13), .val (.int v18), .val (.int v23), .val (.long v28), .second, .val (.int v33), .val (.ref b36), .val (.ref b43), .unset, .unset, .unset, .unset, .unset, .unset] [])) t
            refine XS.iloadN X48.here hx rfl (hb hby at_153) rfl ?_
            show Steps p.tables e below (T48.setTop (mkF m 154 #[.val (.int p1), .val (.int p2), .val (.int p3), .val (.long q4), .second, .val (.long q5), .second, .val (.int p6), .val (.ref r4), .val (.ref r9), .val (.int v13), .val (.int v18), .val (.int v23), .val (.long v28), .second, .val (.int v33), .val (.ref b36), .val (.ref b43), .unset, .unset, .unset, .unset, .unset, .unset] [(.int p3)])) t
            refine XS.iload X48.here hx rfl (hb hby at_154) rfl ?_
            show Steps p.tables e below (T48.setTop (mkF m 156 #[.val (.int p1), .val (.int p2), .val (.int p3), .val (.long q4), .second, .val (.long q5), .second, .val (.int p6), .val (.ref r4), .val (.ref r9), .val (.int v13), .val (.int v18), .val (.int v23), .val (.long v28), .second, .val (.int v33), .val (.ref b36), .val (.ref b43), .unset, .unset, .unset, .unset, .unset, .unset] [(.int v33), (.int p3)])) t
            refine XS.icmpNo X48.here hx rfl (hb hby at_156) rfl (teq c54).2 ?_
            show Steps p.tables e below (T48.setTop (mkF m 159 #[.val (.int p1), .val (.int p2), .val (.int p3), .val (.long q4), .second, .val (.long q5), .second, .val (.int p6), .val (.ref r4), .val (.ref r9), .val (.int v13), .val (.int v18), .val (.int v23), .val (.long v28), .second, .val (.int v33), .val (.ref b36), .val (.ref b43), .unset, .unset, .unset, .unset, .unset, .unset] [])) t
            refine XS.lloadN X48.here hx rfl (hb hby at_159) rfl ?_
            show Steps p.tables e below (T48.setTop (mkF m 160 #[.val (.int p1), .val (.int p2), .val (.int p3), .val (.long q4), .second, .val (.long q5), .second, .val (.int p6), .val (.ref r4), .val (.ref r9), .val (.int v13), .val (.int v18), .val (.int v23), .val (.long v28), .second, .val (.int v33), .val (.ref b36), .val (.ref b43), .unset, .unset, .unset, .unset, .unset, .unset] [(.long q4)])) t
            refine XS.lload X48.here hx rfl (hb hby at_160) rfl ?_
            show Steps p.tables e below (T48.setTop (mkF m 162 #[.val (.int p1), .val (.int p2), .val (.int p3), .val (.long q4), .second, .val (.long q5), .second, .val (.int p6), .val (.ref r4), .val (.ref r9), .val (.int v13), .val (.int v18), .val (.int v23), .val (.long v28), .second, .val (.int v33), .val (.ref b36), .val (.ref b43), .unset, .unset, .unset, .unset, .unset, .unset] [(.long v28), (.long q4)])) t
            refine XS.lcmp X48.here hx rfl (hb hby at_162) rfl ?_
            show Steps p.tables e below (T48.setTop (mkF m 163 #[.val (.int p1), .val (.int p2), .val (.int p3), .val (.long q4), .second, .val (.long q5), .second, .val (.int p6), .val (.ref r4), .val (.ref r9), .val (.int v13), .val (.int v18), .val (.int v23), .val (.long v28), .second, .val (.int v33), .val (.ref b36), .val (.ref b43), .unset, .unset, .unset, .unset, .unset, .unset] [(.int (lcmpW q4 v28))])) t
            refine XS.ifYes X48.here hx rfl (pc0 := 163) (pc' := 177) rfl (hb hby at_163) rfl ((if0 _ _).trans (feq (fun q_ => c55 ((lw_eq q4 v28).mp q_))).2) (by decide) (by decide) ?_
            show Steps p.tables e below (T48.setTop (mkF m 177 #[.val (.int p1), .val (.int p2), .val (.int p3), .val (.long q4), .second, .val (.long q5), .second, .val (.int p6), .val (.ref r4), .val (.ref r9), .val (.int v13), .val (.int v18), .val (.int v23), .val (.long v28), .second, .val (.int v33), .val (.ref b36), .val (.ref b43), .unset, .unset, .unset, .unset, .unset, .unset] [])) t
            refine XS.iconst X48.here hx rfl (hb hby at_177) ?_
            exact k
        · refine ⟨(0 : Int32), (by first | rfl | rw [if_pos c52, if_pos c53, if_neg c54] | simp only [if_pos c52, if_pos c53, if_neg c54]), fun t k => P51 t ?_⟩
          show Steps p.tables e below (T48.setTop (mkF m 143 #[.val (.int p1), .val (.int p2), .val (.int p3), .val (.long q4), .second, .val (.long q5), .second, .val (.int p6), .val (.ref r4), .val (.ref r9), .val (.int v13), .val (.int v18), .val (.int v23), .val (.long v28), .second, .val (.int v33), .val (.ref b36), .val (.ref b43), .unset, .unset, .unset, .unset, .unset, .unset] [(.int v23), (.int p1)])) t
          refine XS.icmpNo X48.here hx rfl (hb hby at_143) rfl (teq c52).2 ?_
          show Steps p.tables e below (T48.setTop (mkF m 146 #[.val (.int p1), .val (.int p2), .val (.int p3), .val (.long q4), .second, .val (.long q5), .second, .val (.int p6), .val (.ref r4), .val (.ref r9), .val (.int v13), .val (.int v18), .val (.int v23), .val (.long v28), .second, .val (.int v33), .val (.ref b36), .val (.ref b43), .unset, .unset, .unset, .unset, .unset, .unset] [])) t
          refine XS.aload X48.here hx rfl (hb hby at_146) rfl rfl ?_
          show Steps p.tables e below (T48.setTop (mkF m 148 #[.val (.int p1), .val (.int p2), .val (.int p3), .val (.long q4), .second, .val (.long q5), .second, .val (.int p6), .val (.ref r4), .val (.ref r9), .val (.int v13), .val (.int v18), .val (.int v23), .val (.long v28), .second, .val (.int v33), .val (.ref b36), .val (.ref b43), .unset, .unset, .unset, .unset, .unset, .unset] [(.ref r4)])) t
          refine XS.aload X48.here hx rfl (hb hby at_148) rfl rfl ?_
          show Steps p.tables e below (T48.setTop (mkF m 150 #[.val (.int p1), .val (.int p2), .val (.int p3), .val (.long q4), .second, .val (.long q5), .second, .val (.int p6), .val (.ref r4), .val (.ref r9), .val (.int v13), .val (.int v18), .val (.int v23), .val (.long v28), .second, .val (.int v33), .val (.ref b36), .val (.ref b43), .unset, .unset, .unset, .unset, .unset, .unset] [(.ref r9), (.ref r4)])) t
          refine Jvm.RoadKit.acmp (g := (mkF m 150 #[.val (.int p1), .val (.int p2), .val (.int p3), .val (.long q4), .second, .val (.long q5), .second, .val (.int p6), .val (.ref r4), .val (.ref r9), .val (.int v13), .val (.int v18), .val (.int v23), .val (.long v28), .second, .val (.int v33), .val (.ref b36), .val (.ref b43), .unset, .unset, .unset, .unset, .unset, .unset] [(.ref r9), (.ref r4)])) X48 hx rfl rfl rfl (pc0 := 150) (pc' := 153) (same := true) rfl (hb hby at_150) rfl (decide_eq_true (congrArg Value.ref c53)) (by decide) (by decide) ?_
          show Steps p.tables e below (T48.setTop (mkF m 153 #[.val (.int p1), .val (.int p2), .val (.int p3), .val (.long q4), .second, .val (.long q5), .second, .val (.int p6), .val (.ref r4), .val (.ref r9), .val (.int v13), .val (.int v18), .val (.int v23), .val (.long v28), .second, .val (.int v33), .val (.ref b36), .val (.ref b43), .unset, .unset, .unset, .unset, .unset, .unset] [])) t
          refine XS.iloadN X48.here hx rfl (hb hby at_153) rfl ?_
          show Steps p.tables e below (T48.setTop (mkF m 154 #[.val (.int p1), .val (.int p2), .val (.int p3), .val (.long q4), .second, .val (.long q5), .second, .val (.int p6), .val (.ref r4), .val (.ref r9), .val (.int v13), .val (.int v18), .val (.int v23), .val (.long v28), .second, .val (.int v33), .val (.ref b36), .val (.ref b43), .unset, .unset, .unset, .unset, .unset, .unset] [(.int p3)])) t
          refine XS.iload X48.here hx rfl (hb hby at_154) rfl ?_
          show Steps p.tables e below (T48.setTop (mkF m 156 #[.val (.int p1), .val (.int p2), .val (.int p3), .val (.long q4), .second, .val (.long q5), .second, .val (.int p6), .val (.ref r4), .val (.ref r9), .val (.int v13), .val (.int v18), .val (.int v23), .val (.long v28), .second, .val (.int v33), .val (.ref b36), .val (.ref b43), .unset, .unset, .unset, .unset, .unset, .unset] [(.int v33), (.int p3)])) t
          refine XS.icmpYes X48.here hx rfl (pc0 := 156) (pc' := 177) rfl (hb hby at_156) rfl (feq c54).2 (by decide) (by decide) ?_
          show Steps p.tables e below (T48.setTop (mkF m 177 #[.val (.int p1), .val (.int p2), .val (.int p3), .val (.long q4), .second, .val (.long q5), .second, .val (.int p6), .val (.ref r4), .val (.ref r9), .val (.int v13), .val (.int v18), .val (.int v23), .val (.long v28), .second, .val (.int v33), .val (.ref b36), .val (.ref b43), .unset, .unset, .unset, .unset, .unset, .unset] [])) t
          refine XS.iconst X48.here hx rfl (hb hby at_177) ?_
          exact k
      · refine ⟨(0 : Int32), (by first | rfl | rw [if_pos c52, if_neg c53] | simp only [if_pos c52, if_neg c53]), fun t k => P51 t ?_⟩
        show Steps p.tables e below (T48.setTop (mkF m 143 #[.val (.int p1), .val (.int p2), .val (.int p3), .val (.long q4), .second, .val (.long q5), .second, .val (.int p6), .val (.ref r4), .val (.ref r9), .val (.int v13), .val (.int v18), .val (.int v23), .val (.long v28), .second, .val (.int v33), .val (.ref b36), .val (.ref b43), .unset, .unset, .unset, .unset, .unset, .unset] [(.int v23), (.int p1)])) t
        refine XS.icmpNo X48.here hx rfl (hb hby at_143) rfl (teq c52).2 ?_
        show Steps p.tables e below (T48.setTop (mkF m 146 #[.val (.int p1), .val (.int p2), .val (.int p3), .val (.long q4), .second, .val (.long q5), .second, .val (.int p6), .val (.ref r4), .val (.ref r9), .val (.int v13), .val (.int v18), .val (.int v23), .val (.long v28), .second, .val (.int v33), .val (.ref b36), .val (.ref b43), .unset, .unset, .unset, .unset, .unset, .unset] [])) t
        refine XS.aload X48.here hx rfl (hb hby at_146) rfl rfl ?_
        show Steps p.tables e below (T48.setTop (mkF m 148 #[.val (.int p1), .val (.int p2), .val (.int p3), .val (.long q4), .second, .val (.long q5), .second, .val (.int p6), .val (.ref r4), .val (.ref r9), .val (.int v13), .val (.int v18), .val (.int v23), .val (.long v28), .second, .val (.int v33), .val (.ref b36), .val (.ref b43), .unset, .unset, .unset, .unset, .unset, .unset] [(.ref r4)])) t
        refine XS.aload X48.here hx rfl (hb hby at_148) rfl rfl ?_
        show Steps p.tables e below (T48.setTop (mkF m 150 #[.val (.int p1), .val (.int p2), .val (.int p3), .val (.long q4), .second, .val (.long q5), .second, .val (.int p6), .val (.ref r4), .val (.ref r9), .val (.int v13), .val (.int v18), .val (.int v23), .val (.long v28), .second, .val (.int v33), .val (.ref b36), .val (.ref b43), .unset, .unset, .unset, .unset, .unset, .unset] [(.ref r9), (.ref r4)])) t
        refine Jvm.RoadKit.acmp (g := (mkF m 150 #[.val (.int p1), .val (.int p2), .val (.int p3), .val (.long q4), .second, .val (.long q5), .second, .val (.int p6), .val (.ref r4), .val (.ref r9), .val (.int v13), .val (.int v18), .val (.int v23), .val (.long v28), .second, .val (.int v33), .val (.ref b36), .val (.ref b43), .unset, .unset, .unset, .unset, .unset, .unset] [(.ref r9), (.ref r4)])) X48 hx rfl rfl rfl (pc0 := 150) (pc' := 177) (same := false) rfl (hb hby at_150) rfl (decide_eq_false fun q => c53 (Value.ref.inj q)) (by decide) (by decide) ?_
        show Steps p.tables e below (T48.setTop (mkF m 177 #[.val (.int p1), .val (.int p2), .val (.int p3), .val (.long q4), .second, .val (.long q5), .second, .val (.int p6), .val (.ref r4), .val (.ref r9), .val (.int v13), .val (.int v18), .val (.int v23), .val (.long v28), .second, .val (.int v33), .val (.ref b36), .val (.ref b43), .unset, .unset, .unset, .unset, .unset, .unset] [])) t
        refine XS.iconst X48.here hx rfl (hb hby at_177) ?_
        exact k
    · refine ⟨(0 : Int32), (by first | rfl | rw [if_neg c52] | simp only [if_neg c52]), fun t k => P51 t ?_⟩
      show Steps p.tables e below (T48.setTop (mkF m 143 #[.val (.int p1), .val (.int p2), .val (.int p3), .val (.long q4), .second, .val (.long q5), .second, .val (.int p6), .val (.ref r4), .val (.ref r9), .val (.int v13), .val (.int v18), .val (.int v23), .val (.long v28), .second, .val (.int v33), .val (.ref b36), .val (.ref b43), .unset, .unset, .unset, .unset, .unset, .unset] [(.int v23), (.int p1)])) t
      refine XS.icmpYes X48.here hx rfl (pc0 := 143) (pc' := 177) rfl (hb hby at_143) rfl (feq c52).2 (by decide) (by decide) ?_
      show Steps p.tables e below (T48.setTop (mkF m 177 #[.val (.int p1), .val (.int p2), .val (.int p3), .val (.long q4), .second, .val (.long q5), .second, .val (.int p6), .val (.ref r4), .val (.ref r9), .val (.int v13), .val (.int v18), .val (.int v23), .val (.long v28), .second, .val (.int v33), .val (.ref b36), .val (.ref b43), .unset, .unset, .unset, .unset, .unset, .unset] [])) t
      refine XS.iconst X48.here hx rfl (hb hby at_177) ?_
      exact k
  have P59 : Rch p e below (s₁.setTop (entryFrame m #[(.int p1), (.int p2), (.int p3), (.long q4), (.long q5), (.int p6)] maxLocals)) (T48.setTop (mkF m 184 #[.val (.int p1), .val (.int p2), .val (.int p3), .val (.long q4), .second, .val (.long q5), .second, .val (.int p6), .val (.ref r4), .val (.ref r9), .val (.int v13), .val (.int v18), .val (.int v23), .val (.long v28), .second, .val (.int v33), .val (.ref b36), .val (.ref b43), .val (.int v57), .unset, .unset, .unset, .unset, .unset] [(.ref b43), (.ref b36)])) := fun t k => P58 t (by
    show Steps p.tables e below (T48.setTop (mkF m 178 #[.val (.int p1), .val (.int p2), .val (.int p3), .val (.long q4), .second, .val (.long q5), .second, .val (.int p6), .val (.ref r4), .val (.ref r9), .val (.int v13), .val (.int v18), .val (.int v23), .val (.long v28), .second, .val (.int v33), .val (.ref b36), .val (.ref b43), .unset, .unset, .unset, .unset, .unset, .unset] [(.int v57)])) t
    refine XS.istore X48.here hx rfl (hb hby at_178) rfl (l' := #[.val (.int p1), .val (.int p2), .val (.int p3), .val (.long q4), .second, .val (.long q5), .second, .val (.int p6), .val (.ref r4), .val (.ref r9), .val (.int v13), .val (.int v18), .val (.int v23), .val (.long v28), .second, .val (.int v33), .val (.ref b36), .val (.ref b43), .val (.int v57), .unset, .unset, .unset, .unset, .unset]) rfl ?_
    show Steps p.tables e below (T48.setTop (mkF m 180 #[.val (.int p1), .val (.int p2), .val (.int p3), .val (.long q4), .second, .val (.long q5), .second, .val (.int p6), .val (.ref r4), .val (.ref r9), .val (.int v13), .val (.int v18), .val (.int v23), .val (.long v28), .second, .val (.int v33), .val (.ref b36), .val (.ref b43), .val (.int v57), .unset, .unset, .unset, .unset, .unset] [])) t
    refine XS.aload X48.here hx rfl (hb hby at_180) rfl rfl ?_
    show Steps p.tables e below (T48.setTop (mkF m 182 #[.val (.int p1), .val (.int p2), .val (.int p3), .val (.long q4), .second, .val (.long q5), .second, .val (.int p6), .val (.ref r4), .val (.ref r9), .val (.int v13), .val (.int v18), .val (.int v23), .val (.long v28), .second, .val (.int v33), .val (.ref b36), .val (.ref b43), .val (.int v57), .unset, .unset, .unset, .unset, .unset] [(.ref b36)])) t
    refine XS.aload X48.here hx rfl (hb hby at_182) rfl rfl ?_
    exact k)
  have f61 : n0 ≤ T48.heap.size := (Nat.le_trans f49 K48.1)
  obtain ⟨cq60, kq60, q60a, q60b, q60c⟩ := isOf hZ rfl ((E_39.ext E43).keep K48)
  obtain ⟨_, _, ⟨T60, L60, k60, n60⟩, -, X60, ⟨Lc60, hQ60, l60, y60, z60⟩, st60⟩ := X48.virtualBack hx (y := (⟨"com/example/usher/usher/server/MemberStatus", "equals", "(Ljava/lang/Object;)Z"⟩ : MethodName)) (z := (⟨"com/example/usher/usher/server/MemberStatus", "equals", "(Ljava/lang/Object;)Z"⟩ : MethodName)) hown (mvT hZ (hw _ (List.mem_of_getElem? (i := 27) rfl))) (mvT hZ (hw _ (List.mem_of_getElem? (i := 28) rfl))) (notFace_of_selects (args := #[]) (mvT hZ (hw _ (List.mem_of_getElem? (i := 30) rfl)))) (mvT hZ (hw _ (List.mem_of_getElem? (i := 30) rfl))) (mvT hZ (hw _ (List.mem_of_getElem? (i := 29) rfl))) (by decide) (backOf (W := 0) (rmE1 l Z a0 hw [] b36 b43 p1 r4 p3 q4 (nar .boolean v13) v23 r9 v33 v28 (nar .boolean v18) T48.heap n0 f61 E_48 ((G0_39.ext E43).keep K48 (ninS ne_b36_b43 nin0)) ((G1_39.ext E43).keep K48 (ninS ne_b36_b43 nin0)) ((G2_39.ext E43).keep K48 (ninS ne_b36_b43 nin0)) ((G3_39.ext E43).keep K48 (ninS ne_b36_b43 nin0)) ((G4_39.ext E43).keep K48 (ninS ne_b36_b43 nin0)) G0_48 G1_48 G2_48 G3_48 G4_48) hZ (hw _ (List.mem_of_getElem? (i := 31) rfl)) (hw _ (List.mem_of_getElem? (i := 10) rfl)) (by decide) (by decide)) q60a q60c (g := (mkF m 184 #[.val (.int p1), .val (.int p2), .val (.int p3), .val (.long q4), .second, .val (.long q5), .second, .val (.int p6), .val (.ref r4), .val (.ref r9), .val (.int v13), .val (.int v18), .val (.int v23), .val (.long v28), .second, .val (.int v33), .val (.ref b36), .val (.ref b43), .val (.int v57), .unset, .unset, .unset, .unset, .unset] [(.ref b43), (.ref b36)])) rfl (by rw [hml]; rfl) (Steps.refl _) (argsL := [(.ref b43)]) (rest := []) (lenOf pd_4 rfl) rfl (by show 2 * 0 + _ ≤ _; exact Nat.le_of_eq rfl) (hb hby at_184) (fun _ _ => ⟨rfl, rfl, (by decide : 2 + 0 ≤ _), (by decide : 10 + 0 ≤ _)⟩)
  dsimp only [Pt.U, Pt.locs, Pt.cells, Pt.slots] at X60 l60 y60 z60 st60 hQ60
  subst l60 y60 z60
  obtain ⟨rfl, N60q, e60⟩ := hQ60
  have N60 := Fr.app N48 N60q
  have P62 : Rch p e below (s₁.setTop (entryFrame m #[(.int p1), (.int p2), (.int p3), (.long q4), (.long q5), (.int p6)] maxLocals)) (T60.setTop (mkF m 187 #[.val (.int p1), .val (.int p2), .val (.int p3), .val (.long q4), .second, .val (.long q5), .second, .val (.int p6), .val (.ref r4), .val (.ref r9), .val (.int v13), .val (.int v18), .val (.int v23), .val (.long v28), .second, .val (.int v33), .val (.ref b36), .val (.ref b43), .val (.int v57), .unset, .unset, .unset, .unset, .unset] [(.int (own_eqf p1 r4 p3 q4 (nar .boolean v13) v23 r9 v33 v28 (nar .boolean v18)))])) := fun t k => P59 t (st60.trans k)
  obtain ⟨x63, hx63⟩ : ∃ z : Int32, z = (own_eqf p1 r4 p3 q4 (nar .boolean v13) v23 r9 v33 v28 (nar .boolean v18)) := ⟨_, rfl⟩
  rw [← hx63] at P62
  have hE_ : x63 = v57 := by rw [hx63, hv57]; exact own_sw1 (s1 := v13) (s2 := v18) (own_b01 hv13) (own_b01 hv18) _ _ _ _ _ _ _ _
  have P64 : Rch p e below (s₁.setTop (entryFrame m #[(.int p1), (.int p2), (.int p3), (.long q4), (.long q5), (.int p6)] maxLocals)) (T60.setTop (mkF m 187 #[.val (.int p1), .val (.int p2), .val (.int p3), .val (.long q4), .second, .val (.long q5), .second, .val (.int p6), .val (.ref r4), .val (.ref r9), .val (.int v13), .val (.int v18), .val (.int v23), .val (.long v28), .second, .val (.int v33), .val (.ref b36), .val (.ref b43), .val (.int v57), .unset, .unset, .unset, .unset, .unset] [(.int v57)])) := by have q_ := P62; rw [hE_] at q_; exact q_
  have P65 : Rch p e below (s₁.setTop (entryFrame m #[(.int p1), (.int p2), (.int p3), (.long q4), (.long q5), (.int p6)] maxLocals)) (T60.setTop (mkF m 193 #[.val (.int p1), .val (.int p2), .val (.int p3), .val (.long q4), .second, .val (.long q5), .second, .val (.int p6), .val (.ref r4), .val (.ref r9), .val (.int v13), .val (.int v18), .val (.int v23), .val (.long v28), .second, .val (.int v33), .val (.ref b36), .val (.ref b43), .val (.int v57), .val (.int v57), .unset, .unset, .unset, .unset] [(.ref b36), (.ref b43)])) := fun t k => P64 t (by
    show Steps p.tables e below (T60.setTop (mkF m 187 #[.val (.int p1), .val (.int p2), .val (.int p3), .val (.long q4), .second, .val (.long q5), .second, .val (.int p6), .val (.ref r4), .val (.ref r9), .val (.int v13), .val (.int v18), .val (.int v23), .val (.long v28), .second, .val (.int v33), .val (.ref b36), .val (.ref b43), .val (.int v57), .unset, .unset, .unset, .unset, .unset] [(.int v57)])) t
    refine XS.istore X60.here hx rfl (hb hby at_187) rfl (l' := #[.val (.int p1), .val (.int p2), .val (.int p3), .val (.long q4), .second, .val (.long q5), .second, .val (.int p6), .val (.ref r4), .val (.ref r9), .val (.int v13), .val (.int v18), .val (.int v23), .val (.long v28), .second, .val (.int v33), .val (.ref b36), .val (.ref b43), .val (.int v57), .val (.int v57), .unset, .unset, .unset, .unset]) rfl ?_
    show Steps p.tables e below (T60.setTop (mkF m 189 #[.val (.int p1), .val (.int p2), .val (.int p3), .val (.long q4), .second, .val (.long q5), .second, .val (.int p6), .val (.ref r4), .val (.ref r9), .val (.int v13), .val (.int v18), .val (.int v23), .val (.long v28), .second, .val (.int v33), .val (.ref b36), .val (.ref b43), .val (.int v57), .val (.int v57), .unset, .unset, .unset, .unset] [])) t
    refine XS.aload X60.here hx rfl (hb hby at_189) rfl rfl ?_
    show Steps p.tables e below (T60.setTop (mkF m 191 #[.val (.int p1), .val (.int p2), .val (.int p3), .val (.long q4), .second, .val (.long q5), .second, .val (.int p6), .val (.ref r4), .val (.ref r9), .val (.int v13), .val (.int v18), .val (.int v23), .val (.long v28), .second, .val (.int v33), .val (.ref b36), .val (.ref b43), .val (.int v57), .val (.int v57), .unset, .unset, .unset, .unset] [(.ref b43)])) t
    refine XS.aload X60.here hx rfl (hb hby at_191) rfl rfl ?_
    exact k)
  obtain ⟨cq66, kq66, q66a, q66b, q66c⟩ := isOf hZ e60 E_48
  obtain ⟨_, _, ⟨T66, L66, k66, n66⟩, -, X66, ⟨Lc66, hQ66, l66, y66, z66⟩, st66⟩ := X60.virtualBack hx (y := (⟨"com/example/usher/usher/server/MemberStatus", "equals", "(Ljava/lang/Object;)Z"⟩ : MethodName)) (z := (⟨"com/example/usher/usher/server/MemberStatus", "equals", "(Ljava/lang/Object;)Z"⟩ : MethodName)) hown (mvT hZ (hw _ (List.mem_of_getElem? (i := 27) rfl))) (mvT hZ (hw _ (List.mem_of_getElem? (i := 28) rfl))) (notFace_of_selects (args := #[]) (mvT hZ (hw _ (List.mem_of_getElem? (i := 30) rfl)))) (mvT hZ (hw _ (List.mem_of_getElem? (i := 30) rfl))) (mvT hZ (hw _ (List.mem_of_getElem? (i := 29) rfl))) (by decide) (backOf (W := 0) (rmE1 l Z a0 hw [] b43 b36 v23 r9 v33 v28 (nar .boolean v18) p1 r4 p3 q4 (nar .boolean v13) T48.heap n0 f61 ((E_39.ext E43).keep K48) G0_48 G1_48 G2_48 G3_48 G4_48 ((G0_39.ext E43).keep K48 (ninS ne_b36_b43 nin0)) ((G1_39.ext E43).keep K48 (ninS ne_b36_b43 nin0)) ((G2_39.ext E43).keep K48 (ninS ne_b36_b43 nin0)) ((G3_39.ext E43).keep K48 (ninS ne_b36_b43 nin0)) ((G4_39.ext E43).keep K48 (ninS ne_b36_b43 nin0))) hZ (hw _ (List.mem_of_getElem? (i := 31) rfl)) (hw _ (List.mem_of_getElem? (i := 10) rfl)) (by decide) (by decide)) q66a q66c (g := (mkF m 193 #[.val (.int p1), .val (.int p2), .val (.int p3), .val (.long q4), .second, .val (.long q5), .second, .val (.int p6), .val (.ref r4), .val (.ref r9), .val (.int v13), .val (.int v18), .val (.int v23), .val (.long v28), .second, .val (.int v33), .val (.ref b36), .val (.ref b43), .val (.int v57), .val (.int v57), .unset, .unset, .unset, .unset] [(.ref b36), (.ref b43)])) rfl (by rw [hml]; rfl) (Steps.refl _) (argsL := [(.ref b36)]) (rest := []) (lenOf pd_4 rfl) rfl (by show 2 * 0 + _ ≤ _; exact Nat.le_of_eq rfl) (hb hby at_193) (fun _ _ => ⟨rfl, e60, (by decide : 2 + 0 ≤ _), (by decide : 10 + 0 ≤ _)⟩)
  dsimp only [Pt.U, Pt.locs, Pt.cells, Pt.slots] at X66 l66 y66 z66 st66 hQ66
  subst l66 y66 z66
  obtain ⟨rfl, N66q, e66⟩ := hQ66
  have N66 := Fr.app N60 N66q
  have P67 : Rch p e below (s₁.setTop (entryFrame m #[(.int p1), (.int p2), (.int p3), (.long q4), (.long q5), (.int p6)] maxLocals)) (T66.setTop (mkF m 196 #[.val (.int p1), .val (.int p2), .val (.int p3), .val (.long q4), .second, .val (.long q5), .second, .val (.int p6), .val (.ref r4), .val (.ref r9), .val (.int v13), .val (.int v18), .val (.int v23), .val (.long v28), .second, .val (.int v33), .val (.ref b36), .val (.ref b43), .val (.int v57), .val (.int v57), .unset, .unset, .unset, .unset] [(.int (own_eqf v23 r9 v33 v28 (nar .boolean v18) p1 r4 p3 q4 (nar .boolean v13)))])) := fun t k => P65 t (st66.trans k)
  obtain ⟨x68, hx68⟩ : ∃ z : Int32, z = (own_eqf v23 r9 v33 v28 (nar .boolean v18) p1 r4 p3 q4 (nar .boolean v13)) := ⟨_, rfl⟩
  rw [← hx68] at P67
  have hE_ : x68 = v57 := by rw [hx68, hv57]; exact own_sw2 (s1 := v13) (s2 := v18) (own_b01 hv13) (own_b01 hv18) _ _ _ _ _ _ _ _
  have P69 : Rch p e below (s₁.setTop (entryFrame m #[(.int p1), (.int p2), (.int p3), (.long q4), (.long q5), (.int p6)] maxLocals)) (T66.setTop (mkF m 196 #[.val (.int p1), .val (.int p2), .val (.int p3), .val (.long q4), .second, .val (.long q5), .second, .val (.int p6), .val (.ref r4), .val (.ref r9), .val (.int v13), .val (.int v18), .val (.int v23), .val (.long v28), .second, .val (.int v33), .val (.ref b36), .val (.ref b43), .val (.int v57), .val (.int v57), .unset, .unset, .unset, .unset] [(.int v57)])) := by have q_ := P67; rw [hE_] at q_; exact q_
  have P70 : Rch p e below (s₁.setTop (entryFrame m #[(.int p1), (.int p2), (.int p3), (.long q4), (.long q5), (.int p6)] maxLocals)) (T66.setTop (mkF m 202 #[.val (.int p1), .val (.int p2), .val (.int p3), .val (.long q4), .second, .val (.long q5), .second, .val (.int p6), .val (.ref r4), .val (.ref r9), .val (.int v13), .val (.int v18), .val (.int v23), .val (.long v28), .second, .val (.int v33), .val (.ref b36), .val (.ref b43), .val (.int v57), .val (.int v57), .val (.int v57), .unset, .unset, .unset] [(.ref b36), (.ref b36)])) := fun t k => P69 t (by
    show Steps p.tables e below (T66.setTop (mkF m 196 #[.val (.int p1), .val (.int p2), .val (.int p3), .val (.long q4), .second, .val (.long q5), .second, .val (.int p6), .val (.ref r4), .val (.ref r9), .val (.int v13), .val (.int v18), .val (.int v23), .val (.long v28), .second, .val (.int v33), .val (.ref b36), .val (.ref b43), .val (.int v57), .val (.int v57), .unset, .unset, .unset, .unset] [(.int v57)])) t
    refine XS.istore X66.here hx rfl (hb hby at_196) rfl (l' := #[.val (.int p1), .val (.int p2), .val (.int p3), .val (.long q4), .second, .val (.long q5), .second, .val (.int p6), .val (.ref r4), .val (.ref r9), .val (.int v13), .val (.int v18), .val (.int v23), .val (.long v28), .second, .val (.int v33), .val (.ref b36), .val (.ref b43), .val (.int v57), .val (.int v57), .val (.int v57), .unset, .unset, .unset]) rfl ?_
    show Steps p.tables e below (T66.setTop (mkF m 198 #[.val (.int p1), .val (.int p2), .val (.int p3), .val (.long q4), .second, .val (.long q5), .second, .val (.int p6), .val (.ref r4), .val (.ref r9), .val (.int v13), .val (.int v18), .val (.int v23), .val (.long v28), .second, .val (.int v33), .val (.ref b36), .val (.ref b43), .val (.int v57), .val (.int v57), .val (.int v57), .unset, .unset, .unset] [])) t
    refine XS.aload X66.here hx rfl (hb hby at_198) rfl rfl ?_
    show Steps p.tables e below (T66.setTop (mkF m 200 #[.val (.int p1), .val (.int p2), .val (.int p3), .val (.long q4), .second, .val (.long q5), .second, .val (.int p6), .val (.ref r4), .val (.ref r9), .val (.int v13), .val (.int v18), .val (.int v23), .val (.long v28), .second, .val (.int v33), .val (.ref b36), .val (.ref b43), .val (.int v57), .val (.int v57), .val (.int v57), .unset, .unset, .unset] [(.ref b36)])) t
    refine XS.aload X66.here hx rfl (hb hby at_200) rfl rfl ?_
    exact k)
  obtain ⟨cq71, kq71, q71a, q71b, q71c⟩ := isOf hZ e66 ((E_39.ext E43).keep K48)
  obtain ⟨_, _, ⟨T71, L71, k71, n71⟩, -, X71, ⟨Lc71, hQ71, l71, y71, z71⟩, st71⟩ := X66.virtualBack hx (y := (⟨"com/example/usher/usher/server/MemberStatus", "equals", "(Ljava/lang/Object;)Z"⟩ : MethodName)) (z := (⟨"com/example/usher/usher/server/MemberStatus", "equals", "(Ljava/lang/Object;)Z"⟩ : MethodName)) hown (mvT hZ (hw _ (List.mem_of_getElem? (i := 27) rfl))) (mvT hZ (hw _ (List.mem_of_getElem? (i := 28) rfl))) (notFace_of_selects (args := #[]) (mvT hZ (hw _ (List.mem_of_getElem? (i := 30) rfl)))) (mvT hZ (hw _ (List.mem_of_getElem? (i := 30) rfl))) (mvT hZ (hw _ (List.mem_of_getElem? (i := 29) rfl))) (by decide) (backOf (W := 0) (rmE1 l Z a0 hw [] b36 b36 p1 r4 p3 q4 (nar .boolean v13) p1 r4 p3 q4 (nar .boolean v13) T48.heap n0 f61 ((E_39.ext E43).keep K48) ((G0_39.ext E43).keep K48 (ninS ne_b36_b43 nin0)) ((G1_39.ext E43).keep K48 (ninS ne_b36_b43 nin0)) ((G2_39.ext E43).keep K48 (ninS ne_b36_b43 nin0)) ((G3_39.ext E43).keep K48 (ninS ne_b36_b43 nin0)) ((G4_39.ext E43).keep K48 (ninS ne_b36_b43 nin0)) ((G0_39.ext E43).keep K48 (ninS ne_b36_b43 nin0)) ((G1_39.ext E43).keep K48 (ninS ne_b36_b43 nin0)) ((G2_39.ext E43).keep K48 (ninS ne_b36_b43 nin0)) ((G3_39.ext E43).keep K48 (ninS ne_b36_b43 nin0)) ((G4_39.ext E43).keep K48 (ninS ne_b36_b43 nin0))) hZ (hw _ (List.mem_of_getElem? (i := 31) rfl)) (hw _ (List.mem_of_getElem? (i := 10) rfl)) (by decide) (by decide)) q71a q71c (g := (mkF m 202 #[.val (.int p1), .val (.int p2), .val (.int p3), .val (.long q4), .second, .val (.long q5), .second, .val (.int p6), .val (.ref r4), .val (.ref r9), .val (.int v13), .val (.int v18), .val (.int v23), .val (.long v28), .second, .val (.int v33), .val (.ref b36), .val (.ref b43), .val (.int v57), .val (.int v57), .val (.int v57), .unset, .unset, .unset] [(.ref b36), (.ref b36)])) rfl (by rw [hml]; rfl) (Steps.refl _) (argsL := [(.ref b36)]) (rest := []) (lenOf pd_4 rfl) rfl (by show 2 * 0 + _ ≤ _; exact Nat.le_of_eq rfl) (hb hby at_202) (fun _ _ => ⟨rfl, e66, (by decide : 2 + 0 ≤ _), (by decide : 10 + 0 ≤ _)⟩)
  dsimp only [Pt.U, Pt.locs, Pt.cells, Pt.slots] at X71 l71 y71 z71 st71 hQ71
  subst l71 y71 z71
  obtain ⟨rfl, N71q, e71⟩ := hQ71
  have N71 := Fr.app N66 N71q
  have P72 : Rch p e below (s₁.setTop (entryFrame m #[(.int p1), (.int p2), (.int p3), (.long q4), (.long q5), (.int p6)] maxLocals)) (T71.setTop (mkF m 205 #[.val (.int p1), .val (.int p2), .val (.int p3), .val (.long q4), .second, .val (.long q5), .second, .val (.int p6), .val (.ref r4), .val (.ref r9), .val (.int v13), .val (.int v18), .val (.int v23), .val (.long v28), .second, .val (.int v33), .val (.ref b36), .val (.ref b43), .val (.int v57), .val (.int v57), .val (.int v57), .unset, .unset, .unset] [(.int (own_eqf p1 r4 p3 q4 (nar .boolean v13) p1 r4 p3 q4 (nar .boolean v13)))])) := fun t k => P70 t (st71.trans k)
  obtain ⟨x73, hx73⟩ : ∃ z : Int32, z = (own_eqf p1 r4 p3 q4 (nar .boolean v13) p1 r4 p3 q4 (nar .boolean v13)) := ⟨_, rfl⟩
  rw [← hx73] at P72
  have hC : x73 = (1 : Int32) := by rw [hx73]; exact own_sw3 _ _ _ _ _
  have P74 : Rch p e below (s₁.setTop (entryFrame m #[(.int p1), (.int p2), (.int p3), (.long q4), (.long q5), (.int p6)] maxLocals)) (T71.setTop (mkF m 205 #[.val (.int p1), .val (.int p2), .val (.int p3), .val (.long q4), .second, .val (.long q5), .second, .val (.int p6), .val (.ref r4), .val (.ref r9), .val (.int v13), .val (.int v18), .val (.int v23), .val (.long v28), .second, .val (.int v33), .val (.ref b36), .val (.ref b43), .val (.int v57), .val (.int v57), .val (.int v57), .unset, .unset, .unset] [(.int (1 : Int32))])) := by have q_ := P72; rw [hC] at q_; exact q_
  have P75 : Rch p e below (s₁.setTop (entryFrame m #[(.int p1), (.int p2), (.int p3), (.long q4), (.long q5), (.int p6)] maxLocals)) (T71.setTop (mkF m 210 #[.val (.int p1), .val (.int p2), .val (.int p3), .val (.long q4), .second, .val (.long q5), .second, .val (.int p6), .val (.ref r4), .val (.ref r9), .val (.int v13), .val (.int v18), .val (.int v23), .val (.long v28), .second, .val (.int v33), .val (.ref b36), .val (.ref b43), .val (.int v57), .val (.int v57), .val (.int v57), .val (.int (1 : Int32)), .unset, .unset] [.null, (.ref b36)])) := fun t k => P74 t (by
    show Steps p.tables e below (T71.setTop (mkF m 205 #[.val (.int p1), .val (.int p2), .val (.int p3), .val (.long q4), .second, .val (.long q5), .second, .val (.int p6), .val (.ref r4), .val (.ref r9), .val (.int v13), .val (.int v18), .val (.int v23), .val (.long v28), .second, .val (.int v33), .val (.ref b36), .val (.ref b43), .val (.int v57), .val (.int v57), .val (.int v57), .unset, .unset, .unset] [(.int (1 : Int32))])) t
    refine XS.istore X71.here hx rfl (hb hby at_205) rfl (l' := #[.val (.int p1), .val (.int p2), .val (.int p3), .val (.long q4), .second, .val (.long q5), .second, .val (.int p6), .val (.ref r4), .val (.ref r9), .val (.int v13), .val (.int v18), .val (.int v23), .val (.long v28), .second, .val (.int v33), .val (.ref b36), .val (.ref b43), .val (.int v57), .val (.int v57), .val (.int v57), .val (.int (1 : Int32)), .unset, .unset]) rfl ?_
    show Steps p.tables e below (T71.setTop (mkF m 207 #[.val (.int p1), .val (.int p2), .val (.int p3), .val (.long q4), .second, .val (.long q5), .second, .val (.int p6), .val (.ref r4), .val (.ref r9), .val (.int v13), .val (.int v18), .val (.int v23), .val (.long v28), .second, .val (.int v33), .val (.ref b36), .val (.ref b43), .val (.int v57), .val (.int v57), .val (.int v57), .val (.int (1 : Int32)), .unset, .unset] [])) t
    refine XS.aload X71.here hx rfl (hb hby at_207) rfl rfl ?_
    show Steps p.tables e below (T71.setTop (mkF m 209 #[.val (.int p1), .val (.int p2), .val (.int p3), .val (.long q4), .second, .val (.long q5), .second, .val (.int p6), .val (.ref r4), .val (.ref r9), .val (.int v13), .val (.int v18), .val (.int v23), .val (.long v28), .second, .val (.int v33), .val (.ref b36), .val (.ref b43), .val (.int v57), .val (.int v57), .val (.int v57), .val (.int (1 : Int32)), .unset, .unset] [(.ref b36)])) t
    refine XS.aconstNull X71.here hx rfl (hb hby at_209) ?_
    exact k)
  obtain ⟨cq76, kq76, q76a, q76b, q76c⟩ := isOf hZ e71 ((E_39.ext E43).keep K48)
  obtain ⟨_, _, ⟨T76, L76, k76, n76⟩, -, X76, ⟨Lc76, hQ76, l76, y76, z76⟩, st76⟩ := X71.virtualBack hx (y := (⟨"com/example/usher/usher/server/MemberStatus", "equals", "(Ljava/lang/Object;)Z"⟩ : MethodName)) (z := (⟨"com/example/usher/usher/server/MemberStatus", "equals", "(Ljava/lang/Object;)Z"⟩ : MethodName)) hown (mvT hZ (hw _ (List.mem_of_getElem? (i := 27) rfl))) (mvT hZ (hw _ (List.mem_of_getElem? (i := 28) rfl))) (notFace_of_selects (args := #[]) (mvT hZ (hw _ (List.mem_of_getElem? (i := 30) rfl)))) (mvT hZ (hw _ (List.mem_of_getElem? (i := 30) rfl))) (mvT hZ (hw _ (List.mem_of_getElem? (i := 29) rfl))) (by decide) (backOf (W := 0) (rmE0 l Z a0 hw [] b36 T48.heap n0 f61 ) hZ (hw _ (List.mem_of_getElem? (i := 31) rfl)) (hw _ (List.mem_of_getElem? (i := 10) rfl)) (by decide) (by decide)) q76a q76c (g := (mkF m 210 #[.val (.int p1), .val (.int p2), .val (.int p3), .val (.long q4), .second, .val (.long q5), .second, .val (.int p6), .val (.ref r4), .val (.ref r9), .val (.int v13), .val (.int v18), .val (.int v23), .val (.long v28), .second, .val (.int v33), .val (.ref b36), .val (.ref b43), .val (.int v57), .val (.int v57), .val (.int v57), .val (.int (1 : Int32)), .unset, .unset] [.null, (.ref b36)])) rfl (by rw [hml]; rfl) (Steps.refl _) (argsL := [.null]) (rest := []) (lenOf pd_4 rfl) rfl (by show 2 * 0 + _ ≤ _; exact Nat.le_of_eq rfl) (hb hby at_210) (fun _ _ => ⟨rfl, e71, (by decide : 2 + 0 ≤ _), (by decide : 10 + 0 ≤ _)⟩)
  dsimp only [Pt.U, Pt.locs, Pt.cells, Pt.slots] at X76 l76 y76 z76 st76 hQ76
  subst l76 y76 z76
  obtain ⟨rfl, N76q, e76⟩ := hQ76
  have N76 := Fr.app N71 N76q
  have P77 : Rch p e below (s₁.setTop (entryFrame m #[(.int p1), (.int p2), (.int p3), (.long q4), (.long q5), (.int p6)] maxLocals)) (T76.setTop (mkF m 213 #[.val (.int p1), .val (.int p2), .val (.int p3), .val (.long q4), .second, .val (.long q5), .second, .val (.int p6), .val (.ref r4), .val (.ref r9), .val (.int v13), .val (.int v18), .val (.int v23), .val (.long v28), .second, .val (.int v33), .val (.ref b36), .val (.ref b43), .val (.int v57), .val (.int v57), .val (.int v57), .val (.int (1 : Int32)), .unset, .unset] [(.int (0 : Int32))])) := fun t k => P75 t (st76.trans k)
  have P78 : Rch p e below (s₁.setTop (entryFrame m #[(.int p1), (.int p2), (.int p3), (.long q4), (.long q5), (.int p6)] maxLocals)) (T76.setTop (mkF m 218 #[.val (.int p1), .val (.int p2), .val (.int p3), .val (.long q4), .second, .val (.long q5), .second, .val (.int p6), .val (.ref r4), .val (.ref r9), .val (.int v13), .val (.int v18), .val (.int v23), .val (.long v28), .second, .val (.int v33), .val (.ref b36), .val (.ref b43), .val (.int v57), .val (.int v57), .val (.int v57), .val (.int (1 : Int32)), .val (.int (0 : Int32)), .unset] [(.int p1), (.ref b36)])) := fun t k => P77 t (by
    show Steps p.tables e below (T76.setTop (mkF m 213 #[.val (.int p1), .val (.int p2), .val (.int p3), .val (.long q4), .second, .val (.long q5), .second, .val (.int p6), .val (.ref r4), .val (.ref r9), .val (.int v13), .val (.int v18), .val (.int v23), .val (.long v28), .second, .val (.int v33), .val (.ref b36), .val (.ref b43), .val (.int v57), .val (.int v57), .val (.int v57), .val (.int (1 : Int32)), .unset, .unset] [(.int (0 : Int32))])) t
    refine XS.istore X76.here hx rfl (hb hby at_213) rfl (l' := #[.val (.int p1), .val (.int p2), .val (.int p3), .val (.long q4), .second, .val (.long q5), .second, .val (.int p6), .val (.ref r4), .val (.ref r9), .val (.int v13), .val (.int v18), .val (.int v23), .val (.long v28), .second, .val (.int v33), .val (.ref b36), .val (.ref b43), .val (.int v57), .val (.int v57), .val (.int v57), .val (.int (1 : Int32)), .val (.int (0 : Int32)), .unset]) rfl ?_
    show Steps p.tables e below (T76.setTop (mkF m 215 #[.val (.int p1), .val (.int p2), .val (.int p3), .val (.long q4), .second, .val (.long q5), .second, .val (.int p6), .val (.ref r4), .val (.ref r9), .val (.int v13), .val (.int v18), .val (.int v23), .val (.long v28), .second, .val (.int v33), .val (.ref b36), .val (.ref b43), .val (.int v57), .val (.int v57), .val (.int v57), .val (.int (1 : Int32)), .val (.int (0 : Int32)), .unset] [])) t
    refine XS.aload X76.here hx rfl (hb hby at_215) rfl rfl ?_
    show Steps p.tables e below (T76.setTop (mkF m 217 #[.val (.int p1), .val (.int p2), .val (.int p3), .val (.long q4), .second, .val (.long q5), .second, .val (.int p6), .val (.ref r4), .val (.ref r9), .val (.int v13), .val (.int v18), .val (.int v23), .val (.long v28), .second, .val (.int v33), .val (.ref b36), .val (.ref b43), .val (.int v57), .val (.int v57), .val (.int v57), .val (.int (1 : Int32)), .val (.int (0 : Int32)), .unset] [(.ref b36)])) t
    refine XS.iloadN X76.here hx rfl (hb hby at_217) rfl ?_
    exact k)
  have f80 : Old Z n0 T48.heap := ((((O0.ext E36).keep K39 (allS g_b36 all0)).ext E43).keep K48 (allS g_b43 all0))
  obtain ⟨_, _, ⟨T79, L79, k79, n79⟩, -, X79, ⟨Lc79, hQ79, l79, y79, z79⟩, st79⟩ := Jvm.LawKit.callS X76 hx (y := (⟨"java/lang/Integer", "valueOf", "(I)Ljava/lang/Integer;"⟩ : MethodName)) hown (mvT hZ (hw _ (List.mem_of_getElem? (i := 34) rfl))) (mvT hZ (hw _ (List.mem_of_getElem? (i := 35) rfl))) (mvT hZ (hw _ (List.mem_of_getElem? (i := 36) rfl))) (mvT hZ (hw _ (List.mem_of_getElem? (i := 37) rfl))) (by decide) (backOf (W := 1) (rmVal l Z a0 hw [] p1 aC kC vC T48.heap n0 f61 f80 Shi Sca Vca hca) hZ (hw _ (List.mem_of_getElem? (i := 37) rfl)) (hw _ (List.mem_of_getElem? (i := 36) rfl)) (by decide) (by decide)) (g := (mkF m 218 #[.val (.int p1), .val (.int p2), .val (.int p3), .val (.long q4), .second, .val (.long q5), .second, .val (.int p6), .val (.ref r4), .val (.ref r9), .val (.int v13), .val (.int v18), .val (.int v23), .val (.long v28), .second, .val (.int v33), .val (.ref b36), .val (.ref b43), .val (.int v57), .val (.int v57), .val (.int v57), .val (.int (1 : Int32)), .val (.int (0 : Int32)), .unset] [(.int p1), (.ref b36)])) rfl (by rw [hml]; rfl) (argsL := [(.int p1)]) (rest := [(.ref b36)]) (lenOf pd_5 rfl) rfl (by show 2 * 0 + _ ≤ _; exact Nat.le_of_eq rfl) (hb hby at_218) (fun _ _ => ⟨rfl, e76, (by decide : 2 + 1 ≤ _), (by decide : 10 + 1 ≤ _)⟩)
  dsimp only [Pt.U, Pt.locs, Pt.cells, Pt.slots] at X79 l79 y79 z79 st79 hQ79
  subst l79 y79 z79
  obtain ⟨r__79, rfl, N79q, K79, E_79⟩ := hQ79
  have N79 := Fr.app N76 N79q
  have P81 : Rch p e below (s₁.setTop (entryFrame m #[(.int p1), (.int p2), (.int p3), (.long q4), (.long q5), (.int p6)] maxLocals)) (T79.setTop (mkF m 221 #[.val (.int p1), .val (.int p2), .val (.int p3), .val (.long q4), .second, .val (.long q5), .second, .val (.int p6), .val (.ref r4), .val (.ref r9), .val (.int v13), .val (.int v18), .val (.int v23), .val (.long v28), .second, .val (.int v33), .val (.ref b36), .val (.ref b43), .val (.int v57), .val (.int v57), .val (.int v57), .val (.int (1 : Int32)), .val (.int (0 : Int32)), .unset] [(.ref r__79), (.ref b36)])) := fun t k => P78 t (st79 t k)
  have f83 : n0 ≤ T79.heap.size := (Nat.le_trans f61 K79.1)
  obtain ⟨cq82, kq82, q82a, q82b, q82c⟩ := isOf hZ rfl (((E_39.ext E43).keep K48).keep K79)
  obtain ⟨_, _, ⟨T82, L82, k82, n82⟩, -, X82, ⟨Lc82, hQ82, l82, y82, z82⟩, st82⟩ := X79.virtualBack hx (y := (⟨"com/example/usher/usher/server/MemberStatus", "equals", "(Ljava/lang/Object;)Z"⟩ : MethodName)) (z := (⟨"com/example/usher/usher/server/MemberStatus", "equals", "(Ljava/lang/Object;)Z"⟩ : MethodName)) hown (mvT hZ (hw _ (List.mem_of_getElem? (i := 27) rfl))) (mvT hZ (hw _ (List.mem_of_getElem? (i := 28) rfl))) (notFace_of_selects (args := #[]) (mvT hZ (hw _ (List.mem_of_getElem? (i := 30) rfl)))) (mvT hZ (hw _ (List.mem_of_getElem? (i := 30) rfl))) (mvT hZ (hw _ (List.mem_of_getElem? (i := 29) rfl))) (by decide) (backOf (W := 0) (rmE3 l Z a0 hw [] b36 r__79 T79.heap n0 f83 E_79) hZ (hw _ (List.mem_of_getElem? (i := 31) rfl)) (hw _ (List.mem_of_getElem? (i := 10) rfl)) (by decide) (by decide)) q82a q82c (g := (mkF m 221 #[.val (.int p1), .val (.int p2), .val (.int p3), .val (.long q4), .second, .val (.long q5), .second, .val (.int p6), .val (.ref r4), .val (.ref r9), .val (.int v13), .val (.int v18), .val (.int v23), .val (.long v28), .second, .val (.int v33), .val (.ref b36), .val (.ref b43), .val (.int v57), .val (.int v57), .val (.int v57), .val (.int (1 : Int32)), .val (.int (0 : Int32)), .unset] [(.ref r__79), (.ref b36)])) rfl (by rw [hml]; rfl) (Steps.refl _) (argsL := [(.ref r__79)]) (rest := []) (lenOf pd_4 rfl) rfl (by show 2 * 0 + _ ≤ _; exact Nat.le_of_eq rfl) (hb hby at_221) (fun _ _ => ⟨rfl, rfl, (by decide : 3 + 0 ≤ _), (by decide : 11 + 0 ≤ _)⟩)
  dsimp only [Pt.U, Pt.locs, Pt.cells, Pt.slots] at X82 l82 y82 z82 st82 hQ82
  subst l82 y82 z82
  obtain ⟨rfl, N82q, e82⟩ := hQ82
  have N82 := Fr.app N79 N82q
  have P84 : Rch p e below (s₁.setTop (entryFrame m #[(.int p1), (.int p2), (.int p3), (.long q4), (.long q5), (.int p6)] maxLocals)) (T82.setTop (mkF m 224 #[.val (.int p1), .val (.int p2), .val (.int p3), .val (.long q4), .second, .val (.long q5), .second, .val (.int p6), .val (.ref r4), .val (.ref r9), .val (.int v13), .val (.int v18), .val (.int v23), .val (.long v28), .second, .val (.int v33), .val (.ref b36), .val (.ref b43), .val (.int v57), .val (.int v57), .val (.int v57), .val (.int (1 : Int32)), .val (.int (0 : Int32)), .unset] [(.int (0 : Int32))])) := fun t k => P81 t (st82.trans k)
  have P85 : Rch p e below (s₁.setTop (entryFrame m #[(.int p1), (.int p2), (.int p3), (.long q4), (.long q5), (.int p6)] maxLocals)) (T82.setTop (mkF m 260 #[.val (.int p1), .val (.int p2), .val (.int p3), .val (.long q4), .second, .val (.long q5), .second, .val (.int p6), .val (.ref r4), .val (.ref r9), .val (.int v13), .val (.int v18), .val (.int v23), .val (.long v28), .second, .val (.int v33), .val (.ref b36), .val (.ref b43), .val (.int v57), .val (.int v57), .val (.int v57), .val (.int (1 : Int32)), .val (.int (0 : Int32)), .val (.int (0 : Int32))] [(.int (1 : Int32))])) := fun t k => P84 t (by
    show Steps p.tables e below (T82.setTop (mkF m 224 #[.val (.int p1), .val (.int p2), .val (.int p3), .val (.long q4), .second, .val (.long q5), .second, .val (.int p6), .val (.ref r4), .val (.ref r9), .val (.int v13), .val (.int v18), .val (.int v23), .val (.long v28), .second, .val (.int v33), .val (.ref b36), .val (.ref b43), .val (.int v57), .val (.int v57), .val (.int v57), .val (.int (1 : Int32)), .val (.int (0 : Int32)), .unset] [(.int (0 : Int32))])) t
    refine XS.istore X82.here hx rfl (hb hby at_224) rfl (l' := #[.val (.int p1), .val (.int p2), .val (.int p3), .val (.long q4), .second, .val (.long q5), .second, .val (.int p6), .val (.ref r4), .val (.ref r9), .val (.int v13), .val (.int v18), .val (.int v23), .val (.long v28), .second, .val (.int v33), .val (.ref b36), .val (.ref b43), .val (.int v57), .val (.int v57), .val (.int v57), .val (.int (1 : Int32)), .val (.int (0 : Int32)), .val (.int (0 : Int32))]) rfl ?_
    show Steps p.tables e below (T82.setTop (mkF m 226 #[.val (.int p1), .val (.int p2), .val (.int p3), .val (.long q4), .second, .val (.long q5), .second, .val (.int p6), .val (.ref r4), .val (.ref r9), .val (.int v13), .val (.int v18), .val (.int v23), .val (.long v28), .second, .val (.int v33), .val (.ref b36), .val (.ref b43), .val (.int v57), .val (.int v57), .val (.int v57), .val (.int (1 : Int32)), .val (.int (0 : Int32)), .val (.int (0 : Int32))] [])) t
    refine XS.iload X82.here hx rfl (hb hby at_226) rfl ?_
    show Steps p.tables e below (T82.setTop (mkF m 228 #[.val (.int p1), .val (.int p2), .val (.int p3), .val (.long q4), .second, .val (.long q5), .second, .val (.int p6), .val (.ref r4), .val (.ref r9), .val (.int v13), .val (.int v18), .val (.int v23), .val (.long v28), .second, .val (.int v33), .val (.ref b36), .val (.ref b43), .val (.int v57), .val (.int v57), .val (.int v57), .val (.int (1 : Int32)), .val (.int (0 : Int32)), .val (.int (0 : Int32))] [(.int v57)])) t
    refine XS.iload X82.here hx rfl (hb hby at_228) rfl ?_
    show Steps p.tables e below (T82.setTop (mkF m 230 #[.val (.int p1), .val (.int p2), .val (.int p3), .val (.long q4), .second, .val (.long q5), .second, .val (.int p6), .val (.ref r4), .val (.ref r9), .val (.int v13), .val (.int v18), .val (.int v23), .val (.long v28), .second, .val (.int v33), .val (.ref b36), .val (.ref b43), .val (.int v57), .val (.int v57), .val (.int v57), .val (.int (1 : Int32)), .val (.int (0 : Int32)), .val (.int (0 : Int32))] [(.int v57), (.int v57)])) t
    refine XS.icmpNo X82.here hx rfl (hb hby at_230) rfl (teq rfl).2 ?_
    show Steps p.tables e below (T82.setTop (mkF m 233 #[.val (.int p1), .val (.int p2), .val (.int p3), .val (.long q4), .second, .val (.long q5), .second, .val (.int p6), .val (.ref r4), .val (.ref r9), .val (.int v13), .val (.int v18), .val (.int v23), .val (.long v28), .second, .val (.int v33), .val (.ref b36), .val (.ref b43), .val (.int v57), .val (.int v57), .val (.int v57), .val (.int (1 : Int32)), .val (.int (0 : Int32)), .val (.int (0 : Int32))] [])) t
    refine XS.iload X82.here hx rfl (hb hby at_233) rfl ?_
    show Steps p.tables e below (T82.setTop (mkF m 235 #[.val (.int p1), .val (.int p2), .val (.int p3), .val (.long q4), .second, .val (.long q5), .second, .val (.int p6), .val (.ref r4), .val (.ref r9), .val (.int v13), .val (.int v18), .val (.int v23), .val (.long v28), .second, .val (.int v33), .val (.ref b36), .val (.ref b43), .val (.int v57), .val (.int v57), .val (.int v57), .val (.int (1 : Int32)), .val (.int (0 : Int32)), .val (.int (0 : Int32))] [(.int v57)])) t
    refine XS.iload X82.here hx rfl (hb hby at_235) rfl ?_
    show Steps p.tables e below (T82.setTop (mkF m 237 #[.val (.int p1), .val (.int p2), .val (.int p3), .val (.long q4), .second, .val (.long q5), .second, .val (.int p6), .val (.ref r4), .val (.ref r9), .val (.int v13), .val (.int v18), .val (.int v23), .val (.long v28), .second, .val (.int v33), .val (.ref b36), .val (.ref b43), .val (.int v57), .val (.int v57), .val (.int v57), .val (.int (1 : Int32)), .val (.int (0 : Int32)), .val (.int (0 : Int32))] [(.int v57), (.int v57)])) t
    refine XS.icmpNo X82.here hx rfl (hb hby at_237) rfl (teq rfl).2 ?_
    show Steps p.tables e below (T82.setTop (mkF m 240 #[.val (.int p1), .val (.int p2), .val (.int p3), .val (.long q4), .second, .val (.long q5), .second, .val (.int p6), .val (.ref r4), .val (.ref r9), .val (.int v13), .val (.int v18), .val (.int v23), .val (.long v28), .second, .val (.int v33), .val (.ref b36), .val (.ref b43), .val (.int v57), .val (.int v57), .val (.int v57), .val (.int (1 : Int32)), .val (.int (0 : Int32)), .val (.int (0 : Int32))] [])) t
    refine XS.iload X82.here hx rfl (hb hby at_240) rfl ?_
    show Steps p.tables e below (T82.setTop (mkF m 242 #[.val (.int p1), .val (.int p2), .val (.int p3), .val (.long q4), .second, .val (.long q5), .second, .val (.int p6), .val (.ref r4), .val (.ref r9), .val (.int v13), .val (.int v18), .val (.int v23), .val (.long v28), .second, .val (.int v33), .val (.ref b36), .val (.ref b43), .val (.int v57), .val (.int v57), .val (.int v57), .val (.int (1 : Int32)), .val (.int (0 : Int32)), .val (.int (0 : Int32))] [(.int (1 : Int32))])) t
    refine XS.ifNo X82.here hx rfl (hb hby at_242) rfl ((if0 _ _).trans (feq (by decide)).1) ?_
    show Steps p.tables e below (T82.setTop (mkF m 245 #[.val (.int p1), .val (.int p2), .val (.int p3), .val (.long q4), .second, .val (.long q5), .second, .val (.int p6), .val (.ref r4), .val (.ref r9), .val (.int v13), .val (.int v18), .val (.int v23), .val (.long v28), .second, .val (.int v33), .val (.ref b36), .val (.ref b43), .val (.int v57), .val (.int v57), .val (.int v57), .val (.int (1 : Int32)), .val (.int (0 : Int32)), .val (.int (0 : Int32))] [])) t
    refine XS.iload X82.here hx rfl (hb hby at_245) rfl ?_
    show Steps p.tables e below (T82.setTop (mkF m 247 #[.val (.int p1), .val (.int p2), .val (.int p3), .val (.long q4), .second, .val (.long q5), .second, .val (.int p6), .val (.ref r4), .val (.ref r9), .val (.int v13), .val (.int v18), .val (.int v23), .val (.long v28), .second, .val (.int v33), .val (.ref b36), .val (.ref b43), .val (.int v57), .val (.int v57), .val (.int v57), .val (.int (1 : Int32)), .val (.int (0 : Int32)), .val (.int (0 : Int32))] [(.int (0 : Int32))])) t
    refine XS.ifNo X82.here hx rfl (hb hby at_247) rfl ((if0 _ _).trans (teq (by decide)).2) ?_
    show Steps p.tables e below (T82.setTop (mkF m 250 #[.val (.int p1), .val (.int p2), .val (.int p3), .val (.long q4), .second, .val (.long q5), .second, .val (.int p6), .val (.ref r4), .val (.ref r9), .val (.int v13), .val (.int v18), .val (.int v23), .val (.long v28), .second, .val (.int v33), .val (.ref b36), .val (.ref b43), .val (.int v57), .val (.int v57), .val (.int v57), .val (.int (1 : Int32)), .val (.int (0 : Int32)), .val (.int (0 : Int32))] [])) t
    refine XS.iload X82.here hx rfl (hb hby at_250) rfl ?_
    show Steps p.tables e below (T82.setTop (mkF m 252 #[.val (.int p1), .val (.int p2), .val (.int p3), .val (.long q4), .second, .val (.long q5), .second, .val (.int p6), .val (.ref r4), .val (.ref r9), .val (.int v13), .val (.int v18), .val (.int v23), .val (.long v28), .second, .val (.int v33), .val (.ref b36), .val (.ref b43), .val (.int v57), .val (.int v57), .val (.int v57), .val (.int (1 : Int32)), .val (.int (0 : Int32)), .val (.int (0 : Int32))] [(.int (0 : Int32))])) t
    refine XS.ifNo X82.here hx rfl (hb hby at_252) rfl ((if0 _ _).trans (teq (by decide)).2) ?_
    show Steps p.tables e below (T82.setTop (mkF m 255 #[.val (.int p1), .val (.int p2), .val (.int p3), .val (.long q4), .second, .val (.long q5), .second, .val (.int p6), .val (.ref r4), .val (.ref r9), .val (.int v13), .val (.int v18), .val (.int v23), .val (.long v28), .second, .val (.int v33), .val (.ref b36), .val (.ref b43), .val (.int v57), .val (.int v57), .val (.int v57), .val (.int (1 : Int32)), .val (.int (0 : Int32)), .val (.int (0 : Int32))] [])) t
    refine XS.iconst X82.here hx rfl (hb hby at_255) ?_
    show Steps p.tables e below (T82.setTop (mkF m 256 #[.val (.int p1), .val (.int p2), .val (.int p3), .val (.long q4), .second, .val (.long q5), .second, .val (.int p6), .val (.ref r4), .val (.ref r9), .val (.int v13), .val (.int v18), .val (.int v23), .val (.long v28), .second, .val (.int v33), .val (.ref b36), .val (.ref b43), .val (.int v57), .val (.int v57), .val (.int v57), .val (.int (1 : Int32)), .val (.int (0 : Int32)), .val (.int (0 : Int32))] [(.int (1 : Int32))])) t
    refine XS.goto X82.here hx rfl (pc0 := 256) (pc' := 260) rfl (hb hby at_256) (by decide) (by decide) ?_
    exact k)
  obtain ⟨fs, hr, hrun, hended, hW, hsame⟩ := X82.leave (v := some (.int (1 : Int32))) (fun h => by rw [Bd.returns] at h; cases h)
  refine ⟨_, _, P85 _ ?_, hrun, hended, _, _, rfl, ?_, ⟨_, rfl⟩, hW, hsame.mono (by decide) (by decide)⟩
  · exact retN X82 hx (t := .boolean) Bd.returns (by simp) (hb hby at_260) hr
  · show Q_rm0 Z p1 p2 p3 q4 q5 p6 aL aF aD aC kC vC h0 n0 _ T82.heap _
    rw [e82]
    exact ⟨rfl, N82⟩
set_option maxRecDepth 65536 in
set_option maxHeartbeats 40000000 in
theorem comes_1 {Post : Tables → Env → Array Value → State → Outcome → State → Prop} (hpost : ∀ tb e args s v u, (limb_1_1.after args s (.returned v) u = true ∧ limb_1_2.after args s (.returned v) u = true ∧ True) → FrameEnd s (.returned v) u (Jvm.fieldLocs frame_1_writes args s ++ Jvm.arrayLocs frame_1_arrays args s ++ Jvm.staticLocs frame_1_statics s) 16 128 → Post tb e args s (.returned v) u) :
    ArmFor flags0 classFile x code maxLocals ret World_1 tables_1 room_1 Calls_1 rest_1 Pre_1 Post := by
  intro l hfl _ _ p e ha hc hk s m args below hf hA hF happ hP
  obtain ⟨hcalls, hrest, hpre⟩ := hP
  obtain ⟨-, -, -, hnamed, -, -, -, hat⟩ := (Spec.applies_iff hf).mp happ
  obtain ⟨hg, hn⟩ := and_e (Cond.before_iff.mp (show (Jvm.Cond.and given_1 narrow_1).before args s = true from hpre))
  obtain ⟨gc, gr0⟩ := and_e hg
  obtain ⟨ga0, gr1⟩ := and_e gr0
  obtain ⟨ga1, gr2⟩ := and_e gr1
  obtain ⟨ga2, gr3⟩ := and_e gr2
  obtain ⟨ga3, gr4⟩ := and_e gr3
  obtain ⟨ga4, gr5⟩ := and_e gr4
  obtain ⟨w0, w1, w2, w3, w4, w5, rfl⟩ : ∃ w0 w1 w2 w3 w4 w5 : Value, args = #[w0, w1, w2, w3, w4, w5] := by
    have hs : args.size = 6 := by simpa [Cond.value, given_1] using gc
    obtain ⟨L⟩ := args
    match L, hs with
    | [w0, w1, w2, w3, w4, w5], _ => exact ⟨w0, w1, w2, w3, w4, w5, rfl⟩
  have hw := fun d (hd : d ∈ tables_1) => atoms_spec (ws := Jvm.Cond.code x code maxLocals ret :: tables_1) hat d (List.mem_cons_of_mem _ hd)
  have hfit : Fit s := fun {y c} hc i hi => by
    obtain ⟨ha, rfl⟩ := Array.getElem?_eq_some_iff.mp hc
    have q := List.all_eq_true.mp ((Array.all_eq_true_iff_forall_mem.mp hF) _ (Array.getElem_mem ha)) i (List.mem_range.mpr hi)
    simpa [Array.getElem?_eq_getElem hi] using q
  obtain ⟨hsets, hown0⟩ := atoms_of _ (rest_1_c_eq ▸ (show rest_1_c.before _ s = true from hrest))
  have hr0 := Cond.before_iff.mp hown0
  obtain ⟨i0, ei0⟩ := is_v ga0
  obtain rfl : w0 = (.int i0) := Option.some.inj ei0
  obtain ⟨i1, ei1⟩ := is_v ga1
  obtain rfl : w1 = (.int i1) := Option.some.inj ei1
  obtain ⟨i2, ei2⟩ := is_v ga2
  obtain rfl : w2 = (.int i2) := Option.some.inj ei2
  obtain ⟨i3, ei3⟩ := isL_v ga3
  obtain rfl : w3 = (.long i3) := Option.some.inj ei3
  obtain ⟨i4, ei4⟩ := isL_v ga4
  obtain rfl : w4 = (.long i4) := Option.some.inj ei4
  obtain ⟨i5, ei5⟩ := is_v gr5
  obtain rfl : w5 = (.int i5) := Option.some.inj ei5
  obtain ⟨k1a, k1b⟩ := and_e hn
  obtain ⟨k2a, k2b⟩ := and_e k1b
  obtain ⟨k3a, k3b⟩ := and_e k2b
  obtain ⟨k4a, k4b⟩ := and_e k3b
  obtain ⟨k5a, k5b⟩ := and_e k4b
  obtain ⟨aL, vaL⟩ := exa_v k1a
  have SaL : Sta s s.heap "com/example/usher/usher/server/MemberStatus$Role" "LOOKING" "Lcom/example/usher/usher/server/MemberStatus$Role;" (.ref aL) := Sta.start vaL (Or.inr ⟨(hw _ (List.mem_of_getElem? (i := 6) rfl)), (hw _ (List.mem_of_getElem? (i := 7) rfl))⟩)
  obtain ⟨aF, vaF⟩ := exa_v k2a
  have SaF : Sta s s.heap "com/example/usher/usher/server/MemberStatus$Role" "FOLLOWING" "Lcom/example/usher/usher/server/MemberStatus$Role;" (.ref aF) := Sta.start vaF (Or.inr ⟨(hw _ (List.mem_of_getElem? (i := 6) rfl)), (hw _ (List.mem_of_getElem? (i := 45) rfl))⟩)
  obtain ⟨aD, vaD⟩ := exa_v k3a
  have SaD : Sta s s.heap "com/example/usher/usher/server/MemberStatus$Role" "LEADING" "Lcom/example/usher/usher/server/MemberStatus$Role;" (.ref aD) := Sta.start vaD (Or.inr ⟨(hw _ (List.mem_of_getElem? (i := 6) rfl)), (hw _ (List.mem_of_getElem? (i := 47) rfl))⟩)
  have kh3 := Cond.before_iff.mp (hsets _ (List.mem_of_getElem? (i := 3) rfl))
  have kh4 := Cond.before_iff.mp (hsets _ (List.mem_of_getElem? (i := 4) rfl))
  have kh6 := Cond.before_iff.mp (hsets _ (List.mem_of_getElem? (i := 6) rfl))
  have kh7 := Cond.before_iff.mp (hsets _ (List.mem_of_getElem? (i := 7) rfl))
  have Shi : Sta s s.heap "java/lang/Integer$IntegerCache" "high" "I" (.int (127 : Int32)) := Sta.start (own_si kh3) (Or.inl (hsets _ (List.mem_of_getElem? (i := 1) rfl)))
  obtain ⟨aC, vaC⟩ := arr_v kh4
  have Sca : Sta s s.heap "java/lang/Integer$IntegerCache" "cache" "[Ljava/lang/Integer;" (.ref aC) := Sta.start vaC (Or.inr ⟨(hw _ (List.mem_of_getElem? (i := 39) rfl)), (hsets _ (List.mem_of_getElem? (i := 2) rfl))⟩)
  obtain ⟨cC, AC⟩ := Arr.start vaC kh4
  obtain ⟨lC1, lC2⟩ := own_len vaC (AC.fin (Vm.Alike.refl _)) kh6
  obtain ⟨Vca, hca⟩ := own_cache hfit (fun _ => vaC) AC lC1 lC2 kh7
  obtain ⟨n, o, h1, h2, h3, _, L, rfl, ⟨rfl, N⟩, hq⟩ := rm0 l s _ hw tables_1 i0 i1 i2 i3 i4 i5 aL aF aD aC cC.cls cC.slots.toList s.heap s.heap.size (Nat.le_refl _) (Old.start s) Shi Sca Vca hca SaL SaF SaD p e ha hc hk s m _ below hf ((Spec.applies_iff_loose hf).mp happ).1 ⟨rfl, State.Warmed39.refl s, rfl⟩ trivial
  refine ⟨n, _, h1, h2, h3, hpost _ _ _ _ _ _ ⟨Cond.after_iff.mpr rfl, Cond.after_iff.mpr (eq_i res_at (Term.int_eval (1)) rfl), trivial⟩ ⟨hq.1, hq.2.1, (hq.2.2.sift fun y hy => Or.inr (N y hy)).mono (by decide) (by decide)⟩⟩
theorem main_1_1 : Claimed_1_1 := comes_1 fun _ _ _ _ _ _ h hF => ⟨h.1, hF⟩
theorem main_1_2 : Claimed_1_2 := comes_1 fun _ _ _ _ _ _ h hF => ⟨h.2.1, hF⟩
end Jvm.Pilot.@@N@@
namespace Jvm.Pilot.@@N@@
open Jvm Jvm.ClassFile Sem Op Lib Jvm.Free Jvm.Stand Jvm.Pilot.@@N@@.Jvm.D
/-! MADE BY PROGRAM (witnessworld.py) out of the Statement's table words and the real class files: 18 classes; the members and pool entries that the words name. The judged class is class 1, her method 2. -/
namespace start1
open Jvm.ClassFile
def u (s : String) : CpInfo := .utf8 (stringToUtf16 s)
/-- a pool by its gaps: so many unusable entries, then the entry; so many at the end -/
def gap : Nat → List CpInfo → List CpInfo
  | 0, r => r
  | n + 1, r => .unusable :: gap n r
def poolList (es : List (Nat × CpInfo)) (last : Nat) : List CpInfo := es.foldr (fun e r => gap e.1 (e.2 :: r)) (gap last [])
def pool (es : List (Nat × CpInfo)) (last : Nat) : Array CpInfo := ⟨poolList es last⟩
def fileOf (pool : Array CpInfo) (this : Nat) (attrs : Array Attribute := #[]) (ms : Array MethodInfo := #[]) (fl : Nat := 33) (sup : Nat := 0) (ifs : Array Nat := #[]) (fds : Array FieldInfo := #[]) : ClassFile where
  minorVersion := 0
  majorVersion := 65
  constantPool := pool
  accessFlags := fl
  thisClass := this
  superClass := sup
  interfaces := ifs
  fields := fds
  methods := ms
  attributes := attrs
def plain (name : String) (sup : Option ClassId) : Class where
  name := name
  kind := .ordinary
  loader := none
  accessFlags := 33
  super := sup
  interfaces := #[]
  cf := none
  fields := #[]
  methods := #[]
  instanceTypes := #[]
  staticTypes := #[]
  resolved := #[]
  callSites := []
  init := .initialized
  statics := none
  mirror := none

def pool0 : Array CpInfo := pool [(5, u "<init>"), (0, u "()V"), (1, .class_ 10), (1, u "java/lang/Object")] 113

def k0c0 : Code := { maxStack := 0, maxLocals := 1, code := object_method_1_code, exceptionTable := #[], attributes := #[] }
def k0m0 : Method := { name := "<init>", desc := "()V", sig := { parameters := [], returnType := none }, accessFlags := 1, code := some k0c0 }
/-- java/lang/Object -/
def k0 : Class := { plain "java/lang/Object" none with
  accessFlags := 33
  interfaces := #[]
  cf := some (fileOf pool0 8 #[] #[{ accessFlags := 1, nameIndex := 5, descriptorIndex := 6, attributes := #[] }] 33 0 #[] #[])
  fields := #[]
  methods := #[k0m0]
  instanceTypes := #[]
  staticTypes := #[]
  resolved := Array.replicate 124 none
  statics := none }

def pool1 : Array CpInfo := pool [(2, .class_ 4), (1, u "java/lang/Object"), (0, u "<init>"), (0, u "()V"), (0, .integer 2147483647), (0, .fieldref 9 10), (0, .class_ 11), (0, .nameAndType 12 13), (0, u "com/example/usher/usher/server/MemberStatus$Role"), (0, u "LOOKING"), (0, u "Lcom/example/usher/usher/server/MemberStatus$Role;"), (0, .fieldref 9 15), (0, .nameAndType 16 13), (0, u "FOLLOWING"), (0, .fieldref 9 18), (0, .nameAndType 19 13), (0, u "LEADING"), (0, .methodref 21 22), (0, .class_ 23), (0, .nameAndType 24 25), (0, u "com/example/usher/usher/server/MemberStatusEqualsPinLaw"), (0, u "role"), (0, u "(I)Lcom/example/usher/usher/server/MemberStatus$Role;"), (0, .class_ 27), (0, u "com/example/usher/usher/server/MemberStatus"), (0, .methodref 26 29), (0, .nameAndType 5 30), (0, u "(ILcom/example/usher/usher/server/MemberStatus$Role;IJZ)V"), (0, .methodref 26 32), (0, .nameAndType 33 34), (0, u "equals"), (0, u "(Ljava/lang/Object;)Z"), (0, .methodref 36 37), (0, .class_ 38), (0, .nameAndType 39 40), (0, u "java/lang/Integer"), (0, u "valueOf"), (0, u "(I)Ljava/lang/Integer;"), (3, u "law"), (0, u "(IIIJJI)Z")] 4

def k1m0 : Method := { name := "<init>", desc := "()V", sig := { parameters := [], returnType := none }, accessFlags := 1, code := none }
def k1c1 : Code := { maxStack := 2, maxLocals := 2, code := method_2_code, exceptionTable := #[], attributes := #[] }
def k1m1 : Method := { name := "role", desc := "(I)Lcom/example/usher/usher/server/MemberStatus$Role;", sig := { parameters := [.int], returnType := some (.object "com/example/usher/usher/server/MemberStatus$Role") }, accessFlags := 10, code := some k1c1 }
def k1c2 : Code := { maxStack := 8, maxLocals := 24, code := code, exceptionTable := #[], attributes := #[] }
def k1m2 : Method := { name := "law", desc := "(IIIJJI)Z", sig := { parameters := [.int, .int, .int, .long, .long, .int], returnType := some .boolean }, accessFlags := 9, code := some k1c2 }
/-- com/example/usher/usher/server/MemberStatusEqualsPinLaw -/
def k1 : Class := { plain "com/example/usher/usher/server/MemberStatusEqualsPinLaw" (some 0) with
  accessFlags := 49
  interfaces := #[]
  cf := some (fileOf pool1 21 #[] #[{ accessFlags := 1, nameIndex := 5, descriptorIndex := 6, attributes := #[] }, { accessFlags := 10, nameIndex := 24, descriptorIndex := 25, attributes := #[] }, { accessFlags := 9, nameIndex := 44, descriptorIndex := 45, attributes := #[] }] 49 2 #[] #[])
  fields := #[]
  methods := #[k1m0, k1m1, k1m2]
  instanceTypes := #[]
  staticTypes := #[]
  resolved := Array.replicate 50 none
  statics := none }

def pool2 : Array CpInfo := pool [(1, .class_ 2), (0, u "java/lang/constant/Constable"), (0, .class_ 4), (0, u "java/lang/Object")] 6

/-- java/lang/constant/Constable -/
def k2 : Class := { plain "java/lang/constant/Constable" (some 0) with
  accessFlags := 1537
  interfaces := #[]
  cf := some (fileOf pool2 1 #[] #[] 1537 3 #[] #[])
  fields := #[]
  methods := #[]
  instanceTypes := #[]
  staticTypes := #[]
  resolved := Array.replicate 11 none
  statics := none }

def pool3 : Array CpInfo := pool [(1, .class_ 2), (0, u "java/lang/Comparable"), (0, .class_ 4), (0, u "java/lang/Object")] 7

/-- java/lang/Comparable -/
def k3 : Class := { plain "java/lang/Comparable" (some 0) with
  accessFlags := 1537
  interfaces := #[]
  cf := some (fileOf pool3 1 #[] #[] 1537 3 #[] #[])
  fields := #[]
  methods := #[]
  instanceTypes := #[]
  staticTypes := #[]
  resolved := Array.replicate 12 none
  statics := none }

def pool4 : Array CpInfo := pool [(1, .class_ 2), (0, u "java/io/Serializable"), (0, .class_ 4), (0, u "java/lang/Object")] 2

/-- java/io/Serializable -/
def k4 : Class := { plain "java/io/Serializable" (some 0) with
  accessFlags := 1537
  interfaces := #[]
  cf := some (fileOf pool4 1 #[] #[] 1537 3 #[] #[])
  fields := #[]
  methods := #[]
  instanceTypes := #[]
  staticTypes := #[]
  resolved := Array.replicate 7 none
  statics := none }

def pool5 : Array CpInfo := pool [(2, .class_ 4), (1, u "java/lang/Enum"), (0, u "name"), (0, u "Ljava/lang/String;"), (2, u "ordinal"), (0, u "I"), (1, .class_ 14), (1, u "java/lang/Object"), (4, u "hash"), (86, .class_ 108), (1, u "java/lang/Enum$EnumDesc"), (2, .class_ 112), (0, u "java/lang/constant/Constable"), (0, .class_ 114), (0, u "java/lang/Comparable"), (0, .class_ 116), (0, u "java/io/Serializable")] 87

/-- java/lang/Enum -/
def k5 : Class := { plain "java/lang/Enum" (some 0) with
  accessFlags := 1057
  interfaces := #[2, 3, 4]
  cf := some (fileOf pool5 2 #[.nestMembers #[106]] #[] 1057 12 #[111, 113, 115] #[{ accessFlags := 18, nameIndex := 5, descriptorIndex := 6, attributes := #[] }, { accessFlags := 18, nameIndex := 9, descriptorIndex := 10, attributes := #[] }, { accessFlags := 2, nameIndex := 19, descriptorIndex := 10, attributes := #[] }])
  fields := #[{ name := "name", type := (.object "java/lang/String"), accessFlags := 18, slot := 0, constantValue := 0 }, { name := "ordinal", type := .int, accessFlags := 18, slot := 1, constantValue := 0 }, { name := "hash", type := .int, accessFlags := 2, slot := 2, constantValue := 0 }]
  methods := #[]
  instanceTypes := #[(.object "java/lang/String"), .int, .int]
  staticTypes := #[]
  resolved := Array.replicate 204 none
  statics := none }

def pool6 : Array CpInfo := pool [(1, .class_ 2), (0, u "com/example/usher/usher/server/MemberStatus$Role"), (2, u "LOOKING"), (0, u "Lcom/example/usher/usher/server/MemberStatus$Role;"), (2, u "FOLLOWING"), (2, u "LEADING"), (2, u "$VALUES"), (0, u "[Lcom/example/usher/usher/server/MemberStatus$Role;"), (6, .class_ 25), (1, u "java/lang/Enum"), (8, u "code"), (0, u "I"), (38, .class_ 75), (0, u "com/example/usher/usher/server/MemberStatus")] 16

/-- com/example/usher/usher/server/MemberStatus$Role -/
def k6 : Class := { plain "com/example/usher/usher/server/MemberStatus$Role" (some 5) with
  accessFlags := 16432
  interfaces := #[]
  cf := some (fileOf pool6 1 #[.nestHost 74] #[] 16432 23 #[] #[{ accessFlags := 16409, nameIndex := 5, descriptorIndex := 6, attributes := #[] }, { accessFlags := 16409, nameIndex := 9, descriptorIndex := 6, attributes := #[] }, { accessFlags := 16409, nameIndex := 12, descriptorIndex := 6, attributes := #[] }, { accessFlags := 18, nameIndex := 34, descriptorIndex := 35, attributes := #[] }, { accessFlags := 4122, nameIndex := 15, descriptorIndex := 16, attributes := #[] }])
  fields := #[{ name := "LOOKING", type := (.object "com/example/usher/usher/server/MemberStatus$Role"), accessFlags := 16409, slot := 0, constantValue := 0 }, { name := "FOLLOWING", type := (.object "com/example/usher/usher/server/MemberStatus$Role"), accessFlags := 16409, slot := 1, constantValue := 0 }, { name := "LEADING", type := (.object "com/example/usher/usher/server/MemberStatus$Role"), accessFlags := 16409, slot := 2, constantValue := 0 }, { name := "code", type := .int, accessFlags := 18, slot := 3, constantValue := 0 }, { name := "$VALUES", type := (.array (.object "com/example/usher/usher/server/MemberStatus$Role")), accessFlags := 4122, slot := 3, constantValue := 0 }]
  methods := #[]
  instanceTypes := #[(.object "java/lang/String"), .int, .int, .int]
  staticTypes := #[(.object "com/example/usher/usher/server/MemberStatus$Role"), (.object "com/example/usher/usher/server/MemberStatus$Role"), (.object "com/example/usher/usher/server/MemberStatus$Role"), (.array (.object "com/example/usher/usher/server/MemberStatus$Role"))]
  resolved := Array.replicate 92 none
  statics := some 0 }

def pool7 : Array CpInfo := pool [(1, .methodref 2 3), (0, .class_ 4), (0, .nameAndType 5 6), (0, u "java/lang/Object"), (0, u "<init>"), (0, u "()V"), (0, .fieldref 8 9), (0, .class_ 10), (0, .nameAndType 11 12), (0, u "com/example/usher/usher/server/MemberStatus"), (0, u "id"), (0, u "I"), (0, .fieldref 8 14), (0, .nameAndType 15 16), (0, u "role"), (0, u "Lcom/example/usher/usher/server/MemberStatus$Role;"), (0, .fieldref 8 18), (0, .nameAndType 19 12), (0, u "leader"), (0, .fieldref 8 21), (0, .nameAndType 22 23), (0, u "lastZxid"), (0, u "J"), (0, .fieldref 8 25), (0, .nameAndType 26 27), (0, u "serving"), (0, u "Z"), (13, .class_ 43), (1, u "com/example/usher/usher/server/MemberStatus$Role"), (24, u "(ILcom/example/usher/usher/server/MemberStatus$Role;IJZ)V"), (64, u "equals"), (0, u "(Ljava/lang/Object;)Z")] 20

def k7c0 : Code := { maxStack := 3, maxLocals := 7, code := prog_70_method_1_code, exceptionTable := #[], attributes := #[] }
def k7m0 : Method := { name := "<init>", desc := "(ILcom/example/usher/usher/server/MemberStatus$Role;IJZ)V", sig := { parameters := [.int, (.object "com/example/usher/usher/server/MemberStatus$Role"), .int, .long, .boolean], returnType := none }, accessFlags := 0, code := some k7c0 }
def k7c1 : Code := { maxStack := 4, maxLocals := 3, code := prog_70_method_10_code, exceptionTable := #[], attributes := #[] }
def k7m1 : Method := { name := "equals", desc := "(Ljava/lang/Object;)Z", sig := { parameters := [(.object "java/lang/Object")], returnType := some .boolean }, accessFlags := 1, code := some k7c1 }
/-- com/example/usher/usher/server/MemberStatus -/
def k7 : Class := { plain "com/example/usher/usher/server/MemberStatus" (some 0) with
  accessFlags := 32
  interfaces := #[]
  cf := some (fileOf pool7 8 #[.nestMembers #[41]] #[{ accessFlags := 0, nameIndex := 5, descriptorIndex := 68, attributes := #[] }, { accessFlags := 1, nameIndex := 133, descriptorIndex := 134, attributes := #[] }] 32 2 #[] #[{ accessFlags := 18, nameIndex := 11, descriptorIndex := 12, attributes := #[] }, { accessFlags := 18, nameIndex := 15, descriptorIndex := 16, attributes := #[] }, { accessFlags := 18, nameIndex := 19, descriptorIndex := 12, attributes := #[] }, { accessFlags := 18, nameIndex := 22, descriptorIndex := 23, attributes := #[] }, { accessFlags := 18, nameIndex := 26, descriptorIndex := 27, attributes := #[] }])
  fields := #[{ name := "id", type := .int, accessFlags := 18, slot := 0, constantValue := 0 }, { name := "role", type := (.object "com/example/usher/usher/server/MemberStatus$Role"), accessFlags := 18, slot := 1, constantValue := 0 }, { name := "leader", type := .int, accessFlags := 18, slot := 2, constantValue := 0 }, { name := "lastZxid", type := .long, accessFlags := 18, slot := 3, constantValue := 0 }, { name := "serving", type := .boolean, accessFlags := 18, slot := 4, constantValue := 0 }]
  methods := #[k7m0, k7m1]
  instanceTypes := #[.int, (.object "com/example/usher/usher/server/MemberStatus$Role"), .int, .long, .boolean]
  staticTypes := #[]
  resolved := Array.replicate 155 none
  statics := none }

def pool8 : Array CpInfo := pool [(1, .methodref 2 3), (0, .class_ 4), (0, .nameAndType 5 6), (0, u "java/lang/Object"), (0, u "<init>"), (0, u "()V"), (1, .class_ 10), (1, u "java/lang/Number"), (2, .class_ 14), (0, u "java/io/Serializable"), (0, u "serialVersionUID"), (0, u "J")] 20

def k8c0 : Code := { maxStack := 1, maxLocals := 1, code := jdk_18_method_1_code, exceptionTable := #[], attributes := #[] }
def k8m0 : Method := { name := "<init>", desc := "()V", sig := { parameters := [], returnType := none }, accessFlags := 1, code := some k8c0 }
/-- java/lang/Number -/
def k8 : Class := { plain "java/lang/Number" (some 0) with
  accessFlags := 1057
  interfaces := #[4]
  cf := some (fileOf pool8 8 #[] #[{ accessFlags := 1, nameIndex := 5, descriptorIndex := 6, attributes := #[] }] 1057 2 #[13] #[{ accessFlags := 26, nameIndex := 15, descriptorIndex := 16, attributes := #[] }])
  fields := #[{ name := "serialVersionUID", type := .long, accessFlags := 26, slot := 0, constantValue := 0 }]
  methods := #[k8m0]
  instanceTypes := #[]
  staticTypes := #[.long]
  resolved := Array.replicate 37 none
  statics := none }

def pool9 : Array CpInfo := pool [(1, .class_ 2), (0, u "java/lang/constant/ConstantDesc"), (0, .class_ 4), (0, u "java/lang/Object")] 32

/-- java/lang/constant/ConstantDesc -/
def k9 : Class := { plain "java/lang/constant/ConstantDesc" (some 0) with
  accessFlags := 1537
  interfaces := #[]
  cf := some (fileOf pool9 1 #[] #[] 1537 3 #[] #[])
  fields := #[]
  methods := #[]
  instanceTypes := #[]
  staticTypes := #[]
  resolved := Array.replicate 37 none
  statics := none }

def pool10 : Array CpInfo := pool [(1, .class_ 2), (0, u "java/lang/Integer"), (16, u "digits"), (0, u "[C"), (46, u "<init>"), (17, u "DigitOnes"), (0, u "[B"), (2, u "DigitTens"), (10, .nameAndType 67 101), (0, u "()V"), (85, u "valueOf"), (0, u "(I)Ljava/lang/Integer;"), (0, .class_ 190), (0, u "java/lang/Integer$IntegerCache"), (0, .fieldref 189 192), (0, .nameAndType 193 194), (0, u "high"), (0, u "I"), (0, .fieldref 189 196), (0, .nameAndType 197 198), (0, u "cache"), (0, u "[Ljava/lang/Integer;"), (0, .methodref 1 200), (0, .nameAndType 67 201), (0, u "(I)V"), (0, .methodref 203 100), (0, .class_ 204), (0, u "java/lang/Number"), (0, .fieldref 1 206), (0, .nameAndType 207 194), (0, u "value"), (94, u "TYPE"), (0, u "Ljava/lang/Class;"), (0, .class_ 305), (0, u "java/lang/Comparable"), (0, .class_ 307), (0, u "java/lang/constant/Constable"), (0, .class_ 309), (0, u "java/lang/constant/ConstantDesc"), (0, u "MIN_VALUE"), (1, u "MAX_VALUE"), (3, u "SIZE"), (1, u "BYTES"), (1, u "serialVersionUID"), (0, u "J")] 131

def k10c0 : Code := { maxStack := 3, maxLocals := 1, code := jdk_33_method_22_code, exceptionTable := #[], attributes := #[] }
def k10m0 : Method := { name := "valueOf", desc := "(I)Ljava/lang/Integer;", sig := { parameters := [.int], returnType := some (.object "java/lang/Integer") }, accessFlags := 9, code := some k10c0 }
def k10c1 : Code := { maxStack := 2, maxLocals := 2, code := jdk_33_method_23_code, exceptionTable := #[], attributes := #[] }
def k10m1 : Method := { name := "<init>", desc := "(I)V", sig := { parameters := [.int], returnType := none }, accessFlags := 1, code := some k10c1 }
/-- java/lang/Integer -/
def k10 : Class := { plain "java/lang/Integer" (some 8) with
  accessFlags := 49
  interfaces := #[3, 2, 9]
  cf := some (fileOf pool10 1 #[.nestMembers #[189]] #[{ accessFlags := 9, nameIndex := 187, descriptorIndex := 188, attributes := #[] }, { accessFlags := 1, nameIndex := 67, descriptorIndex := 201, attributes := #[] }] 49 203 #[304, 306, 308] #[{ accessFlags := 25, nameIndex := 310, descriptorIndex := 194, attributes := #[] }, { accessFlags := 25, nameIndex := 312, descriptorIndex := 194, attributes := #[] }, { accessFlags := 25, nameIndex := 302, descriptorIndex := 303, attributes := #[] }, { accessFlags := 24, nameIndex := 19, descriptorIndex := 20, attributes := #[] }, { accessFlags := 24, nameIndex := 89, descriptorIndex := 86, attributes := #[] }, { accessFlags := 24, nameIndex := 85, descriptorIndex := 86, attributes := #[] }, { accessFlags := 18, nameIndex := 207, descriptorIndex := 194, attributes := #[] }, { accessFlags := 25, nameIndex := 316, descriptorIndex := 194, attributes := #[] }, { accessFlags := 25, nameIndex := 318, descriptorIndex := 194, attributes := #[] }, { accessFlags := 26, nameIndex := 320, descriptorIndex := 321, attributes := #[] }])
  fields := #[{ name := "MIN_VALUE", type := .int, accessFlags := 25, slot := 0, constantValue := 0 }, { name := "MAX_VALUE", type := .int, accessFlags := 25, slot := 1, constantValue := 0 }, { name := "TYPE", type := (.object "java/lang/Class"), accessFlags := 25, slot := 2, constantValue := 0 }, { name := "digits", type := (.array .char), accessFlags := 24, slot := 3, constantValue := 0 }, { name := "DigitTens", type := (.array .byte), accessFlags := 24, slot := 4, constantValue := 0 }, { name := "DigitOnes", type := (.array .byte), accessFlags := 24, slot := 5, constantValue := 0 }, { name := "value", type := .int, accessFlags := 18, slot := 0, constantValue := 0 }, { name := "SIZE", type := .int, accessFlags := 25, slot := 6, constantValue := 0 }, { name := "BYTES", type := .int, accessFlags := 25, slot := 7, constantValue := 0 }, { name := "serialVersionUID", type := .long, accessFlags := 26, slot := 8, constantValue := 0 }]
  methods := #[k10m0, k10m1]
  instanceTypes := #[.int]
  staticTypes := #[.int, .int, (.object "java/lang/Class"), (.array .char), (.array .byte), (.array .byte), .int, .int, .long]
  resolved := Array.replicate 453 none
  statics := none }

def pool11 : Array CpInfo := pool [(2, .class_ 4), (1, u "java/lang/Object"), (0, u "<init>"), (0, u "()V"), (0, .class_ 8), (0, u "java/lang/Integer"), (7, .class_ 18), (1, u "java/lang/Integer$IntegerCache"), (0, u "$assertionsDisabled"), (0, u "Z"), (26, u "high"), (0, u "I"), (8, u "archivedCache"), (0, u "[Ljava/lang/Integer;"), (12, u "cache"), (0, u "low")] 27

def k11m0 : Method := { name := "<init>", desc := "()V", sig := { parameters := [], returnType := none }, accessFlags := 2, code := none }
/-- java/lang/Integer$IntegerCache -/
def k11 : Class := { plain "java/lang/Integer$IntegerCache" (some 0) with
  accessFlags := 48
  interfaces := #[]
  cf := some (fileOf pool11 16 #[.nestHost 7] #[{ accessFlags := 2, nameIndex := 5, descriptorIndex := 6, attributes := #[] }] 48 2 #[] #[{ accessFlags := 24, nameIndex := 72, descriptorIndex := 48, attributes := #[] }, { accessFlags := 24, nameIndex := 47, descriptorIndex := 48, attributes := #[] }, { accessFlags := 24, nameIndex := 71, descriptorIndex := 58, attributes := #[] }, { accessFlags := 8, nameIndex := 57, descriptorIndex := 58, attributes := #[] }, { accessFlags := 4120, nameIndex := 19, descriptorIndex := 20, attributes := #[] }])
  fields := #[{ name := "low", type := .int, accessFlags := 24, slot := 0, constantValue := 0 }, { name := "high", type := .int, accessFlags := 24, slot := 1, constantValue := 0 }, { name := "cache", type := (.array (.object "java/lang/Integer")), accessFlags := 24, slot := 2, constantValue := 0 }, { name := "archivedCache", type := (.array (.object "java/lang/Integer")), accessFlags := 8, slot := 3, constantValue := 0 }, { name := "$assertionsDisabled", type := .boolean, accessFlags := 4120, slot := 4, constantValue := 0 }]
  methods := #[k11m0]
  instanceTypes := #[]
  staticTypes := #[.int, .int, (.array (.object "java/lang/Integer")), (.array (.object "java/lang/Integer")), .boolean]
  resolved := Array.replicate 100 none
  statics := some 1 }

def pool12 : Array CpInfo := pool [(1, u "java/lang/Cloneable"), (0, .class_ 1), (0, u "java/lang/Object"), (0, .class_ 3)] 3

/-- java/lang/Cloneable -/
def k12 : Class := { plain "java/lang/Cloneable" (some 0) with
  accessFlags := 1537
  interfaces := #[]
  cf := some (fileOf pool12 2 #[] #[] 1537 4 #[] #[])
  fields := #[]
  methods := #[]
  instanceTypes := #[]
  staticTypes := #[]
  resolved := Array.replicate 8 none
  statics := none }

/-- the primitive byte -/
def k13 : Class := { plain "byte" none with kind := .primitive 'B', accessFlags := 0x411 }
/-- [B -/
def k14 : Class := { plain "[B" (some 0) with kind := .array 13 .byte, interfaces := #[12, 4], accessFlags := 1041 }

/-- the primitive int -/
def k15 : Class := { plain "int" none with kind := .primitive 'I', accessFlags := 0x411 }
/-- [I -/
def k16 : Class := { plain "[I" (some 0) with kind := .array 15 .int, interfaces := #[12, 4], accessFlags := 1041 }

/-- [Ljava/lang/Integer; -/
def k17 : Class := { plain "[Ljava/lang/Integer;" (some 0) with kind := .array 10 (.object "java/lang/Integer"), interfaces := #[12, 4], accessFlags := 1041 }

def heap : Heap := #[{ cls := 6, slots := #[.ref 259, .ref 260, .ref 261, .null], vm := .statics 6 },
  { cls := 11, slots := #[.int 0, .int 127, .ref 2, .null, .int 0], vm := .statics 11 },
  { cls := 17, slots := #[.ref 3, .ref 4, .ref 5, .ref 6, .ref 7, .ref 8, .ref 9, .ref 10, .ref 11, .ref 12, .ref 13, .ref 14, .ref 15, .ref 16, .ref 17, .ref 18, .ref 19, .ref 20, .ref 21, .ref 22, .ref 23, .ref 24, .ref 25, .ref 26, .ref 27, .ref 28, .ref 29, .ref 30, .ref 31, .ref 32, .ref 33, .ref 34, .ref 35, .ref 36, .ref 37, .ref 38, .ref 39, .ref 40, .ref 41, .ref 42, .ref 43, .ref 44, .ref 45, .ref 46, .ref 47, .ref 48, .ref 49, .ref 50, .ref 51, .ref 52, .ref 53, .ref 54, .ref 55, .ref 56, .ref 57, .ref 58, .ref 59, .ref 60, .ref 61, .ref 62, .ref 63, .ref 64, .ref 65, .ref 66, .ref 67, .ref 68, .ref 69, .ref 70, .ref 71, .ref 72, .ref 73, .ref 74, .ref 75, .ref 76, .ref 77, .ref 78, .ref 79, .ref 80, .ref 81, .ref 82, .ref 83, .ref 84, .ref 85, .ref 86, .ref 87, .ref 88, .ref 89, .ref 90, .ref 91, .ref 92, .ref 93, .ref 94, .ref 95, .ref 96, .ref 97, .ref 98, .ref 99, .ref 100, .ref 101, .ref 102, .ref 103, .ref 104, .ref 105, .ref 106, .ref 107, .ref 108, .ref 109, .ref 110, .ref 111, .ref 112, .ref 113, .ref 114, .ref 115, .ref 116, .ref 117, .ref 118, .ref 119, .ref 120, .ref 121, .ref 122, .ref 123, .ref 124, .ref 125, .ref 126, .ref 127, .ref 128, .ref 129, .ref 130, .ref 131, .ref 132, .ref 133, .ref 134, .ref 135, .ref 136, .ref 137, .ref 138, .ref 139, .ref 140, .ref 141, .ref 142, .ref 143, .ref 144, .ref 145, .ref 146, .ref 147, .ref 148, .ref 149, .ref 150, .ref 151, .ref 152, .ref 153, .ref 154, .ref 155, .ref 156, .ref 157, .ref 158, .ref 159, .ref 160, .ref 161, .ref 162, .ref 163, .ref 164, .ref 165, .ref 166, .ref 167, .ref 168, .ref 169, .ref 170, .ref 171, .ref 172, .ref 173, .ref 174, .ref 175, .ref 176, .ref 177, .ref 178, .ref 179, .ref 180, .ref 181, .ref 182, .ref 183, .ref 184, .ref 185, .ref 186, .ref 187, .ref 188, .ref 189, .ref 190, .ref 191, .ref 192, .ref 193, .ref 194, .ref 195, .ref 196, .ref 197, .ref 198, .ref 199, .ref 200, .ref 201, .ref 202, .ref 203, .ref 204, .ref 205, .ref 206, .ref 207, .ref 208, .ref 209, .ref 210, .ref 211, .ref 212, .ref 213, .ref 214, .ref 215, .ref 216, .ref 217, .ref 218, .ref 219, .ref 220, .ref 221, .ref 222, .ref 223, .ref 224, .ref 225, .ref 226, .ref 227, .ref 228, .ref 229, .ref 230, .ref 231, .ref 232, .ref 233, .ref 234, .ref 235, .ref 236, .ref 237, .ref 238, .ref 239, .ref 240, .ref 241, .ref 242, .ref 243, .ref 244, .ref 245, .ref 246, .ref 247, .ref 248, .ref 249, .ref 250, .ref 251, .ref 252, .ref 253, .ref 254, .ref 255, .ref 256, .ref 257, .ref 258], vm := .none },
  { cls := 10, slots := #[.int (-128)], vm := .none },
  { cls := 10, slots := #[.int (-127)], vm := .none },
  { cls := 10, slots := #[.int (-126)], vm := .none },
  { cls := 10, slots := #[.int (-125)], vm := .none },
  { cls := 10, slots := #[.int (-124)], vm := .none },
  { cls := 10, slots := #[.int (-123)], vm := .none },
  { cls := 10, slots := #[.int (-122)], vm := .none },
  { cls := 10, slots := #[.int (-121)], vm := .none },
  { cls := 10, slots := #[.int (-120)], vm := .none },
  { cls := 10, slots := #[.int (-119)], vm := .none },
  { cls := 10, slots := #[.int (-118)], vm := .none },
  { cls := 10, slots := #[.int (-117)], vm := .none },
  { cls := 10, slots := #[.int (-116)], vm := .none },
  { cls := 10, slots := #[.int (-115)], vm := .none },
  { cls := 10, slots := #[.int (-114)], vm := .none },
  { cls := 10, slots := #[.int (-113)], vm := .none },
  { cls := 10, slots := #[.int (-112)], vm := .none },
  { cls := 10, slots := #[.int (-111)], vm := .none },
  { cls := 10, slots := #[.int (-110)], vm := .none },
  { cls := 10, slots := #[.int (-109)], vm := .none },
  { cls := 10, slots := #[.int (-108)], vm := .none },
  { cls := 10, slots := #[.int (-107)], vm := .none },
  { cls := 10, slots := #[.int (-106)], vm := .none },
  { cls := 10, slots := #[.int (-105)], vm := .none },
  { cls := 10, slots := #[.int (-104)], vm := .none },
  { cls := 10, slots := #[.int (-103)], vm := .none },
  { cls := 10, slots := #[.int (-102)], vm := .none },
  { cls := 10, slots := #[.int (-101)], vm := .none },
  { cls := 10, slots := #[.int (-100)], vm := .none },
  { cls := 10, slots := #[.int (-99)], vm := .none },
  { cls := 10, slots := #[.int (-98)], vm := .none },
  { cls := 10, slots := #[.int (-97)], vm := .none },
  { cls := 10, slots := #[.int (-96)], vm := .none },
  { cls := 10, slots := #[.int (-95)], vm := .none },
  { cls := 10, slots := #[.int (-94)], vm := .none },
  { cls := 10, slots := #[.int (-93)], vm := .none },
  { cls := 10, slots := #[.int (-92)], vm := .none },
  { cls := 10, slots := #[.int (-91)], vm := .none },
  { cls := 10, slots := #[.int (-90)], vm := .none },
  { cls := 10, slots := #[.int (-89)], vm := .none },
  { cls := 10, slots := #[.int (-88)], vm := .none },
  { cls := 10, slots := #[.int (-87)], vm := .none },
  { cls := 10, slots := #[.int (-86)], vm := .none },
  { cls := 10, slots := #[.int (-85)], vm := .none },
  { cls := 10, slots := #[.int (-84)], vm := .none },
  { cls := 10, slots := #[.int (-83)], vm := .none },
  { cls := 10, slots := #[.int (-82)], vm := .none },
  { cls := 10, slots := #[.int (-81)], vm := .none },
  { cls := 10, slots := #[.int (-80)], vm := .none },
  { cls := 10, slots := #[.int (-79)], vm := .none },
  { cls := 10, slots := #[.int (-78)], vm := .none },
  { cls := 10, slots := #[.int (-77)], vm := .none },
  { cls := 10, slots := #[.int (-76)], vm := .none },
  { cls := 10, slots := #[.int (-75)], vm := .none },
  { cls := 10, slots := #[.int (-74)], vm := .none },
  { cls := 10, slots := #[.int (-73)], vm := .none },
  { cls := 10, slots := #[.int (-72)], vm := .none },
  { cls := 10, slots := #[.int (-71)], vm := .none },
  { cls := 10, slots := #[.int (-70)], vm := .none },
  { cls := 10, slots := #[.int (-69)], vm := .none },
  { cls := 10, slots := #[.int (-68)], vm := .none },
  { cls := 10, slots := #[.int (-67)], vm := .none },
  { cls := 10, slots := #[.int (-66)], vm := .none },
  { cls := 10, slots := #[.int (-65)], vm := .none },
  { cls := 10, slots := #[.int (-64)], vm := .none },
  { cls := 10, slots := #[.int (-63)], vm := .none },
  { cls := 10, slots := #[.int (-62)], vm := .none },
  { cls := 10, slots := #[.int (-61)], vm := .none },
  { cls := 10, slots := #[.int (-60)], vm := .none },
  { cls := 10, slots := #[.int (-59)], vm := .none },
  { cls := 10, slots := #[.int (-58)], vm := .none },
  { cls := 10, slots := #[.int (-57)], vm := .none },
  { cls := 10, slots := #[.int (-56)], vm := .none },
  { cls := 10, slots := #[.int (-55)], vm := .none },
  { cls := 10, slots := #[.int (-54)], vm := .none },
  { cls := 10, slots := #[.int (-53)], vm := .none },
  { cls := 10, slots := #[.int (-52)], vm := .none },
  { cls := 10, slots := #[.int (-51)], vm := .none },
  { cls := 10, slots := #[.int (-50)], vm := .none },
  { cls := 10, slots := #[.int (-49)], vm := .none },
  { cls := 10, slots := #[.int (-48)], vm := .none },
  { cls := 10, slots := #[.int (-47)], vm := .none },
  { cls := 10, slots := #[.int (-46)], vm := .none },
  { cls := 10, slots := #[.int (-45)], vm := .none },
  { cls := 10, slots := #[.int (-44)], vm := .none },
  { cls := 10, slots := #[.int (-43)], vm := .none },
  { cls := 10, slots := #[.int (-42)], vm := .none },
  { cls := 10, slots := #[.int (-41)], vm := .none },
  { cls := 10, slots := #[.int (-40)], vm := .none },
  { cls := 10, slots := #[.int (-39)], vm := .none },
  { cls := 10, slots := #[.int (-38)], vm := .none },
  { cls := 10, slots := #[.int (-37)], vm := .none },
  { cls := 10, slots := #[.int (-36)], vm := .none },
  { cls := 10, slots := #[.int (-35)], vm := .none },
  { cls := 10, slots := #[.int (-34)], vm := .none },
  { cls := 10, slots := #[.int (-33)], vm := .none },
  { cls := 10, slots := #[.int (-32)], vm := .none },
  { cls := 10, slots := #[.int (-31)], vm := .none },
  { cls := 10, slots := #[.int (-30)], vm := .none },
  { cls := 10, slots := #[.int (-29)], vm := .none },
  { cls := 10, slots := #[.int (-28)], vm := .none },
  { cls := 10, slots := #[.int (-27)], vm := .none },
  { cls := 10, slots := #[.int (-26)], vm := .none },
  { cls := 10, slots := #[.int (-25)], vm := .none },
  { cls := 10, slots := #[.int (-24)], vm := .none },
  { cls := 10, slots := #[.int (-23)], vm := .none },
  { cls := 10, slots := #[.int (-22)], vm := .none },
  { cls := 10, slots := #[.int (-21)], vm := .none },
  { cls := 10, slots := #[.int (-20)], vm := .none },
  { cls := 10, slots := #[.int (-19)], vm := .none },
  { cls := 10, slots := #[.int (-18)], vm := .none },
  { cls := 10, slots := #[.int (-17)], vm := .none },
  { cls := 10, slots := #[.int (-16)], vm := .none },
  { cls := 10, slots := #[.int (-15)], vm := .none },
  { cls := 10, slots := #[.int (-14)], vm := .none },
  { cls := 10, slots := #[.int (-13)], vm := .none },
  { cls := 10, slots := #[.int (-12)], vm := .none },
  { cls := 10, slots := #[.int (-11)], vm := .none },
  { cls := 10, slots := #[.int (-10)], vm := .none },
  { cls := 10, slots := #[.int (-9)], vm := .none },
  { cls := 10, slots := #[.int (-8)], vm := .none },
  { cls := 10, slots := #[.int (-7)], vm := .none },
  { cls := 10, slots := #[.int (-6)], vm := .none },
  { cls := 10, slots := #[.int (-5)], vm := .none },
  { cls := 10, slots := #[.int (-4)], vm := .none },
  { cls := 10, slots := #[.int (-3)], vm := .none },
  { cls := 10, slots := #[.int (-2)], vm := .none },
  { cls := 10, slots := #[.int (-1)], vm := .none },
  { cls := 10, slots := #[.int (0)], vm := .none },
  { cls := 10, slots := #[.int (1)], vm := .none },
  { cls := 10, slots := #[.int (2)], vm := .none },
  { cls := 10, slots := #[.int (3)], vm := .none },
  { cls := 10, slots := #[.int (4)], vm := .none },
  { cls := 10, slots := #[.int (5)], vm := .none },
  { cls := 10, slots := #[.int (6)], vm := .none },
  { cls := 10, slots := #[.int (7)], vm := .none },
  { cls := 10, slots := #[.int (8)], vm := .none },
  { cls := 10, slots := #[.int (9)], vm := .none },
  { cls := 10, slots := #[.int (10)], vm := .none },
  { cls := 10, slots := #[.int (11)], vm := .none },
  { cls := 10, slots := #[.int (12)], vm := .none },
  { cls := 10, slots := #[.int (13)], vm := .none },
  { cls := 10, slots := #[.int (14)], vm := .none },
  { cls := 10, slots := #[.int (15)], vm := .none },
  { cls := 10, slots := #[.int (16)], vm := .none },
  { cls := 10, slots := #[.int (17)], vm := .none },
  { cls := 10, slots := #[.int (18)], vm := .none },
  { cls := 10, slots := #[.int (19)], vm := .none },
  { cls := 10, slots := #[.int (20)], vm := .none },
  { cls := 10, slots := #[.int (21)], vm := .none },
  { cls := 10, slots := #[.int (22)], vm := .none },
  { cls := 10, slots := #[.int (23)], vm := .none },
  { cls := 10, slots := #[.int (24)], vm := .none },
  { cls := 10, slots := #[.int (25)], vm := .none },
  { cls := 10, slots := #[.int (26)], vm := .none },
  { cls := 10, slots := #[.int (27)], vm := .none },
  { cls := 10, slots := #[.int (28)], vm := .none },
  { cls := 10, slots := #[.int (29)], vm := .none },
  { cls := 10, slots := #[.int (30)], vm := .none },
  { cls := 10, slots := #[.int (31)], vm := .none },
  { cls := 10, slots := #[.int (32)], vm := .none },
  { cls := 10, slots := #[.int (33)], vm := .none },
  { cls := 10, slots := #[.int (34)], vm := .none },
  { cls := 10, slots := #[.int (35)], vm := .none },
  { cls := 10, slots := #[.int (36)], vm := .none },
  { cls := 10, slots := #[.int (37)], vm := .none },
  { cls := 10, slots := #[.int (38)], vm := .none },
  { cls := 10, slots := #[.int (39)], vm := .none },
  { cls := 10, slots := #[.int (40)], vm := .none },
  { cls := 10, slots := #[.int (41)], vm := .none },
  { cls := 10, slots := #[.int (42)], vm := .none },
  { cls := 10, slots := #[.int (43)], vm := .none },
  { cls := 10, slots := #[.int (44)], vm := .none },
  { cls := 10, slots := #[.int (45)], vm := .none },
  { cls := 10, slots := #[.int (46)], vm := .none },
  { cls := 10, slots := #[.int (47)], vm := .none },
  { cls := 10, slots := #[.int (48)], vm := .none },
  { cls := 10, slots := #[.int (49)], vm := .none },
  { cls := 10, slots := #[.int (50)], vm := .none },
  { cls := 10, slots := #[.int (51)], vm := .none },
  { cls := 10, slots := #[.int (52)], vm := .none },
  { cls := 10, slots := #[.int (53)], vm := .none },
  { cls := 10, slots := #[.int (54)], vm := .none },
  { cls := 10, slots := #[.int (55)], vm := .none },
  { cls := 10, slots := #[.int (56)], vm := .none },
  { cls := 10, slots := #[.int (57)], vm := .none },
  { cls := 10, slots := #[.int (58)], vm := .none },
  { cls := 10, slots := #[.int (59)], vm := .none },
  { cls := 10, slots := #[.int (60)], vm := .none },
  { cls := 10, slots := #[.int (61)], vm := .none },
  { cls := 10, slots := #[.int (62)], vm := .none },
  { cls := 10, slots := #[.int (63)], vm := .none },
  { cls := 10, slots := #[.int (64)], vm := .none },
  { cls := 10, slots := #[.int (65)], vm := .none },
  { cls := 10, slots := #[.int (66)], vm := .none },
  { cls := 10, slots := #[.int (67)], vm := .none },
  { cls := 10, slots := #[.int (68)], vm := .none },
  { cls := 10, slots := #[.int (69)], vm := .none },
  { cls := 10, slots := #[.int (70)], vm := .none },
  { cls := 10, slots := #[.int (71)], vm := .none },
  { cls := 10, slots := #[.int (72)], vm := .none },
  { cls := 10, slots := #[.int (73)], vm := .none },
  { cls := 10, slots := #[.int (74)], vm := .none },
  { cls := 10, slots := #[.int (75)], vm := .none },
  { cls := 10, slots := #[.int (76)], vm := .none },
  { cls := 10, slots := #[.int (77)], vm := .none },
  { cls := 10, slots := #[.int (78)], vm := .none },
  { cls := 10, slots := #[.int (79)], vm := .none },
  { cls := 10, slots := #[.int (80)], vm := .none },
  { cls := 10, slots := #[.int (81)], vm := .none },
  { cls := 10, slots := #[.int (82)], vm := .none },
  { cls := 10, slots := #[.int (83)], vm := .none },
  { cls := 10, slots := #[.int (84)], vm := .none },
  { cls := 10, slots := #[.int (85)], vm := .none },
  { cls := 10, slots := #[.int (86)], vm := .none },
  { cls := 10, slots := #[.int (87)], vm := .none },
  { cls := 10, slots := #[.int (88)], vm := .none },
  { cls := 10, slots := #[.int (89)], vm := .none },
  { cls := 10, slots := #[.int (90)], vm := .none },
  { cls := 10, slots := #[.int (91)], vm := .none },
  { cls := 10, slots := #[.int (92)], vm := .none },
  { cls := 10, slots := #[.int (93)], vm := .none },
  { cls := 10, slots := #[.int (94)], vm := .none },
  { cls := 10, slots := #[.int (95)], vm := .none },
  { cls := 10, slots := #[.int (96)], vm := .none },
  { cls := 10, slots := #[.int (97)], vm := .none },
  { cls := 10, slots := #[.int (98)], vm := .none },
  { cls := 10, slots := #[.int (99)], vm := .none },
  { cls := 10, slots := #[.int (100)], vm := .none },
  { cls := 10, slots := #[.int (101)], vm := .none },
  { cls := 10, slots := #[.int (102)], vm := .none },
  { cls := 10, slots := #[.int (103)], vm := .none },
  { cls := 10, slots := #[.int (104)], vm := .none },
  { cls := 10, slots := #[.int (105)], vm := .none },
  { cls := 10, slots := #[.int (106)], vm := .none },
  { cls := 10, slots := #[.int (107)], vm := .none },
  { cls := 10, slots := #[.int (108)], vm := .none },
  { cls := 10, slots := #[.int (109)], vm := .none },
  { cls := 10, slots := #[.int (110)], vm := .none },
  { cls := 10, slots := #[.int (111)], vm := .none },
  { cls := 10, slots := #[.int (112)], vm := .none },
  { cls := 10, slots := #[.int (113)], vm := .none },
  { cls := 10, slots := #[.int (114)], vm := .none },
  { cls := 10, slots := #[.int (115)], vm := .none },
  { cls := 10, slots := #[.int (116)], vm := .none },
  { cls := 10, slots := #[.int (117)], vm := .none },
  { cls := 10, slots := #[.int (118)], vm := .none },
  { cls := 10, slots := #[.int (119)], vm := .none },
  { cls := 10, slots := #[.int (120)], vm := .none },
  { cls := 10, slots := #[.int (121)], vm := .none },
  { cls := 10, slots := #[.int (122)], vm := .none },
  { cls := 10, slots := #[.int (123)], vm := .none },
  { cls := 10, slots := #[.int (124)], vm := .none },
  { cls := 10, slots := #[.int (125)], vm := .none },
  { cls := 10, slots := #[.int (126)], vm := .none },
  { cls := 10, slots := #[.int (127)], vm := .none },
  { cls := 6, slots := #[.null, .int 0, .int 0, .int 1], vm := .none },
  { cls := 6, slots := #[.null, .int 1, .int 0, .int 2], vm := .none },
  { cls := 6, slots := #[.null, .int 2, .int 0, .int 3], vm := .none }]
def classes : Array Class := #[k0, k1, k2, k3, k4, k5, k6, k7, k8, k9, k10, k11, k12, k13, k14, k15, k16, k17]
def interned : List (Array UInt16 × Addr) := []
def slotsUsed : Nat := 533
def theMethod : MethodId := ⟨1, 2⟩
def args0 : Array Value := #[.int 5, .int 7, .int 9, .long 3, .long 4, .int 1]
def aboutOver (below : List Frame) : State where
  vm := { classes := classes, interned := interned.toArray }
  heap := heap
  slotsUsed := slotsUsed
  threads := #[{ frames := .invoking theMethod args0 :: below }]
def below0 : List Frame := [.native { method := ⟨0, 0⟩, args := #[] }]
def about1 : State := aboutOver below0
def p0 : Program := .bare "" "" ""
def e0 : Env := launch0.env 0 0 0
theorem w_frames : about1.frames = Frame.invoking theMethod args0 :: below0 := rfl
set_option maxRecDepth 65536 in
theorem w_args : argsFit about1.vm theMethod args0 = true := by decide +kernel
set_option maxRecDepth 65536 in
theorem w_heap : heapFits about1 = true := by decide +kernel
set_option maxRecDepth 65536 in
theorem w_runnable : about1.curStatus? = some .runnable := by decide +kernel
set_option maxRecDepth 65536 in
theorem w_alone : about1.alone = true := by decide +kernel
set_option maxRecDepth 65536 in
theorem w_named : about1.methodNamed? x = some theMethod := by decide +kernel
set_option maxRecDepth 65536 in
theorem w_hears : about1.hears theMethod below0 = true := by decide +kernel
set_option maxRecDepth 65536 in
theorem w_ripe : about1.ripe theMethod args0 below0 = true := by decide +kernel
theorem w_running : about1.status = .running := rfl
set_option maxRecDepth 65536 in
theorem w_room : about1.hasRoom e0.platform room_1 = true :=
  launch0.hasRoom_least _ room_1 (by decide +kernel) (by decide +kernel) (by decide +kernel) (by decide +kernel) (by decide +kernel) (by decide +kernel)
theorem allAtoms_all (ts : List Jvm.Cond) (a : Array Jvm.Value) (st : Jvm.State) : (allAtoms ts).before a st = ts.all (fun c => c.before a st) := by
  induction ts with
  | nil => rfl
  | cons c t ih =>
    show (Jvm.Cond.and c (allAtoms t)).before a st = _
    rw [Jvm.Cond.before_and, ih, List.all_cons]
def words1 : List Jvm.Cond := Jvm.Cond.code x code maxLocals ret :: tables_1
/-- a 'code' word, met by the world's own term for the bytes: nothing is compared byte by byte -/
theorem code_word {y : MethodName} {bytes : ByteArray} {mx : Nat} {rt : Option FieldType} {a : Array Value} {s : State} {m : MethodId} {meth : Method} {c : Code} (h1 : s.methodNamed? y = some m) (h2 : s.vm.method? m = some meth) (h3 : meth.code = some c) (h4 : c.code = bytes)
    (h5 : (c.maxLocals == mx && c.exceptionTable.isEmpty && decide (c.maxStack ≤ mostOperands) && decide (meth.sig.returnType = rt) && !meth.locks && decide (parseMethodDescriptor y.desc = some meth.sig)) = true) : (Jvm.Cond.code y bytes mx rt).before a s = true := by
  simp only [Bool.and_eq_true, beq_iff_eq, Bool.not_eq_true', decide_eq_true_eq] at h5
  obtain ⟨⟨⟨⟨⟨g1, g2⟩, g3⟩, g4⟩, g5⟩, g6⟩ := h5
  simp [Cond.before, Cond.holds, Cond.value, h1, h2, h3, h4, g1, g2, g3, g4, g5, g6]
def isCode : Jvm.Cond → Bool
  | .code _ _ _ _ => true
  | _ => false
theorem all_split {L : List Jvm.Cond} {P : Jvm.Cond → Bool} (h1 : L.all (fun c => isCode c || P c) = true) (h2 : ∀ c ∈ L.filter isCode, P c = true) : L.all P = true := by
  refine List.all_eq_true.mpr fun c hc => ?_
  have h := List.all_eq_true.mp h1 c hc
  rcases Bool.eq_false_or_eq_true (isCode c) with hi | hi
  · exact h2 c (List.mem_filter.mpr ⟨hc, hi⟩)
  · simpa [hi] using h
set_option maxRecDepth 65536 in
theorem w_c0 : (Jvm.Cond.code x code maxLocals ret).before args0 about1 = true := code_word (m := ⟨1, 2⟩) (meth := k1m2) (c := k1c2) (by decide +kernel) rfl rfl rfl (by decide +kernel)
set_option maxRecDepth 65536 in
theorem w_c1 : (Jvm.Cond.code ({ cls := "com/example/usher/usher/server/MemberStatusEqualsPinLaw", name := "role", desc := "(I)Lcom/example/usher/usher/server/MemberStatus$Role;" } : Jvm.MethodName) method_2_code (2 : Nat) (Option.some (Jvm.ClassFile.FieldType.object "com/example/usher/usher/server/MemberStatus$Role"))).before args0 about1 = true := code_word (m := ⟨1, 1⟩) (meth := k1m1) (c := k1c1) (by decide +kernel) rfl rfl rfl (by decide +kernel)
set_option maxRecDepth 65536 in
theorem w_c2 : (Jvm.Cond.code ({ cls := "com/example/usher/usher/server/MemberStatus", name := "<init>", desc := "(ILcom/example/usher/usher/server/MemberStatus$Role;IJZ)V" } : Jvm.MethodName) prog_70_method_1_code (7 : Nat) (Option.none : Option Jvm.ClassFile.FieldType)).before args0 about1 = true := code_word (m := ⟨7, 0⟩) (meth := k7m0) (c := k7c0) (by decide +kernel) rfl rfl rfl (by decide +kernel)
set_option maxRecDepth 65536 in
theorem w_c3 : (Jvm.Cond.code ({ cls := "java/lang/Object", name := "<init>", desc := "()V" } : Jvm.MethodName) object_method_1_code (1 : Nat) (Option.none : Option Jvm.ClassFile.FieldType)).before args0 about1 = true := code_word (m := ⟨0, 0⟩) (meth := k0m0) (c := k0c0) (by decide +kernel) rfl rfl rfl (by decide +kernel)
set_option maxRecDepth 65536 in
theorem w_c4 : (Jvm.Cond.code ({ cls := "com/example/usher/usher/server/MemberStatus", name := "equals", desc := "(Ljava/lang/Object;)Z" } : Jvm.MethodName) prog_70_method_10_code (3 : Nat) (Option.some Jvm.ClassFile.FieldType.boolean)).before args0 about1 = true := code_word (m := ⟨7, 1⟩) (meth := k7m1) (c := k7c1) (by decide +kernel) rfl rfl rfl (by decide +kernel)
set_option maxRecDepth 65536 in
theorem w_c5 : (Jvm.Cond.code ({ cls := "java/lang/Integer", name := "valueOf", desc := "(I)Ljava/lang/Integer;" } : Jvm.MethodName) jdk_33_method_22_code (1 : Nat) (Option.some (Jvm.ClassFile.FieldType.object "java/lang/Integer"))).before args0 about1 = true := code_word (m := ⟨10, 0⟩) (meth := k10m0) (c := k10c0) (by decide +kernel) rfl rfl rfl (by decide +kernel)
set_option maxRecDepth 65536 in
theorem w_c6 : (Jvm.Cond.code ({ cls := "java/lang/Integer", name := "<init>", desc := "(I)V" } : Jvm.MethodName) jdk_33_method_23_code (2 : Nat) (Option.none : Option Jvm.ClassFile.FieldType)).before args0 about1 = true := code_word (m := ⟨10, 1⟩) (meth := k10m1) (c := k10c1) (by decide +kernel) rfl rfl rfl (by decide +kernel)
set_option maxRecDepth 65536 in
theorem w_c7 : (Jvm.Cond.code ({ cls := "java/lang/Number", name := "<init>", desc := "()V" } : Jvm.MethodName) jdk_18_method_1_code (1 : Nat) (Option.none : Option Jvm.ClassFile.FieldType)).before args0 about1 = true := code_word (m := ⟨8, 0⟩) (meth := k8m0) (c := k8c0) (by decide +kernel) rfl rfl rfl (by decide +kernel)
def codes1 : List Jvm.Cond := [Jvm.Cond.code x code maxLocals ret, Jvm.Cond.code ({ cls := "com/example/usher/usher/server/MemberStatusEqualsPinLaw", name := "role", desc := "(I)Lcom/example/usher/usher/server/MemberStatus$Role;" } : Jvm.MethodName) method_2_code (2 : Nat) (Option.some (Jvm.ClassFile.FieldType.object "com/example/usher/usher/server/MemberStatus$Role")), Jvm.Cond.code ({ cls := "com/example/usher/usher/server/MemberStatus", name := "<init>", desc := "(ILcom/example/usher/usher/server/MemberStatus$Role;IJZ)V" } : Jvm.MethodName) prog_70_method_1_code (7 : Nat) (Option.none : Option Jvm.ClassFile.FieldType), Jvm.Cond.code ({ cls := "java/lang/Object", name := "<init>", desc := "()V" } : Jvm.MethodName) object_method_1_code (1 : Nat) (Option.none : Option Jvm.ClassFile.FieldType), Jvm.Cond.code ({ cls := "com/example/usher/usher/server/MemberStatus", name := "equals", desc := "(Ljava/lang/Object;)Z" } : Jvm.MethodName) prog_70_method_10_code (3 : Nat) (Option.some Jvm.ClassFile.FieldType.boolean), Jvm.Cond.code ({ cls := "java/lang/Integer", name := "valueOf", desc := "(I)Ljava/lang/Integer;" } : Jvm.MethodName) jdk_33_method_22_code (1 : Nat) (Option.some (Jvm.ClassFile.FieldType.object "java/lang/Integer")), Jvm.Cond.code ({ cls := "java/lang/Integer", name := "<init>", desc := "(I)V" } : Jvm.MethodName) jdk_33_method_23_code (2 : Nat) (Option.none : Option Jvm.ClassFile.FieldType), Jvm.Cond.code ({ cls := "java/lang/Number", name := "<init>", desc := "()V" } : Jvm.MethodName) jdk_18_method_1_code (1 : Nat) (Option.none : Option Jvm.ClassFile.FieldType)]
set_option maxRecDepth 65536 in
theorem codes_eq : words1.filter isCode = codes1 := rfl
theorem w_codes : ∀ c ∈ words1.filter isCode, c.before args0 about1 = true := by
  rw [codes_eq]
  intro c hc
  simp only [codes1, List.mem_cons, List.not_mem_nil, or_false] at hc
  rcases hc with rfl | rfl | rfl | rfl | rfl | rfl | rfl | rfl
  · exact w_c0
  · exact w_c1
  · exact w_c2
  · exact w_c3
  · exact w_c4
  · exact w_c5
  · exact w_c6
  · exact w_c7
set_option maxRecDepth 65536 in
theorem w_t1 : (words1.take 24).all (fun c => isCode c || c.before args0 about1) = true := by decide +kernel
set_option maxRecDepth 65536 in
theorem w_t2 : ((words1.drop 24).take 24).all (fun c => isCode c || c.before args0 about1) = true := by decide +kernel
set_option maxRecDepth 65536 in
theorem w_t3 : ((words1.drop 24).drop 24).all (fun c => isCode c || c.before args0 about1) = true := by decide +kernel
theorem w_tables : (allAtoms (Jvm.Cond.code x code maxLocals ret :: tables_1)).before args0 about1 = true := by
  rw [allAtoms_all]
  show words1.all (fun c => c.before args0 about1) = true
  refine all_split ?_ w_codes
  rw [← List.take_append_drop 24 words1, List.all_append, w_t1, ← List.take_append_drop 24 (words1.drop 24), List.all_append, w_t2, w_t3]
  rfl
set_option maxRecDepth 65536 in
theorem w_rest : rest_1_c.before args0 about1 = true := by decide +kernel
set_option maxRecDepth 65536 in
theorem w_case : (Jvm.Cond.and given_1 narrow_1).before args0 about1 = true := by decide +kernel
theorem w_applies : (headSpec (Jvm.Cond.code x code maxLocals ret :: tables_1) room_1).applies x e0.platform about1 = true :=
  (Spec.applies_iff w_frames).mpr ⟨w_running, w_runnable, w_alone, w_named, w_hears, w_ripe, w_room, w_tables⟩
theorem atStart : AtStart classFile x code maxLocals ret World_1 tables_1 room_1 Calls_1 rest_1 Pre_1 launch0 p0 e0 about1 theMethod args0 below0 :=
  ⟨lists_1, trivial, launch0.admits_env _ _ _, launch0.least_env, fairChoices_fair.cas, fairChoices_fair.clock, w_frames, w_args, w_heap, w_applies, trivial, w_rest, w_case⟩
end start1
theorem witness_1 : WitnessClaimed_1 := ⟨start1.p0, start1.e0, start1.about1, start1.theMethod, start1.args0, start1.below0, start1.atStart⟩
end Jvm.Pilot.@@N@@
