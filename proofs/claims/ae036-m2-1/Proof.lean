import JvmDerived
import JvmDerived.Pilot.@@N@@Statement
import JvmDerived.Pilot.@@N@@Code
set_option linter.unusedVariables false
set_option linter.unusedSimpArgs false
namespace Jvm.RoadKit
open Sem ClassFile Op Lib Jvm.Stand Jvm.Free Jvm.LawKit
section New
variable {p : Program} {l : Launch} {e : Env} {R : Room} {s : State} {m : MethodId} {args : Array Value} {below : List Frame} {meth : Method} {c : Code} {T : State} {locs : List Loc} {cells slots : Nat}
theorem retI (X : Stand p l e R s m args below meth c T locs cells slots) (hx : p.tables.exec = Jvm.exec) {pc : Nat} {Ls : Array Slot} {z : Int32} {rest : List Value} (hret : meth.sig.returnType = some .int) (hd : decode c.code pc = .ok (.ireturn, 1)) {fs : List Frame}
    (hl : ∀ (f : JFrame) (acts : List Action), f.method = m → f.locked = none → f.entered = [] → (doReturn e (T.setTop f) acts (some (.int z))).1 = T.setFrames fs) : Steps p.tables e below (T.setTop (mkF m pc Ls (.int z :: rest))) (T.setFrames fs) := by
  have hm' : T.vm.method? m = some meth := X.method'
  have hn : narrow .int (.int z) = .int z := rfl
  show Steps p.tables e below (T.setTop { method := m, pc := pc, locals := Ls, stack := _ :: rest, locked := none }) _
  jvm_step X.here [X.here.top, hx, hd, hm', hret, hn]
  first | (intro acts; rw [hl _ acts rfl rfl rfl]) | rw [hl _ _ rfl rfl rfl]
  exact Steps.refl _
end New
end Jvm.RoadKit
namespace Jvm.Pilot.@@N@@
open Jvm Jvm.ClassFile Sem Op Lib Jvm.Free Jvm.Stand Jvm.LawKit Jvm.RoadKit Bundle Jvm.Pilot.@@N@@.Jvm.D
theorem own_more {p : Program} {l : Launch} {e : Env} {R : Room} {s : State} {m : MethodId} {args : Array Value} {below : List Frame} {meth : Method} {c : Code} {T : State} {locs : List Loc} {k n k' n' : Nat} (X : Stand p l e R s m args below meth c T locs k n) (hk : k ≤ k') (hn : n ≤ n') : Stand p l e R s m args below meth c T locs k' n' := { X with same := X.same.mono hk hn }
theorem own_nar {t : FieldType} {v : Value} (h : v.isRef = true) (ht : t.isReference = true := by rfl) : narrow t v = v := by
  rcases ref_cases h with rfl | ⟨a, rfl⟩ <;> cases t <;> first | rfl | (cases ht; done)
theorem own_fit {t : FieldType} {v : Value} (h : v.isRef = true) (ht : t.isReference = true := by rfl) : fits t v = true := by
  rcases ref_cases h with rfl | ⟨a, rfl⟩ <;> cases t <;> first | rfl | (cases ht; done)
theorem own_ifc {P Q : Prop} [Decidable P] [Decidable Q] {α : Type} {a b c d : α} (h : P ↔ Q) (h1 : a = c) (h2 : b = d) : (if P then a else b) = (if Q then c else d) := by
  subst h1 h2; by_cases q : Q
  · rw [if_pos q, if_pos (h.mpr q)]
  · rw [if_neg q, if_neg (fun p => q (h.mp p))]
theorem own_cat {v : Value} (h : v.isRef = true) : v.category = 1 := by rcases ref_cases h with rfl | ⟨a, rfl⟩ <;> rfl
abbrev Rch (p : Program) (e : Env) (below : List Frame) (A B : State) : Prop := ∀ t, Steps p.tables e below B t → Steps p.tables e below A t

theorem own_ten (a : Int32) : ((a &&& (2147483647 : Int32)) % (10 : Int32)) = (0 : Int32) ∨ ((a &&& (2147483647 : Int32)) % (10 : Int32)) = (1 : Int32) ∨ ((a &&& (2147483647 : Int32)) % (10 : Int32)) = (2 : Int32) ∨ ((a &&& (2147483647 : Int32)) % (10 : Int32)) = (3 : Int32) ∨ ((a &&& (2147483647 : Int32)) % (10 : Int32)) = (4 : Int32) ∨ ((a &&& (2147483647 : Int32)) % (10 : Int32)) = (5 : Int32) ∨ ((a &&& (2147483647 : Int32)) % (10 : Int32)) = (6 : Int32) ∨ ((a &&& (2147483647 : Int32)) % (10 : Int32)) = (7 : Int32) ∨ ((a &&& (2147483647 : Int32)) % (10 : Int32)) = (8 : Int32) ∨ ((a &&& (2147483647 : Int32)) % (10 : Int32)) = (9 : Int32) := by
  have m := c_mask a 2147483647 31 (by decide) (by decide)
  have q := (c_irem (a &&& 2147483647) 10 10 rfl).1 (by omega)
  generalize ((a &&& (2147483647 : Int32)) % (10 : Int32)) = x at *
  have h : x.toInt = 0 ∨ x.toInt = 1 ∨ x.toInt = 2 ∨ x.toInt = 3 ∨ x.toInt = 4 ∨ x.toInt = 5 ∨ x.toInt = 6 ∨ x.toInt = 7 ∨ x.toInt = 8 ∨ x.toInt = 9 := by omega
  have f : ∀ n : Int32, x.toInt = n.toInt → x = n := fun n h => Int32.toInt_inj.mp h
  rcases h with h | h | h | h | h | h | h | h | h | h
  · exact Or.inl (f 0 h)
  · exact Or.inr (Or.inl (f 1 h))
  · exact Or.inr (Or.inr (Or.inl (f 2 h)))
  · exact Or.inr (Or.inr (Or.inr (Or.inl (f 3 h))))
  · exact Or.inr (Or.inr (Or.inr (Or.inr (Or.inl (f 4 h)))))
  · exact Or.inr (Or.inr (Or.inr (Or.inr (Or.inr (Or.inl (f 5 h))))))
  · exact Or.inr (Or.inr (Or.inr (Or.inr (Or.inr (Or.inr (Or.inl (f 6 h)))))))
  · exact Or.inr (Or.inr (Or.inr (Or.inr (Or.inr (Or.inr (Or.inr (Or.inl (f 7 h))))))))
  · exact Or.inr (Or.inr (Or.inr (Or.inr (Or.inr (Or.inr (Or.inr (Or.inr (Or.inl (f 8 h)))))))))
  · exact Or.inr (Or.inr (Or.inr (Or.inr (Or.inr (Or.inr (Or.inr (Or.inr (Or.inr (f 9 h)))))))))
theorem own_ord {args : Array Value} {s : State} {t : Term} {x : Addr} {k : Int32} {C n d : String} (ht : t.eval args s none [] s = some (.ref x)) (h : (Cond.eq (Term.field t C n d) (Term.int k)).value args s none s [] = some true) : Fld s s.heap x C n d (.int k) := by
  obtain ⟨u, w, h1, h2, -, h4⟩ := cmp_v (Or.inl h)
  have e2 : w = .int k := by simpa [Term.eval] using h2.symm
  subst e2
  obtain ⟨z, rfl⟩ := h4
  have q : z = k := by simpa [Cond.value, h1, h2] using h
  subst q
  rw [fld_at ht] at h1
  exact Fld.start h1
theorem own_elem {args : Array Value} {s : State} {t u : Term} {a x : Addr} {j : Int32} {cl : Cell} (ht : t.eval args s none [] s = some (.ref a)) (hc : s.heap[a]? = some cl) (hu : u.eval args s none [] s = some (.ref x)) (h : (Cond.eq (Term.elem t (Term.int j)) u).value args s none s [] = some true) (i : Nat) (hi : j.toNatClampNeg = i) : cl.slots[i]? = some (.ref x) := by
  obtain ⟨p, w, h1, h2, h3, h4⟩ := cmp_v (Or.inl h)
  cases hu.symm.trans h2
  have r := (elem_in h1 ht (by simp [Term.eval] : (Term.int j).eval args s none [] s = some (.int j)) hc).2
  rw [hi] at r
  have hp : p.isRef = true := h4.2
  rw [eq_R h1 h2 hp rfl] at h
  have : p = .ref x := by simpa using h
  rw [r, this]
theorem own_len {args : Array Value} {s : State} {t : Term} {a : Addr} {cl : Cell} {k : Int32} (ht : t.eval args s none [] s = some (.ref a)) (ha : s.arrayAt? a = some cl) (h : (Cond.eq (Term.length t) (Term.int k)).value args s none s [] = some true) : cl.slots.size < 2 ^ 31 ∧ cl.slots.size.toInt32 = k := by
  obtain ⟨p, w, h1, h2, -, -⟩ := cmp_v (Or.inl h)
  by_cases q : cl.slots.size < 2 ^ 31
  · refine ⟨q, ?_⟩
    rw [Cond.eq_ints (len_f ht ha q) (Term.int_eval k)] at h
    simpa using h
  · simp [Term.eval, ht, ha, q] at h1

theorem d1_0 : decode prog_36_method_4_code 0 = .ok (.iload_n 0, 1) := by decide +kernel
theorem d1_1 : decode prog_36_method_4_code 1 = .ok (.ifCond .lt 19, 3) := by decide +kernel
theorem d1_4 : decode prog_36_method_4_code 4 = .ok (.iload_n 0, 1) := by decide +kernel
theorem d1_5 : decode prog_36_method_4_code 5 = .ok (.getstatic 60, 3) := by decide +kernel
theorem d1_8 : decode prog_36_method_4_code 8 = .ok (.arraylength, 1) := by decide +kernel
theorem d1_9 : decode prog_36_method_4_code 9 = .ok (.if_icmp .ge 11, 3) := by decide +kernel
theorem d1_12 : decode prog_36_method_4_code 12 = .ok (.getstatic 60, 3) := by decide +kernel
theorem d1_15 : decode prog_36_method_4_code 15 = .ok (.iload_n 0, 1) := by decide +kernel
theorem d1_16 : decode prog_36_method_4_code 16 = .ok (.aaload, 1) := by decide +kernel
theorem d1_17 : decode prog_36_method_4_code 17 = .ok (.goto 4, 3) := by decide +kernel
theorem d1_21 : decode prog_36_method_4_code 21 = .ok (.areturn, 1) := by decide +kernel
theorem pn_0 : plainName "com/example/rootdb/rootdb/core/RecordKind" = true := by first | (simp [plainName, overriddenIn]; done) | decide +kernel
theorem d2_0 : decode prog_36_method_7_code 0 = .ok (.aload_n 0, 1) := by decide +kernel
theorem d2_1 : decode prog_36_method_7_code 1 = .ok (.getstatic 3, 3) := by decide +kernel
theorem d2_4 : decode prog_36_method_7_code 4 = .ok (.if_acmp .eq 28, 3) := by decide +kernel
theorem d2_32 : decode prog_36_method_7_code 32 = .ok (.iconst 0, 1) := by decide +kernel
theorem d2_7 : decode prog_36_method_7_code 7 = .ok (.aload_n 0, 1) := by decide +kernel
theorem d2_8 : decode prog_36_method_7_code 8 = .ok (.getstatic 7, 3) := by decide +kernel
theorem d2_33 : decode prog_36_method_7_code 33 = .ok (.ireturn, 1) := by decide +kernel
theorem d2_11 : decode prog_36_method_7_code 11 = .ok (.if_acmp .eq 21, 3) := by decide +kernel
theorem d2_14 : decode prog_36_method_7_code 14 = .ok (.aload_n 0, 1) := by decide +kernel
theorem d2_15 : decode prog_36_method_7_code 15 = .ok (.getstatic 13, 3) := by decide +kernel
theorem d2_18 : decode prog_36_method_7_code 18 = .ok (.if_acmp .eq 14, 3) := by decide +kernel
theorem d2_21 : decode prog_36_method_7_code 21 = .ok (.aload_n 0, 1) := by decide +kernel
theorem d2_22 : decode prog_36_method_7_code 22 = .ok (.getstatic 19, 3) := by decide +kernel
theorem d2_25 : decode prog_36_method_7_code 25 = .ok (.if_acmp .eq 7, 3) := by decide +kernel
theorem d2_28 : decode prog_36_method_7_code 28 = .ok (.iconst 1, 1) := by decide +kernel
theorem d2_29 : decode prog_36_method_7_code 29 = .ok (.goto 4, 3) := by decide +kernel
theorem pn_1 : plainName "com/example/rootdb/rootdb/core/RecordKindStartsNodePinLaw" = true := by first | (simp [plainName, overriddenIn]; done) | decide +kernel
theorem pd_0 : parseMethodDescriptor "(I)Lcom/example/rootdb/rootdb/core/RecordKind;" = some ⟨[.int], some (.object "com/example/rootdb/rootdb/core/RecordKind")⟩ := by decide +kernel
theorem pd_1 : parseMethodDescriptor "()Z" = some ⟨[], some .boolean⟩ := by decide +kernel
def Q_rmO (Z : State) (p1 : Int32) (aB : Addr) (kB : ClassId) (vs : List Value) (r : Addr) (h0 : Heap) (n0 : Nat) (v : Option Value) (h : Heap) (L : List Loc) : Prop := v = some (.ref r) ∧ Fr n0 L ∧ h = h0
set_option maxRecDepth 65536 in
set_option maxHeartbeats 40000000 in
theorem rmO (l : Launch) (Z : State) (a0 : Array Value) (hw : ∀ d ∈ tables_1, d.before a0 Z = true) (ws : List Jvm.Cond) (p1 : Int32) (aB : Addr) (kB : ClassId) (vs : List Value) (r : Addr) (h0 : Heap) (n0 : Nat) (Z0 : n0 ≤ h0.size) (O0 : Old Z n0 h0) (SB : Sta Z Z.heap "com/example/rootdb/rootdb/core/RecordKind" "BY_CODE" "[Lcom/example/rootdb/rootdb/core/RecordKind;" (.ref aB)) (VB : Arv Z h0 aB kB (.object "com/example/rootdb/rootdb/core/RecordKind") (10 : Int32) vs .null) (hp0 : ¬ (p1 < (0 : Int32))) (hp1 : p1 < (10 : Int32)) (hr_ : vs.getD (p1).toNatClampNeg .null = .ref r) :
    MetFree l (⟨"com/example/rootdb/rootdb/core/RecordKind", "ofCode", "(I)Lcom/example/rootdb/rootdb/core/RecordKind;"⟩ : MethodName) (head1 (Jvm.Cond.code (⟨"com/example/rootdb/rootdb/core/RecordKind", "ofCode", "(I)Lcom/example/rootdb/rootdb/core/RecordKind;"⟩ : MethodName) prog_36_method_4_code 1 (some (.object "com/example/rootdb/rootdb/core/RecordKind")) :: ws) ({ frames := 0, cells := 0, slots := 0, locals := 0 } : Room)) (fun a U => a = #[(.int p1)] ∧ Z.Warmed39 U.vm ∧ U.heap = h0) (fun _ _ _ _ _ => True) (fun _ U o U' => ∃ v L, o = .returned v ∧ Q_rmO Z p1 aB kB vs r h0 n0 v U'.heap L ∧ FrameEnd U o U' L ({ frames := 0, cells := 0, slots := 0, locals := 0 } : Room).cells ({ frames := 0, cells := 0, slots := 0, locals := 0 } : Room).slots) := by
  refine MetFree.of_bodySF (plainFor_of_name pn_0) hisR ?_
  intro p e s m args below meth c s₁ Bd hml0 hP hK
  obtain ⟨rfl, hZ, hh⟩ := hP
  have hx := Bd.exec
  have hby := Bd.bytes
  have hml : c.maxLocals = 1 := hml0
  have hown : s.vm.findClass "com/example/rootdb/rootdb/core/RecordKind" = some m.cls := findClass_of_methodNamed Bd.named
  have hnm := (name_of_methodNamed Bd.named Bd.method).1
  have X0 : Stand p l e ({ frames := 0, cells := 0, slots := 0, locals := 0 } : Room) s m #[(.int p1)] below meth c s₁ [] 0 0 := Stand.of_body Bd
  have e0 : s₁.heap = h0 := by rw [← hh, Bd.state]; rfl
  have N0 := Fr.nil n0
  have P0 : Rch p e below (s₁.setTop (entryFrame m #[(.int p1)] 1)) (s₁.setTop (mkF m 0 #[.val (.int p1)] [])) := fun t k => castTop (by first | (simp [entryFrame, mkF, argsToLocals, Value.category]; done) | rfl) k
  have P1 : Rch p e below (s₁.setTop (entryFrame m #[(.int p1)] 1)) (s₁.setTop (mkF m 5 #[.val (.int p1)] [(.int p1)])) := fun t k => P0 t (by
    show Steps p.tables e below (s₁.setTop (mkF m 0 #[.val (.int p1)] [])) t
    refine XS.iloadN X0.here hx rfl (hb hby d1_0) rfl ?_
    show Steps p.tables e below (s₁.setTop (mkF m 1 #[.val (.int p1)] [(.int p1)])) t
    refine XS.ifNo X0.here hx rfl (hb hby d1_1) rfl ((if0 _ _).trans (flt hp0).1) ?_
    show Steps p.tables e below (s₁.setTop (mkF m 4 #[.val (.int p1)] [])) t
    refine XS.iloadN X0.here hx rfl (hb hby d1_4) rfl ?_
    exact k)
  obtain ⟨T2, X2, e2, st2⟩ := getS2 X0 hx hZ hown (host := "") (Or.inl (hw _ (List.mem_of_getElem? (i := 5) rfl))) Via.refl e0 (SB.ext O0.2) (g := (mkF m 5 #[.val (.int p1)] [(.int p1)])) rfl (hb hby d1_5)
  have P3 : Rch p e below (s₁.setTop (entryFrame m #[(.int p1)] 1)) (T2.setTop (mkF m 8 #[.val (.int p1)] [(.ref aB), (.int p1)])) := fun t k => P1 t (st2 t k)
  have V_o4 := VB
  obtain ⟨co4, Aro4, qo4, So4, Mo4, Ho4, Go4⟩ := V_o4
  have P5 : Rch p e below (s₁.setTop (entryFrame m #[(.int p1)] 1)) (T2.setTop (mkF m 9 #[.val (.int p1)] [(.int (10 : Int32)), (.int p1)])) := fun t k => P3 t (by
    refine X2.arraylength hx (by rw [e2]; exact Aro4.1) (State.isArrayOf_alike hZ.alike Aro4.2.1) (g := (mkF m 8 #[.val (.int p1)] [(.ref aB), (.int p1)])) rfl rfl (hb hby d1_8) _ ?_
    rw [len_of So4 Mo4]; exact k)
  have P6 : Rch p e below (s₁.setTop (entryFrame m #[(.int p1)] 1)) (T2.setTop (mkF m 12 #[.val (.int p1)] [])) := fun t k => P5 t (by
    show Steps p.tables e below (T2.setTop (mkF m 9 #[.val (.int p1)] [(.int (10 : Int32)), (.int p1)])) t
    refine XS.icmpNo X2.here hx rfl (hb hby d1_9) rfl (tlt hp1).2.1 ?_
    exact k)
  obtain ⟨T7, X7, e7, st7⟩ := getS2 X2 hx hZ hown (host := "") (Or.inl (hw _ (List.mem_of_getElem? (i := 5) rfl))) Via.refl e2 (SB.ext O0.2) (g := (mkF m 12 #[.val (.int p1)] [])) rfl (hb hby d1_12)
  have P8 : Rch p e below (s₁.setTop (entryFrame m #[(.int p1)] 1)) (T7.setTop (mkF m 15 #[.val (.int p1)] [(.ref aB)])) := fun t k => P6 t (st7 t k)
  have P9 : Rch p e below (s₁.setTop (entryFrame m #[(.int p1)] 1)) (T7.setTop (mkF m 16 #[.val (.int p1)] [(.int p1), (.ref aB)])) := fun t k => P8 t (by
    show Steps p.tables e below (T7.setTop (mkF m 15 #[.val (.int p1)] [(.ref aB)])) t
    refine XS.iloadN X7.here hx rfl (hb hby d1_15) rfl ?_
    exact k)
  have V_o10 := VB
  obtain ⟨co10, Aro10, qo10, So10, Mo10, Ho10, Go10⟩ := V_o10
  have hin11 : ¬ (p1 < 0 ∨ co10.slots.size ≤ (p1).toNatClampNeg) := inb_of So10 ⟨hp0, hp1⟩
  have hat11 : co10.slots[(p1).toNatClampNeg]? = some (.ref r) := Has.at Ho10 hin11 hr_
  have P12 : Rch p e below (s₁.setTop (entryFrame m #[(.int p1)] 1)) (T7.setTop (mkF m 17 #[.val (.int p1)] [(.ref r)])) := fun t k => P9 t (X7.aaload hx (j := p1) (v := (.ref r)) (by rw [e7]; exact Aro10.1) (State.isArrayOf_alike hZ.alike Aro10.2.1) rfl Aro10.2.2 hin11 hat11 (g := (mkF m 16 #[.val (.int p1)] [(.int p1), (.ref aB)])) rfl rfl (hb hby d1_16) t k)
  have P13 : Rch p e below (s₁.setTop (entryFrame m #[(.int p1)] 1)) (T7.setTop (mkF m 21 #[.val (.int p1)] [(.ref r)])) := fun t k => P12 t (by
    show Steps p.tables e below (T7.setTop (mkF m 17 #[.val (.int p1)] [(.ref r)])) t
    refine XS.goto X7.here hx rfl (pc0 := 17) (pc' := 21) rfl (hb hby d1_17) (by decide) (by decide) ?_
    exact k)
  obtain ⟨fs, hr, hrun, hended, hW, hsame⟩ := X7.leave (v := some (.ref r)) (fun h => by rw [Bd.returns] at h; cases h)
  refine ⟨_, _, P13 _ ?_, hrun, hended, _, _, rfl, ?_, ⟨_, rfl⟩, hW, hsame.mono (by decide) (by decide)⟩
  · exact retOut X7 hx Bd.returns rfl (Or.inr (Or.inr (Or.inr (Or.inr ⟨rfl, rfl, rfl⟩)))) (hb hby d1_21) hr
  · show Q_rmO Z p1 aB kB vs r h0 n0 _ T7.heap _
    rw [e7]
    exact ⟨rfl, N0, rfl⟩
def Q_rmN (Z : State) (a1 : Addr) (u0 : Addr) (u1 : Addr) (u3 : Addr) (u5 : Addr) (h0 : Heap) (n0 : Nat) (v : Option Value) (h : Heap) (L : List Loc) : Prop := v = some (.int (if a1 = u0 then (0 : Int32) else (if a1 = u1 then (0 : Int32) else (if a1 = u3 then (0 : Int32) else (if a1 = u5 then (0 : Int32) else (1 : Int32)))))) ∧ Fr n0 L ∧ h = h0
set_option maxRecDepth 65536 in
set_option maxHeartbeats 40000000 in
theorem rmN (l : Launch) (Z : State) (a0 : Array Value) (hw : ∀ d ∈ tables_1, d.before a0 Z = true) (ws : List Jvm.Cond) (a1 : Addr) (u0 : Addr) (u1 : Addr) (u3 : Addr) (u5 : Addr) (h0 : Heap) (n0 : Nat) (Z0 : n0 ≤ h0.size) (O0 : Old Z n0 h0) (S0 : Sta Z Z.heap "com/example/rootdb/rootdb/core/RecordKind" "END_DOCUMENT" "Lcom/example/rootdb/rootdb/core/RecordKind;" (.ref u0)) (S1 : Sta Z Z.heap "com/example/rootdb/rootdb/core/RecordKind" "DOCTYPE" "Lcom/example/rootdb/rootdb/core/RecordKind;" (.ref u1)) (S3 : Sta Z Z.heap "com/example/rootdb/rootdb/core/RecordKind" "NAMESPACE" "Lcom/example/rootdb/rootdb/core/RecordKind;" (.ref u3)) (S5 : Sta Z Z.heap "com/example/rootdb/rootdb/core/RecordKind" "END_ELEMENT" "Lcom/example/rootdb/rootdb/core/RecordKind;" (.ref u5)) :
    MetFree l (⟨"com/example/rootdb/rootdb/core/RecordKind", "startsNode", "()Z"⟩ : MethodName) (head1 (Jvm.Cond.code (⟨"com/example/rootdb/rootdb/core/RecordKind", "startsNode", "()Z"⟩ : MethodName) prog_36_method_7_code 1 (some .boolean) :: ws) ({ frames := 0, cells := 0, slots := 0, locals := 0 } : Room)) (fun a U => a = #[(.ref a1)] ∧ Z.Warmed39 U.vm ∧ U.heap = h0) (fun _ _ _ _ _ => True) (fun _ U o U' => ∃ v L, o = .returned v ∧ Q_rmN Z a1 u0 u1 u3 u5 h0 n0 v U'.heap L ∧ FrameEnd U o U' L ({ frames := 0, cells := 0, slots := 0, locals := 0 } : Room).cells ({ frames := 0, cells := 0, slots := 0, locals := 0 } : Room).slots) := by
  refine MetFree.of_bodySF (plainFor_of_name pn_0) hisR ?_
  intro p e s m args below meth c s₁ Bd hml0 hP hK
  obtain ⟨rfl, hZ, hh⟩ := hP
  have hx := Bd.exec
  have hby := Bd.bytes
  have hml : c.maxLocals = 1 := hml0
  have hown : s.vm.findClass "com/example/rootdb/rootdb/core/RecordKind" = some m.cls := findClass_of_methodNamed Bd.named
  have hnm := (name_of_methodNamed Bd.named Bd.method).1
  have X0 : Stand p l e ({ frames := 0, cells := 0, slots := 0, locals := 0 } : Room) s m #[(.ref a1)] below meth c s₁ [] 0 0 := Stand.of_body Bd
  have e0 : s₁.heap = h0 := by rw [← hh, Bd.state]; rfl
  have N0 := Fr.nil n0
  have P0 : Rch p e below (s₁.setTop (entryFrame m #[(.ref a1)] 1)) (s₁.setTop (mkF m 0 #[.val (.ref a1)] [])) := fun t k => castTop (by first | (simp [entryFrame, mkF, argsToLocals, Value.category]; done) | rfl) k
  have P1 : Rch p e below (s₁.setTop (entryFrame m #[(.ref a1)] 1)) (s₁.setTop (mkF m 1 #[.val (.ref a1)] [(.ref a1)])) := fun t k => P0 t (by
    show Steps p.tables e below (s₁.setTop (mkF m 0 #[.val (.ref a1)] [])) t
    refine XS.aloadN X0.here hx rfl (hb hby d2_0) rfl rfl ?_
    exact k)
  obtain ⟨T2, X2, e2, st2⟩ := getS2 X0 hx hZ hown (host := "") (Or.inl (hw _ (List.mem_of_getElem? (i := 13) rfl))) Via.refl e0 (S0.ext O0.2) (g := (mkF m 1 #[.val (.ref a1)] [(.ref a1)])) rfl (hb hby d2_1)
  have P3 : Rch p e below (s₁.setTop (entryFrame m #[(.ref a1)] 1)) (T2.setTop (mkF m 4 #[.val (.ref a1)] [(.ref u0), (.ref a1)])) := fun t k => P1 t (st2 t k)
  by_cases c4 : a1 = u0
  · have P5 : Rch p e below (s₁.setTop (entryFrame m #[(.ref a1)] 1)) (T2.setTop (mkF m 33 #[.val (.ref a1)] [(.int (0 : Int32))])) := fun t k => P3 t (by
      show Steps p.tables e below (T2.setTop (mkF m 4 #[.val (.ref a1)] [(.ref u0), (.ref a1)])) t
      refine Jvm.RoadKit.acmp (g := (mkF m 4 #[.val (.ref a1)] [(.ref u0), (.ref a1)])) X2 hx rfl rfl rfl (pc0 := 4) (pc' := 32) (same := true) rfl (hb hby d2_4) rfl (decide_eq_true (congrArg Value.ref c4)) (by decide) (by decide) ?_
      show Steps p.tables e below (T2.setTop (mkF m 32 #[.val (.ref a1)] [])) t
      refine XS.iconst X2.here hx rfl (hb hby d2_32) ?_
      exact k)
    obtain ⟨fs, hr, hrun, hended, hW, hsame⟩ := X2.leave (v := some (.int (0 : Int32))) (fun h => by rw [Bd.returns] at h; cases h)
    refine ⟨_, _, P5 _ ?_, hrun, hended, _, _, rfl, ?_, ⟨_, rfl⟩, hW, hsame.mono (by decide) (by decide)⟩
    · exact retN X2 hx (t := .boolean) Bd.returns (by simp) (hb hby d2_33) hr
    · show Q_rmN Z a1 u0 u1 u3 u5 h0 n0 _ T2.heap _
      rw [e2]
      exact ⟨(by first | rfl | rw [if_pos c4] | simp only [if_pos c4] | simp [*]), N0, rfl⟩
  · have P6 : Rch p e below (s₁.setTop (entryFrame m #[(.ref a1)] 1)) (T2.setTop (mkF m 8 #[.val (.ref a1)] [(.ref a1)])) := fun t k => P3 t (by
      show Steps p.tables e below (T2.setTop (mkF m 4 #[.val (.ref a1)] [(.ref u0), (.ref a1)])) t
      refine Jvm.RoadKit.acmp (g := (mkF m 4 #[.val (.ref a1)] [(.ref u0), (.ref a1)])) X2 hx rfl rfl rfl (pc0 := 4) (pc' := 7) (same := false) rfl (hb hby d2_4) rfl (decide_eq_false fun q => c4 (Value.ref.inj q)) (by decide) (by decide) ?_
      show Steps p.tables e below (T2.setTop (mkF m 7 #[.val (.ref a1)] [])) t
      refine XS.aloadN X2.here hx rfl (hb hby d2_7) rfl rfl ?_
      exact k)
    obtain ⟨T7, X7, e7, st7⟩ := getS2 X2 hx hZ hown (host := "") (Or.inl (hw _ (List.mem_of_getElem? (i := 15) rfl))) Via.refl e2 (S1.ext O0.2) (g := (mkF m 8 #[.val (.ref a1)] [(.ref a1)])) rfl (hb hby d2_8)
    have P8 : Rch p e below (s₁.setTop (entryFrame m #[(.ref a1)] 1)) (T7.setTop (mkF m 11 #[.val (.ref a1)] [(.ref u1), (.ref a1)])) := fun t k => P6 t (st7 t k)
    by_cases c9 : a1 = u1
    · have P10 : Rch p e below (s₁.setTop (entryFrame m #[(.ref a1)] 1)) (T7.setTop (mkF m 33 #[.val (.ref a1)] [(.int (0 : Int32))])) := fun t k => P8 t (by
        show Steps p.tables e below (T7.setTop (mkF m 11 #[.val (.ref a1)] [(.ref u1), (.ref a1)])) t
        refine Jvm.RoadKit.acmp (g := (mkF m 11 #[.val (.ref a1)] [(.ref u1), (.ref a1)])) X7 hx rfl rfl rfl (pc0 := 11) (pc' := 32) (same := true) rfl (hb hby d2_11) rfl (decide_eq_true (congrArg Value.ref c9)) (by decide) (by decide) ?_
        show Steps p.tables e below (T7.setTop (mkF m 32 #[.val (.ref a1)] [])) t
        refine XS.iconst X7.here hx rfl (hb hby d2_32) ?_
        exact k)
      obtain ⟨fs, hr, hrun, hended, hW, hsame⟩ := X7.leave (v := some (.int (0 : Int32))) (fun h => by rw [Bd.returns] at h; cases h)
      refine ⟨_, _, P10 _ ?_, hrun, hended, _, _, rfl, ?_, ⟨_, rfl⟩, hW, hsame.mono (by decide) (by decide)⟩
      · exact retN X7 hx (t := .boolean) Bd.returns (by simp) (hb hby d2_33) hr
      · show Q_rmN Z a1 u0 u1 u3 u5 h0 n0 _ T7.heap _
        rw [e7]
        exact ⟨(by first | rfl | rw [if_neg c4, if_pos c9] | simp only [if_neg c4, if_pos c9] | simp [*]), N0, rfl⟩
    · have P11 : Rch p e below (s₁.setTop (entryFrame m #[(.ref a1)] 1)) (T7.setTop (mkF m 15 #[.val (.ref a1)] [(.ref a1)])) := fun t k => P8 t (by
        show Steps p.tables e below (T7.setTop (mkF m 11 #[.val (.ref a1)] [(.ref u1), (.ref a1)])) t
        refine Jvm.RoadKit.acmp (g := (mkF m 11 #[.val (.ref a1)] [(.ref u1), (.ref a1)])) X7 hx rfl rfl rfl (pc0 := 11) (pc' := 14) (same := false) rfl (hb hby d2_11) rfl (decide_eq_false fun q => c9 (Value.ref.inj q)) (by decide) (by decide) ?_
        show Steps p.tables e below (T7.setTop (mkF m 14 #[.val (.ref a1)] [])) t
        refine XS.aloadN X7.here hx rfl (hb hby d2_14) rfl rfl ?_
        exact k)
      obtain ⟨T12, X12, e12, st12⟩ := getS2 X7 hx hZ hown (host := "") (Or.inl (hw _ (List.mem_of_getElem? (i := 17) rfl))) Via.refl e7 (S3.ext O0.2) (g := (mkF m 15 #[.val (.ref a1)] [(.ref a1)])) rfl (hb hby d2_15)
      have P13 : Rch p e below (s₁.setTop (entryFrame m #[(.ref a1)] 1)) (T12.setTop (mkF m 18 #[.val (.ref a1)] [(.ref u3), (.ref a1)])) := fun t k => P11 t (st12 t k)
      by_cases c14 : a1 = u3
      · have P15 : Rch p e below (s₁.setTop (entryFrame m #[(.ref a1)] 1)) (T12.setTop (mkF m 33 #[.val (.ref a1)] [(.int (0 : Int32))])) := fun t k => P13 t (by
          show Steps p.tables e below (T12.setTop (mkF m 18 #[.val (.ref a1)] [(.ref u3), (.ref a1)])) t
          refine Jvm.RoadKit.acmp (g := (mkF m 18 #[.val (.ref a1)] [(.ref u3), (.ref a1)])) X12 hx rfl rfl rfl (pc0 := 18) (pc' := 32) (same := true) rfl (hb hby d2_18) rfl (decide_eq_true (congrArg Value.ref c14)) (by decide) (by decide) ?_
          show Steps p.tables e below (T12.setTop (mkF m 32 #[.val (.ref a1)] [])) t
          refine XS.iconst X12.here hx rfl (hb hby d2_32) ?_
          exact k)
        obtain ⟨fs, hr, hrun, hended, hW, hsame⟩ := X12.leave (v := some (.int (0 : Int32))) (fun h => by rw [Bd.returns] at h; cases h)
        refine ⟨_, _, P15 _ ?_, hrun, hended, _, _, rfl, ?_, ⟨_, rfl⟩, hW, hsame.mono (by decide) (by decide)⟩
        · exact retN X12 hx (t := .boolean) Bd.returns (by simp) (hb hby d2_33) hr
        · show Q_rmN Z a1 u0 u1 u3 u5 h0 n0 _ T12.heap _
          rw [e12]
          exact ⟨(by first | rfl | rw [if_neg c4, if_neg c9, if_pos c14] | simp only [if_neg c4, if_neg c9, if_pos c14] | simp [*]), N0, rfl⟩
      · have P16 : Rch p e below (s₁.setTop (entryFrame m #[(.ref a1)] 1)) (T12.setTop (mkF m 22 #[.val (.ref a1)] [(.ref a1)])) := fun t k => P13 t (by
          show Steps p.tables e below (T12.setTop (mkF m 18 #[.val (.ref a1)] [(.ref u3), (.ref a1)])) t
          refine Jvm.RoadKit.acmp (g := (mkF m 18 #[.val (.ref a1)] [(.ref u3), (.ref a1)])) X12 hx rfl rfl rfl (pc0 := 18) (pc' := 21) (same := false) rfl (hb hby d2_18) rfl (decide_eq_false fun q => c14 (Value.ref.inj q)) (by decide) (by decide) ?_
          show Steps p.tables e below (T12.setTop (mkF m 21 #[.val (.ref a1)] [])) t
          refine XS.aloadN X12.here hx rfl (hb hby d2_21) rfl rfl ?_
          exact k)
        obtain ⟨T17, X17, e17, st17⟩ := getS2 X12 hx hZ hown (host := "") (Or.inl (hw _ (List.mem_of_getElem? (i := 19) rfl))) Via.refl e12 (S5.ext O0.2) (g := (mkF m 22 #[.val (.ref a1)] [(.ref a1)])) rfl (hb hby d2_22)
        have P18 : Rch p e below (s₁.setTop (entryFrame m #[(.ref a1)] 1)) (T17.setTop (mkF m 25 #[.val (.ref a1)] [(.ref u5), (.ref a1)])) := fun t k => P16 t (st17 t k)
        obtain ⟨v20, hv20, P21⟩ : ∃ (v20 : Int32), v20 = (if a1 = u5 then (0 : Int32) else (1 : Int32)) ∧ Rch p e below (s₁.setTop (entryFrame m #[(.ref a1)] 1)) (T17.setTop (mkF m 33 #[.val (.ref a1)] [(.int v20)])) := by
          by_cases c19 : a1 = u5
          · refine ⟨(0 : Int32), (by first | rfl | rw [if_pos c19] | simp only [if_pos c19]), fun t k => P18 t ?_⟩
            show Steps p.tables e below (T17.setTop (mkF m 25 #[.val (.ref a1)] [(.ref u5), (.ref a1)])) t
            refine Jvm.RoadKit.acmp (g := (mkF m 25 #[.val (.ref a1)] [(.ref u5), (.ref a1)])) X17 hx rfl rfl rfl (pc0 := 25) (pc' := 32) (same := true) rfl (hb hby d2_25) rfl (decide_eq_true (congrArg Value.ref c19)) (by decide) (by decide) ?_
            show Steps p.tables e below (T17.setTop (mkF m 32 #[.val (.ref a1)] [])) t
            refine XS.iconst X17.here hx rfl (hb hby d2_32) ?_
            exact k
          · refine ⟨(1 : Int32), (by first | rfl | rw [if_neg c19] | simp only [if_neg c19]), fun t k => P18 t ?_⟩
            show Steps p.tables e below (T17.setTop (mkF m 25 #[.val (.ref a1)] [(.ref u5), (.ref a1)])) t
            refine Jvm.RoadKit.acmp (g := (mkF m 25 #[.val (.ref a1)] [(.ref u5), (.ref a1)])) X17 hx rfl rfl rfl (pc0 := 25) (pc' := 28) (same := false) rfl (hb hby d2_25) rfl (decide_eq_false fun q => c19 (Value.ref.inj q)) (by decide) (by decide) ?_
            show Steps p.tables e below (T17.setTop (mkF m 28 #[.val (.ref a1)] [])) t
            refine XS.iconst X17.here hx rfl (hb hby d2_28) ?_
            show Steps p.tables e below (T17.setTop (mkF m 29 #[.val (.ref a1)] [(.int (1 : Int32))])) t
            refine XS.goto X17.here hx rfl (pc0 := 29) (pc' := 33) rfl (hb hby d2_29) (by decide) (by decide) ?_
            exact k
        have hz22 : nar .boolean v20 = v20 := by rw [hv20]; (repeat' split) <;> rfl
        obtain ⟨fs, hr, hrun, hended, hW, hsame⟩ := X17.leave (v := some (.int (nar .boolean v20))) (fun h => by rw [Bd.returns] at h; cases h)
        refine ⟨_, _, P21 _ ?_, hrun, hended, _, _, rfl, ?_, ⟨_, rfl⟩, hW, hsame.mono (by decide) (by decide)⟩
        · exact retN X17 hx (t := .boolean) Bd.returns (by simp) (hb hby d2_33) hr
        · show Q_rmN Z a1 u0 u1 u3 u5 h0 n0 _ T17.heap _
          rw [e17]
          exact ⟨(by rw [hz22]; subst hv20; first | rfl | rw [if_neg c4, if_neg c9, if_neg c14] | simp only [if_neg c4, if_neg c9, if_neg c14] | simp [*]), N0, rfl⟩
def Q_rm0 (Z : State) (p1 : Int32) (aB : Addr) (kB : ClassId) (ob0 : Addr) (ob1 : Addr) (ob2 : Addr) (ob3 : Addr) (ob4 : Addr) (ob5 : Addr) (ob6 : Addr) (ob7 : Addr) (ob8 : Addr) (ob9 : Addr) (h0 : Heap) (n0 : Nat) (v : Option Value) (h : Heap) (L : List Loc) : Prop := v = some (.int (1 : Int32)) ∧ Fr n0 L
set_option maxRecDepth 65536 in
set_option maxHeartbeats 40000000 in
theorem rm0 (l : Launch) (Z : State) (a0 : Array Value) (hw : ∀ d ∈ tables_1, d.before a0 Z = true) (ws : List Jvm.Cond) (p1 : Int32) (aB : Addr) (kB : ClassId) (ob0 : Addr) (ob1 : Addr) (ob2 : Addr) (ob3 : Addr) (ob4 : Addr) (ob5 : Addr) (ob6 : Addr) (ob7 : Addr) (ob8 : Addr) (ob9 : Addr) (h0 : Heap) (n0 : Nat) (Z0 : n0 ≤ h0.size) (O0 : Old Z n0 h0) (SB : Sta Z Z.heap "com/example/rootdb/rootdb/core/RecordKind" "BY_CODE" "[Lcom/example/rootdb/rootdb/core/RecordKind;" (.ref aB)) (S0 : Sta Z Z.heap "com/example/rootdb/rootdb/core/RecordKind" "END_DOCUMENT" "Lcom/example/rootdb/rootdb/core/RecordKind;" (.ref ob0)) (S1 : Sta Z Z.heap "com/example/rootdb/rootdb/core/RecordKind" "DOCTYPE" "Lcom/example/rootdb/rootdb/core/RecordKind;" (.ref ob1)) (S3 : Sta Z Z.heap "com/example/rootdb/rootdb/core/RecordKind" "NAMESPACE" "Lcom/example/rootdb/rootdb/core/RecordKind;" (.ref ob3)) (S5 : Sta Z Z.heap "com/example/rootdb/rootdb/core/RecordKind" "END_ELEMENT" "Lcom/example/rootdb/rootdb/core/RecordKind;" (.ref ob5)) (VB : Arv Z h0 aB kB (.object "com/example/rootdb/rootdb/core/RecordKind") (10 : Int32) [(.ref ob0), (.ref ob1), (.ref ob2), (.ref ob3), (.ref ob4), (.ref ob5), (.ref ob6), (.ref ob7), (.ref ob8), (.ref ob9)] .null) (E0 : Exa Z h0 ob0 "com/example/rootdb/rootdb/core/RecordKind") (E1 : Exa Z h0 ob1 "com/example/rootdb/rootdb/core/RecordKind") (E2 : Exa Z h0 ob2 "com/example/rootdb/rootdb/core/RecordKind") (E3 : Exa Z h0 ob3 "com/example/rootdb/rootdb/core/RecordKind") (E4 : Exa Z h0 ob4 "com/example/rootdb/rootdb/core/RecordKind") (E5 : Exa Z h0 ob5 "com/example/rootdb/rootdb/core/RecordKind") (E6 : Exa Z h0 ob6 "com/example/rootdb/rootdb/core/RecordKind") (E7 : Exa Z h0 ob7 "com/example/rootdb/rootdb/core/RecordKind") (E8 : Exa Z h0 ob8 "com/example/rootdb/rootdb/core/RecordKind") (E9 : Exa Z h0 ob9 "com/example/rootdb/rootdb/core/RecordKind") (n0_1 : ob0 ≠ ob1) (n0_3 : ob0 ≠ ob3) (n0_5 : ob0 ≠ ob5) (n1_0 : ob1 ≠ ob0) (n1_3 : ob1 ≠ ob3) (n1_5 : ob1 ≠ ob5) (n2_0 : ob2 ≠ ob0) (n2_1 : ob2 ≠ ob1) (n2_3 : ob2 ≠ ob3) (n2_5 : ob2 ≠ ob5) (n3_0 : ob3 ≠ ob0) (n3_1 : ob3 ≠ ob1) (n3_5 : ob3 ≠ ob5) (n4_0 : ob4 ≠ ob0) (n4_1 : ob4 ≠ ob1) (n4_3 : ob4 ≠ ob3) (n4_5 : ob4 ≠ ob5) (n5_0 : ob5 ≠ ob0) (n5_1 : ob5 ≠ ob1) (n5_3 : ob5 ≠ ob3) (n6_0 : ob6 ≠ ob0) (n6_1 : ob6 ≠ ob1) (n6_3 : ob6 ≠ ob3) (n6_5 : ob6 ≠ ob5) (n7_0 : ob7 ≠ ob0) (n7_1 : ob7 ≠ ob1) (n7_3 : ob7 ≠ ob3) (n7_5 : ob7 ≠ ob5) (n8_0 : ob8 ≠ ob0) (n8_1 : ob8 ≠ ob1) (n8_3 : ob8 ≠ ob3) (n8_5 : ob8 ≠ ob5) (n9_0 : ob9 ≠ ob0) (n9_1 : ob9 ≠ ob1) (n9_3 : ob9 ≠ ob3) (n9_5 : ob9 ≠ ob5) :
    MetFree l x (head1 (Jvm.Cond.code x code maxLocals ret :: ws) room_1) (fun a U => a = #[(.int p1)] ∧ Z.Warmed39 U.vm ∧ U.heap = h0) (fun _ _ _ _ _ => True) (fun _ U o U' => ∃ v L, o = .returned v ∧ Q_rm0 Z p1 aB kB ob0 ob1 ob2 ob3 ob4 ob5 ob6 ob7 ob8 ob9 h0 n0 v U'.heap L ∧ FrameEnd U o U' L room_1.cells room_1.slots) := by
  refine MetFree.of_bodySF (plainFor_of_name pn_1) hisR ?_
  intro p e s m args below meth c s₁ Bd hml0 hP hK
  obtain ⟨rfl, hZ, hh⟩ := hP
  have hx := Bd.exec
  have hby := Bd.bytes
  have hml : c.maxLocals = 4 := hml0
  have hown : s.vm.findClass "com/example/rootdb/rootdb/core/RecordKindStartsNodePinLaw" = some m.cls := findClass_of_methodNamed Bd.named
  have hnm := (name_of_methodNamed Bd.named Bd.method).1
  have X0 : Stand p l e room_1 s m #[(.int p1)] below meth c s₁ [] 0 0 := Stand.of_body Bd
  have e0 : s₁.heap = h0 := by rw [← hh, Bd.state]; rfl
  have N0 := Fr.nil n0
  have P0 : Rch p e below (s₁.setTop (entryFrame m #[(.int p1)] maxLocals)) (s₁.setTop (mkF m 0 #[.val (.int p1), .unset, .unset, .unset] [])) := fun t k => castTop (by first | (simp [entryFrame, mkF, argsToLocals, Value.category, maxLocals]; done) | rfl) k
  obtain ⟨x1, hx1⟩ : ∃ z : Int32, z = ((p1 &&& (2147483647 : Int32)) % (10 : Int32)) := ⟨_, rfl⟩
  have P2 : Rch p e below (s₁.setTop (entryFrame m #[(.int p1)] maxLocals)) (s₁.setTop (mkF m 8 #[.val (.int p1), .val (.int x1), .unset, .unset] [])) := fun t k => P0 t (by
    subst hx1
    show Steps p.tables e below (s₁.setTop (mkF m 0 #[.val (.int p1), .unset, .unset, .unset] [])) t
    refine XS.iloadN X0.here hx rfl (hb hby at_0) rfl ?_
    show Steps p.tables e below (s₁.setTop (mkF m 1 #[.val (.int p1), .unset, .unset, .unset] [(.int p1)])) t
    refine X0.ldcInt hx hown (mvT hZ (hw _ (List.mem_of_getElem? (i := 0) rfl))) (g := (mkF m 1 #[.val (.int p1), .unset, .unset, .unset] [(.int p1)])) rfl (hb hby at_1) _ ?_
    show Steps p.tables e below (s₁.setTop (mkF m 3 #[.val (.int p1), .unset, .unset, .unset] [(.int (2147483647 : Int32)), (.int p1)])) t
    refine XS.iand X0.here hx rfl (hb hby at_3) rfl ?_
    show Steps p.tables e below (s₁.setTop (mkF m 4 #[.val (.int p1), .unset, .unset, .unset] [(.int (p1 &&& (2147483647 : Int32)))])) t
    refine XS.bipush X0.here hx rfl (hb hby at_4) ?_
    show Steps p.tables e below (s₁.setTop (mkF m 6 #[.val (.int p1), .unset, .unset, .unset] [(.int (10 : Int32)), (.int (p1 &&& (2147483647 : Int32)))])) t
    refine iremM X0 hx rfl (hb hby at_6) rfl (by decide) ?_
    show Steps p.tables e below (s₁.setTop (mkF m 7 #[.val (.int p1), .unset, .unset, .unset] [(.int ((p1 &&& (2147483647 : Int32)) % (10 : Int32)))])) t
    refine XS.istoreN X0.here hx rfl (hb hby at_7) rfl (l' := #[.val (.int p1), .val (.int ((p1 &&& (2147483647 : Int32)) % (10 : Int32))), .unset, .unset]) rfl ?_
    exact k)
  rcases own_ten p1 with hs | hs | hs | hs | hs | hs | hs | hs | hs | hs
  · have hi_ : x1 = (0 : Int32) := by subst hx1; exact hs
    have P3 : Rch p e below (s₁.setTop (entryFrame m #[(.int p1)] maxLocals)) (s₁.setTop (mkF m 8 #[.val (.int p1), .val (.int (0 : Int32)), .unset, .unset] [])) := by have q_ := P2; rw [hi_] at q_; exact q_
    have P4 : Rch p e below (s₁.setTop (entryFrame m #[(.int p1)] maxLocals)) (s₁.setTop (mkF m 9 #[.val (.int p1), .val (.int (0 : Int32)), .unset, .unset] [(.int (0 : Int32))])) := fun t k => P3 t (by
      show Steps p.tables e below (s₁.setTop (mkF m 8 #[.val (.int p1), .val (.int (0 : Int32)), .unset, .unset] [])) t
      refine XS.iloadN X0.here hx rfl (hb hby at_8) rfl ?_
      exact k)
    obtain ⟨_, _, ⟨T5, L5, k5, n5⟩, -, X5, ⟨Lc5, hQ5, l5, y5, z5⟩, st5⟩ := Jvm.LawKit.callS X0 hx (y := (⟨"com/example/rootdb/rootdb/core/RecordKind", "ofCode", "(I)Lcom/example/rootdb/rootdb/core/RecordKind;"⟩ : MethodName)) hown (mvT hZ (hw _ (List.mem_of_getElem? (i := 1) rfl))) (mvT hZ (hw _ (List.mem_of_getElem? (i := 2) rfl))) (mvT hZ (hw _ (List.mem_of_getElem? (i := 3) rfl))) (mvT hZ (hw _ (List.mem_of_getElem? (i := 4) rfl))) (by decide) (backOf (W := 0) (rmO l Z a0 hw [] (0 : Int32) aB kB [(.ref ob0), (.ref ob1), (.ref ob2), (.ref ob3), (.ref ob4), (.ref ob5), (.ref ob6), (.ref ob7), (.ref ob8), (.ref ob9)] ob0 h0 n0 Z0 O0 SB VB (by decide) (by decide) rfl) hZ (hw _ (List.mem_of_getElem? (i := 4) rfl)) (hw _ (List.mem_of_getElem? (i := 3) rfl)) (by decide) (by decide)) (g := (mkF m 9 #[.val (.int p1), .val (.int (0 : Int32)), .unset, .unset] [(.int (0 : Int32))])) rfl (by rw [hml]; rfl) (argsL := [(.int (0 : Int32))]) (rest := []) (lenOf pd_0 rfl) rfl (by show 2 * 0 + _ ≤ _; exact Nat.le_of_eq rfl) (hb hby at_9) (fun _ _ => ⟨rfl, e0, (by decide : 0 + 0 ≤ _), (by decide : 0 + 0 ≤ _)⟩)
    dsimp only [Pt.U, Pt.locs, Pt.cells, Pt.slots] at X5 l5 y5 z5 st5 hQ5
    subst l5 y5 z5
    obtain ⟨rfl, N5q, e5⟩ := hQ5
    have N5 := Fr.app N0 N5q
    have P6 : Rch p e below (s₁.setTop (entryFrame m #[(.int p1)] maxLocals)) (T5.setTop (mkF m 12 #[.val (.int p1), .val (.int (0 : Int32)), .unset, .unset] [(.ref ob0)])) := fun t k => P4 t (st5 t k)
    have P7 : Rch p e below (s₁.setTop (entryFrame m #[(.int p1)] maxLocals)) (T5.setTop (mkF m 60 #[.val (.int p1), .val (.int (0 : Int32)), .val (.ref ob0), .val (.int (0 : Int32))] [(.ref ob0)])) := fun t k => P6 t (by
      show Steps p.tables e below (T5.setTop (mkF m 12 #[.val (.int p1), .val (.int (0 : Int32)), .unset, .unset] [(.ref ob0)])) t
      refine XS.astoreN X5.here hx rfl (hb hby at_12) rfl rfl (l' := #[.val (.int p1), .val (.int (0 : Int32)), .val (.ref ob0), .unset]) rfl ?_
      show Steps p.tables e below (T5.setTop (mkF m 13 #[.val (.int p1), .val (.int (0 : Int32)), .val (.ref ob0), .unset] [])) t
      refine XS.aloadN X5.here hx rfl (hb hby at_13) rfl rfl ?_
      show Steps p.tables e below (T5.setTop (mkF m 14 #[.val (.int p1), .val (.int (0 : Int32)), .val (.ref ob0), .unset] [(.ref ob0)])) t
      refine XS.ifnonnullYes X5.here hx rfl (pc0 := 14) (pc' := 19) rfl (hb hby at_14) rfl (by decide) (by decide) ?_
      show Steps p.tables e below (T5.setTop (mkF m 19 #[.val (.int p1), .val (.int (0 : Int32)), .val (.ref ob0), .unset] [])) t
      refine XS.iloadN X5.here hx rfl (hb hby at_19) rfl ?_
      show Steps p.tables e below (T5.setTop (mkF m 20 #[.val (.int p1), .val (.int (0 : Int32)), .val (.ref ob0), .unset] [(.int (0 : Int32))])) t
      refine XS.iconst X5.here hx rfl (hb hby at_20) ?_
      show Steps p.tables e below (T5.setTop (mkF m 21 #[.val (.int p1), .val (.int (0 : Int32)), .val (.ref ob0), .unset] [(.int (2 : Int32)), (.int (0 : Int32))])) t
      refine XS.icmpNo X5.here hx rfl (hb hby at_21) rfl (feq (by decide)).1 ?_
      show Steps p.tables e below (T5.setTop (mkF m 24 #[.val (.int p1), .val (.int (0 : Int32)), .val (.ref ob0), .unset] [])) t
      refine XS.iloadN X5.here hx rfl (hb hby at_24) rfl ?_
      show Steps p.tables e below (T5.setTop (mkF m 25 #[.val (.int p1), .val (.int (0 : Int32)), .val (.ref ob0), .unset] [(.int (0 : Int32))])) t
      refine XS.iconst X5.here hx rfl (hb hby at_25) ?_
      show Steps p.tables e below (T5.setTop (mkF m 26 #[.val (.int p1), .val (.int (0 : Int32)), .val (.ref ob0), .unset] [(.int (4 : Int32)), (.int (0 : Int32))])) t
      refine XS.icmpNo X5.here hx rfl (hb hby at_26) rfl (feq (by decide)).1 ?_
      show Steps p.tables e below (T5.setTop (mkF m 29 #[.val (.int p1), .val (.int (0 : Int32)), .val (.ref ob0), .unset] [])) t
      refine XS.iloadN X5.here hx rfl (hb hby at_29) rfl ?_
      show Steps p.tables e below (T5.setTop (mkF m 30 #[.val (.int p1), .val (.int (0 : Int32)), .val (.ref ob0), .unset] [(.int (0 : Int32))])) t
      refine XS.bipush X5.here hx rfl (hb hby at_30) ?_
      show Steps p.tables e below (T5.setTop (mkF m 32 #[.val (.int p1), .val (.int (0 : Int32)), .val (.ref ob0), .unset] [(.int (6 : Int32)), (.int (0 : Int32))])) t
      refine XS.icmpNo X5.here hx rfl (hb hby at_32) rfl (feq (by decide)).1 ?_
      show Steps p.tables e below (T5.setTop (mkF m 35 #[.val (.int p1), .val (.int (0 : Int32)), .val (.ref ob0), .unset] [])) t
      refine XS.iloadN X5.here hx rfl (hb hby at_35) rfl ?_
      show Steps p.tables e below (T5.setTop (mkF m 36 #[.val (.int p1), .val (.int (0 : Int32)), .val (.ref ob0), .unset] [(.int (0 : Int32))])) t
      refine XS.bipush X5.here hx rfl (hb hby at_36) ?_
      show Steps p.tables e below (T5.setTop (mkF m 38 #[.val (.int p1), .val (.int (0 : Int32)), .val (.ref ob0), .unset] [(.int (7 : Int32)), (.int (0 : Int32))])) t
      refine XS.icmpNo X5.here hx rfl (hb hby at_38) rfl (feq (by decide)).1 ?_
      show Steps p.tables e below (T5.setTop (mkF m 41 #[.val (.int p1), .val (.int (0 : Int32)), .val (.ref ob0), .unset] [])) t
      refine XS.iloadN X5.here hx rfl (hb hby at_41) rfl ?_
      show Steps p.tables e below (T5.setTop (mkF m 42 #[.val (.int p1), .val (.int (0 : Int32)), .val (.ref ob0), .unset] [(.int (0 : Int32))])) t
      refine XS.bipush X5.here hx rfl (hb hby at_42) ?_
      show Steps p.tables e below (T5.setTop (mkF m 44 #[.val (.int p1), .val (.int (0 : Int32)), .val (.ref ob0), .unset] [(.int (8 : Int32)), (.int (0 : Int32))])) t
      refine XS.icmpNo X5.here hx rfl (hb hby at_44) rfl (feq (by decide)).1 ?_
      show Steps p.tables e below (T5.setTop (mkF m 47 #[.val (.int p1), .val (.int (0 : Int32)), .val (.ref ob0), .unset] [])) t
      refine XS.iloadN X5.here hx rfl (hb hby at_47) rfl ?_
      show Steps p.tables e below (T5.setTop (mkF m 48 #[.val (.int p1), .val (.int (0 : Int32)), .val (.ref ob0), .unset] [(.int (0 : Int32))])) t
      refine XS.bipush X5.here hx rfl (hb hby at_48) ?_
      show Steps p.tables e below (T5.setTop (mkF m 50 #[.val (.int p1), .val (.int (0 : Int32)), .val (.ref ob0), .unset] [(.int (9 : Int32)), (.int (0 : Int32))])) t
      refine XS.icmpYes X5.here hx rfl (pc0 := 50) (pc' := 57) rfl (hb hby at_50) rfl (feq (by decide)).2 (by decide) (by decide) ?_
      show Steps p.tables e below (T5.setTop (mkF m 57 #[.val (.int p1), .val (.int (0 : Int32)), .val (.ref ob0), .unset] [])) t
      refine XS.iconst X5.here hx rfl (hb hby at_57) ?_
      show Steps p.tables e below (T5.setTop (mkF m 58 #[.val (.int p1), .val (.int (0 : Int32)), .val (.ref ob0), .unset] [(.int (0 : Int32))])) t
      refine XS.istoreN X5.here hx rfl (hb hby at_58) rfl (l' := #[.val (.int p1), .val (.int (0 : Int32)), .val (.ref ob0), .val (.int (0 : Int32))]) rfl ?_
      show Steps p.tables e below (T5.setTop (mkF m 59 #[.val (.int p1), .val (.int (0 : Int32)), .val (.ref ob0), .val (.int (0 : Int32))] [])) t
      refine XS.aloadN X5.here hx rfl (hb hby at_59) rfl rfl ?_
      exact k)
    obtain ⟨cq8, kq8, q8a, q8b, q8c⟩ := isOf hZ e5 E0
    obtain ⟨_, _, ⟨T8, L8, k8, n8⟩, -, X8, ⟨Lc8, hQ8, l8, y8, z8⟩, st8⟩ := X5.virtualBack hx (y := (⟨"com/example/rootdb/rootdb/core/RecordKind", "startsNode", "()Z"⟩ : MethodName)) (z := (⟨"com/example/rootdb/rootdb/core/RecordKind", "startsNode", "()Z"⟩ : MethodName)) hown (mvT hZ (hw _ (List.mem_of_getElem? (i := 8) rfl))) (mvT hZ (hw _ (List.mem_of_getElem? (i := 9) rfl))) (notFace_of_selects (args := #[]) (mvT hZ (hw _ (List.mem_of_getElem? (i := 11) rfl)))) (mvT hZ (hw _ (List.mem_of_getElem? (i := 11) rfl))) (mvT hZ (hw _ (List.mem_of_getElem? (i := 10) rfl))) (by decide) (backOf (W := 0) (rmN l Z a0 hw [] ob0 ob0 ob1 ob3 ob5 h0 n0 Z0 O0 S0 S1 S3 S5) hZ (hw _ (List.mem_of_getElem? (i := 12) rfl)) (hw _ (List.mem_of_getElem? (i := 3) rfl)) (by decide) (by decide)) q8a q8c (g := (mkF m 60 #[.val (.int p1), .val (.int (0 : Int32)), .val (.ref ob0), .val (.int (0 : Int32))] [(.ref ob0)])) rfl (by rw [hml]; rfl) (Steps.refl _) (argsL := []) (rest := []) (lenOf pd_1 rfl) rfl (by show 2 * 0 + _ ≤ _; exact Nat.le_of_eq rfl) (hb hby at_60) (fun _ _ => ⟨rfl, e5, (by decide : 0 + 0 ≤ _), (by decide : 0 + 0 ≤ _)⟩)
    dsimp only [Pt.U, Pt.locs, Pt.cells, Pt.slots] at X8 l8 y8 z8 st8 hQ8
    subst l8 y8 z8
    obtain ⟨rfl, N8q, e8⟩ := hQ8
    have N8 := Fr.app N5 N8q
    have P9 : Rch p e below (s₁.setTop (entryFrame m #[(.int p1)] maxLocals)) (T8.setTop (mkF m 63 #[.val (.int p1), .val (.int (0 : Int32)), .val (.ref ob0), .val (.int (0 : Int32))] [(.int (if ob0 = ob0 then (0 : Int32) else (if ob0 = ob1 then (0 : Int32) else (if ob0 = ob3 then (0 : Int32) else (if ob0 = ob5 then (0 : Int32) else (1 : Int32))))))])) := fun t k => P7 t (st8.trans k)
    obtain ⟨x10, hx10⟩ : ∃ z : Int32, z = (if ob0 = ob0 then (0 : Int32) else (if ob0 = ob1 then (0 : Int32) else (if ob0 = ob3 then (0 : Int32) else (if ob0 = ob5 then (0 : Int32) else (1 : Int32))))) := ⟨_, rfl⟩
    rw [← hx10] at P9
    have hv_ : x10 = (0 : Int32) := by rw [hx10, if_pos rfl]
    have P11 : Rch p e below (s₁.setTop (entryFrame m #[(.int p1)] maxLocals)) (T8.setTop (mkF m 63 #[.val (.int p1), .val (.int (0 : Int32)), .val (.ref ob0), .val (.int (0 : Int32))] [(.int (0 : Int32))])) := by have q_ := P9; rw [hv_] at q_; exact q_
    have P12 : Rch p e below (s₁.setTop (entryFrame m #[(.int p1)] maxLocals)) (T8.setTop (mkF m 72 #[.val (.int p1), .val (.int (0 : Int32)), .val (.ref ob0), .val (.int (0 : Int32))] [(.int (1 : Int32))])) := fun t k => P11 t (by
      show Steps p.tables e below (T8.setTop (mkF m 63 #[.val (.int p1), .val (.int (0 : Int32)), .val (.ref ob0), .val (.int (0 : Int32))] [(.int (0 : Int32))])) t
      refine XS.iloadN X8.here hx rfl (hb hby at_63) rfl ?_
      show Steps p.tables e below (T8.setTop (mkF m 64 #[.val (.int p1), .val (.int (0 : Int32)), .val (.ref ob0), .val (.int (0 : Int32))] [(.int (0 : Int32)), (.int (0 : Int32))])) t
      refine XS.icmpNo X8.here hx rfl (hb hby at_64) rfl (teq (by decide)).2 ?_
      show Steps p.tables e below (T8.setTop (mkF m 67 #[.val (.int p1), .val (.int (0 : Int32)), .val (.ref ob0), .val (.int (0 : Int32))] [])) t
      refine XS.iconst X8.here hx rfl (hb hby at_67) ?_
      show Steps p.tables e below (T8.setTop (mkF m 68 #[.val (.int p1), .val (.int (0 : Int32)), .val (.ref ob0), .val (.int (0 : Int32))] [(.int (1 : Int32))])) t
      refine XS.goto X8.here hx rfl (pc0 := 68) (pc' := 72) rfl (hb hby at_68) (by decide) (by decide) ?_
      exact k)
    obtain ⟨fs, hr, hrun, hended, hW, hsame⟩ := X8.leave (v := some (.int (1 : Int32))) (fun h => by rw [Bd.returns] at h; cases h)
    refine ⟨_, _, P12 _ ?_, hrun, hended, _, _, rfl, ?_, ⟨_, rfl⟩, hW, hsame.mono (by decide) (by decide)⟩
    · exact retN X8 hx (t := .boolean) Bd.returns (by simp) (hb hby at_72) hr
    · show Q_rm0 Z p1 aB kB ob0 ob1 ob2 ob3 ob4 ob5 ob6 ob7 ob8 ob9 h0 n0 _ T8.heap _
      rw [e8]
      exact ⟨rfl, N8⟩
  · have hi_ : x1 = (1 : Int32) := by subst hx1; exact hs
    have P13 : Rch p e below (s₁.setTop (entryFrame m #[(.int p1)] maxLocals)) (s₁.setTop (mkF m 8 #[.val (.int p1), .val (.int (1 : Int32)), .unset, .unset] [])) := by have q_ := P2; rw [hi_] at q_; exact q_
    have P14 : Rch p e below (s₁.setTop (entryFrame m #[(.int p1)] maxLocals)) (s₁.setTop (mkF m 9 #[.val (.int p1), .val (.int (1 : Int32)), .unset, .unset] [(.int (1 : Int32))])) := fun t k => P13 t (by
      show Steps p.tables e below (s₁.setTop (mkF m 8 #[.val (.int p1), .val (.int (1 : Int32)), .unset, .unset] [])) t
      refine XS.iloadN X0.here hx rfl (hb hby at_8) rfl ?_
      exact k)
    obtain ⟨_, _, ⟨T15, L15, k15, n15⟩, -, X15, ⟨Lc15, hQ15, l15, y15, z15⟩, st15⟩ := Jvm.LawKit.callS X0 hx (y := (⟨"com/example/rootdb/rootdb/core/RecordKind", "ofCode", "(I)Lcom/example/rootdb/rootdb/core/RecordKind;"⟩ : MethodName)) hown (mvT hZ (hw _ (List.mem_of_getElem? (i := 1) rfl))) (mvT hZ (hw _ (List.mem_of_getElem? (i := 2) rfl))) (mvT hZ (hw _ (List.mem_of_getElem? (i := 3) rfl))) (mvT hZ (hw _ (List.mem_of_getElem? (i := 4) rfl))) (by decide) (backOf (W := 0) (rmO l Z a0 hw [] (1 : Int32) aB kB [(.ref ob0), (.ref ob1), (.ref ob2), (.ref ob3), (.ref ob4), (.ref ob5), (.ref ob6), (.ref ob7), (.ref ob8), (.ref ob9)] ob1 h0 n0 Z0 O0 SB VB (by decide) (by decide) rfl) hZ (hw _ (List.mem_of_getElem? (i := 4) rfl)) (hw _ (List.mem_of_getElem? (i := 3) rfl)) (by decide) (by decide)) (g := (mkF m 9 #[.val (.int p1), .val (.int (1 : Int32)), .unset, .unset] [(.int (1 : Int32))])) rfl (by rw [hml]; rfl) (argsL := [(.int (1 : Int32))]) (rest := []) (lenOf pd_0 rfl) rfl (by show 2 * 0 + _ ≤ _; exact Nat.le_of_eq rfl) (hb hby at_9) (fun _ _ => ⟨rfl, e0, (by decide : 0 + 0 ≤ _), (by decide : 0 + 0 ≤ _)⟩)
    dsimp only [Pt.U, Pt.locs, Pt.cells, Pt.slots] at X15 l15 y15 z15 st15 hQ15
    subst l15 y15 z15
    obtain ⟨rfl, N15q, e15⟩ := hQ15
    have N15 := Fr.app N0 N15q
    have P16 : Rch p e below (s₁.setTop (entryFrame m #[(.int p1)] maxLocals)) (T15.setTop (mkF m 12 #[.val (.int p1), .val (.int (1 : Int32)), .unset, .unset] [(.ref ob1)])) := fun t k => P14 t (st15 t k)
    have P17 : Rch p e below (s₁.setTop (entryFrame m #[(.int p1)] maxLocals)) (T15.setTop (mkF m 60 #[.val (.int p1), .val (.int (1 : Int32)), .val (.ref ob1), .val (.int (0 : Int32))] [(.ref ob1)])) := fun t k => P16 t (by
      show Steps p.tables e below (T15.setTop (mkF m 12 #[.val (.int p1), .val (.int (1 : Int32)), .unset, .unset] [(.ref ob1)])) t
      refine XS.astoreN X15.here hx rfl (hb hby at_12) rfl rfl (l' := #[.val (.int p1), .val (.int (1 : Int32)), .val (.ref ob1), .unset]) rfl ?_
      show Steps p.tables e below (T15.setTop (mkF m 13 #[.val (.int p1), .val (.int (1 : Int32)), .val (.ref ob1), .unset] [])) t
      refine XS.aloadN X15.here hx rfl (hb hby at_13) rfl rfl ?_
      show Steps p.tables e below (T15.setTop (mkF m 14 #[.val (.int p1), .val (.int (1 : Int32)), .val (.ref ob1), .unset] [(.ref ob1)])) t
      refine XS.ifnonnullYes X15.here hx rfl (pc0 := 14) (pc' := 19) rfl (hb hby at_14) rfl (by decide) (by decide) ?_
      show Steps p.tables e below (T15.setTop (mkF m 19 #[.val (.int p1), .val (.int (1 : Int32)), .val (.ref ob1), .unset] [])) t
      refine XS.iloadN X15.here hx rfl (hb hby at_19) rfl ?_
      show Steps p.tables e below (T15.setTop (mkF m 20 #[.val (.int p1), .val (.int (1 : Int32)), .val (.ref ob1), .unset] [(.int (1 : Int32))])) t
      refine XS.iconst X15.here hx rfl (hb hby at_20) ?_
      show Steps p.tables e below (T15.setTop (mkF m 21 #[.val (.int p1), .val (.int (1 : Int32)), .val (.ref ob1), .unset] [(.int (2 : Int32)), (.int (1 : Int32))])) t
      refine XS.icmpNo X15.here hx rfl (hb hby at_21) rfl (feq (by decide)).1 ?_
      show Steps p.tables e below (T15.setTop (mkF m 24 #[.val (.int p1), .val (.int (1 : Int32)), .val (.ref ob1), .unset] [])) t
      refine XS.iloadN X15.here hx rfl (hb hby at_24) rfl ?_
      show Steps p.tables e below (T15.setTop (mkF m 25 #[.val (.int p1), .val (.int (1 : Int32)), .val (.ref ob1), .unset] [(.int (1 : Int32))])) t
      refine XS.iconst X15.here hx rfl (hb hby at_25) ?_
      show Steps p.tables e below (T15.setTop (mkF m 26 #[.val (.int p1), .val (.int (1 : Int32)), .val (.ref ob1), .unset] [(.int (4 : Int32)), (.int (1 : Int32))])) t
      refine XS.icmpNo X15.here hx rfl (hb hby at_26) rfl (feq (by decide)).1 ?_
      show Steps p.tables e below (T15.setTop (mkF m 29 #[.val (.int p1), .val (.int (1 : Int32)), .val (.ref ob1), .unset] [])) t
      refine XS.iloadN X15.here hx rfl (hb hby at_29) rfl ?_
      show Steps p.tables e below (T15.setTop (mkF m 30 #[.val (.int p1), .val (.int (1 : Int32)), .val (.ref ob1), .unset] [(.int (1 : Int32))])) t
      refine XS.bipush X15.here hx rfl (hb hby at_30) ?_
      show Steps p.tables e below (T15.setTop (mkF m 32 #[.val (.int p1), .val (.int (1 : Int32)), .val (.ref ob1), .unset] [(.int (6 : Int32)), (.int (1 : Int32))])) t
      refine XS.icmpNo X15.here hx rfl (hb hby at_32) rfl (feq (by decide)).1 ?_
      show Steps p.tables e below (T15.setTop (mkF m 35 #[.val (.int p1), .val (.int (1 : Int32)), .val (.ref ob1), .unset] [])) t
      refine XS.iloadN X15.here hx rfl (hb hby at_35) rfl ?_
      show Steps p.tables e below (T15.setTop (mkF m 36 #[.val (.int p1), .val (.int (1 : Int32)), .val (.ref ob1), .unset] [(.int (1 : Int32))])) t
      refine XS.bipush X15.here hx rfl (hb hby at_36) ?_
      show Steps p.tables e below (T15.setTop (mkF m 38 #[.val (.int p1), .val (.int (1 : Int32)), .val (.ref ob1), .unset] [(.int (7 : Int32)), (.int (1 : Int32))])) t
      refine XS.icmpNo X15.here hx rfl (hb hby at_38) rfl (feq (by decide)).1 ?_
      show Steps p.tables e below (T15.setTop (mkF m 41 #[.val (.int p1), .val (.int (1 : Int32)), .val (.ref ob1), .unset] [])) t
      refine XS.iloadN X15.here hx rfl (hb hby at_41) rfl ?_
      show Steps p.tables e below (T15.setTop (mkF m 42 #[.val (.int p1), .val (.int (1 : Int32)), .val (.ref ob1), .unset] [(.int (1 : Int32))])) t
      refine XS.bipush X15.here hx rfl (hb hby at_42) ?_
      show Steps p.tables e below (T15.setTop (mkF m 44 #[.val (.int p1), .val (.int (1 : Int32)), .val (.ref ob1), .unset] [(.int (8 : Int32)), (.int (1 : Int32))])) t
      refine XS.icmpNo X15.here hx rfl (hb hby at_44) rfl (feq (by decide)).1 ?_
      show Steps p.tables e below (T15.setTop (mkF m 47 #[.val (.int p1), .val (.int (1 : Int32)), .val (.ref ob1), .unset] [])) t
      refine XS.iloadN X15.here hx rfl (hb hby at_47) rfl ?_
      show Steps p.tables e below (T15.setTop (mkF m 48 #[.val (.int p1), .val (.int (1 : Int32)), .val (.ref ob1), .unset] [(.int (1 : Int32))])) t
      refine XS.bipush X15.here hx rfl (hb hby at_48) ?_
      show Steps p.tables e below (T15.setTop (mkF m 50 #[.val (.int p1), .val (.int (1 : Int32)), .val (.ref ob1), .unset] [(.int (9 : Int32)), (.int (1 : Int32))])) t
      refine XS.icmpYes X15.here hx rfl (pc0 := 50) (pc' := 57) rfl (hb hby at_50) rfl (feq (by decide)).2 (by decide) (by decide) ?_
      show Steps p.tables e below (T15.setTop (mkF m 57 #[.val (.int p1), .val (.int (1 : Int32)), .val (.ref ob1), .unset] [])) t
      refine XS.iconst X15.here hx rfl (hb hby at_57) ?_
      show Steps p.tables e below (T15.setTop (mkF m 58 #[.val (.int p1), .val (.int (1 : Int32)), .val (.ref ob1), .unset] [(.int (0 : Int32))])) t
      refine XS.istoreN X15.here hx rfl (hb hby at_58) rfl (l' := #[.val (.int p1), .val (.int (1 : Int32)), .val (.ref ob1), .val (.int (0 : Int32))]) rfl ?_
      show Steps p.tables e below (T15.setTop (mkF m 59 #[.val (.int p1), .val (.int (1 : Int32)), .val (.ref ob1), .val (.int (0 : Int32))] [])) t
      refine XS.aloadN X15.here hx rfl (hb hby at_59) rfl rfl ?_
      exact k)
    obtain ⟨cq18, kq18, q18a, q18b, q18c⟩ := isOf hZ e15 E1
    obtain ⟨_, _, ⟨T18, L18, k18, n18⟩, -, X18, ⟨Lc18, hQ18, l18, y18, z18⟩, st18⟩ := X15.virtualBack hx (y := (⟨"com/example/rootdb/rootdb/core/RecordKind", "startsNode", "()Z"⟩ : MethodName)) (z := (⟨"com/example/rootdb/rootdb/core/RecordKind", "startsNode", "()Z"⟩ : MethodName)) hown (mvT hZ (hw _ (List.mem_of_getElem? (i := 8) rfl))) (mvT hZ (hw _ (List.mem_of_getElem? (i := 9) rfl))) (notFace_of_selects (args := #[]) (mvT hZ (hw _ (List.mem_of_getElem? (i := 11) rfl)))) (mvT hZ (hw _ (List.mem_of_getElem? (i := 11) rfl))) (mvT hZ (hw _ (List.mem_of_getElem? (i := 10) rfl))) (by decide) (backOf (W := 0) (rmN l Z a0 hw [] ob1 ob0 ob1 ob3 ob5 h0 n0 Z0 O0 S0 S1 S3 S5) hZ (hw _ (List.mem_of_getElem? (i := 12) rfl)) (hw _ (List.mem_of_getElem? (i := 3) rfl)) (by decide) (by decide)) q18a q18c (g := (mkF m 60 #[.val (.int p1), .val (.int (1 : Int32)), .val (.ref ob1), .val (.int (0 : Int32))] [(.ref ob1)])) rfl (by rw [hml]; rfl) (Steps.refl _) (argsL := []) (rest := []) (lenOf pd_1 rfl) rfl (by show 2 * 0 + _ ≤ _; exact Nat.le_of_eq rfl) (hb hby at_60) (fun _ _ => ⟨rfl, e15, (by decide : 0 + 0 ≤ _), (by decide : 0 + 0 ≤ _)⟩)
    dsimp only [Pt.U, Pt.locs, Pt.cells, Pt.slots] at X18 l18 y18 z18 st18 hQ18
    subst l18 y18 z18
    obtain ⟨rfl, N18q, e18⟩ := hQ18
    have N18 := Fr.app N15 N18q
    have P19 : Rch p e below (s₁.setTop (entryFrame m #[(.int p1)] maxLocals)) (T18.setTop (mkF m 63 #[.val (.int p1), .val (.int (1 : Int32)), .val (.ref ob1), .val (.int (0 : Int32))] [(.int (if ob1 = ob0 then (0 : Int32) else (if ob1 = ob1 then (0 : Int32) else (if ob1 = ob3 then (0 : Int32) else (if ob1 = ob5 then (0 : Int32) else (1 : Int32))))))])) := fun t k => P17 t (st18.trans k)
    obtain ⟨x20, hx20⟩ : ∃ z : Int32, z = (if ob1 = ob0 then (0 : Int32) else (if ob1 = ob1 then (0 : Int32) else (if ob1 = ob3 then (0 : Int32) else (if ob1 = ob5 then (0 : Int32) else (1 : Int32))))) := ⟨_, rfl⟩
    rw [← hx20] at P19
    have hv_ : x20 = (0 : Int32) := by rw [hx20, if_neg n1_0, if_pos rfl]
    have P21 : Rch p e below (s₁.setTop (entryFrame m #[(.int p1)] maxLocals)) (T18.setTop (mkF m 63 #[.val (.int p1), .val (.int (1 : Int32)), .val (.ref ob1), .val (.int (0 : Int32))] [(.int (0 : Int32))])) := by have q_ := P19; rw [hv_] at q_; exact q_
    have P22 : Rch p e below (s₁.setTop (entryFrame m #[(.int p1)] maxLocals)) (T18.setTop (mkF m 72 #[.val (.int p1), .val (.int (1 : Int32)), .val (.ref ob1), .val (.int (0 : Int32))] [(.int (1 : Int32))])) := fun t k => P21 t (by
      show Steps p.tables e below (T18.setTop (mkF m 63 #[.val (.int p1), .val (.int (1 : Int32)), .val (.ref ob1), .val (.int (0 : Int32))] [(.int (0 : Int32))])) t
      refine XS.iloadN X18.here hx rfl (hb hby at_63) rfl ?_
      show Steps p.tables e below (T18.setTop (mkF m 64 #[.val (.int p1), .val (.int (1 : Int32)), .val (.ref ob1), .val (.int (0 : Int32))] [(.int (0 : Int32)), (.int (0 : Int32))])) t
      refine XS.icmpNo X18.here hx rfl (hb hby at_64) rfl (teq (by decide)).2 ?_
      show Steps p.tables e below (T18.setTop (mkF m 67 #[.val (.int p1), .val (.int (1 : Int32)), .val (.ref ob1), .val (.int (0 : Int32))] [])) t
      refine XS.iconst X18.here hx rfl (hb hby at_67) ?_
      show Steps p.tables e below (T18.setTop (mkF m 68 #[.val (.int p1), .val (.int (1 : Int32)), .val (.ref ob1), .val (.int (0 : Int32))] [(.int (1 : Int32))])) t
      refine XS.goto X18.here hx rfl (pc0 := 68) (pc' := 72) rfl (hb hby at_68) (by decide) (by decide) ?_
      exact k)
    obtain ⟨fs, hr, hrun, hended, hW, hsame⟩ := X18.leave (v := some (.int (1 : Int32))) (fun h => by rw [Bd.returns] at h; cases h)
    refine ⟨_, _, P22 _ ?_, hrun, hended, _, _, rfl, ?_, ⟨_, rfl⟩, hW, hsame.mono (by decide) (by decide)⟩
    · exact retN X18 hx (t := .boolean) Bd.returns (by simp) (hb hby at_72) hr
    · show Q_rm0 Z p1 aB kB ob0 ob1 ob2 ob3 ob4 ob5 ob6 ob7 ob8 ob9 h0 n0 _ T18.heap _
      rw [e18]
      exact ⟨rfl, N18⟩
  · have hi_ : x1 = (2 : Int32) := by subst hx1; exact hs
    have P23 : Rch p e below (s₁.setTop (entryFrame m #[(.int p1)] maxLocals)) (s₁.setTop (mkF m 8 #[.val (.int p1), .val (.int (2 : Int32)), .unset, .unset] [])) := by have q_ := P2; rw [hi_] at q_; exact q_
    have P24 : Rch p e below (s₁.setTop (entryFrame m #[(.int p1)] maxLocals)) (s₁.setTop (mkF m 9 #[.val (.int p1), .val (.int (2 : Int32)), .unset, .unset] [(.int (2 : Int32))])) := fun t k => P23 t (by
      show Steps p.tables e below (s₁.setTop (mkF m 8 #[.val (.int p1), .val (.int (2 : Int32)), .unset, .unset] [])) t
      refine XS.iloadN X0.here hx rfl (hb hby at_8) rfl ?_
      exact k)
    obtain ⟨_, _, ⟨T25, L25, k25, n25⟩, -, X25, ⟨Lc25, hQ25, l25, y25, z25⟩, st25⟩ := Jvm.LawKit.callS X0 hx (y := (⟨"com/example/rootdb/rootdb/core/RecordKind", "ofCode", "(I)Lcom/example/rootdb/rootdb/core/RecordKind;"⟩ : MethodName)) hown (mvT hZ (hw _ (List.mem_of_getElem? (i := 1) rfl))) (mvT hZ (hw _ (List.mem_of_getElem? (i := 2) rfl))) (mvT hZ (hw _ (List.mem_of_getElem? (i := 3) rfl))) (mvT hZ (hw _ (List.mem_of_getElem? (i := 4) rfl))) (by decide) (backOf (W := 0) (rmO l Z a0 hw [] (2 : Int32) aB kB [(.ref ob0), (.ref ob1), (.ref ob2), (.ref ob3), (.ref ob4), (.ref ob5), (.ref ob6), (.ref ob7), (.ref ob8), (.ref ob9)] ob2 h0 n0 Z0 O0 SB VB (by decide) (by decide) rfl) hZ (hw _ (List.mem_of_getElem? (i := 4) rfl)) (hw _ (List.mem_of_getElem? (i := 3) rfl)) (by decide) (by decide)) (g := (mkF m 9 #[.val (.int p1), .val (.int (2 : Int32)), .unset, .unset] [(.int (2 : Int32))])) rfl (by rw [hml]; rfl) (argsL := [(.int (2 : Int32))]) (rest := []) (lenOf pd_0 rfl) rfl (by show 2 * 0 + _ ≤ _; exact Nat.le_of_eq rfl) (hb hby at_9) (fun _ _ => ⟨rfl, e0, (by decide : 0 + 0 ≤ _), (by decide : 0 + 0 ≤ _)⟩)
    dsimp only [Pt.U, Pt.locs, Pt.cells, Pt.slots] at X25 l25 y25 z25 st25 hQ25
    subst l25 y25 z25
    obtain ⟨rfl, N25q, e25⟩ := hQ25
    have N25 := Fr.app N0 N25q
    have P26 : Rch p e below (s₁.setTop (entryFrame m #[(.int p1)] maxLocals)) (T25.setTop (mkF m 12 #[.val (.int p1), .val (.int (2 : Int32)), .unset, .unset] [(.ref ob2)])) := fun t k => P24 t (st25 t k)
    have P27 : Rch p e below (s₁.setTop (entryFrame m #[(.int p1)] maxLocals)) (T25.setTop (mkF m 60 #[.val (.int p1), .val (.int (2 : Int32)), .val (.ref ob2), .val (.int (1 : Int32))] [(.ref ob2)])) := fun t k => P26 t (by
      show Steps p.tables e below (T25.setTop (mkF m 12 #[.val (.int p1), .val (.int (2 : Int32)), .unset, .unset] [(.ref ob2)])) t
      refine XS.astoreN X25.here hx rfl (hb hby at_12) rfl rfl (l' := #[.val (.int p1), .val (.int (2 : Int32)), .val (.ref ob2), .unset]) rfl ?_
      show Steps p.tables e below (T25.setTop (mkF m 13 #[.val (.int p1), .val (.int (2 : Int32)), .val (.ref ob2), .unset] [])) t
      refine XS.aloadN X25.here hx rfl (hb hby at_13) rfl rfl ?_
      show Steps p.tables e below (T25.setTop (mkF m 14 #[.val (.int p1), .val (.int (2 : Int32)), .val (.ref ob2), .unset] [(.ref ob2)])) t
      refine XS.ifnonnullYes X25.here hx rfl (pc0 := 14) (pc' := 19) rfl (hb hby at_14) rfl (by decide) (by decide) ?_
      show Steps p.tables e below (T25.setTop (mkF m 19 #[.val (.int p1), .val (.int (2 : Int32)), .val (.ref ob2), .unset] [])) t
      refine XS.iloadN X25.here hx rfl (hb hby at_19) rfl ?_
      show Steps p.tables e below (T25.setTop (mkF m 20 #[.val (.int p1), .val (.int (2 : Int32)), .val (.ref ob2), .unset] [(.int (2 : Int32))])) t
      refine XS.iconst X25.here hx rfl (hb hby at_20) ?_
      show Steps p.tables e below (T25.setTop (mkF m 21 #[.val (.int p1), .val (.int (2 : Int32)), .val (.ref ob2), .unset] [(.int (2 : Int32)), (.int (2 : Int32))])) t
      refine XS.icmpYes X25.here hx rfl (pc0 := 21) (pc' := 53) rfl (hb hby at_21) rfl (teq (by decide)).1 (by decide) (by decide) ?_
      show Steps p.tables e below (T25.setTop (mkF m 53 #[.val (.int p1), .val (.int (2 : Int32)), .val (.ref ob2), .unset] [])) t
      refine XS.iconst X25.here hx rfl (hb hby at_53) ?_
      show Steps p.tables e below (T25.setTop (mkF m 54 #[.val (.int p1), .val (.int (2 : Int32)), .val (.ref ob2), .unset] [(.int (1 : Int32))])) t
      refine XS.goto X25.here hx rfl (pc0 := 54) (pc' := 58) rfl (hb hby at_54) (by decide) (by decide) ?_
      show Steps p.tables e below (T25.setTop (mkF m 58 #[.val (.int p1), .val (.int (2 : Int32)), .val (.ref ob2), .unset] [(.int (1 : Int32))])) t
      refine XS.istoreN X25.here hx rfl (hb hby at_58) rfl (l' := #[.val (.int p1), .val (.int (2 : Int32)), .val (.ref ob2), .val (.int (1 : Int32))]) rfl ?_
      show Steps p.tables e below (T25.setTop (mkF m 59 #[.val (.int p1), .val (.int (2 : Int32)), .val (.ref ob2), .val (.int (1 : Int32))] [])) t
      refine XS.aloadN X25.here hx rfl (hb hby at_59) rfl rfl ?_
      exact k)
    obtain ⟨cq28, kq28, q28a, q28b, q28c⟩ := isOf hZ e25 E2
    obtain ⟨_, _, ⟨T28, L28, k28, n28⟩, -, X28, ⟨Lc28, hQ28, l28, y28, z28⟩, st28⟩ := X25.virtualBack hx (y := (⟨"com/example/rootdb/rootdb/core/RecordKind", "startsNode", "()Z"⟩ : MethodName)) (z := (⟨"com/example/rootdb/rootdb/core/RecordKind", "startsNode", "()Z"⟩ : MethodName)) hown (mvT hZ (hw _ (List.mem_of_getElem? (i := 8) rfl))) (mvT hZ (hw _ (List.mem_of_getElem? (i := 9) rfl))) (notFace_of_selects (args := #[]) (mvT hZ (hw _ (List.mem_of_getElem? (i := 11) rfl)))) (mvT hZ (hw _ (List.mem_of_getElem? (i := 11) rfl))) (mvT hZ (hw _ (List.mem_of_getElem? (i := 10) rfl))) (by decide) (backOf (W := 0) (rmN l Z a0 hw [] ob2 ob0 ob1 ob3 ob5 h0 n0 Z0 O0 S0 S1 S3 S5) hZ (hw _ (List.mem_of_getElem? (i := 12) rfl)) (hw _ (List.mem_of_getElem? (i := 3) rfl)) (by decide) (by decide)) q28a q28c (g := (mkF m 60 #[.val (.int p1), .val (.int (2 : Int32)), .val (.ref ob2), .val (.int (1 : Int32))] [(.ref ob2)])) rfl (by rw [hml]; rfl) (Steps.refl _) (argsL := []) (rest := []) (lenOf pd_1 rfl) rfl (by show 2 * 0 + _ ≤ _; exact Nat.le_of_eq rfl) (hb hby at_60) (fun _ _ => ⟨rfl, e25, (by decide : 0 + 0 ≤ _), (by decide : 0 + 0 ≤ _)⟩)
    dsimp only [Pt.U, Pt.locs, Pt.cells, Pt.slots] at X28 l28 y28 z28 st28 hQ28
    subst l28 y28 z28
    obtain ⟨rfl, N28q, e28⟩ := hQ28
    have N28 := Fr.app N25 N28q
    have P29 : Rch p e below (s₁.setTop (entryFrame m #[(.int p1)] maxLocals)) (T28.setTop (mkF m 63 #[.val (.int p1), .val (.int (2 : Int32)), .val (.ref ob2), .val (.int (1 : Int32))] [(.int (if ob2 = ob0 then (0 : Int32) else (if ob2 = ob1 then (0 : Int32) else (if ob2 = ob3 then (0 : Int32) else (if ob2 = ob5 then (0 : Int32) else (1 : Int32))))))])) := fun t k => P27 t (st28.trans k)
    obtain ⟨x30, hx30⟩ : ∃ z : Int32, z = (if ob2 = ob0 then (0 : Int32) else (if ob2 = ob1 then (0 : Int32) else (if ob2 = ob3 then (0 : Int32) else (if ob2 = ob5 then (0 : Int32) else (1 : Int32))))) := ⟨_, rfl⟩
    rw [← hx30] at P29
    have hv_ : x30 = (1 : Int32) := by rw [hx30, if_neg n2_0, if_neg n2_1, if_neg n2_3, if_neg n2_5]
    have P31 : Rch p e below (s₁.setTop (entryFrame m #[(.int p1)] maxLocals)) (T28.setTop (mkF m 63 #[.val (.int p1), .val (.int (2 : Int32)), .val (.ref ob2), .val (.int (1 : Int32))] [(.int (1 : Int32))])) := by have q_ := P29; rw [hv_] at q_; exact q_
    have P32 : Rch p e below (s₁.setTop (entryFrame m #[(.int p1)] maxLocals)) (T28.setTop (mkF m 72 #[.val (.int p1), .val (.int (2 : Int32)), .val (.ref ob2), .val (.int (1 : Int32))] [(.int (1 : Int32))])) := fun t k => P31 t (by
      show Steps p.tables e below (T28.setTop (mkF m 63 #[.val (.int p1), .val (.int (2 : Int32)), .val (.ref ob2), .val (.int (1 : Int32))] [(.int (1 : Int32))])) t
      refine XS.iloadN X28.here hx rfl (hb hby at_63) rfl ?_
      show Steps p.tables e below (T28.setTop (mkF m 64 #[.val (.int p1), .val (.int (2 : Int32)), .val (.ref ob2), .val (.int (1 : Int32))] [(.int (1 : Int32)), (.int (1 : Int32))])) t
      refine XS.icmpNo X28.here hx rfl (hb hby at_64) rfl (teq (by decide)).2 ?_
      show Steps p.tables e below (T28.setTop (mkF m 67 #[.val (.int p1), .val (.int (2 : Int32)), .val (.ref ob2), .val (.int (1 : Int32))] [])) t
      refine XS.iconst X28.here hx rfl (hb hby at_67) ?_
      show Steps p.tables e below (T28.setTop (mkF m 68 #[.val (.int p1), .val (.int (2 : Int32)), .val (.ref ob2), .val (.int (1 : Int32))] [(.int (1 : Int32))])) t
      refine XS.goto X28.here hx rfl (pc0 := 68) (pc' := 72) rfl (hb hby at_68) (by decide) (by decide) ?_
      exact k)
    obtain ⟨fs, hr, hrun, hended, hW, hsame⟩ := X28.leave (v := some (.int (1 : Int32))) (fun h => by rw [Bd.returns] at h; cases h)
    refine ⟨_, _, P32 _ ?_, hrun, hended, _, _, rfl, ?_, ⟨_, rfl⟩, hW, hsame.mono (by decide) (by decide)⟩
    · exact retN X28 hx (t := .boolean) Bd.returns (by simp) (hb hby at_72) hr
    · show Q_rm0 Z p1 aB kB ob0 ob1 ob2 ob3 ob4 ob5 ob6 ob7 ob8 ob9 h0 n0 _ T28.heap _
      rw [e28]
      exact ⟨rfl, N28⟩
  · have hi_ : x1 = (3 : Int32) := by subst hx1; exact hs
    have P33 : Rch p e below (s₁.setTop (entryFrame m #[(.int p1)] maxLocals)) (s₁.setTop (mkF m 8 #[.val (.int p1), .val (.int (3 : Int32)), .unset, .unset] [])) := by have q_ := P2; rw [hi_] at q_; exact q_
    have P34 : Rch p e below (s₁.setTop (entryFrame m #[(.int p1)] maxLocals)) (s₁.setTop (mkF m 9 #[.val (.int p1), .val (.int (3 : Int32)), .unset, .unset] [(.int (3 : Int32))])) := fun t k => P33 t (by
      show Steps p.tables e below (s₁.setTop (mkF m 8 #[.val (.int p1), .val (.int (3 : Int32)), .unset, .unset] [])) t
      refine XS.iloadN X0.here hx rfl (hb hby at_8) rfl ?_
      exact k)
    obtain ⟨_, _, ⟨T35, L35, k35, n35⟩, -, X35, ⟨Lc35, hQ35, l35, y35, z35⟩, st35⟩ := Jvm.LawKit.callS X0 hx (y := (⟨"com/example/rootdb/rootdb/core/RecordKind", "ofCode", "(I)Lcom/example/rootdb/rootdb/core/RecordKind;"⟩ : MethodName)) hown (mvT hZ (hw _ (List.mem_of_getElem? (i := 1) rfl))) (mvT hZ (hw _ (List.mem_of_getElem? (i := 2) rfl))) (mvT hZ (hw _ (List.mem_of_getElem? (i := 3) rfl))) (mvT hZ (hw _ (List.mem_of_getElem? (i := 4) rfl))) (by decide) (backOf (W := 0) (rmO l Z a0 hw [] (3 : Int32) aB kB [(.ref ob0), (.ref ob1), (.ref ob2), (.ref ob3), (.ref ob4), (.ref ob5), (.ref ob6), (.ref ob7), (.ref ob8), (.ref ob9)] ob3 h0 n0 Z0 O0 SB VB (by decide) (by decide) rfl) hZ (hw _ (List.mem_of_getElem? (i := 4) rfl)) (hw _ (List.mem_of_getElem? (i := 3) rfl)) (by decide) (by decide)) (g := (mkF m 9 #[.val (.int p1), .val (.int (3 : Int32)), .unset, .unset] [(.int (3 : Int32))])) rfl (by rw [hml]; rfl) (argsL := [(.int (3 : Int32))]) (rest := []) (lenOf pd_0 rfl) rfl (by show 2 * 0 + _ ≤ _; exact Nat.le_of_eq rfl) (hb hby at_9) (fun _ _ => ⟨rfl, e0, (by decide : 0 + 0 ≤ _), (by decide : 0 + 0 ≤ _)⟩)
    dsimp only [Pt.U, Pt.locs, Pt.cells, Pt.slots] at X35 l35 y35 z35 st35 hQ35
    subst l35 y35 z35
    obtain ⟨rfl, N35q, e35⟩ := hQ35
    have N35 := Fr.app N0 N35q
    have P36 : Rch p e below (s₁.setTop (entryFrame m #[(.int p1)] maxLocals)) (T35.setTop (mkF m 12 #[.val (.int p1), .val (.int (3 : Int32)), .unset, .unset] [(.ref ob3)])) := fun t k => P34 t (st35 t k)
    have P37 : Rch p e below (s₁.setTop (entryFrame m #[(.int p1)] maxLocals)) (T35.setTop (mkF m 60 #[.val (.int p1), .val (.int (3 : Int32)), .val (.ref ob3), .val (.int (0 : Int32))] [(.ref ob3)])) := fun t k => P36 t (by
      show Steps p.tables e below (T35.setTop (mkF m 12 #[.val (.int p1), .val (.int (3 : Int32)), .unset, .unset] [(.ref ob3)])) t
      refine XS.astoreN X35.here hx rfl (hb hby at_12) rfl rfl (l' := #[.val (.int p1), .val (.int (3 : Int32)), .val (.ref ob3), .unset]) rfl ?_
      show Steps p.tables e below (T35.setTop (mkF m 13 #[.val (.int p1), .val (.int (3 : Int32)), .val (.ref ob3), .unset] [])) t
      refine XS.aloadN X35.here hx rfl (hb hby at_13) rfl rfl ?_
      show Steps p.tables e below (T35.setTop (mkF m 14 #[.val (.int p1), .val (.int (3 : Int32)), .val (.ref ob3), .unset] [(.ref ob3)])) t
      refine XS.ifnonnullYes X35.here hx rfl (pc0 := 14) (pc' := 19) rfl (hb hby at_14) rfl (by decide) (by decide) ?_
      show Steps p.tables e below (T35.setTop (mkF m 19 #[.val (.int p1), .val (.int (3 : Int32)), .val (.ref ob3), .unset] [])) t
      refine XS.iloadN X35.here hx rfl (hb hby at_19) rfl ?_
      show Steps p.tables e below (T35.setTop (mkF m 20 #[.val (.int p1), .val (.int (3 : Int32)), .val (.ref ob3), .unset] [(.int (3 : Int32))])) t
      refine XS.iconst X35.here hx rfl (hb hby at_20) ?_
      show Steps p.tables e below (T35.setTop (mkF m 21 #[.val (.int p1), .val (.int (3 : Int32)), .val (.ref ob3), .unset] [(.int (2 : Int32)), (.int (3 : Int32))])) t
      refine XS.icmpNo X35.here hx rfl (hb hby at_21) rfl (feq (by decide)).1 ?_
      show Steps p.tables e below (T35.setTop (mkF m 24 #[.val (.int p1), .val (.int (3 : Int32)), .val (.ref ob3), .unset] [])) t
      refine XS.iloadN X35.here hx rfl (hb hby at_24) rfl ?_
      show Steps p.tables e below (T35.setTop (mkF m 25 #[.val (.int p1), .val (.int (3 : Int32)), .val (.ref ob3), .unset] [(.int (3 : Int32))])) t
      refine XS.iconst X35.here hx rfl (hb hby at_25) ?_
      show Steps p.tables e below (T35.setTop (mkF m 26 #[.val (.int p1), .val (.int (3 : Int32)), .val (.ref ob3), .unset] [(.int (4 : Int32)), (.int (3 : Int32))])) t
      refine XS.icmpNo X35.here hx rfl (hb hby at_26) rfl (feq (by decide)).1 ?_
      show Steps p.tables e below (T35.setTop (mkF m 29 #[.val (.int p1), .val (.int (3 : Int32)), .val (.ref ob3), .unset] [])) t
      refine XS.iloadN X35.here hx rfl (hb hby at_29) rfl ?_
      show Steps p.tables e below (T35.setTop (mkF m 30 #[.val (.int p1), .val (.int (3 : Int32)), .val (.ref ob3), .unset] [(.int (3 : Int32))])) t
      refine XS.bipush X35.here hx rfl (hb hby at_30) ?_
      show Steps p.tables e below (T35.setTop (mkF m 32 #[.val (.int p1), .val (.int (3 : Int32)), .val (.ref ob3), .unset] [(.int (6 : Int32)), (.int (3 : Int32))])) t
      refine XS.icmpNo X35.here hx rfl (hb hby at_32) rfl (feq (by decide)).1 ?_
      show Steps p.tables e below (T35.setTop (mkF m 35 #[.val (.int p1), .val (.int (3 : Int32)), .val (.ref ob3), .unset] [])) t
      refine XS.iloadN X35.here hx rfl (hb hby at_35) rfl ?_
      show Steps p.tables e below (T35.setTop (mkF m 36 #[.val (.int p1), .val (.int (3 : Int32)), .val (.ref ob3), .unset] [(.int (3 : Int32))])) t
      refine XS.bipush X35.here hx rfl (hb hby at_36) ?_
      show Steps p.tables e below (T35.setTop (mkF m 38 #[.val (.int p1), .val (.int (3 : Int32)), .val (.ref ob3), .unset] [(.int (7 : Int32)), (.int (3 : Int32))])) t
      refine XS.icmpNo X35.here hx rfl (hb hby at_38) rfl (feq (by decide)).1 ?_
      show Steps p.tables e below (T35.setTop (mkF m 41 #[.val (.int p1), .val (.int (3 : Int32)), .val (.ref ob3), .unset] [])) t
      refine XS.iloadN X35.here hx rfl (hb hby at_41) rfl ?_
      show Steps p.tables e below (T35.setTop (mkF m 42 #[.val (.int p1), .val (.int (3 : Int32)), .val (.ref ob3), .unset] [(.int (3 : Int32))])) t
      refine XS.bipush X35.here hx rfl (hb hby at_42) ?_
      show Steps p.tables e below (T35.setTop (mkF m 44 #[.val (.int p1), .val (.int (3 : Int32)), .val (.ref ob3), .unset] [(.int (8 : Int32)), (.int (3 : Int32))])) t
      refine XS.icmpNo X35.here hx rfl (hb hby at_44) rfl (feq (by decide)).1 ?_
      show Steps p.tables e below (T35.setTop (mkF m 47 #[.val (.int p1), .val (.int (3 : Int32)), .val (.ref ob3), .unset] [])) t
      refine XS.iloadN X35.here hx rfl (hb hby at_47) rfl ?_
      show Steps p.tables e below (T35.setTop (mkF m 48 #[.val (.int p1), .val (.int (3 : Int32)), .val (.ref ob3), .unset] [(.int (3 : Int32))])) t
      refine XS.bipush X35.here hx rfl (hb hby at_48) ?_
      show Steps p.tables e below (T35.setTop (mkF m 50 #[.val (.int p1), .val (.int (3 : Int32)), .val (.ref ob3), .unset] [(.int (9 : Int32)), (.int (3 : Int32))])) t
      refine XS.icmpYes X35.here hx rfl (pc0 := 50) (pc' := 57) rfl (hb hby at_50) rfl (feq (by decide)).2 (by decide) (by decide) ?_
      show Steps p.tables e below (T35.setTop (mkF m 57 #[.val (.int p1), .val (.int (3 : Int32)), .val (.ref ob3), .unset] [])) t
      refine XS.iconst X35.here hx rfl (hb hby at_57) ?_
      show Steps p.tables e below (T35.setTop (mkF m 58 #[.val (.int p1), .val (.int (3 : Int32)), .val (.ref ob3), .unset] [(.int (0 : Int32))])) t
      refine XS.istoreN X35.here hx rfl (hb hby at_58) rfl (l' := #[.val (.int p1), .val (.int (3 : Int32)), .val (.ref ob3), .val (.int (0 : Int32))]) rfl ?_
      show Steps p.tables e below (T35.setTop (mkF m 59 #[.val (.int p1), .val (.int (3 : Int32)), .val (.ref ob3), .val (.int (0 : Int32))] [])) t
      refine XS.aloadN X35.here hx rfl (hb hby at_59) rfl rfl ?_
      exact k)
    obtain ⟨cq38, kq38, q38a, q38b, q38c⟩ := isOf hZ e35 E3
    obtain ⟨_, _, ⟨T38, L38, k38, n38⟩, -, X38, ⟨Lc38, hQ38, l38, y38, z38⟩, st38⟩ := X35.virtualBack hx (y := (⟨"com/example/rootdb/rootdb/core/RecordKind", "startsNode", "()Z"⟩ : MethodName)) (z := (⟨"com/example/rootdb/rootdb/core/RecordKind", "startsNode", "()Z"⟩ : MethodName)) hown (mvT hZ (hw _ (List.mem_of_getElem? (i := 8) rfl))) (mvT hZ (hw _ (List.mem_of_getElem? (i := 9) rfl))) (notFace_of_selects (args := #[]) (mvT hZ (hw _ (List.mem_of_getElem? (i := 11) rfl)))) (mvT hZ (hw _ (List.mem_of_getElem? (i := 11) rfl))) (mvT hZ (hw _ (List.mem_of_getElem? (i := 10) rfl))) (by decide) (backOf (W := 0) (rmN l Z a0 hw [] ob3 ob0 ob1 ob3 ob5 h0 n0 Z0 O0 S0 S1 S3 S5) hZ (hw _ (List.mem_of_getElem? (i := 12) rfl)) (hw _ (List.mem_of_getElem? (i := 3) rfl)) (by decide) (by decide)) q38a q38c (g := (mkF m 60 #[.val (.int p1), .val (.int (3 : Int32)), .val (.ref ob3), .val (.int (0 : Int32))] [(.ref ob3)])) rfl (by rw [hml]; rfl) (Steps.refl _) (argsL := []) (rest := []) (lenOf pd_1 rfl) rfl (by show 2 * 0 + _ ≤ _; exact Nat.le_of_eq rfl) (hb hby at_60) (fun _ _ => ⟨rfl, e35, (by decide : 0 + 0 ≤ _), (by decide : 0 + 0 ≤ _)⟩)
    dsimp only [Pt.U, Pt.locs, Pt.cells, Pt.slots] at X38 l38 y38 z38 st38 hQ38
    subst l38 y38 z38
    obtain ⟨rfl, N38q, e38⟩ := hQ38
    have N38 := Fr.app N35 N38q
    have P39 : Rch p e below (s₁.setTop (entryFrame m #[(.int p1)] maxLocals)) (T38.setTop (mkF m 63 #[.val (.int p1), .val (.int (3 : Int32)), .val (.ref ob3), .val (.int (0 : Int32))] [(.int (if ob3 = ob0 then (0 : Int32) else (if ob3 = ob1 then (0 : Int32) else (if ob3 = ob3 then (0 : Int32) else (if ob3 = ob5 then (0 : Int32) else (1 : Int32))))))])) := fun t k => P37 t (st38.trans k)
    obtain ⟨x40, hx40⟩ : ∃ z : Int32, z = (if ob3 = ob0 then (0 : Int32) else (if ob3 = ob1 then (0 : Int32) else (if ob3 = ob3 then (0 : Int32) else (if ob3 = ob5 then (0 : Int32) else (1 : Int32))))) := ⟨_, rfl⟩
    rw [← hx40] at P39
    have hv_ : x40 = (0 : Int32) := by rw [hx40, if_neg n3_0, if_neg n3_1, if_pos rfl]
    have P41 : Rch p e below (s₁.setTop (entryFrame m #[(.int p1)] maxLocals)) (T38.setTop (mkF m 63 #[.val (.int p1), .val (.int (3 : Int32)), .val (.ref ob3), .val (.int (0 : Int32))] [(.int (0 : Int32))])) := by have q_ := P39; rw [hv_] at q_; exact q_
    have P42 : Rch p e below (s₁.setTop (entryFrame m #[(.int p1)] maxLocals)) (T38.setTop (mkF m 72 #[.val (.int p1), .val (.int (3 : Int32)), .val (.ref ob3), .val (.int (0 : Int32))] [(.int (1 : Int32))])) := fun t k => P41 t (by
      show Steps p.tables e below (T38.setTop (mkF m 63 #[.val (.int p1), .val (.int (3 : Int32)), .val (.ref ob3), .val (.int (0 : Int32))] [(.int (0 : Int32))])) t
      refine XS.iloadN X38.here hx rfl (hb hby at_63) rfl ?_
      show Steps p.tables e below (T38.setTop (mkF m 64 #[.val (.int p1), .val (.int (3 : Int32)), .val (.ref ob3), .val (.int (0 : Int32))] [(.int (0 : Int32)), (.int (0 : Int32))])) t
      refine XS.icmpNo X38.here hx rfl (hb hby at_64) rfl (teq (by decide)).2 ?_
      show Steps p.tables e below (T38.setTop (mkF m 67 #[.val (.int p1), .val (.int (3 : Int32)), .val (.ref ob3), .val (.int (0 : Int32))] [])) t
      refine XS.iconst X38.here hx rfl (hb hby at_67) ?_
      show Steps p.tables e below (T38.setTop (mkF m 68 #[.val (.int p1), .val (.int (3 : Int32)), .val (.ref ob3), .val (.int (0 : Int32))] [(.int (1 : Int32))])) t
      refine XS.goto X38.here hx rfl (pc0 := 68) (pc' := 72) rfl (hb hby at_68) (by decide) (by decide) ?_
      exact k)
    obtain ⟨fs, hr, hrun, hended, hW, hsame⟩ := X38.leave (v := some (.int (1 : Int32))) (fun h => by rw [Bd.returns] at h; cases h)
    refine ⟨_, _, P42 _ ?_, hrun, hended, _, _, rfl, ?_, ⟨_, rfl⟩, hW, hsame.mono (by decide) (by decide)⟩
    · exact retN X38 hx (t := .boolean) Bd.returns (by simp) (hb hby at_72) hr
    · show Q_rm0 Z p1 aB kB ob0 ob1 ob2 ob3 ob4 ob5 ob6 ob7 ob8 ob9 h0 n0 _ T38.heap _
      rw [e38]
      exact ⟨rfl, N38⟩
  · have hi_ : x1 = (4 : Int32) := by subst hx1; exact hs
    have P43 : Rch p e below (s₁.setTop (entryFrame m #[(.int p1)] maxLocals)) (s₁.setTop (mkF m 8 #[.val (.int p1), .val (.int (4 : Int32)), .unset, .unset] [])) := by have q_ := P2; rw [hi_] at q_; exact q_
    have P44 : Rch p e below (s₁.setTop (entryFrame m #[(.int p1)] maxLocals)) (s₁.setTop (mkF m 9 #[.val (.int p1), .val (.int (4 : Int32)), .unset, .unset] [(.int (4 : Int32))])) := fun t k => P43 t (by
      show Steps p.tables e below (s₁.setTop (mkF m 8 #[.val (.int p1), .val (.int (4 : Int32)), .unset, .unset] [])) t
      refine XS.iloadN X0.here hx rfl (hb hby at_8) rfl ?_
      exact k)
    obtain ⟨_, _, ⟨T45, L45, k45, n45⟩, -, X45, ⟨Lc45, hQ45, l45, y45, z45⟩, st45⟩ := Jvm.LawKit.callS X0 hx (y := (⟨"com/example/rootdb/rootdb/core/RecordKind", "ofCode", "(I)Lcom/example/rootdb/rootdb/core/RecordKind;"⟩ : MethodName)) hown (mvT hZ (hw _ (List.mem_of_getElem? (i := 1) rfl))) (mvT hZ (hw _ (List.mem_of_getElem? (i := 2) rfl))) (mvT hZ (hw _ (List.mem_of_getElem? (i := 3) rfl))) (mvT hZ (hw _ (List.mem_of_getElem? (i := 4) rfl))) (by decide) (backOf (W := 0) (rmO l Z a0 hw [] (4 : Int32) aB kB [(.ref ob0), (.ref ob1), (.ref ob2), (.ref ob3), (.ref ob4), (.ref ob5), (.ref ob6), (.ref ob7), (.ref ob8), (.ref ob9)] ob4 h0 n0 Z0 O0 SB VB (by decide) (by decide) rfl) hZ (hw _ (List.mem_of_getElem? (i := 4) rfl)) (hw _ (List.mem_of_getElem? (i := 3) rfl)) (by decide) (by decide)) (g := (mkF m 9 #[.val (.int p1), .val (.int (4 : Int32)), .unset, .unset] [(.int (4 : Int32))])) rfl (by rw [hml]; rfl) (argsL := [(.int (4 : Int32))]) (rest := []) (lenOf pd_0 rfl) rfl (by show 2 * 0 + _ ≤ _; exact Nat.le_of_eq rfl) (hb hby at_9) (fun _ _ => ⟨rfl, e0, (by decide : 0 + 0 ≤ _), (by decide : 0 + 0 ≤ _)⟩)
    dsimp only [Pt.U, Pt.locs, Pt.cells, Pt.slots] at X45 l45 y45 z45 st45 hQ45
    subst l45 y45 z45
    obtain ⟨rfl, N45q, e45⟩ := hQ45
    have N45 := Fr.app N0 N45q
    have P46 : Rch p e below (s₁.setTop (entryFrame m #[(.int p1)] maxLocals)) (T45.setTop (mkF m 12 #[.val (.int p1), .val (.int (4 : Int32)), .unset, .unset] [(.ref ob4)])) := fun t k => P44 t (st45 t k)
    have P47 : Rch p e below (s₁.setTop (entryFrame m #[(.int p1)] maxLocals)) (T45.setTop (mkF m 60 #[.val (.int p1), .val (.int (4 : Int32)), .val (.ref ob4), .val (.int (1 : Int32))] [(.ref ob4)])) := fun t k => P46 t (by
      show Steps p.tables e below (T45.setTop (mkF m 12 #[.val (.int p1), .val (.int (4 : Int32)), .unset, .unset] [(.ref ob4)])) t
      refine XS.astoreN X45.here hx rfl (hb hby at_12) rfl rfl (l' := #[.val (.int p1), .val (.int (4 : Int32)), .val (.ref ob4), .unset]) rfl ?_
      show Steps p.tables e below (T45.setTop (mkF m 13 #[.val (.int p1), .val (.int (4 : Int32)), .val (.ref ob4), .unset] [])) t
      refine XS.aloadN X45.here hx rfl (hb hby at_13) rfl rfl ?_
      show Steps p.tables e below (T45.setTop (mkF m 14 #[.val (.int p1), .val (.int (4 : Int32)), .val (.ref ob4), .unset] [(.ref ob4)])) t
      refine XS.ifnonnullYes X45.here hx rfl (pc0 := 14) (pc' := 19) rfl (hb hby at_14) rfl (by decide) (by decide) ?_
      show Steps p.tables e below (T45.setTop (mkF m 19 #[.val (.int p1), .val (.int (4 : Int32)), .val (.ref ob4), .unset] [])) t
      refine XS.iloadN X45.here hx rfl (hb hby at_19) rfl ?_
      show Steps p.tables e below (T45.setTop (mkF m 20 #[.val (.int p1), .val (.int (4 : Int32)), .val (.ref ob4), .unset] [(.int (4 : Int32))])) t
      refine XS.iconst X45.here hx rfl (hb hby at_20) ?_
      show Steps p.tables e below (T45.setTop (mkF m 21 #[.val (.int p1), .val (.int (4 : Int32)), .val (.ref ob4), .unset] [(.int (2 : Int32)), (.int (4 : Int32))])) t
      refine XS.icmpNo X45.here hx rfl (hb hby at_21) rfl (feq (by decide)).1 ?_
      show Steps p.tables e below (T45.setTop (mkF m 24 #[.val (.int p1), .val (.int (4 : Int32)), .val (.ref ob4), .unset] [])) t
      refine XS.iloadN X45.here hx rfl (hb hby at_24) rfl ?_
      show Steps p.tables e below (T45.setTop (mkF m 25 #[.val (.int p1), .val (.int (4 : Int32)), .val (.ref ob4), .unset] [(.int (4 : Int32))])) t
      refine XS.iconst X45.here hx rfl (hb hby at_25) ?_
      show Steps p.tables e below (T45.setTop (mkF m 26 #[.val (.int p1), .val (.int (4 : Int32)), .val (.ref ob4), .unset] [(.int (4 : Int32)), (.int (4 : Int32))])) t
      refine XS.icmpYes X45.here hx rfl (pc0 := 26) (pc' := 53) rfl (hb hby at_26) rfl (teq (by decide)).1 (by decide) (by decide) ?_
      show Steps p.tables e below (T45.setTop (mkF m 53 #[.val (.int p1), .val (.int (4 : Int32)), .val (.ref ob4), .unset] [])) t
      refine XS.iconst X45.here hx rfl (hb hby at_53) ?_
      show Steps p.tables e below (T45.setTop (mkF m 54 #[.val (.int p1), .val (.int (4 : Int32)), .val (.ref ob4), .unset] [(.int (1 : Int32))])) t
      refine XS.goto X45.here hx rfl (pc0 := 54) (pc' := 58) rfl (hb hby at_54) (by decide) (by decide) ?_
      show Steps p.tables e below (T45.setTop (mkF m 58 #[.val (.int p1), .val (.int (4 : Int32)), .val (.ref ob4), .unset] [(.int (1 : Int32))])) t
      refine XS.istoreN X45.here hx rfl (hb hby at_58) rfl (l' := #[.val (.int p1), .val (.int (4 : Int32)), .val (.ref ob4), .val (.int (1 : Int32))]) rfl ?_
      show Steps p.tables e below (T45.setTop (mkF m 59 #[.val (.int p1), .val (.int (4 : Int32)), .val (.ref ob4), .val (.int (1 : Int32))] [])) t
      refine XS.aloadN X45.here hx rfl (hb hby at_59) rfl rfl ?_
      exact k)
    obtain ⟨cq48, kq48, q48a, q48b, q48c⟩ := isOf hZ e45 E4
    obtain ⟨_, _, ⟨T48, L48, k48, n48⟩, -, X48, ⟨Lc48, hQ48, l48, y48, z48⟩, st48⟩ := X45.virtualBack hx (y := (⟨"com/example/rootdb/rootdb/core/RecordKind", "startsNode", "()Z"⟩ : MethodName)) (z := (⟨"com/example/rootdb/rootdb/core/RecordKind", "startsNode", "()Z"⟩ : MethodName)) hown (mvT hZ (hw _ (List.mem_of_getElem? (i := 8) rfl))) (mvT hZ (hw _ (List.mem_of_getElem? (i := 9) rfl))) (notFace_of_selects (args := #[]) (mvT hZ (hw _ (List.mem_of_getElem? (i := 11) rfl)))) (mvT hZ (hw _ (List.mem_of_getElem? (i := 11) rfl))) (mvT hZ (hw _ (List.mem_of_getElem? (i := 10) rfl))) (by decide) (backOf (W := 0) (rmN l Z a0 hw [] ob4 ob0 ob1 ob3 ob5 h0 n0 Z0 O0 S0 S1 S3 S5) hZ (hw _ (List.mem_of_getElem? (i := 12) rfl)) (hw _ (List.mem_of_getElem? (i := 3) rfl)) (by decide) (by decide)) q48a q48c (g := (mkF m 60 #[.val (.int p1), .val (.int (4 : Int32)), .val (.ref ob4), .val (.int (1 : Int32))] [(.ref ob4)])) rfl (by rw [hml]; rfl) (Steps.refl _) (argsL := []) (rest := []) (lenOf pd_1 rfl) rfl (by show 2 * 0 + _ ≤ _; exact Nat.le_of_eq rfl) (hb hby at_60) (fun _ _ => ⟨rfl, e45, (by decide : 0 + 0 ≤ _), (by decide : 0 + 0 ≤ _)⟩)
    dsimp only [Pt.U, Pt.locs, Pt.cells, Pt.slots] at X48 l48 y48 z48 st48 hQ48
    subst l48 y48 z48
    obtain ⟨rfl, N48q, e48⟩ := hQ48
    have N48 := Fr.app N45 N48q
    have P49 : Rch p e below (s₁.setTop (entryFrame m #[(.int p1)] maxLocals)) (T48.setTop (mkF m 63 #[.val (.int p1), .val (.int (4 : Int32)), .val (.ref ob4), .val (.int (1 : Int32))] [(.int (if ob4 = ob0 then (0 : Int32) else (if ob4 = ob1 then (0 : Int32) else (if ob4 = ob3 then (0 : Int32) else (if ob4 = ob5 then (0 : Int32) else (1 : Int32))))))])) := fun t k => P47 t (st48.trans k)
    obtain ⟨x50, hx50⟩ : ∃ z : Int32, z = (if ob4 = ob0 then (0 : Int32) else (if ob4 = ob1 then (0 : Int32) else (if ob4 = ob3 then (0 : Int32) else (if ob4 = ob5 then (0 : Int32) else (1 : Int32))))) := ⟨_, rfl⟩
    rw [← hx50] at P49
    have hv_ : x50 = (1 : Int32) := by rw [hx50, if_neg n4_0, if_neg n4_1, if_neg n4_3, if_neg n4_5]
    have P51 : Rch p e below (s₁.setTop (entryFrame m #[(.int p1)] maxLocals)) (T48.setTop (mkF m 63 #[.val (.int p1), .val (.int (4 : Int32)), .val (.ref ob4), .val (.int (1 : Int32))] [(.int (1 : Int32))])) := by have q_ := P49; rw [hv_] at q_; exact q_
    have P52 : Rch p e below (s₁.setTop (entryFrame m #[(.int p1)] maxLocals)) (T48.setTop (mkF m 72 #[.val (.int p1), .val (.int (4 : Int32)), .val (.ref ob4), .val (.int (1 : Int32))] [(.int (1 : Int32))])) := fun t k => P51 t (by
      show Steps p.tables e below (T48.setTop (mkF m 63 #[.val (.int p1), .val (.int (4 : Int32)), .val (.ref ob4), .val (.int (1 : Int32))] [(.int (1 : Int32))])) t
      refine XS.iloadN X48.here hx rfl (hb hby at_63) rfl ?_
      show Steps p.tables e below (T48.setTop (mkF m 64 #[.val (.int p1), .val (.int (4 : Int32)), .val (.ref ob4), .val (.int (1 : Int32))] [(.int (1 : Int32)), (.int (1 : Int32))])) t
      refine XS.icmpNo X48.here hx rfl (hb hby at_64) rfl (teq (by decide)).2 ?_
      show Steps p.tables e below (T48.setTop (mkF m 67 #[.val (.int p1), .val (.int (4 : Int32)), .val (.ref ob4), .val (.int (1 : Int32))] [])) t
      refine XS.iconst X48.here hx rfl (hb hby at_67) ?_
      show Steps p.tables e below (T48.setTop (mkF m 68 #[.val (.int p1), .val (.int (4 : Int32)), .val (.ref ob4), .val (.int (1 : Int32))] [(.int (1 : Int32))])) t
      refine XS.goto X48.here hx rfl (pc0 := 68) (pc' := 72) rfl (hb hby at_68) (by decide) (by decide) ?_
      exact k)
    obtain ⟨fs, hr, hrun, hended, hW, hsame⟩ := X48.leave (v := some (.int (1 : Int32))) (fun h => by rw [Bd.returns] at h; cases h)
    refine ⟨_, _, P52 _ ?_, hrun, hended, _, _, rfl, ?_, ⟨_, rfl⟩, hW, hsame.mono (by decide) (by decide)⟩
    · exact retN X48 hx (t := .boolean) Bd.returns (by simp) (hb hby at_72) hr
    · show Q_rm0 Z p1 aB kB ob0 ob1 ob2 ob3 ob4 ob5 ob6 ob7 ob8 ob9 h0 n0 _ T48.heap _
      rw [e48]
      exact ⟨rfl, N48⟩
  · have hi_ : x1 = (5 : Int32) := by subst hx1; exact hs
    have P53 : Rch p e below (s₁.setTop (entryFrame m #[(.int p1)] maxLocals)) (s₁.setTop (mkF m 8 #[.val (.int p1), .val (.int (5 : Int32)), .unset, .unset] [])) := by have q_ := P2; rw [hi_] at q_; exact q_
    have P54 : Rch p e below (s₁.setTop (entryFrame m #[(.int p1)] maxLocals)) (s₁.setTop (mkF m 9 #[.val (.int p1), .val (.int (5 : Int32)), .unset, .unset] [(.int (5 : Int32))])) := fun t k => P53 t (by
      show Steps p.tables e below (s₁.setTop (mkF m 8 #[.val (.int p1), .val (.int (5 : Int32)), .unset, .unset] [])) t
      refine XS.iloadN X0.here hx rfl (hb hby at_8) rfl ?_
      exact k)
    obtain ⟨_, _, ⟨T55, L55, k55, n55⟩, -, X55, ⟨Lc55, hQ55, l55, y55, z55⟩, st55⟩ := Jvm.LawKit.callS X0 hx (y := (⟨"com/example/rootdb/rootdb/core/RecordKind", "ofCode", "(I)Lcom/example/rootdb/rootdb/core/RecordKind;"⟩ : MethodName)) hown (mvT hZ (hw _ (List.mem_of_getElem? (i := 1) rfl))) (mvT hZ (hw _ (List.mem_of_getElem? (i := 2) rfl))) (mvT hZ (hw _ (List.mem_of_getElem? (i := 3) rfl))) (mvT hZ (hw _ (List.mem_of_getElem? (i := 4) rfl))) (by decide) (backOf (W := 0) (rmO l Z a0 hw [] (5 : Int32) aB kB [(.ref ob0), (.ref ob1), (.ref ob2), (.ref ob3), (.ref ob4), (.ref ob5), (.ref ob6), (.ref ob7), (.ref ob8), (.ref ob9)] ob5 h0 n0 Z0 O0 SB VB (by decide) (by decide) rfl) hZ (hw _ (List.mem_of_getElem? (i := 4) rfl)) (hw _ (List.mem_of_getElem? (i := 3) rfl)) (by decide) (by decide)) (g := (mkF m 9 #[.val (.int p1), .val (.int (5 : Int32)), .unset, .unset] [(.int (5 : Int32))])) rfl (by rw [hml]; rfl) (argsL := [(.int (5 : Int32))]) (rest := []) (lenOf pd_0 rfl) rfl (by show 2 * 0 + _ ≤ _; exact Nat.le_of_eq rfl) (hb hby at_9) (fun _ _ => ⟨rfl, e0, (by decide : 0 + 0 ≤ _), (by decide : 0 + 0 ≤ _)⟩)
    dsimp only [Pt.U, Pt.locs, Pt.cells, Pt.slots] at X55 l55 y55 z55 st55 hQ55
    subst l55 y55 z55
    obtain ⟨rfl, N55q, e55⟩ := hQ55
    have N55 := Fr.app N0 N55q
    have P56 : Rch p e below (s₁.setTop (entryFrame m #[(.int p1)] maxLocals)) (T55.setTop (mkF m 12 #[.val (.int p1), .val (.int (5 : Int32)), .unset, .unset] [(.ref ob5)])) := fun t k => P54 t (st55 t k)
    have P57 : Rch p e below (s₁.setTop (entryFrame m #[(.int p1)] maxLocals)) (T55.setTop (mkF m 60 #[.val (.int p1), .val (.int (5 : Int32)), .val (.ref ob5), .val (.int (0 : Int32))] [(.ref ob5)])) := fun t k => P56 t (by
      show Steps p.tables e below (T55.setTop (mkF m 12 #[.val (.int p1), .val (.int (5 : Int32)), .unset, .unset] [(.ref ob5)])) t
      refine XS.astoreN X55.here hx rfl (hb hby at_12) rfl rfl (l' := #[.val (.int p1), .val (.int (5 : Int32)), .val (.ref ob5), .unset]) rfl ?_
      show Steps p.tables e below (T55.setTop (mkF m 13 #[.val (.int p1), .val (.int (5 : Int32)), .val (.ref ob5), .unset] [])) t
      refine XS.aloadN X55.here hx rfl (hb hby at_13) rfl rfl ?_
      show Steps p.tables e below (T55.setTop (mkF m 14 #[.val (.int p1), .val (.int (5 : Int32)), .val (.ref ob5), .unset] [(.ref ob5)])) t
      refine XS.ifnonnullYes X55.here hx rfl (pc0 := 14) (pc' := 19) rfl (hb hby at_14) rfl (by decide) (by decide) ?_
      show Steps p.tables e below (T55.setTop (mkF m 19 #[.val (.int p1), .val (.int (5 : Int32)), .val (.ref ob5), .unset] [])) t
      refine XS.iloadN X55.here hx rfl (hb hby at_19) rfl ?_
      show Steps p.tables e below (T55.setTop (mkF m 20 #[.val (.int p1), .val (.int (5 : Int32)), .val (.ref ob5), .unset] [(.int (5 : Int32))])) t
      refine XS.iconst X55.here hx rfl (hb hby at_20) ?_
      show Steps p.tables e below (T55.setTop (mkF m 21 #[.val (.int p1), .val (.int (5 : Int32)), .val (.ref ob5), .unset] [(.int (2 : Int32)), (.int (5 : Int32))])) t
      refine XS.icmpNo X55.here hx rfl (hb hby at_21) rfl (feq (by decide)).1 ?_
      show Steps p.tables e below (T55.setTop (mkF m 24 #[.val (.int p1), .val (.int (5 : Int32)), .val (.ref ob5), .unset] [])) t
      refine XS.iloadN X55.here hx rfl (hb hby at_24) rfl ?_
      show Steps p.tables e below (T55.setTop (mkF m 25 #[.val (.int p1), .val (.int (5 : Int32)), .val (.ref ob5), .unset] [(.int (5 : Int32))])) t
      refine XS.iconst X55.here hx rfl (hb hby at_25) ?_
      show Steps p.tables e below (T55.setTop (mkF m 26 #[.val (.int p1), .val (.int (5 : Int32)), .val (.ref ob5), .unset] [(.int (4 : Int32)), (.int (5 : Int32))])) t
      refine XS.icmpNo X55.here hx rfl (hb hby at_26) rfl (feq (by decide)).1 ?_
      show Steps p.tables e below (T55.setTop (mkF m 29 #[.val (.int p1), .val (.int (5 : Int32)), .val (.ref ob5), .unset] [])) t
      refine XS.iloadN X55.here hx rfl (hb hby at_29) rfl ?_
      show Steps p.tables e below (T55.setTop (mkF m 30 #[.val (.int p1), .val (.int (5 : Int32)), .val (.ref ob5), .unset] [(.int (5 : Int32))])) t
      refine XS.bipush X55.here hx rfl (hb hby at_30) ?_
      show Steps p.tables e below (T55.setTop (mkF m 32 #[.val (.int p1), .val (.int (5 : Int32)), .val (.ref ob5), .unset] [(.int (6 : Int32)), (.int (5 : Int32))])) t
      refine XS.icmpNo X55.here hx rfl (hb hby at_32) rfl (feq (by decide)).1 ?_
      show Steps p.tables e below (T55.setTop (mkF m 35 #[.val (.int p1), .val (.int (5 : Int32)), .val (.ref ob5), .unset] [])) t
      refine XS.iloadN X55.here hx rfl (hb hby at_35) rfl ?_
      show Steps p.tables e below (T55.setTop (mkF m 36 #[.val (.int p1), .val (.int (5 : Int32)), .val (.ref ob5), .unset] [(.int (5 : Int32))])) t
      refine XS.bipush X55.here hx rfl (hb hby at_36) ?_
      show Steps p.tables e below (T55.setTop (mkF m 38 #[.val (.int p1), .val (.int (5 : Int32)), .val (.ref ob5), .unset] [(.int (7 : Int32)), (.int (5 : Int32))])) t
      refine XS.icmpNo X55.here hx rfl (hb hby at_38) rfl (feq (by decide)).1 ?_
      show Steps p.tables e below (T55.setTop (mkF m 41 #[.val (.int p1), .val (.int (5 : Int32)), .val (.ref ob5), .unset] [])) t
      refine XS.iloadN X55.here hx rfl (hb hby at_41) rfl ?_
      show Steps p.tables e below (T55.setTop (mkF m 42 #[.val (.int p1), .val (.int (5 : Int32)), .val (.ref ob5), .unset] [(.int (5 : Int32))])) t
      refine XS.bipush X55.here hx rfl (hb hby at_42) ?_
      show Steps p.tables e below (T55.setTop (mkF m 44 #[.val (.int p1), .val (.int (5 : Int32)), .val (.ref ob5), .unset] [(.int (8 : Int32)), (.int (5 : Int32))])) t
      refine XS.icmpNo X55.here hx rfl (hb hby at_44) rfl (feq (by decide)).1 ?_
      show Steps p.tables e below (T55.setTop (mkF m 47 #[.val (.int p1), .val (.int (5 : Int32)), .val (.ref ob5), .unset] [])) t
      refine XS.iloadN X55.here hx rfl (hb hby at_47) rfl ?_
      show Steps p.tables e below (T55.setTop (mkF m 48 #[.val (.int p1), .val (.int (5 : Int32)), .val (.ref ob5), .unset] [(.int (5 : Int32))])) t
      refine XS.bipush X55.here hx rfl (hb hby at_48) ?_
      show Steps p.tables e below (T55.setTop (mkF m 50 #[.val (.int p1), .val (.int (5 : Int32)), .val (.ref ob5), .unset] [(.int (9 : Int32)), (.int (5 : Int32))])) t
      refine XS.icmpYes X55.here hx rfl (pc0 := 50) (pc' := 57) rfl (hb hby at_50) rfl (feq (by decide)).2 (by decide) (by decide) ?_
      show Steps p.tables e below (T55.setTop (mkF m 57 #[.val (.int p1), .val (.int (5 : Int32)), .val (.ref ob5), .unset] [])) t
      refine XS.iconst X55.here hx rfl (hb hby at_57) ?_
      show Steps p.tables e below (T55.setTop (mkF m 58 #[.val (.int p1), .val (.int (5 : Int32)), .val (.ref ob5), .unset] [(.int (0 : Int32))])) t
      refine XS.istoreN X55.here hx rfl (hb hby at_58) rfl (l' := #[.val (.int p1), .val (.int (5 : Int32)), .val (.ref ob5), .val (.int (0 : Int32))]) rfl ?_
      show Steps p.tables e below (T55.setTop (mkF m 59 #[.val (.int p1), .val (.int (5 : Int32)), .val (.ref ob5), .val (.int (0 : Int32))] [])) t
      refine XS.aloadN X55.here hx rfl (hb hby at_59) rfl rfl ?_
      exact k)
    obtain ⟨cq58, kq58, q58a, q58b, q58c⟩ := isOf hZ e55 E5
    obtain ⟨_, _, ⟨T58, L58, k58, n58⟩, -, X58, ⟨Lc58, hQ58, l58, y58, z58⟩, st58⟩ := X55.virtualBack hx (y := (⟨"com/example/rootdb/rootdb/core/RecordKind", "startsNode", "()Z"⟩ : MethodName)) (z := (⟨"com/example/rootdb/rootdb/core/RecordKind", "startsNode", "()Z"⟩ : MethodName)) hown (mvT hZ (hw _ (List.mem_of_getElem? (i := 8) rfl))) (mvT hZ (hw _ (List.mem_of_getElem? (i := 9) rfl))) (notFace_of_selects (args := #[]) (mvT hZ (hw _ (List.mem_of_getElem? (i := 11) rfl)))) (mvT hZ (hw _ (List.mem_of_getElem? (i := 11) rfl))) (mvT hZ (hw _ (List.mem_of_getElem? (i := 10) rfl))) (by decide) (backOf (W := 0) (rmN l Z a0 hw [] ob5 ob0 ob1 ob3 ob5 h0 n0 Z0 O0 S0 S1 S3 S5) hZ (hw _ (List.mem_of_getElem? (i := 12) rfl)) (hw _ (List.mem_of_getElem? (i := 3) rfl)) (by decide) (by decide)) q58a q58c (g := (mkF m 60 #[.val (.int p1), .val (.int (5 : Int32)), .val (.ref ob5), .val (.int (0 : Int32))] [(.ref ob5)])) rfl (by rw [hml]; rfl) (Steps.refl _) (argsL := []) (rest := []) (lenOf pd_1 rfl) rfl (by show 2 * 0 + _ ≤ _; exact Nat.le_of_eq rfl) (hb hby at_60) (fun _ _ => ⟨rfl, e55, (by decide : 0 + 0 ≤ _), (by decide : 0 + 0 ≤ _)⟩)
    dsimp only [Pt.U, Pt.locs, Pt.cells, Pt.slots] at X58 l58 y58 z58 st58 hQ58
    subst l58 y58 z58
    obtain ⟨rfl, N58q, e58⟩ := hQ58
    have N58 := Fr.app N55 N58q
    have P59 : Rch p e below (s₁.setTop (entryFrame m #[(.int p1)] maxLocals)) (T58.setTop (mkF m 63 #[.val (.int p1), .val (.int (5 : Int32)), .val (.ref ob5), .val (.int (0 : Int32))] [(.int (if ob5 = ob0 then (0 : Int32) else (if ob5 = ob1 then (0 : Int32) else (if ob5 = ob3 then (0 : Int32) else (if ob5 = ob5 then (0 : Int32) else (1 : Int32))))))])) := fun t k => P57 t (st58.trans k)
    obtain ⟨x60, hx60⟩ : ∃ z : Int32, z = (if ob5 = ob0 then (0 : Int32) else (if ob5 = ob1 then (0 : Int32) else (if ob5 = ob3 then (0 : Int32) else (if ob5 = ob5 then (0 : Int32) else (1 : Int32))))) := ⟨_, rfl⟩
    rw [← hx60] at P59
    have hv_ : x60 = (0 : Int32) := by rw [hx60, if_neg n5_0, if_neg n5_1, if_neg n5_3, if_pos rfl]
    have P61 : Rch p e below (s₁.setTop (entryFrame m #[(.int p1)] maxLocals)) (T58.setTop (mkF m 63 #[.val (.int p1), .val (.int (5 : Int32)), .val (.ref ob5), .val (.int (0 : Int32))] [(.int (0 : Int32))])) := by have q_ := P59; rw [hv_] at q_; exact q_
    have P62 : Rch p e below (s₁.setTop (entryFrame m #[(.int p1)] maxLocals)) (T58.setTop (mkF m 72 #[.val (.int p1), .val (.int (5 : Int32)), .val (.ref ob5), .val (.int (0 : Int32))] [(.int (1 : Int32))])) := fun t k => P61 t (by
      show Steps p.tables e below (T58.setTop (mkF m 63 #[.val (.int p1), .val (.int (5 : Int32)), .val (.ref ob5), .val (.int (0 : Int32))] [(.int (0 : Int32))])) t
      refine XS.iloadN X58.here hx rfl (hb hby at_63) rfl ?_
      show Steps p.tables e below (T58.setTop (mkF m 64 #[.val (.int p1), .val (.int (5 : Int32)), .val (.ref ob5), .val (.int (0 : Int32))] [(.int (0 : Int32)), (.int (0 : Int32))])) t
      refine XS.icmpNo X58.here hx rfl (hb hby at_64) rfl (teq (by decide)).2 ?_
      show Steps p.tables e below (T58.setTop (mkF m 67 #[.val (.int p1), .val (.int (5 : Int32)), .val (.ref ob5), .val (.int (0 : Int32))] [])) t
      refine XS.iconst X58.here hx rfl (hb hby at_67) ?_
      show Steps p.tables e below (T58.setTop (mkF m 68 #[.val (.int p1), .val (.int (5 : Int32)), .val (.ref ob5), .val (.int (0 : Int32))] [(.int (1 : Int32))])) t
      refine XS.goto X58.here hx rfl (pc0 := 68) (pc' := 72) rfl (hb hby at_68) (by decide) (by decide) ?_
      exact k)
    obtain ⟨fs, hr, hrun, hended, hW, hsame⟩ := X58.leave (v := some (.int (1 : Int32))) (fun h => by rw [Bd.returns] at h; cases h)
    refine ⟨_, _, P62 _ ?_, hrun, hended, _, _, rfl, ?_, ⟨_, rfl⟩, hW, hsame.mono (by decide) (by decide)⟩
    · exact retN X58 hx (t := .boolean) Bd.returns (by simp) (hb hby at_72) hr
    · show Q_rm0 Z p1 aB kB ob0 ob1 ob2 ob3 ob4 ob5 ob6 ob7 ob8 ob9 h0 n0 _ T58.heap _
      rw [e58]
      exact ⟨rfl, N58⟩
  · have hi_ : x1 = (6 : Int32) := by subst hx1; exact hs
    have P63 : Rch p e below (s₁.setTop (entryFrame m #[(.int p1)] maxLocals)) (s₁.setTop (mkF m 8 #[.val (.int p1), .val (.int (6 : Int32)), .unset, .unset] [])) := by have q_ := P2; rw [hi_] at q_; exact q_
    have P64 : Rch p e below (s₁.setTop (entryFrame m #[(.int p1)] maxLocals)) (s₁.setTop (mkF m 9 #[.val (.int p1), .val (.int (6 : Int32)), .unset, .unset] [(.int (6 : Int32))])) := fun t k => P63 t (by
      show Steps p.tables e below (s₁.setTop (mkF m 8 #[.val (.int p1), .val (.int (6 : Int32)), .unset, .unset] [])) t
      refine XS.iloadN X0.here hx rfl (hb hby at_8) rfl ?_
      exact k)
    obtain ⟨_, _, ⟨T65, L65, k65, n65⟩, -, X65, ⟨Lc65, hQ65, l65, y65, z65⟩, st65⟩ := Jvm.LawKit.callS X0 hx (y := (⟨"com/example/rootdb/rootdb/core/RecordKind", "ofCode", "(I)Lcom/example/rootdb/rootdb/core/RecordKind;"⟩ : MethodName)) hown (mvT hZ (hw _ (List.mem_of_getElem? (i := 1) rfl))) (mvT hZ (hw _ (List.mem_of_getElem? (i := 2) rfl))) (mvT hZ (hw _ (List.mem_of_getElem? (i := 3) rfl))) (mvT hZ (hw _ (List.mem_of_getElem? (i := 4) rfl))) (by decide) (backOf (W := 0) (rmO l Z a0 hw [] (6 : Int32) aB kB [(.ref ob0), (.ref ob1), (.ref ob2), (.ref ob3), (.ref ob4), (.ref ob5), (.ref ob6), (.ref ob7), (.ref ob8), (.ref ob9)] ob6 h0 n0 Z0 O0 SB VB (by decide) (by decide) rfl) hZ (hw _ (List.mem_of_getElem? (i := 4) rfl)) (hw _ (List.mem_of_getElem? (i := 3) rfl)) (by decide) (by decide)) (g := (mkF m 9 #[.val (.int p1), .val (.int (6 : Int32)), .unset, .unset] [(.int (6 : Int32))])) rfl (by rw [hml]; rfl) (argsL := [(.int (6 : Int32))]) (rest := []) (lenOf pd_0 rfl) rfl (by show 2 * 0 + _ ≤ _; exact Nat.le_of_eq rfl) (hb hby at_9) (fun _ _ => ⟨rfl, e0, (by decide : 0 + 0 ≤ _), (by decide : 0 + 0 ≤ _)⟩)
    dsimp only [Pt.U, Pt.locs, Pt.cells, Pt.slots] at X65 l65 y65 z65 st65 hQ65
    subst l65 y65 z65
    obtain ⟨rfl, N65q, e65⟩ := hQ65
    have N65 := Fr.app N0 N65q
    have P66 : Rch p e below (s₁.setTop (entryFrame m #[(.int p1)] maxLocals)) (T65.setTop (mkF m 12 #[.val (.int p1), .val (.int (6 : Int32)), .unset, .unset] [(.ref ob6)])) := fun t k => P64 t (st65 t k)
    have P67 : Rch p e below (s₁.setTop (entryFrame m #[(.int p1)] maxLocals)) (T65.setTop (mkF m 60 #[.val (.int p1), .val (.int (6 : Int32)), .val (.ref ob6), .val (.int (1 : Int32))] [(.ref ob6)])) := fun t k => P66 t (by
      show Steps p.tables e below (T65.setTop (mkF m 12 #[.val (.int p1), .val (.int (6 : Int32)), .unset, .unset] [(.ref ob6)])) t
      refine XS.astoreN X65.here hx rfl (hb hby at_12) rfl rfl (l' := #[.val (.int p1), .val (.int (6 : Int32)), .val (.ref ob6), .unset]) rfl ?_
      show Steps p.tables e below (T65.setTop (mkF m 13 #[.val (.int p1), .val (.int (6 : Int32)), .val (.ref ob6), .unset] [])) t
      refine XS.aloadN X65.here hx rfl (hb hby at_13) rfl rfl ?_
      show Steps p.tables e below (T65.setTop (mkF m 14 #[.val (.int p1), .val (.int (6 : Int32)), .val (.ref ob6), .unset] [(.ref ob6)])) t
      refine XS.ifnonnullYes X65.here hx rfl (pc0 := 14) (pc' := 19) rfl (hb hby at_14) rfl (by decide) (by decide) ?_
      show Steps p.tables e below (T65.setTop (mkF m 19 #[.val (.int p1), .val (.int (6 : Int32)), .val (.ref ob6), .unset] [])) t
      refine XS.iloadN X65.here hx rfl (hb hby at_19) rfl ?_
      show Steps p.tables e below (T65.setTop (mkF m 20 #[.val (.int p1), .val (.int (6 : Int32)), .val (.ref ob6), .unset] [(.int (6 : Int32))])) t
      refine XS.iconst X65.here hx rfl (hb hby at_20) ?_
      show Steps p.tables e below (T65.setTop (mkF m 21 #[.val (.int p1), .val (.int (6 : Int32)), .val (.ref ob6), .unset] [(.int (2 : Int32)), (.int (6 : Int32))])) t
      refine XS.icmpNo X65.here hx rfl (hb hby at_21) rfl (feq (by decide)).1 ?_
      show Steps p.tables e below (T65.setTop (mkF m 24 #[.val (.int p1), .val (.int (6 : Int32)), .val (.ref ob6), .unset] [])) t
      refine XS.iloadN X65.here hx rfl (hb hby at_24) rfl ?_
      show Steps p.tables e below (T65.setTop (mkF m 25 #[.val (.int p1), .val (.int (6 : Int32)), .val (.ref ob6), .unset] [(.int (6 : Int32))])) t
      refine XS.iconst X65.here hx rfl (hb hby at_25) ?_
      show Steps p.tables e below (T65.setTop (mkF m 26 #[.val (.int p1), .val (.int (6 : Int32)), .val (.ref ob6), .unset] [(.int (4 : Int32)), (.int (6 : Int32))])) t
      refine XS.icmpNo X65.here hx rfl (hb hby at_26) rfl (feq (by decide)).1 ?_
      show Steps p.tables e below (T65.setTop (mkF m 29 #[.val (.int p1), .val (.int (6 : Int32)), .val (.ref ob6), .unset] [])) t
      refine XS.iloadN X65.here hx rfl (hb hby at_29) rfl ?_
      show Steps p.tables e below (T65.setTop (mkF m 30 #[.val (.int p1), .val (.int (6 : Int32)), .val (.ref ob6), .unset] [(.int (6 : Int32))])) t
      refine XS.bipush X65.here hx rfl (hb hby at_30) ?_
      show Steps p.tables e below (T65.setTop (mkF m 32 #[.val (.int p1), .val (.int (6 : Int32)), .val (.ref ob6), .unset] [(.int (6 : Int32)), (.int (6 : Int32))])) t
      refine XS.icmpYes X65.here hx rfl (pc0 := 32) (pc' := 53) rfl (hb hby at_32) rfl (teq (by decide)).1 (by decide) (by decide) ?_
      show Steps p.tables e below (T65.setTop (mkF m 53 #[.val (.int p1), .val (.int (6 : Int32)), .val (.ref ob6), .unset] [])) t
      refine XS.iconst X65.here hx rfl (hb hby at_53) ?_
      show Steps p.tables e below (T65.setTop (mkF m 54 #[.val (.int p1), .val (.int (6 : Int32)), .val (.ref ob6), .unset] [(.int (1 : Int32))])) t
      refine XS.goto X65.here hx rfl (pc0 := 54) (pc' := 58) rfl (hb hby at_54) (by decide) (by decide) ?_
      show Steps p.tables e below (T65.setTop (mkF m 58 #[.val (.int p1), .val (.int (6 : Int32)), .val (.ref ob6), .unset] [(.int (1 : Int32))])) t
      refine XS.istoreN X65.here hx rfl (hb hby at_58) rfl (l' := #[.val (.int p1), .val (.int (6 : Int32)), .val (.ref ob6), .val (.int (1 : Int32))]) rfl ?_
      show Steps p.tables e below (T65.setTop (mkF m 59 #[.val (.int p1), .val (.int (6 : Int32)), .val (.ref ob6), .val (.int (1 : Int32))] [])) t
      refine XS.aloadN X65.here hx rfl (hb hby at_59) rfl rfl ?_
      exact k)
    obtain ⟨cq68, kq68, q68a, q68b, q68c⟩ := isOf hZ e65 E6
    obtain ⟨_, _, ⟨T68, L68, k68, n68⟩, -, X68, ⟨Lc68, hQ68, l68, y68, z68⟩, st68⟩ := X65.virtualBack hx (y := (⟨"com/example/rootdb/rootdb/core/RecordKind", "startsNode", "()Z"⟩ : MethodName)) (z := (⟨"com/example/rootdb/rootdb/core/RecordKind", "startsNode", "()Z"⟩ : MethodName)) hown (mvT hZ (hw _ (List.mem_of_getElem? (i := 8) rfl))) (mvT hZ (hw _ (List.mem_of_getElem? (i := 9) rfl))) (notFace_of_selects (args := #[]) (mvT hZ (hw _ (List.mem_of_getElem? (i := 11) rfl)))) (mvT hZ (hw _ (List.mem_of_getElem? (i := 11) rfl))) (mvT hZ (hw _ (List.mem_of_getElem? (i := 10) rfl))) (by decide) (backOf (W := 0) (rmN l Z a0 hw [] ob6 ob0 ob1 ob3 ob5 h0 n0 Z0 O0 S0 S1 S3 S5) hZ (hw _ (List.mem_of_getElem? (i := 12) rfl)) (hw _ (List.mem_of_getElem? (i := 3) rfl)) (by decide) (by decide)) q68a q68c (g := (mkF m 60 #[.val (.int p1), .val (.int (6 : Int32)), .val (.ref ob6), .val (.int (1 : Int32))] [(.ref ob6)])) rfl (by rw [hml]; rfl) (Steps.refl _) (argsL := []) (rest := []) (lenOf pd_1 rfl) rfl (by show 2 * 0 + _ ≤ _; exact Nat.le_of_eq rfl) (hb hby at_60) (fun _ _ => ⟨rfl, e65, (by decide : 0 + 0 ≤ _), (by decide : 0 + 0 ≤ _)⟩)
    dsimp only [Pt.U, Pt.locs, Pt.cells, Pt.slots] at X68 l68 y68 z68 st68 hQ68
    subst l68 y68 z68
    obtain ⟨rfl, N68q, e68⟩ := hQ68
    have N68 := Fr.app N65 N68q
    have P69 : Rch p e below (s₁.setTop (entryFrame m #[(.int p1)] maxLocals)) (T68.setTop (mkF m 63 #[.val (.int p1), .val (.int (6 : Int32)), .val (.ref ob6), .val (.int (1 : Int32))] [(.int (if ob6 = ob0 then (0 : Int32) else (if ob6 = ob1 then (0 : Int32) else (if ob6 = ob3 then (0 : Int32) else (if ob6 = ob5 then (0 : Int32) else (1 : Int32))))))])) := fun t k => P67 t (st68.trans k)
    obtain ⟨x70, hx70⟩ : ∃ z : Int32, z = (if ob6 = ob0 then (0 : Int32) else (if ob6 = ob1 then (0 : Int32) else (if ob6 = ob3 then (0 : Int32) else (if ob6 = ob5 then (0 : Int32) else (1 : Int32))))) := ⟨_, rfl⟩
    rw [← hx70] at P69
    have hv_ : x70 = (1 : Int32) := by rw [hx70, if_neg n6_0, if_neg n6_1, if_neg n6_3, if_neg n6_5]
    have P71 : Rch p e below (s₁.setTop (entryFrame m #[(.int p1)] maxLocals)) (T68.setTop (mkF m 63 #[.val (.int p1), .val (.int (6 : Int32)), .val (.ref ob6), .val (.int (1 : Int32))] [(.int (1 : Int32))])) := by have q_ := P69; rw [hv_] at q_; exact q_
    have P72 : Rch p e below (s₁.setTop (entryFrame m #[(.int p1)] maxLocals)) (T68.setTop (mkF m 72 #[.val (.int p1), .val (.int (6 : Int32)), .val (.ref ob6), .val (.int (1 : Int32))] [(.int (1 : Int32))])) := fun t k => P71 t (by
      show Steps p.tables e below (T68.setTop (mkF m 63 #[.val (.int p1), .val (.int (6 : Int32)), .val (.ref ob6), .val (.int (1 : Int32))] [(.int (1 : Int32))])) t
      refine XS.iloadN X68.here hx rfl (hb hby at_63) rfl ?_
      show Steps p.tables e below (T68.setTop (mkF m 64 #[.val (.int p1), .val (.int (6 : Int32)), .val (.ref ob6), .val (.int (1 : Int32))] [(.int (1 : Int32)), (.int (1 : Int32))])) t
      refine XS.icmpNo X68.here hx rfl (hb hby at_64) rfl (teq (by decide)).2 ?_
      show Steps p.tables e below (T68.setTop (mkF m 67 #[.val (.int p1), .val (.int (6 : Int32)), .val (.ref ob6), .val (.int (1 : Int32))] [])) t
      refine XS.iconst X68.here hx rfl (hb hby at_67) ?_
      show Steps p.tables e below (T68.setTop (mkF m 68 #[.val (.int p1), .val (.int (6 : Int32)), .val (.ref ob6), .val (.int (1 : Int32))] [(.int (1 : Int32))])) t
      refine XS.goto X68.here hx rfl (pc0 := 68) (pc' := 72) rfl (hb hby at_68) (by decide) (by decide) ?_
      exact k)
    obtain ⟨fs, hr, hrun, hended, hW, hsame⟩ := X68.leave (v := some (.int (1 : Int32))) (fun h => by rw [Bd.returns] at h; cases h)
    refine ⟨_, _, P72 _ ?_, hrun, hended, _, _, rfl, ?_, ⟨_, rfl⟩, hW, hsame.mono (by decide) (by decide)⟩
    · exact retN X68 hx (t := .boolean) Bd.returns (by simp) (hb hby at_72) hr
    · show Q_rm0 Z p1 aB kB ob0 ob1 ob2 ob3 ob4 ob5 ob6 ob7 ob8 ob9 h0 n0 _ T68.heap _
      rw [e68]
      exact ⟨rfl, N68⟩
  · have hi_ : x1 = (7 : Int32) := by subst hx1; exact hs
    have P73 : Rch p e below (s₁.setTop (entryFrame m #[(.int p1)] maxLocals)) (s₁.setTop (mkF m 8 #[.val (.int p1), .val (.int (7 : Int32)), .unset, .unset] [])) := by have q_ := P2; rw [hi_] at q_; exact q_
    have P74 : Rch p e below (s₁.setTop (entryFrame m #[(.int p1)] maxLocals)) (s₁.setTop (mkF m 9 #[.val (.int p1), .val (.int (7 : Int32)), .unset, .unset] [(.int (7 : Int32))])) := fun t k => P73 t (by
      show Steps p.tables e below (s₁.setTop (mkF m 8 #[.val (.int p1), .val (.int (7 : Int32)), .unset, .unset] [])) t
      refine XS.iloadN X0.here hx rfl (hb hby at_8) rfl ?_
      exact k)
    obtain ⟨_, _, ⟨T75, L75, k75, n75⟩, -, X75, ⟨Lc75, hQ75, l75, y75, z75⟩, st75⟩ := Jvm.LawKit.callS X0 hx (y := (⟨"com/example/rootdb/rootdb/core/RecordKind", "ofCode", "(I)Lcom/example/rootdb/rootdb/core/RecordKind;"⟩ : MethodName)) hown (mvT hZ (hw _ (List.mem_of_getElem? (i := 1) rfl))) (mvT hZ (hw _ (List.mem_of_getElem? (i := 2) rfl))) (mvT hZ (hw _ (List.mem_of_getElem? (i := 3) rfl))) (mvT hZ (hw _ (List.mem_of_getElem? (i := 4) rfl))) (by decide) (backOf (W := 0) (rmO l Z a0 hw [] (7 : Int32) aB kB [(.ref ob0), (.ref ob1), (.ref ob2), (.ref ob3), (.ref ob4), (.ref ob5), (.ref ob6), (.ref ob7), (.ref ob8), (.ref ob9)] ob7 h0 n0 Z0 O0 SB VB (by decide) (by decide) rfl) hZ (hw _ (List.mem_of_getElem? (i := 4) rfl)) (hw _ (List.mem_of_getElem? (i := 3) rfl)) (by decide) (by decide)) (g := (mkF m 9 #[.val (.int p1), .val (.int (7 : Int32)), .unset, .unset] [(.int (7 : Int32))])) rfl (by rw [hml]; rfl) (argsL := [(.int (7 : Int32))]) (rest := []) (lenOf pd_0 rfl) rfl (by show 2 * 0 + _ ≤ _; exact Nat.le_of_eq rfl) (hb hby at_9) (fun _ _ => ⟨rfl, e0, (by decide : 0 + 0 ≤ _), (by decide : 0 + 0 ≤ _)⟩)
    dsimp only [Pt.U, Pt.locs, Pt.cells, Pt.slots] at X75 l75 y75 z75 st75 hQ75
    subst l75 y75 z75
    obtain ⟨rfl, N75q, e75⟩ := hQ75
    have N75 := Fr.app N0 N75q
    have P76 : Rch p e below (s₁.setTop (entryFrame m #[(.int p1)] maxLocals)) (T75.setTop (mkF m 12 #[.val (.int p1), .val (.int (7 : Int32)), .unset, .unset] [(.ref ob7)])) := fun t k => P74 t (st75 t k)
    have P77 : Rch p e below (s₁.setTop (entryFrame m #[(.int p1)] maxLocals)) (T75.setTop (mkF m 60 #[.val (.int p1), .val (.int (7 : Int32)), .val (.ref ob7), .val (.int (1 : Int32))] [(.ref ob7)])) := fun t k => P76 t (by
      show Steps p.tables e below (T75.setTop (mkF m 12 #[.val (.int p1), .val (.int (7 : Int32)), .unset, .unset] [(.ref ob7)])) t
      refine XS.astoreN X75.here hx rfl (hb hby at_12) rfl rfl (l' := #[.val (.int p1), .val (.int (7 : Int32)), .val (.ref ob7), .unset]) rfl ?_
      show Steps p.tables e below (T75.setTop (mkF m 13 #[.val (.int p1), .val (.int (7 : Int32)), .val (.ref ob7), .unset] [])) t
      refine XS.aloadN X75.here hx rfl (hb hby at_13) rfl rfl ?_
      show Steps p.tables e below (T75.setTop (mkF m 14 #[.val (.int p1), .val (.int (7 : Int32)), .val (.ref ob7), .unset] [(.ref ob7)])) t
      refine XS.ifnonnullYes X75.here hx rfl (pc0 := 14) (pc' := 19) rfl (hb hby at_14) rfl (by decide) (by decide) ?_
      show Steps p.tables e below (T75.setTop (mkF m 19 #[.val (.int p1), .val (.int (7 : Int32)), .val (.ref ob7), .unset] [])) t
      refine XS.iloadN X75.here hx rfl (hb hby at_19) rfl ?_
      show Steps p.tables e below (T75.setTop (mkF m 20 #[.val (.int p1), .val (.int (7 : Int32)), .val (.ref ob7), .unset] [(.int (7 : Int32))])) t
      refine XS.iconst X75.here hx rfl (hb hby at_20) ?_
      show Steps p.tables e below (T75.setTop (mkF m 21 #[.val (.int p1), .val (.int (7 : Int32)), .val (.ref ob7), .unset] [(.int (2 : Int32)), (.int (7 : Int32))])) t
      refine XS.icmpNo X75.here hx rfl (hb hby at_21) rfl (feq (by decide)).1 ?_
      show Steps p.tables e below (T75.setTop (mkF m 24 #[.val (.int p1), .val (.int (7 : Int32)), .val (.ref ob7), .unset] [])) t
      refine XS.iloadN X75.here hx rfl (hb hby at_24) rfl ?_
      show Steps p.tables e below (T75.setTop (mkF m 25 #[.val (.int p1), .val (.int (7 : Int32)), .val (.ref ob7), .unset] [(.int (7 : Int32))])) t
      refine XS.iconst X75.here hx rfl (hb hby at_25) ?_
      show Steps p.tables e below (T75.setTop (mkF m 26 #[.val (.int p1), .val (.int (7 : Int32)), .val (.ref ob7), .unset] [(.int (4 : Int32)), (.int (7 : Int32))])) t
      refine XS.icmpNo X75.here hx rfl (hb hby at_26) rfl (feq (by decide)).1 ?_
      show Steps p.tables e below (T75.setTop (mkF m 29 #[.val (.int p1), .val (.int (7 : Int32)), .val (.ref ob7), .unset] [])) t
      refine XS.iloadN X75.here hx rfl (hb hby at_29) rfl ?_
      show Steps p.tables e below (T75.setTop (mkF m 30 #[.val (.int p1), .val (.int (7 : Int32)), .val (.ref ob7), .unset] [(.int (7 : Int32))])) t
      refine XS.bipush X75.here hx rfl (hb hby at_30) ?_
      show Steps p.tables e below (T75.setTop (mkF m 32 #[.val (.int p1), .val (.int (7 : Int32)), .val (.ref ob7), .unset] [(.int (6 : Int32)), (.int (7 : Int32))])) t
      refine XS.icmpNo X75.here hx rfl (hb hby at_32) rfl (feq (by decide)).1 ?_
      show Steps p.tables e below (T75.setTop (mkF m 35 #[.val (.int p1), .val (.int (7 : Int32)), .val (.ref ob7), .unset] [])) t
      refine XS.iloadN X75.here hx rfl (hb hby at_35) rfl ?_
      show Steps p.tables e below (T75.setTop (mkF m 36 #[.val (.int p1), .val (.int (7 : Int32)), .val (.ref ob7), .unset] [(.int (7 : Int32))])) t
      refine XS.bipush X75.here hx rfl (hb hby at_36) ?_
      show Steps p.tables e below (T75.setTop (mkF m 38 #[.val (.int p1), .val (.int (7 : Int32)), .val (.ref ob7), .unset] [(.int (7 : Int32)), (.int (7 : Int32))])) t
      refine XS.icmpYes X75.here hx rfl (pc0 := 38) (pc' := 53) rfl (hb hby at_38) rfl (teq (by decide)).1 (by decide) (by decide) ?_
      show Steps p.tables e below (T75.setTop (mkF m 53 #[.val (.int p1), .val (.int (7 : Int32)), .val (.ref ob7), .unset] [])) t
      refine XS.iconst X75.here hx rfl (hb hby at_53) ?_
      show Steps p.tables e below (T75.setTop (mkF m 54 #[.val (.int p1), .val (.int (7 : Int32)), .val (.ref ob7), .unset] [(.int (1 : Int32))])) t
      refine XS.goto X75.here hx rfl (pc0 := 54) (pc' := 58) rfl (hb hby at_54) (by decide) (by decide) ?_
      show Steps p.tables e below (T75.setTop (mkF m 58 #[.val (.int p1), .val (.int (7 : Int32)), .val (.ref ob7), .unset] [(.int (1 : Int32))])) t
      refine XS.istoreN X75.here hx rfl (hb hby at_58) rfl (l' := #[.val (.int p1), .val (.int (7 : Int32)), .val (.ref ob7), .val (.int (1 : Int32))]) rfl ?_
      show Steps p.tables e below (T75.setTop (mkF m 59 #[.val (.int p1), .val (.int (7 : Int32)), .val (.ref ob7), .val (.int (1 : Int32))] [])) t
      refine XS.aloadN X75.here hx rfl (hb hby at_59) rfl rfl ?_
      exact k)
    obtain ⟨cq78, kq78, q78a, q78b, q78c⟩ := isOf hZ e75 E7
    obtain ⟨_, _, ⟨T78, L78, k78, n78⟩, -, X78, ⟨Lc78, hQ78, l78, y78, z78⟩, st78⟩ := X75.virtualBack hx (y := (⟨"com/example/rootdb/rootdb/core/RecordKind", "startsNode", "()Z"⟩ : MethodName)) (z := (⟨"com/example/rootdb/rootdb/core/RecordKind", "startsNode", "()Z"⟩ : MethodName)) hown (mvT hZ (hw _ (List.mem_of_getElem? (i := 8) rfl))) (mvT hZ (hw _ (List.mem_of_getElem? (i := 9) rfl))) (notFace_of_selects (args := #[]) (mvT hZ (hw _ (List.mem_of_getElem? (i := 11) rfl)))) (mvT hZ (hw _ (List.mem_of_getElem? (i := 11) rfl))) (mvT hZ (hw _ (List.mem_of_getElem? (i := 10) rfl))) (by decide) (backOf (W := 0) (rmN l Z a0 hw [] ob7 ob0 ob1 ob3 ob5 h0 n0 Z0 O0 S0 S1 S3 S5) hZ (hw _ (List.mem_of_getElem? (i := 12) rfl)) (hw _ (List.mem_of_getElem? (i := 3) rfl)) (by decide) (by decide)) q78a q78c (g := (mkF m 60 #[.val (.int p1), .val (.int (7 : Int32)), .val (.ref ob7), .val (.int (1 : Int32))] [(.ref ob7)])) rfl (by rw [hml]; rfl) (Steps.refl _) (argsL := []) (rest := []) (lenOf pd_1 rfl) rfl (by show 2 * 0 + _ ≤ _; exact Nat.le_of_eq rfl) (hb hby at_60) (fun _ _ => ⟨rfl, e75, (by decide : 0 + 0 ≤ _), (by decide : 0 + 0 ≤ _)⟩)
    dsimp only [Pt.U, Pt.locs, Pt.cells, Pt.slots] at X78 l78 y78 z78 st78 hQ78
    subst l78 y78 z78
    obtain ⟨rfl, N78q, e78⟩ := hQ78
    have N78 := Fr.app N75 N78q
    have P79 : Rch p e below (s₁.setTop (entryFrame m #[(.int p1)] maxLocals)) (T78.setTop (mkF m 63 #[.val (.int p1), .val (.int (7 : Int32)), .val (.ref ob7), .val (.int (1 : Int32))] [(.int (if ob7 = ob0 then (0 : Int32) else (if ob7 = ob1 then (0 : Int32) else (if ob7 = ob3 then (0 : Int32) else (if ob7 = ob5 then (0 : Int32) else (1 : Int32))))))])) := fun t k => P77 t (st78.trans k)
    obtain ⟨x80, hx80⟩ : ∃ z : Int32, z = (if ob7 = ob0 then (0 : Int32) else (if ob7 = ob1 then (0 : Int32) else (if ob7 = ob3 then (0 : Int32) else (if ob7 = ob5 then (0 : Int32) else (1 : Int32))))) := ⟨_, rfl⟩
    rw [← hx80] at P79
    have hv_ : x80 = (1 : Int32) := by rw [hx80, if_neg n7_0, if_neg n7_1, if_neg n7_3, if_neg n7_5]
    have P81 : Rch p e below (s₁.setTop (entryFrame m #[(.int p1)] maxLocals)) (T78.setTop (mkF m 63 #[.val (.int p1), .val (.int (7 : Int32)), .val (.ref ob7), .val (.int (1 : Int32))] [(.int (1 : Int32))])) := by have q_ := P79; rw [hv_] at q_; exact q_
    have P82 : Rch p e below (s₁.setTop (entryFrame m #[(.int p1)] maxLocals)) (T78.setTop (mkF m 72 #[.val (.int p1), .val (.int (7 : Int32)), .val (.ref ob7), .val (.int (1 : Int32))] [(.int (1 : Int32))])) := fun t k => P81 t (by
      show Steps p.tables e below (T78.setTop (mkF m 63 #[.val (.int p1), .val (.int (7 : Int32)), .val (.ref ob7), .val (.int (1 : Int32))] [(.int (1 : Int32))])) t
      refine XS.iloadN X78.here hx rfl (hb hby at_63) rfl ?_
      show Steps p.tables e below (T78.setTop (mkF m 64 #[.val (.int p1), .val (.int (7 : Int32)), .val (.ref ob7), .val (.int (1 : Int32))] [(.int (1 : Int32)), (.int (1 : Int32))])) t
      refine XS.icmpNo X78.here hx rfl (hb hby at_64) rfl (teq (by decide)).2 ?_
      show Steps p.tables e below (T78.setTop (mkF m 67 #[.val (.int p1), .val (.int (7 : Int32)), .val (.ref ob7), .val (.int (1 : Int32))] [])) t
      refine XS.iconst X78.here hx rfl (hb hby at_67) ?_
      show Steps p.tables e below (T78.setTop (mkF m 68 #[.val (.int p1), .val (.int (7 : Int32)), .val (.ref ob7), .val (.int (1 : Int32))] [(.int (1 : Int32))])) t
      refine XS.goto X78.here hx rfl (pc0 := 68) (pc' := 72) rfl (hb hby at_68) (by decide) (by decide) ?_
      exact k)
    obtain ⟨fs, hr, hrun, hended, hW, hsame⟩ := X78.leave (v := some (.int (1 : Int32))) (fun h => by rw [Bd.returns] at h; cases h)
    refine ⟨_, _, P82 _ ?_, hrun, hended, _, _, rfl, ?_, ⟨_, rfl⟩, hW, hsame.mono (by decide) (by decide)⟩
    · exact retN X78 hx (t := .boolean) Bd.returns (by simp) (hb hby at_72) hr
    · show Q_rm0 Z p1 aB kB ob0 ob1 ob2 ob3 ob4 ob5 ob6 ob7 ob8 ob9 h0 n0 _ T78.heap _
      rw [e78]
      exact ⟨rfl, N78⟩
  · have hi_ : x1 = (8 : Int32) := by subst hx1; exact hs
    have P83 : Rch p e below (s₁.setTop (entryFrame m #[(.int p1)] maxLocals)) (s₁.setTop (mkF m 8 #[.val (.int p1), .val (.int (8 : Int32)), .unset, .unset] [])) := by have q_ := P2; rw [hi_] at q_; exact q_
    have P84 : Rch p e below (s₁.setTop (entryFrame m #[(.int p1)] maxLocals)) (s₁.setTop (mkF m 9 #[.val (.int p1), .val (.int (8 : Int32)), .unset, .unset] [(.int (8 : Int32))])) := fun t k => P83 t (by
      show Steps p.tables e below (s₁.setTop (mkF m 8 #[.val (.int p1), .val (.int (8 : Int32)), .unset, .unset] [])) t
      refine XS.iloadN X0.here hx rfl (hb hby at_8) rfl ?_
      exact k)
    obtain ⟨_, _, ⟨T85, L85, k85, n85⟩, -, X85, ⟨Lc85, hQ85, l85, y85, z85⟩, st85⟩ := Jvm.LawKit.callS X0 hx (y := (⟨"com/example/rootdb/rootdb/core/RecordKind", "ofCode", "(I)Lcom/example/rootdb/rootdb/core/RecordKind;"⟩ : MethodName)) hown (mvT hZ (hw _ (List.mem_of_getElem? (i := 1) rfl))) (mvT hZ (hw _ (List.mem_of_getElem? (i := 2) rfl))) (mvT hZ (hw _ (List.mem_of_getElem? (i := 3) rfl))) (mvT hZ (hw _ (List.mem_of_getElem? (i := 4) rfl))) (by decide) (backOf (W := 0) (rmO l Z a0 hw [] (8 : Int32) aB kB [(.ref ob0), (.ref ob1), (.ref ob2), (.ref ob3), (.ref ob4), (.ref ob5), (.ref ob6), (.ref ob7), (.ref ob8), (.ref ob9)] ob8 h0 n0 Z0 O0 SB VB (by decide) (by decide) rfl) hZ (hw _ (List.mem_of_getElem? (i := 4) rfl)) (hw _ (List.mem_of_getElem? (i := 3) rfl)) (by decide) (by decide)) (g := (mkF m 9 #[.val (.int p1), .val (.int (8 : Int32)), .unset, .unset] [(.int (8 : Int32))])) rfl (by rw [hml]; rfl) (argsL := [(.int (8 : Int32))]) (rest := []) (lenOf pd_0 rfl) rfl (by show 2 * 0 + _ ≤ _; exact Nat.le_of_eq rfl) (hb hby at_9) (fun _ _ => ⟨rfl, e0, (by decide : 0 + 0 ≤ _), (by decide : 0 + 0 ≤ _)⟩)
    dsimp only [Pt.U, Pt.locs, Pt.cells, Pt.slots] at X85 l85 y85 z85 st85 hQ85
    subst l85 y85 z85
    obtain ⟨rfl, N85q, e85⟩ := hQ85
    have N85 := Fr.app N0 N85q
    have P86 : Rch p e below (s₁.setTop (entryFrame m #[(.int p1)] maxLocals)) (T85.setTop (mkF m 12 #[.val (.int p1), .val (.int (8 : Int32)), .unset, .unset] [(.ref ob8)])) := fun t k => P84 t (st85 t k)
    have P87 : Rch p e below (s₁.setTop (entryFrame m #[(.int p1)] maxLocals)) (T85.setTop (mkF m 60 #[.val (.int p1), .val (.int (8 : Int32)), .val (.ref ob8), .val (.int (1 : Int32))] [(.ref ob8)])) := fun t k => P86 t (by
      show Steps p.tables e below (T85.setTop (mkF m 12 #[.val (.int p1), .val (.int (8 : Int32)), .unset, .unset] [(.ref ob8)])) t
      refine XS.astoreN X85.here hx rfl (hb hby at_12) rfl rfl (l' := #[.val (.int p1), .val (.int (8 : Int32)), .val (.ref ob8), .unset]) rfl ?_
      show Steps p.tables e below (T85.setTop (mkF m 13 #[.val (.int p1), .val (.int (8 : Int32)), .val (.ref ob8), .unset] [])) t
      refine XS.aloadN X85.here hx rfl (hb hby at_13) rfl rfl ?_
      show Steps p.tables e below (T85.setTop (mkF m 14 #[.val (.int p1), .val (.int (8 : Int32)), .val (.ref ob8), .unset] [(.ref ob8)])) t
      refine XS.ifnonnullYes X85.here hx rfl (pc0 := 14) (pc' := 19) rfl (hb hby at_14) rfl (by decide) (by decide) ?_
      show Steps p.tables e below (T85.setTop (mkF m 19 #[.val (.int p1), .val (.int (8 : Int32)), .val (.ref ob8), .unset] [])) t
      refine XS.iloadN X85.here hx rfl (hb hby at_19) rfl ?_
      show Steps p.tables e below (T85.setTop (mkF m 20 #[.val (.int p1), .val (.int (8 : Int32)), .val (.ref ob8), .unset] [(.int (8 : Int32))])) t
      refine XS.iconst X85.here hx rfl (hb hby at_20) ?_
      show Steps p.tables e below (T85.setTop (mkF m 21 #[.val (.int p1), .val (.int (8 : Int32)), .val (.ref ob8), .unset] [(.int (2 : Int32)), (.int (8 : Int32))])) t
      refine XS.icmpNo X85.here hx rfl (hb hby at_21) rfl (feq (by decide)).1 ?_
      show Steps p.tables e below (T85.setTop (mkF m 24 #[.val (.int p1), .val (.int (8 : Int32)), .val (.ref ob8), .unset] [])) t
      refine XS.iloadN X85.here hx rfl (hb hby at_24) rfl ?_
      show Steps p.tables e below (T85.setTop (mkF m 25 #[.val (.int p1), .val (.int (8 : Int32)), .val (.ref ob8), .unset] [(.int (8 : Int32))])) t
      refine XS.iconst X85.here hx rfl (hb hby at_25) ?_
      show Steps p.tables e below (T85.setTop (mkF m 26 #[.val (.int p1), .val (.int (8 : Int32)), .val (.ref ob8), .unset] [(.int (4 : Int32)), (.int (8 : Int32))])) t
      refine XS.icmpNo X85.here hx rfl (hb hby at_26) rfl (feq (by decide)).1 ?_
      show Steps p.tables e below (T85.setTop (mkF m 29 #[.val (.int p1), .val (.int (8 : Int32)), .val (.ref ob8), .unset] [])) t
      refine XS.iloadN X85.here hx rfl (hb hby at_29) rfl ?_
      show Steps p.tables e below (T85.setTop (mkF m 30 #[.val (.int p1), .val (.int (8 : Int32)), .val (.ref ob8), .unset] [(.int (8 : Int32))])) t
      refine XS.bipush X85.here hx rfl (hb hby at_30) ?_
      show Steps p.tables e below (T85.setTop (mkF m 32 #[.val (.int p1), .val (.int (8 : Int32)), .val (.ref ob8), .unset] [(.int (6 : Int32)), (.int (8 : Int32))])) t
      refine XS.icmpNo X85.here hx rfl (hb hby at_32) rfl (feq (by decide)).1 ?_
      show Steps p.tables e below (T85.setTop (mkF m 35 #[.val (.int p1), .val (.int (8 : Int32)), .val (.ref ob8), .unset] [])) t
      refine XS.iloadN X85.here hx rfl (hb hby at_35) rfl ?_
      show Steps p.tables e below (T85.setTop (mkF m 36 #[.val (.int p1), .val (.int (8 : Int32)), .val (.ref ob8), .unset] [(.int (8 : Int32))])) t
      refine XS.bipush X85.here hx rfl (hb hby at_36) ?_
      show Steps p.tables e below (T85.setTop (mkF m 38 #[.val (.int p1), .val (.int (8 : Int32)), .val (.ref ob8), .unset] [(.int (7 : Int32)), (.int (8 : Int32))])) t
      refine XS.icmpNo X85.here hx rfl (hb hby at_38) rfl (feq (by decide)).1 ?_
      show Steps p.tables e below (T85.setTop (mkF m 41 #[.val (.int p1), .val (.int (8 : Int32)), .val (.ref ob8), .unset] [])) t
      refine XS.iloadN X85.here hx rfl (hb hby at_41) rfl ?_
      show Steps p.tables e below (T85.setTop (mkF m 42 #[.val (.int p1), .val (.int (8 : Int32)), .val (.ref ob8), .unset] [(.int (8 : Int32))])) t
      refine XS.bipush X85.here hx rfl (hb hby at_42) ?_
      show Steps p.tables e below (T85.setTop (mkF m 44 #[.val (.int p1), .val (.int (8 : Int32)), .val (.ref ob8), .unset] [(.int (8 : Int32)), (.int (8 : Int32))])) t
      refine XS.icmpYes X85.here hx rfl (pc0 := 44) (pc' := 53) rfl (hb hby at_44) rfl (teq (by decide)).1 (by decide) (by decide) ?_
      show Steps p.tables e below (T85.setTop (mkF m 53 #[.val (.int p1), .val (.int (8 : Int32)), .val (.ref ob8), .unset] [])) t
      refine XS.iconst X85.here hx rfl (hb hby at_53) ?_
      show Steps p.tables e below (T85.setTop (mkF m 54 #[.val (.int p1), .val (.int (8 : Int32)), .val (.ref ob8), .unset] [(.int (1 : Int32))])) t
      refine XS.goto X85.here hx rfl (pc0 := 54) (pc' := 58) rfl (hb hby at_54) (by decide) (by decide) ?_
      show Steps p.tables e below (T85.setTop (mkF m 58 #[.val (.int p1), .val (.int (8 : Int32)), .val (.ref ob8), .unset] [(.int (1 : Int32))])) t
      refine XS.istoreN X85.here hx rfl (hb hby at_58) rfl (l' := #[.val (.int p1), .val (.int (8 : Int32)), .val (.ref ob8), .val (.int (1 : Int32))]) rfl ?_
      show Steps p.tables e below (T85.setTop (mkF m 59 #[.val (.int p1), .val (.int (8 : Int32)), .val (.ref ob8), .val (.int (1 : Int32))] [])) t
      refine XS.aloadN X85.here hx rfl (hb hby at_59) rfl rfl ?_
      exact k)
    obtain ⟨cq88, kq88, q88a, q88b, q88c⟩ := isOf hZ e85 E8
    obtain ⟨_, _, ⟨T88, L88, k88, n88⟩, -, X88, ⟨Lc88, hQ88, l88, y88, z88⟩, st88⟩ := X85.virtualBack hx (y := (⟨"com/example/rootdb/rootdb/core/RecordKind", "startsNode", "()Z"⟩ : MethodName)) (z := (⟨"com/example/rootdb/rootdb/core/RecordKind", "startsNode", "()Z"⟩ : MethodName)) hown (mvT hZ (hw _ (List.mem_of_getElem? (i := 8) rfl))) (mvT hZ (hw _ (List.mem_of_getElem? (i := 9) rfl))) (notFace_of_selects (args := #[]) (mvT hZ (hw _ (List.mem_of_getElem? (i := 11) rfl)))) (mvT hZ (hw _ (List.mem_of_getElem? (i := 11) rfl))) (mvT hZ (hw _ (List.mem_of_getElem? (i := 10) rfl))) (by decide) (backOf (W := 0) (rmN l Z a0 hw [] ob8 ob0 ob1 ob3 ob5 h0 n0 Z0 O0 S0 S1 S3 S5) hZ (hw _ (List.mem_of_getElem? (i := 12) rfl)) (hw _ (List.mem_of_getElem? (i := 3) rfl)) (by decide) (by decide)) q88a q88c (g := (mkF m 60 #[.val (.int p1), .val (.int (8 : Int32)), .val (.ref ob8), .val (.int (1 : Int32))] [(.ref ob8)])) rfl (by rw [hml]; rfl) (Steps.refl _) (argsL := []) (rest := []) (lenOf pd_1 rfl) rfl (by show 2 * 0 + _ ≤ _; exact Nat.le_of_eq rfl) (hb hby at_60) (fun _ _ => ⟨rfl, e85, (by decide : 0 + 0 ≤ _), (by decide : 0 + 0 ≤ _)⟩)
    dsimp only [Pt.U, Pt.locs, Pt.cells, Pt.slots] at X88 l88 y88 z88 st88 hQ88
    subst l88 y88 z88
    obtain ⟨rfl, N88q, e88⟩ := hQ88
    have N88 := Fr.app N85 N88q
    have P89 : Rch p e below (s₁.setTop (entryFrame m #[(.int p1)] maxLocals)) (T88.setTop (mkF m 63 #[.val (.int p1), .val (.int (8 : Int32)), .val (.ref ob8), .val (.int (1 : Int32))] [(.int (if ob8 = ob0 then (0 : Int32) else (if ob8 = ob1 then (0 : Int32) else (if ob8 = ob3 then (0 : Int32) else (if ob8 = ob5 then (0 : Int32) else (1 : Int32))))))])) := fun t k => P87 t (st88.trans k)
    obtain ⟨x90, hx90⟩ : ∃ z : Int32, z = (if ob8 = ob0 then (0 : Int32) else (if ob8 = ob1 then (0 : Int32) else (if ob8 = ob3 then (0 : Int32) else (if ob8 = ob5 then (0 : Int32) else (1 : Int32))))) := ⟨_, rfl⟩
    rw [← hx90] at P89
    have hv_ : x90 = (1 : Int32) := by rw [hx90, if_neg n8_0, if_neg n8_1, if_neg n8_3, if_neg n8_5]
    have P91 : Rch p e below (s₁.setTop (entryFrame m #[(.int p1)] maxLocals)) (T88.setTop (mkF m 63 #[.val (.int p1), .val (.int (8 : Int32)), .val (.ref ob8), .val (.int (1 : Int32))] [(.int (1 : Int32))])) := by have q_ := P89; rw [hv_] at q_; exact q_
    have P92 : Rch p e below (s₁.setTop (entryFrame m #[(.int p1)] maxLocals)) (T88.setTop (mkF m 72 #[.val (.int p1), .val (.int (8 : Int32)), .val (.ref ob8), .val (.int (1 : Int32))] [(.int (1 : Int32))])) := fun t k => P91 t (by
      show Steps p.tables e below (T88.setTop (mkF m 63 #[.val (.int p1), .val (.int (8 : Int32)), .val (.ref ob8), .val (.int (1 : Int32))] [(.int (1 : Int32))])) t
      refine XS.iloadN X88.here hx rfl (hb hby at_63) rfl ?_
      show Steps p.tables e below (T88.setTop (mkF m 64 #[.val (.int p1), .val (.int (8 : Int32)), .val (.ref ob8), .val (.int (1 : Int32))] [(.int (1 : Int32)), (.int (1 : Int32))])) t
      refine XS.icmpNo X88.here hx rfl (hb hby at_64) rfl (teq (by decide)).2 ?_
      show Steps p.tables e below (T88.setTop (mkF m 67 #[.val (.int p1), .val (.int (8 : Int32)), .val (.ref ob8), .val (.int (1 : Int32))] [])) t
      refine XS.iconst X88.here hx rfl (hb hby at_67) ?_
      show Steps p.tables e below (T88.setTop (mkF m 68 #[.val (.int p1), .val (.int (8 : Int32)), .val (.ref ob8), .val (.int (1 : Int32))] [(.int (1 : Int32))])) t
      refine XS.goto X88.here hx rfl (pc0 := 68) (pc' := 72) rfl (hb hby at_68) (by decide) (by decide) ?_
      exact k)
    obtain ⟨fs, hr, hrun, hended, hW, hsame⟩ := X88.leave (v := some (.int (1 : Int32))) (fun h => by rw [Bd.returns] at h; cases h)
    refine ⟨_, _, P92 _ ?_, hrun, hended, _, _, rfl, ?_, ⟨_, rfl⟩, hW, hsame.mono (by decide) (by decide)⟩
    · exact retN X88 hx (t := .boolean) Bd.returns (by simp) (hb hby at_72) hr
    · show Q_rm0 Z p1 aB kB ob0 ob1 ob2 ob3 ob4 ob5 ob6 ob7 ob8 ob9 h0 n0 _ T88.heap _
      rw [e88]
      exact ⟨rfl, N88⟩
  · have hi_ : x1 = (9 : Int32) := by subst hx1; exact hs
    have P93 : Rch p e below (s₁.setTop (entryFrame m #[(.int p1)] maxLocals)) (s₁.setTop (mkF m 8 #[.val (.int p1), .val (.int (9 : Int32)), .unset, .unset] [])) := by have q_ := P2; rw [hi_] at q_; exact q_
    have P94 : Rch p e below (s₁.setTop (entryFrame m #[(.int p1)] maxLocals)) (s₁.setTop (mkF m 9 #[.val (.int p1), .val (.int (9 : Int32)), .unset, .unset] [(.int (9 : Int32))])) := fun t k => P93 t (by
      show Steps p.tables e below (s₁.setTop (mkF m 8 #[.val (.int p1), .val (.int (9 : Int32)), .unset, .unset] [])) t
      refine XS.iloadN X0.here hx rfl (hb hby at_8) rfl ?_
      exact k)
    obtain ⟨_, _, ⟨T95, L95, k95, n95⟩, -, X95, ⟨Lc95, hQ95, l95, y95, z95⟩, st95⟩ := Jvm.LawKit.callS X0 hx (y := (⟨"com/example/rootdb/rootdb/core/RecordKind", "ofCode", "(I)Lcom/example/rootdb/rootdb/core/RecordKind;"⟩ : MethodName)) hown (mvT hZ (hw _ (List.mem_of_getElem? (i := 1) rfl))) (mvT hZ (hw _ (List.mem_of_getElem? (i := 2) rfl))) (mvT hZ (hw _ (List.mem_of_getElem? (i := 3) rfl))) (mvT hZ (hw _ (List.mem_of_getElem? (i := 4) rfl))) (by decide) (backOf (W := 0) (rmO l Z a0 hw [] (9 : Int32) aB kB [(.ref ob0), (.ref ob1), (.ref ob2), (.ref ob3), (.ref ob4), (.ref ob5), (.ref ob6), (.ref ob7), (.ref ob8), (.ref ob9)] ob9 h0 n0 Z0 O0 SB VB (by decide) (by decide) rfl) hZ (hw _ (List.mem_of_getElem? (i := 4) rfl)) (hw _ (List.mem_of_getElem? (i := 3) rfl)) (by decide) (by decide)) (g := (mkF m 9 #[.val (.int p1), .val (.int (9 : Int32)), .unset, .unset] [(.int (9 : Int32))])) rfl (by rw [hml]; rfl) (argsL := [(.int (9 : Int32))]) (rest := []) (lenOf pd_0 rfl) rfl (by show 2 * 0 + _ ≤ _; exact Nat.le_of_eq rfl) (hb hby at_9) (fun _ _ => ⟨rfl, e0, (by decide : 0 + 0 ≤ _), (by decide : 0 + 0 ≤ _)⟩)
    dsimp only [Pt.U, Pt.locs, Pt.cells, Pt.slots] at X95 l95 y95 z95 st95 hQ95
    subst l95 y95 z95
    obtain ⟨rfl, N95q, e95⟩ := hQ95
    have N95 := Fr.app N0 N95q
    have P96 : Rch p e below (s₁.setTop (entryFrame m #[(.int p1)] maxLocals)) (T95.setTop (mkF m 12 #[.val (.int p1), .val (.int (9 : Int32)), .unset, .unset] [(.ref ob9)])) := fun t k => P94 t (st95 t k)
    have P97 : Rch p e below (s₁.setTop (entryFrame m #[(.int p1)] maxLocals)) (T95.setTop (mkF m 60 #[.val (.int p1), .val (.int (9 : Int32)), .val (.ref ob9), .val (.int (1 : Int32))] [(.ref ob9)])) := fun t k => P96 t (by
      show Steps p.tables e below (T95.setTop (mkF m 12 #[.val (.int p1), .val (.int (9 : Int32)), .unset, .unset] [(.ref ob9)])) t
      refine XS.astoreN X95.here hx rfl (hb hby at_12) rfl rfl (l' := #[.val (.int p1), .val (.int (9 : Int32)), .val (.ref ob9), .unset]) rfl ?_
      show Steps p.tables e below (T95.setTop (mkF m 13 #[.val (.int p1), .val (.int (9 : Int32)), .val (.ref ob9), .unset] [])) t
      refine XS.aloadN X95.here hx rfl (hb hby at_13) rfl rfl ?_
      show Steps p.tables e below (T95.setTop (mkF m 14 #[.val (.int p1), .val (.int (9 : Int32)), .val (.ref ob9), .unset] [(.ref ob9)])) t
      refine XS.ifnonnullYes X95.here hx rfl (pc0 := 14) (pc' := 19) rfl (hb hby at_14) rfl (by decide) (by decide) ?_
      show Steps p.tables e below (T95.setTop (mkF m 19 #[.val (.int p1), .val (.int (9 : Int32)), .val (.ref ob9), .unset] [])) t
      refine XS.iloadN X95.here hx rfl (hb hby at_19) rfl ?_
      show Steps p.tables e below (T95.setTop (mkF m 20 #[.val (.int p1), .val (.int (9 : Int32)), .val (.ref ob9), .unset] [(.int (9 : Int32))])) t
      refine XS.iconst X95.here hx rfl (hb hby at_20) ?_
      show Steps p.tables e below (T95.setTop (mkF m 21 #[.val (.int p1), .val (.int (9 : Int32)), .val (.ref ob9), .unset] [(.int (2 : Int32)), (.int (9 : Int32))])) t
      refine XS.icmpNo X95.here hx rfl (hb hby at_21) rfl (feq (by decide)).1 ?_
      show Steps p.tables e below (T95.setTop (mkF m 24 #[.val (.int p1), .val (.int (9 : Int32)), .val (.ref ob9), .unset] [])) t
      refine XS.iloadN X95.here hx rfl (hb hby at_24) rfl ?_
      show Steps p.tables e below (T95.setTop (mkF m 25 #[.val (.int p1), .val (.int (9 : Int32)), .val (.ref ob9), .unset] [(.int (9 : Int32))])) t
      refine XS.iconst X95.here hx rfl (hb hby at_25) ?_
      show Steps p.tables e below (T95.setTop (mkF m 26 #[.val (.int p1), .val (.int (9 : Int32)), .val (.ref ob9), .unset] [(.int (4 : Int32)), (.int (9 : Int32))])) t
      refine XS.icmpNo X95.here hx rfl (hb hby at_26) rfl (feq (by decide)).1 ?_
      show Steps p.tables e below (T95.setTop (mkF m 29 #[.val (.int p1), .val (.int (9 : Int32)), .val (.ref ob9), .unset] [])) t
      refine XS.iloadN X95.here hx rfl (hb hby at_29) rfl ?_
      show Steps p.tables e below (T95.setTop (mkF m 30 #[.val (.int p1), .val (.int (9 : Int32)), .val (.ref ob9), .unset] [(.int (9 : Int32))])) t
      refine XS.bipush X95.here hx rfl (hb hby at_30) ?_
      show Steps p.tables e below (T95.setTop (mkF m 32 #[.val (.int p1), .val (.int (9 : Int32)), .val (.ref ob9), .unset] [(.int (6 : Int32)), (.int (9 : Int32))])) t
      refine XS.icmpNo X95.here hx rfl (hb hby at_32) rfl (feq (by decide)).1 ?_
      show Steps p.tables e below (T95.setTop (mkF m 35 #[.val (.int p1), .val (.int (9 : Int32)), .val (.ref ob9), .unset] [])) t
      refine XS.iloadN X95.here hx rfl (hb hby at_35) rfl ?_
      show Steps p.tables e below (T95.setTop (mkF m 36 #[.val (.int p1), .val (.int (9 : Int32)), .val (.ref ob9), .unset] [(.int (9 : Int32))])) t
      refine XS.bipush X95.here hx rfl (hb hby at_36) ?_
      show Steps p.tables e below (T95.setTop (mkF m 38 #[.val (.int p1), .val (.int (9 : Int32)), .val (.ref ob9), .unset] [(.int (7 : Int32)), (.int (9 : Int32))])) t
      refine XS.icmpNo X95.here hx rfl (hb hby at_38) rfl (feq (by decide)).1 ?_
      show Steps p.tables e below (T95.setTop (mkF m 41 #[.val (.int p1), .val (.int (9 : Int32)), .val (.ref ob9), .unset] [])) t
      refine XS.iloadN X95.here hx rfl (hb hby at_41) rfl ?_
      show Steps p.tables e below (T95.setTop (mkF m 42 #[.val (.int p1), .val (.int (9 : Int32)), .val (.ref ob9), .unset] [(.int (9 : Int32))])) t
      refine XS.bipush X95.here hx rfl (hb hby at_42) ?_
      show Steps p.tables e below (T95.setTop (mkF m 44 #[.val (.int p1), .val (.int (9 : Int32)), .val (.ref ob9), .unset] [(.int (8 : Int32)), (.int (9 : Int32))])) t
      refine XS.icmpNo X95.here hx rfl (hb hby at_44) rfl (feq (by decide)).1 ?_
      show Steps p.tables e below (T95.setTop (mkF m 47 #[.val (.int p1), .val (.int (9 : Int32)), .val (.ref ob9), .unset] [])) t
      refine XS.iloadN X95.here hx rfl (hb hby at_47) rfl ?_
      show Steps p.tables e below (T95.setTop (mkF m 48 #[.val (.int p1), .val (.int (9 : Int32)), .val (.ref ob9), .unset] [(.int (9 : Int32))])) t
      refine XS.bipush X95.here hx rfl (hb hby at_48) ?_
      show Steps p.tables e below (T95.setTop (mkF m 50 #[.val (.int p1), .val (.int (9 : Int32)), .val (.ref ob9), .unset] [(.int (9 : Int32)), (.int (9 : Int32))])) t
      refine XS.icmpNo X95.here hx rfl (hb hby at_50) rfl (teq (by decide)).2 ?_
      show Steps p.tables e below (T95.setTop (mkF m 53 #[.val (.int p1), .val (.int (9 : Int32)), .val (.ref ob9), .unset] [])) t
      refine XS.iconst X95.here hx rfl (hb hby at_53) ?_
      show Steps p.tables e below (T95.setTop (mkF m 54 #[.val (.int p1), .val (.int (9 : Int32)), .val (.ref ob9), .unset] [(.int (1 : Int32))])) t
      refine XS.goto X95.here hx rfl (pc0 := 54) (pc' := 58) rfl (hb hby at_54) (by decide) (by decide) ?_
      show Steps p.tables e below (T95.setTop (mkF m 58 #[.val (.int p1), .val (.int (9 : Int32)), .val (.ref ob9), .unset] [(.int (1 : Int32))])) t
      refine XS.istoreN X95.here hx rfl (hb hby at_58) rfl (l' := #[.val (.int p1), .val (.int (9 : Int32)), .val (.ref ob9), .val (.int (1 : Int32))]) rfl ?_
      show Steps p.tables e below (T95.setTop (mkF m 59 #[.val (.int p1), .val (.int (9 : Int32)), .val (.ref ob9), .val (.int (1 : Int32))] [])) t
      refine XS.aloadN X95.here hx rfl (hb hby at_59) rfl rfl ?_
      exact k)
    obtain ⟨cq98, kq98, q98a, q98b, q98c⟩ := isOf hZ e95 E9
    obtain ⟨_, _, ⟨T98, L98, k98, n98⟩, -, X98, ⟨Lc98, hQ98, l98, y98, z98⟩, st98⟩ := X95.virtualBack hx (y := (⟨"com/example/rootdb/rootdb/core/RecordKind", "startsNode", "()Z"⟩ : MethodName)) (z := (⟨"com/example/rootdb/rootdb/core/RecordKind", "startsNode", "()Z"⟩ : MethodName)) hown (mvT hZ (hw _ (List.mem_of_getElem? (i := 8) rfl))) (mvT hZ (hw _ (List.mem_of_getElem? (i := 9) rfl))) (notFace_of_selects (args := #[]) (mvT hZ (hw _ (List.mem_of_getElem? (i := 11) rfl)))) (mvT hZ (hw _ (List.mem_of_getElem? (i := 11) rfl))) (mvT hZ (hw _ (List.mem_of_getElem? (i := 10) rfl))) (by decide) (backOf (W := 0) (rmN l Z a0 hw [] ob9 ob0 ob1 ob3 ob5 h0 n0 Z0 O0 S0 S1 S3 S5) hZ (hw _ (List.mem_of_getElem? (i := 12) rfl)) (hw _ (List.mem_of_getElem? (i := 3) rfl)) (by decide) (by decide)) q98a q98c (g := (mkF m 60 #[.val (.int p1), .val (.int (9 : Int32)), .val (.ref ob9), .val (.int (1 : Int32))] [(.ref ob9)])) rfl (by rw [hml]; rfl) (Steps.refl _) (argsL := []) (rest := []) (lenOf pd_1 rfl) rfl (by show 2 * 0 + _ ≤ _; exact Nat.le_of_eq rfl) (hb hby at_60) (fun _ _ => ⟨rfl, e95, (by decide : 0 + 0 ≤ _), (by decide : 0 + 0 ≤ _)⟩)
    dsimp only [Pt.U, Pt.locs, Pt.cells, Pt.slots] at X98 l98 y98 z98 st98 hQ98
    subst l98 y98 z98
    obtain ⟨rfl, N98q, e98⟩ := hQ98
    have N98 := Fr.app N95 N98q
    have P99 : Rch p e below (s₁.setTop (entryFrame m #[(.int p1)] maxLocals)) (T98.setTop (mkF m 63 #[.val (.int p1), .val (.int (9 : Int32)), .val (.ref ob9), .val (.int (1 : Int32))] [(.int (if ob9 = ob0 then (0 : Int32) else (if ob9 = ob1 then (0 : Int32) else (if ob9 = ob3 then (0 : Int32) else (if ob9 = ob5 then (0 : Int32) else (1 : Int32))))))])) := fun t k => P97 t (st98.trans k)
    obtain ⟨x100, hx100⟩ : ∃ z : Int32, z = (if ob9 = ob0 then (0 : Int32) else (if ob9 = ob1 then (0 : Int32) else (if ob9 = ob3 then (0 : Int32) else (if ob9 = ob5 then (0 : Int32) else (1 : Int32))))) := ⟨_, rfl⟩
    rw [← hx100] at P99
    have hv_ : x100 = (1 : Int32) := by rw [hx100, if_neg n9_0, if_neg n9_1, if_neg n9_3, if_neg n9_5]
    have P101 : Rch p e below (s₁.setTop (entryFrame m #[(.int p1)] maxLocals)) (T98.setTop (mkF m 63 #[.val (.int p1), .val (.int (9 : Int32)), .val (.ref ob9), .val (.int (1 : Int32))] [(.int (1 : Int32))])) := by have q_ := P99; rw [hv_] at q_; exact q_
    have P102 : Rch p e below (s₁.setTop (entryFrame m #[(.int p1)] maxLocals)) (T98.setTop (mkF m 72 #[.val (.int p1), .val (.int (9 : Int32)), .val (.ref ob9), .val (.int (1 : Int32))] [(.int (1 : Int32))])) := fun t k => P101 t (by
      show Steps p.tables e below (T98.setTop (mkF m 63 #[.val (.int p1), .val (.int (9 : Int32)), .val (.ref ob9), .val (.int (1 : Int32))] [(.int (1 : Int32))])) t
      refine XS.iloadN X98.here hx rfl (hb hby at_63) rfl ?_
      show Steps p.tables e below (T98.setTop (mkF m 64 #[.val (.int p1), .val (.int (9 : Int32)), .val (.ref ob9), .val (.int (1 : Int32))] [(.int (1 : Int32)), (.int (1 : Int32))])) t
      refine XS.icmpNo X98.here hx rfl (hb hby at_64) rfl (teq (by decide)).2 ?_
      show Steps p.tables e below (T98.setTop (mkF m 67 #[.val (.int p1), .val (.int (9 : Int32)), .val (.ref ob9), .val (.int (1 : Int32))] [])) t
      refine XS.iconst X98.here hx rfl (hb hby at_67) ?_
      show Steps p.tables e below (T98.setTop (mkF m 68 #[.val (.int p1), .val (.int (9 : Int32)), .val (.ref ob9), .val (.int (1 : Int32))] [(.int (1 : Int32))])) t
      refine XS.goto X98.here hx rfl (pc0 := 68) (pc' := 72) rfl (hb hby at_68) (by decide) (by decide) ?_
      exact k)
    obtain ⟨fs, hr, hrun, hended, hW, hsame⟩ := X98.leave (v := some (.int (1 : Int32))) (fun h => by rw [Bd.returns] at h; cases h)
    refine ⟨_, _, P102 _ ?_, hrun, hended, _, _, rfl, ?_, ⟨_, rfl⟩, hW, hsame.mono (by decide) (by decide)⟩
    · exact retN X98 hx (t := .boolean) Bd.returns (by simp) (hb hby at_72) hr
    · show Q_rm0 Z p1 aB kB ob0 ob1 ob2 ob3 ob4 ob5 ob6 ob7 ob8 ob9 h0 n0 _ T98.heap _
      rw [e98]
      exact ⟨rfl, N98⟩
set_option maxRecDepth 65536 in
set_option maxHeartbeats 40000000 in
theorem comes_1 {Post : Tables → Env → Array Value → State → Outcome → State → Prop} (hpost : ∀ tb e args s v u, (limb_1_1.after args s (.returned v) u = true ∧ limb_1_2.after args s (.returned v) u = true ∧ True) → FrameEnd s (.returned v) u (Jvm.fieldLocs frame_1_writes args s ++ Jvm.arrayLocs frame_1_arrays args s ++ Jvm.staticLocs frame_1_statics s) 0 0 → Post tb e args s (.returned v) u) :
    ArmFor flags0 classFile x code maxLocals ret World_1 tables_1 room_1 Calls_1 rest_1 Pre_1 Post := by
  intro l hfl _ _ p e ha hc hk s m args below hf hA hF happ hP
  obtain ⟨hcalls, hrest, hpre⟩ := hP
  obtain ⟨-, -, -, hnamed, -, -, -, hat⟩ := (Spec.applies_iff hf).mp happ
  obtain ⟨hg, hn⟩ := and_e (Cond.before_iff.mp (show (Jvm.Cond.and given_1 narrow_1).before args s = true from hpre))
  obtain ⟨gc, gr0⟩ := and_e hg
  obtain ⟨w0, rfl⟩ : ∃ w0 : Value, args = #[w0] := by
    have hs : args.size = 1 := by simpa [Cond.value, given_1] using gc
    obtain ⟨L⟩ := args
    match L, hs with
    | [w0], _ => exact ⟨w0, rfl⟩
  have hw := fun d (hd : d ∈ tables_1) => atoms_spec (ws := Jvm.Cond.code x code maxLocals ret :: tables_1) hat d (List.mem_cons_of_mem _ hd)
  have hfit : Fit s := fun {y c} hc i hi => by
    obtain ⟨ha, rfl⟩ := Array.getElem?_eq_some_iff.mp hc
    have q := List.all_eq_true.mp ((Array.all_eq_true_iff_forall_mem.mp hF) _ (Array.getElem_mem ha)) i (List.mem_range.mpr hi)
    simpa [Array.getElem?_eq_getElem hi] using q
  obtain ⟨i0, ei0⟩ := is_v gr0
  obtain rfl : w0 = (.int i0) := Option.some.inj ei0
  obtain ⟨k1a, k1b⟩ := and_e hn
  obtain ⟨k2a, k2b⟩ := and_e k1b
  obtain ⟨k3a, k3b⟩ := and_e k2b
  obtain ⟨k4a, k4b⟩ := and_e k3b
  obtain ⟨k5a, k5b⟩ := and_e k4b
  obtain ⟨k6a, k6b⟩ := and_e k5b
  obtain ⟨k7a, k7b⟩ := and_e k6b
  obtain ⟨k8a, k8b⟩ := and_e k7b
  obtain ⟨k9a, k9b⟩ := and_e k8b
  obtain ⟨k10a, k10b⟩ := and_e k9b
  obtain ⟨k11a, k11b⟩ := and_e k10b
  obtain ⟨k12a, k12b⟩ := and_e k11b
  obtain ⟨k13a, k13b⟩ := and_e k12b
  obtain ⟨k14a, k14b⟩ := and_e k13b
  obtain ⟨k15a, k15b⟩ := and_e k14b
  obtain ⟨k16a, k16b⟩ := and_e k15b
  obtain ⟨k17a, k17b⟩ := and_e k16b
  obtain ⟨k18a, k18b⟩ := and_e k17b
  obtain ⟨k19a, k19b⟩ := and_e k18b
  obtain ⟨k20a, k20b⟩ := and_e k19b
  obtain ⟨k21a, k21b⟩ := and_e k20b
  obtain ⟨k22a, k22b⟩ := and_e k21b
  obtain ⟨k23a, k23b⟩ := and_e k22b
  obtain ⟨k24a, k24b⟩ := and_e k23b
  obtain ⟨k25a, k25b⟩ := and_e k24b
  obtain ⟨k26a, k26b⟩ := and_e k25b
  obtain ⟨k27a, k27b⟩ := and_e k26b
  obtain ⟨k28a, k28b⟩ := and_e k27b
  obtain ⟨k29a, k29b⟩ := and_e k28b
  obtain ⟨k30a, k30b⟩ := and_e k29b
  obtain ⟨k31a, k31b⟩ := and_e k30b
  obtain ⟨ob0, va0⟩ := exa_v k3a
  have E0 := Exa.start va0 k3a
  have F0 := own_ord va0 k8a
  have S0 : Sta s s.heap "com/example/rootdb/rootdb/core/RecordKind" "END_DOCUMENT" "Lcom/example/rootdb/rootdb/core/RecordKind;" (.ref ob0) := Sta.start va0 (Or.inr ⟨(hw _ (List.mem_of_getElem? (i := 3) rfl)), (hw _ (List.mem_of_getElem? (i := 7) rfl))⟩)
  obtain ⟨ob1, va1⟩ := exa_v k9a
  have E1 := Exa.start va1 k9a
  have F1 := own_ord va1 k10a
  have S1 : Sta s s.heap "com/example/rootdb/rootdb/core/RecordKind" "DOCTYPE" "Lcom/example/rootdb/rootdb/core/RecordKind;" (.ref ob1) := Sta.start va1 (Or.inr ⟨(hw _ (List.mem_of_getElem? (i := 3) rfl)), (hw _ (List.mem_of_getElem? (i := 16) rfl))⟩)
  obtain ⟨ob2, va2⟩ := exa_v k20a
  have E2 := Exa.start va2 k20a
  have F2 := own_ord va2 k22a
  obtain ⟨ob3, va3⟩ := exa_v k5a
  have E3 := Exa.start va3 k5a
  have F3 := own_ord va3 k7a
  have S3 : Sta s s.heap "com/example/rootdb/rootdb/core/RecordKind" "NAMESPACE" "Lcom/example/rootdb/rootdb/core/RecordKind;" (.ref ob3) := Sta.start va3 (Or.inr ⟨(hw _ (List.mem_of_getElem? (i := 3) rfl)), (hw _ (List.mem_of_getElem? (i := 14) rfl))⟩)
  obtain ⟨ob4, va4⟩ := exa_v k12a
  have E4 := Exa.start va4 k12a
  have F4 := own_ord va4 k14a
  obtain ⟨ob5, va5⟩ := exa_v k15a
  have E5 := Exa.start va5 k15a
  have F5 := own_ord va5 k16a
  have S5 : Sta s s.heap "com/example/rootdb/rootdb/core/RecordKind" "END_ELEMENT" "Lcom/example/rootdb/rootdb/core/RecordKind;" (.ref ob5) := Sta.start va5 (Or.inr ⟨(hw _ (List.mem_of_getElem? (i := 3) rfl)), (hw _ (List.mem_of_getElem? (i := 20) rfl))⟩)
  obtain ⟨ob6, va6⟩ := exa_v k30a
  have E6 := Exa.start va6 k30a
  have F6 := own_ord va6 k31b
  obtain ⟨ob7, va7⟩ := exa_v k17a
  have E7 := Exa.start va7 k17a
  have F7 := own_ord va7 k19a
  obtain ⟨ob8, va8⟩ := exa_v k23a
  have E8 := Exa.start va8 k23a
  have F8 := own_ord va8 k25a
  obtain ⟨ob9, va9⟩ := exa_v k26a
  have E9 := Exa.start va9 k26a
  have F9 := own_ord va9 k28a
  obtain ⟨aB, vB⟩ := arr_v k1a
  have SB : Sta s s.heap "com/example/rootdb/rootdb/core/RecordKind" "BY_CODE" "[Lcom/example/rootdb/rootdb/core/RecordKind;" (.ref aB) := Sta.start vB (Or.inr ⟨(hw _ (List.mem_of_getElem? (i := 3) rfl)), (hw _ (List.mem_of_getElem? (i := 6) rfl))⟩)
  obtain ⟨cB, AB⟩ := Arr.start vB k1a
  obtain ⟨lB1, lB2⟩ := own_len vB (AB.fin (Vm.Alike.refl _)) k2a
  have e0 := own_elem vB AB.1 va0 k4a 0 rfl
  have e1 := own_elem vB AB.1 va1 k11a 1 rfl
  have e2 := own_elem vB AB.1 va2 k21a 2 rfl
  have e3 := own_elem vB AB.1 va3 k6a 3 rfl
  have e4 := own_elem vB AB.1 va4 k13a 4 rfl
  have e5 := own_elem vB AB.1 va5 k29a 5 rfl
  have e6 := own_elem vB AB.1 va6 k31a 6 rfl
  have e7 := own_elem vB AB.1 va7 k18a 7 rfl
  have e8 := own_elem vB AB.1 va8 k24a 8 rfl
  have e9 := own_elem vB AB.1 va9 k27a 9 rfl
  have VB : Arv s s.heap aB cB.cls (.object "com/example/rootdb/rootdb/core/RecordKind") (10 : Int32) [(.ref ob0), (.ref ob1), (.ref ob2), (.ref ob3), (.ref ob4), (.ref ob5), (.ref ob6), (.ref ob7), (.ref ob8), (.ref ob9)] .null := Arv.start hfit AB lB1 lB2 (by decide) rfl ⟨e0, e1, e2, e3, e4, e5, e6, e7, e8, e9, trivial⟩
  have n0_1 : ob0 ≠ ob1 := Fld.ne F0 F1 (by intro q; injection q with q; exact absurd q (by decide))
  have n0_3 : ob0 ≠ ob3 := Fld.ne F0 F3 (by intro q; injection q with q; exact absurd q (by decide))
  have n0_5 : ob0 ≠ ob5 := Fld.ne F0 F5 (by intro q; injection q with q; exact absurd q (by decide))
  have n1_0 : ob1 ≠ ob0 := Fld.ne F1 F0 (by intro q; injection q with q; exact absurd q (by decide))
  have n1_3 : ob1 ≠ ob3 := Fld.ne F1 F3 (by intro q; injection q with q; exact absurd q (by decide))
  have n1_5 : ob1 ≠ ob5 := Fld.ne F1 F5 (by intro q; injection q with q; exact absurd q (by decide))
  have n2_0 : ob2 ≠ ob0 := Fld.ne F2 F0 (by intro q; injection q with q; exact absurd q (by decide))
  have n2_1 : ob2 ≠ ob1 := Fld.ne F2 F1 (by intro q; injection q with q; exact absurd q (by decide))
  have n2_3 : ob2 ≠ ob3 := Fld.ne F2 F3 (by intro q; injection q with q; exact absurd q (by decide))
  have n2_5 : ob2 ≠ ob5 := Fld.ne F2 F5 (by intro q; injection q with q; exact absurd q (by decide))
  have n3_0 : ob3 ≠ ob0 := Fld.ne F3 F0 (by intro q; injection q with q; exact absurd q (by decide))
  have n3_1 : ob3 ≠ ob1 := Fld.ne F3 F1 (by intro q; injection q with q; exact absurd q (by decide))
  have n3_5 : ob3 ≠ ob5 := Fld.ne F3 F5 (by intro q; injection q with q; exact absurd q (by decide))
  have n4_0 : ob4 ≠ ob0 := Fld.ne F4 F0 (by intro q; injection q with q; exact absurd q (by decide))
  have n4_1 : ob4 ≠ ob1 := Fld.ne F4 F1 (by intro q; injection q with q; exact absurd q (by decide))
  have n4_3 : ob4 ≠ ob3 := Fld.ne F4 F3 (by intro q; injection q with q; exact absurd q (by decide))
  have n4_5 : ob4 ≠ ob5 := Fld.ne F4 F5 (by intro q; injection q with q; exact absurd q (by decide))
  have n5_0 : ob5 ≠ ob0 := Fld.ne F5 F0 (by intro q; injection q with q; exact absurd q (by decide))
  have n5_1 : ob5 ≠ ob1 := Fld.ne F5 F1 (by intro q; injection q with q; exact absurd q (by decide))
  have n5_3 : ob5 ≠ ob3 := Fld.ne F5 F3 (by intro q; injection q with q; exact absurd q (by decide))
  have n6_0 : ob6 ≠ ob0 := Fld.ne F6 F0 (by intro q; injection q with q; exact absurd q (by decide))
  have n6_1 : ob6 ≠ ob1 := Fld.ne F6 F1 (by intro q; injection q with q; exact absurd q (by decide))
  have n6_3 : ob6 ≠ ob3 := Fld.ne F6 F3 (by intro q; injection q with q; exact absurd q (by decide))
  have n6_5 : ob6 ≠ ob5 := Fld.ne F6 F5 (by intro q; injection q with q; exact absurd q (by decide))
  have n7_0 : ob7 ≠ ob0 := Fld.ne F7 F0 (by intro q; injection q with q; exact absurd q (by decide))
  have n7_1 : ob7 ≠ ob1 := Fld.ne F7 F1 (by intro q; injection q with q; exact absurd q (by decide))
  have n7_3 : ob7 ≠ ob3 := Fld.ne F7 F3 (by intro q; injection q with q; exact absurd q (by decide))
  have n7_5 : ob7 ≠ ob5 := Fld.ne F7 F5 (by intro q; injection q with q; exact absurd q (by decide))
  have n8_0 : ob8 ≠ ob0 := Fld.ne F8 F0 (by intro q; injection q with q; exact absurd q (by decide))
  have n8_1 : ob8 ≠ ob1 := Fld.ne F8 F1 (by intro q; injection q with q; exact absurd q (by decide))
  have n8_3 : ob8 ≠ ob3 := Fld.ne F8 F3 (by intro q; injection q with q; exact absurd q (by decide))
  have n8_5 : ob8 ≠ ob5 := Fld.ne F8 F5 (by intro q; injection q with q; exact absurd q (by decide))
  have n9_0 : ob9 ≠ ob0 := Fld.ne F9 F0 (by intro q; injection q with q; exact absurd q (by decide))
  have n9_1 : ob9 ≠ ob1 := Fld.ne F9 F1 (by intro q; injection q with q; exact absurd q (by decide))
  have n9_3 : ob9 ≠ ob3 := Fld.ne F9 F3 (by intro q; injection q with q; exact absurd q (by decide))
  have n9_5 : ob9 ≠ ob5 := Fld.ne F9 F5 (by intro q; injection q with q; exact absurd q (by decide))
  obtain ⟨n, o, h1, h2, h3, _, L, rfl, ⟨rfl, N⟩, hq⟩ := rm0 l s _ hw tables_1 i0 aB cB.cls ob0 ob1 ob2 ob3 ob4 ob5 ob6 ob7 ob8 ob9 s.heap s.heap.size (Nat.le_refl _) (Old.start s) SB S0 S1 S3 S5 VB E0 E1 E2 E3 E4 E5 E6 E7 E8 E9 n0_1 n0_3 n0_5 n1_0 n1_3 n1_5 n2_0 n2_1 n2_3 n2_5 n3_0 n3_1 n3_5 n4_0 n4_1 n4_3 n4_5 n5_0 n5_1 n5_3 n6_0 n6_1 n6_3 n6_5 n7_0 n7_1 n7_3 n7_5 n8_0 n8_1 n8_3 n8_5 n9_0 n9_1 n9_3 n9_5 p e ha hc hk s m _ below hf ((Spec.applies_iff_loose hf).mp happ).1 ⟨rfl, State.Warmed39.refl s, rfl⟩ trivial
  refine ⟨n, _, h1, h2, h3, hpost _ _ _ _ _ _ ⟨Cond.after_iff.mpr rfl, Cond.after_iff.mpr (eq_i res_at (Term.int_eval (1)) rfl), trivial⟩ ⟨hq.1, hq.2.1, (hq.2.2.sift fun y hy => Or.inr (N y hy)).mono (by decide) (by decide)⟩⟩
theorem main_1_1 : Claimed_1_1 := comes_1 fun _ _ _ _ _ _ h hF => ⟨h.1, hF⟩
theorem main_1_2 : Claimed_1_2 := comes_1 fun _ _ _ _ _ _ h hF => ⟨h.2.1, hF⟩
end Jvm.Pilot.@@N@@
namespace Jvm.Pilot.@@N@@
open Jvm Jvm.ClassFile Sem Op Lib Jvm.Free Jvm.Stand Jvm.Pilot.@@N@@.Jvm.D
/-! MADE BY PROGRAM (witnessworld.py) out of the Statement's table words and the real class files: 13 classes; the members and pool entries that the words name. The judged class is class 1, her method 1. -/
namespace start1
open Jvm.ClassFile
def u (s : String) : CpInfo := .utf8 (stringToUtf16 s)
/-- a pool by its gaps: so many unusable entries, then the entry; so many at the end -/
def gap : Nat → List CpInfo → List CpInfo
  | 0, r => r
  | n + 1, r => .unusable :: gap n r
def poolList (es : List (Nat × CpInfo)) (last : Nat) : List CpInfo := es.foldr (fun e r => gap e.1 (e.2 :: r)) (gap last [])
def pool (es : List (Nat × CpInfo)) (last : Nat) : Array CpInfo := ⟨poolList es last⟩
def fileOf (pool : Array CpInfo) (this : Nat) (attrs : Array Attribute := #[]) (ms : Array MethodInfo := #[]) (fl : Nat := 33) (sup : Nat := 0) (ifs : Array Nat := #[]) (fds : Array FieldInfo := #[]) : ClassFile where
  minorVersion := 0
  majorVersion := 65
  constantPool := pool
  accessFlags := fl
  thisClass := this
  superClass := sup
  interfaces := ifs
  fields := fds
  methods := ms
  attributes := attrs
def plain (name : String) (sup : Option ClassId) : Class where
  name := name
  kind := .ordinary
  loader := none
  accessFlags := 33
  super := sup
  interfaces := #[]
  cf := none
  fields := #[]
  methods := #[]
  instanceTypes := #[]
  staticTypes := #[]
  resolved := #[]
  callSites := []
  init := .initialized
  statics := none
  mirror := none

def pool0 : Array CpInfo := pool [(5, u "<init>"), (0, u "()V"), (1, .class_ 10), (1, u "java/lang/Object")] 113

def k0m0 : Method := { name := "<init>", desc := "()V", sig := { parameters := [], returnType := none }, accessFlags := 1, code := none }
/-- java/lang/Object -/
def k0 : Class := { plain "java/lang/Object" none with
  accessFlags := 33
  interfaces := #[]
  cf := some (fileOf pool0 8 #[] #[{ accessFlags := 1, nameIndex := 5, descriptorIndex := 6, attributes := #[] }] 33 0 #[] #[])
  fields := #[]
  methods := #[k0m0]
  instanceTypes := #[]
  staticTypes := #[]
  resolved := Array.replicate 124 none
  statics := none }

def pool1 : Array CpInfo := pool [(2, .class_ 4), (1, u "java/lang/Object"), (0, u "<init>"), (0, u "()V"), (0, .integer 2147483647), (0, .methodref 9 10), (0, .class_ 11), (0, .nameAndType 12 13), (0, u "com/example/rootdb/rootdb/core/RecordKind"), (0, u "ofCode"), (0, u "(I)Lcom/example/rootdb/rootdb/core/RecordKind;"), (0, .methodref 9 15), (0, .nameAndType 16 17), (0, u "startsNode"), (0, u "()Z"), (0, .class_ 19), (0, u "com/example/rootdb/rootdb/core/RecordKindStartsNodePinLaw"), (2, u "law"), (0, u "(I)Z")] 3

def k1m0 : Method := { name := "<init>", desc := "()V", sig := { parameters := [], returnType := none }, accessFlags := 1, code := none }
def k1c1 : Code := { maxStack := 2, maxLocals := 4, code := code, exceptionTable := #[], attributes := #[] }
def k1m1 : Method := { name := "law", desc := "(I)Z", sig := { parameters := [.int], returnType := some .boolean }, accessFlags := 9, code := some k1c1 }
/-- com/example/rootdb/rootdb/core/RecordKindStartsNodePinLaw -/
def k1 : Class := { plain "com/example/rootdb/rootdb/core/RecordKindStartsNodePinLaw" (some 0) with
  accessFlags := 49
  interfaces := #[]
  cf := some (fileOf pool1 18 #[] #[{ accessFlags := 1, nameIndex := 5, descriptorIndex := 6, attributes := #[] }, { accessFlags := 9, nameIndex := 22, descriptorIndex := 23, attributes := #[] }] 49 2 #[] #[])
  fields := #[]
  methods := #[k1m0, k1m1]
  instanceTypes := #[]
  staticTypes := #[]
  resolved := Array.replicate 27 none
  statics := none }

def pool2 : Array CpInfo := pool [(1, .class_ 2), (0, u "java/lang/constant/Constable"), (0, .class_ 4), (0, u "java/lang/Object")] 6

/-- java/lang/constant/Constable -/
def k2 : Class := { plain "java/lang/constant/Constable" (some 0) with
  accessFlags := 1537
  interfaces := #[]
  cf := some (fileOf pool2 1 #[] #[] 1537 3 #[] #[])
  fields := #[]
  methods := #[]
  instanceTypes := #[]
  staticTypes := #[]
  resolved := Array.replicate 11 none
  statics := none }

def pool3 : Array CpInfo := pool [(1, .class_ 2), (0, u "java/lang/Comparable"), (0, .class_ 4), (0, u "java/lang/Object")] 7

/-- java/lang/Comparable -/
def k3 : Class := { plain "java/lang/Comparable" (some 0) with
  accessFlags := 1537
  interfaces := #[]
  cf := some (fileOf pool3 1 #[] #[] 1537 3 #[] #[])
  fields := #[]
  methods := #[]
  instanceTypes := #[]
  staticTypes := #[]
  resolved := Array.replicate 12 none
  statics := none }

def pool4 : Array CpInfo := pool [(1, .class_ 2), (0, u "java/io/Serializable"), (0, .class_ 4), (0, u "java/lang/Object")] 2

/-- java/io/Serializable -/
def k4 : Class := { plain "java/io/Serializable" (some 0) with
  accessFlags := 1537
  interfaces := #[]
  cf := some (fileOf pool4 1 #[] #[] 1537 3 #[] #[])
  fields := #[]
  methods := #[]
  instanceTypes := #[]
  staticTypes := #[]
  resolved := Array.replicate 7 none
  statics := none }

def pool5 : Array CpInfo := pool [(2, .class_ 4), (1, u "java/lang/Enum"), (0, u "name"), (0, u "Ljava/lang/String;"), (2, u "ordinal"), (0, u "I"), (1, .class_ 14), (1, u "java/lang/Object"), (4, u "hash"), (86, .class_ 108), (1, u "java/lang/Enum$EnumDesc"), (2, .class_ 112), (0, u "java/lang/constant/Constable"), (0, .class_ 114), (0, u "java/lang/Comparable"), (0, .class_ 116), (0, u "java/io/Serializable")] 87

/-- java/lang/Enum -/
def k5 : Class := { plain "java/lang/Enum" (some 0) with
  accessFlags := 1057
  interfaces := #[2, 3, 4]
  cf := some (fileOf pool5 2 #[.nestMembers #[106]] #[] 1057 12 #[111, 113, 115] #[{ accessFlags := 18, nameIndex := 5, descriptorIndex := 6, attributes := #[] }, { accessFlags := 18, nameIndex := 9, descriptorIndex := 10, attributes := #[] }, { accessFlags := 2, nameIndex := 19, descriptorIndex := 10, attributes := #[] }])
  fields := #[{ name := "name", type := (.object "java/lang/String"), accessFlags := 18, slot := 0, constantValue := 0 }, { name := "ordinal", type := .int, accessFlags := 18, slot := 1, constantValue := 0 }, { name := "hash", type := .int, accessFlags := 2, slot := 2, constantValue := 0 }]
  methods := #[]
  instanceTypes := #[(.object "java/lang/String"), .int, .int]
  staticTypes := #[]
  resolved := Array.replicate 204 none
  statics := none }

def pool6 : Array CpInfo := pool [(1, .class_ 2), (0, u "com/example/rootdb/rootdb/core/RecordKind"), (0, .fieldref 1 4), (0, .nameAndType 5 6), (0, u "END_DOCUMENT"), (0, u "Lcom/example/rootdb/rootdb/core/RecordKind;"), (0, .fieldref 1 8), (0, .nameAndType 9 6), (0, u "DOCTYPE"), (2, u "START_ELEMENT"), (0, .fieldref 1 14), (0, .nameAndType 15 6), (0, u "NAMESPACE"), (2, u "ATTRIBUTE"), (0, .fieldref 1 20), (0, .nameAndType 21 6), (0, u "END_ELEMENT"), (2, u "TEXT"), (2, u "CDATA"), (2, u "COMMENT"), (2, u "PROCESSING_INSTRUCTION"), (2, u "$VALUES"), (0, u "[Lcom/example/rootdb/rootdb/core/RecordKind;"), (6, .class_ 46), (1, u "java/lang/Enum"), (8, u "code"), (0, u "I"), (2, u "stringCount"), (0, .fieldref 1 61), (0, .nameAndType 62 37), (0, u "BY_CODE"), (26, u "ofCode"), (0, u "(I)Lcom/example/rootdb/rootdb/core/RecordKind;"), (2, u "startsNode"), (0, u "()Z")] 6

def k6c0 : Code := { maxStack := 2, maxLocals := 1, code := prog_36_method_4_code, exceptionTable := #[], attributes := #[] }
def k6m0 : Method := { name := "ofCode", desc := "(I)Lcom/example/rootdb/rootdb/core/RecordKind;", sig := { parameters := [.int], returnType := some (.object "com/example/rootdb/rootdb/core/RecordKind") }, accessFlags := 8, code := some k6c0 }
def k6c1 : Code := { maxStack := 2, maxLocals := 1, code := prog_36_method_7_code, exceptionTable := #[], attributes := #[] }
def k6m1 : Method := { name := "startsNode", desc := "()Z", sig := { parameters := [], returnType := some .boolean }, accessFlags := 0, code := some k6c1 }
/-- com/example/rootdb/rootdb/core/RecordKind -/
def k6 : Class := { plain "com/example/rootdb/rootdb/core/RecordKind" (some 5) with
  accessFlags := 16433
  interfaces := #[]
  cf := some (fileOf pool6 1 #[] #[{ accessFlags := 8, nameIndex := 89, descriptorIndex := 90, attributes := #[] }, { accessFlags := 0, nameIndex := 93, descriptorIndex := 94, attributes := #[] }] 16433 44 #[] #[{ accessFlags := 16409, nameIndex := 5, descriptorIndex := 6, attributes := #[] }, { accessFlags := 16409, nameIndex := 9, descriptorIndex := 6, attributes := #[] }, { accessFlags := 16409, nameIndex := 12, descriptorIndex := 6, attributes := #[] }, { accessFlags := 16409, nameIndex := 15, descriptorIndex := 6, attributes := #[] }, { accessFlags := 16409, nameIndex := 18, descriptorIndex := 6, attributes := #[] }, { accessFlags := 16409, nameIndex := 21, descriptorIndex := 6, attributes := #[] }, { accessFlags := 16409, nameIndex := 24, descriptorIndex := 6, attributes := #[] }, { accessFlags := 16409, nameIndex := 27, descriptorIndex := 6, attributes := #[] }, { accessFlags := 16409, nameIndex := 30, descriptorIndex := 6, attributes := #[] }, { accessFlags := 16409, nameIndex := 33, descriptorIndex := 6, attributes := #[] }, { accessFlags := 26, nameIndex := 62, descriptorIndex := 37, attributes := #[] }, { accessFlags := 18, nameIndex := 55, descriptorIndex := 56, attributes := #[] }, { accessFlags := 18, nameIndex := 59, descriptorIndex := 56, attributes := #[] }, { accessFlags := 4122, nameIndex := 36, descriptorIndex := 37, attributes := #[] }])
  fields := #[{ name := "END_DOCUMENT", type := (.object "com/example/rootdb/rootdb/core/RecordKind"), accessFlags := 16409, slot := 0, constantValue := 0 }, { name := "DOCTYPE", type := (.object "com/example/rootdb/rootdb/core/RecordKind"), accessFlags := 16409, slot := 1, constantValue := 0 }, { name := "START_ELEMENT", type := (.object "com/example/rootdb/rootdb/core/RecordKind"), accessFlags := 16409, slot := 2, constantValue := 0 }, { name := "NAMESPACE", type := (.object "com/example/rootdb/rootdb/core/RecordKind"), accessFlags := 16409, slot := 3, constantValue := 0 }, { name := "ATTRIBUTE", type := (.object "com/example/rootdb/rootdb/core/RecordKind"), accessFlags := 16409, slot := 4, constantValue := 0 }, { name := "END_ELEMENT", type := (.object "com/example/rootdb/rootdb/core/RecordKind"), accessFlags := 16409, slot := 5, constantValue := 0 }, { name := "TEXT", type := (.object "com/example/rootdb/rootdb/core/RecordKind"), accessFlags := 16409, slot := 6, constantValue := 0 }, { name := "CDATA", type := (.object "com/example/rootdb/rootdb/core/RecordKind"), accessFlags := 16409, slot := 7, constantValue := 0 }, { name := "COMMENT", type := (.object "com/example/rootdb/rootdb/core/RecordKind"), accessFlags := 16409, slot := 8, constantValue := 0 }, { name := "PROCESSING_INSTRUCTION", type := (.object "com/example/rootdb/rootdb/core/RecordKind"), accessFlags := 16409, slot := 9, constantValue := 0 }, { name := "BY_CODE", type := (.array (.object "com/example/rootdb/rootdb/core/RecordKind")), accessFlags := 26, slot := 10, constantValue := 0 }, { name := "code", type := .int, accessFlags := 18, slot := 3, constantValue := 0 }, { name := "stringCount", type := .int, accessFlags := 18, slot := 4, constantValue := 0 }, { name := "$VALUES", type := (.array (.object "com/example/rootdb/rootdb/core/RecordKind")), accessFlags := 4122, slot := 11, constantValue := 0 }]
  methods := #[k6m0, k6m1]
  instanceTypes := #[(.object "java/lang/String"), .int, .int, .int, .int]
  staticTypes := #[(.object "com/example/rootdb/rootdb/core/RecordKind"), (.object "com/example/rootdb/rootdb/core/RecordKind"), (.object "com/example/rootdb/rootdb/core/RecordKind"), (.object "com/example/rootdb/rootdb/core/RecordKind"), (.object "com/example/rootdb/rootdb/core/RecordKind"), (.object "com/example/rootdb/rootdb/core/RecordKind"), (.object "com/example/rootdb/rootdb/core/RecordKind"), (.object "com/example/rootdb/rootdb/core/RecordKind"), (.object "com/example/rootdb/rootdb/core/RecordKind"), (.object "com/example/rootdb/rootdb/core/RecordKind"), (.array (.object "com/example/rootdb/rootdb/core/RecordKind")), (.array (.object "com/example/rootdb/rootdb/core/RecordKind"))]
  resolved := Array.replicate 101 none
  statics := some 0 }

def pool7 : Array CpInfo := pool [(1, u "java/lang/Cloneable"), (0, .class_ 1), (0, u "java/lang/Object"), (0, .class_ 3)] 3

/-- java/lang/Cloneable -/
def k7 : Class := { plain "java/lang/Cloneable" (some 0) with
  accessFlags := 1537
  interfaces := #[]
  cf := some (fileOf pool7 2 #[] #[] 1537 4 #[] #[])
  fields := #[]
  methods := #[]
  instanceTypes := #[]
  staticTypes := #[]
  resolved := Array.replicate 8 none
  statics := none }

/-- the primitive byte -/
def k8 : Class := { plain "byte" none with kind := .primitive 'B', accessFlags := 0x411 }
/-- [B -/
def k9 : Class := { plain "[B" (some 0) with kind := .array 8 .byte, interfaces := #[7, 4], accessFlags := 1041 }

/-- the primitive int -/
def k10 : Class := { plain "int" none with kind := .primitive 'I', accessFlags := 0x411 }
/-- [I -/
def k11 : Class := { plain "[I" (some 0) with kind := .array 10 .int, interfaces := #[7, 4], accessFlags := 1041 }

/-- [Lcom/example/rootdb/rootdb/core/RecordKind; -/
def k12 : Class := { plain "[Lcom/example/rootdb/rootdb/core/RecordKind;" (some 0) with kind := .array 6 (.object "com/example/rootdb/rootdb/core/RecordKind"), interfaces := #[7, 4], accessFlags := 1041 }

def heap : Heap := #[{ cls := 6, slots := #[.ref 2, .ref 3, .ref 4, .ref 5, .ref 6, .ref 7, .ref 8, .ref 9, .ref 10, .ref 11, .ref 1, .null], vm := .statics 6 },
  { cls := 12, slots := #[.ref 2, .ref 3, .ref 4, .ref 5, .ref 6, .ref 7, .ref 8, .ref 9, .ref 10, .ref 11], vm := .none },
  { cls := 6, slots := #[.null, .int 0, .int 0, .int 0, .int 0], vm := .none },
  { cls := 6, slots := #[.null, .int 1, .int 0, .int 1, .int 0], vm := .none },
  { cls := 6, slots := #[.null, .int 2, .int 0, .int 2, .int 0], vm := .none },
  { cls := 6, slots := #[.null, .int 3, .int 0, .int 3, .int 0], vm := .none },
  { cls := 6, slots := #[.null, .int 4, .int 0, .int 4, .int 0], vm := .none },
  { cls := 6, slots := #[.null, .int 5, .int 0, .int 5, .int 0], vm := .none },
  { cls := 6, slots := #[.null, .int 6, .int 0, .int 6, .int 0], vm := .none },
  { cls := 6, slots := #[.null, .int 7, .int 0, .int 7, .int 0], vm := .none },
  { cls := 6, slots := #[.null, .int 8, .int 0, .int 8, .int 0], vm := .none },
  { cls := 6, slots := #[.null, .int 9, .int 0, .int 9, .int 0], vm := .none }]
def classes : Array Class := #[k0, k1, k2, k3, k4, k5, k6, k7, k8, k9, k10, k11, k12]
def interned : List (Array UInt16 × Addr) := []
def slotsUsed : Nat := 72
def theMethod : MethodId := ⟨1, 1⟩
def args0 : Array Value := #[.int 5]
def aboutOver (below : List Frame) : State where
  vm := { classes := classes, interned := interned.toArray }
  heap := heap
  slotsUsed := slotsUsed
  threads := #[{ frames := .invoking theMethod args0 :: below }]
def below0 : List Frame := [.native { method := ⟨0, 0⟩, args := #[] }]
def about1 : State := aboutOver below0
def p0 : Program := .bare "" "" ""
def e0 : Env := launch0.env 0 0 0
theorem w_frames : about1.frames = Frame.invoking theMethod args0 :: below0 := rfl
set_option maxRecDepth 65536 in
theorem w_args : argsFit about1.vm theMethod args0 = true := by decide +kernel
set_option maxRecDepth 65536 in
theorem w_heap : heapFits about1 = true := by decide +kernel
set_option maxRecDepth 65536 in
theorem w_runnable : about1.curStatus? = some .runnable := by decide +kernel
set_option maxRecDepth 65536 in
theorem w_alone : about1.alone = true := by decide +kernel
set_option maxRecDepth 65536 in
theorem w_named : about1.methodNamed? x = some theMethod := by decide +kernel
set_option maxRecDepth 65536 in
theorem w_hears : about1.hears theMethod below0 = true := by decide +kernel
set_option maxRecDepth 65536 in
theorem w_ripe : about1.ripe theMethod args0 below0 = true := by decide +kernel
theorem w_running : about1.status = .running := rfl
set_option maxRecDepth 65536 in
theorem w_room : about1.hasRoom e0.platform room_1 = true :=
  launch0.hasRoom_least _ room_1 (by decide +kernel) (by decide +kernel) (by decide +kernel) (by decide +kernel) (by decide +kernel) (by decide +kernel)
theorem allAtoms_all (ts : List Jvm.Cond) (a : Array Jvm.Value) (st : Jvm.State) : (allAtoms ts).before a st = ts.all (fun c => c.before a st) := by
  induction ts with
  | nil => rfl
  | cons c t ih =>
    show (Jvm.Cond.and c (allAtoms t)).before a st = _
    rw [Jvm.Cond.before_and, ih, List.all_cons]
def words1 : List Jvm.Cond := Jvm.Cond.code x code maxLocals ret :: tables_1
/-- a 'code' word, met by the world's own term for the bytes: nothing is compared byte by byte -/
theorem code_word {y : MethodName} {bytes : ByteArray} {mx : Nat} {rt : Option FieldType} {a : Array Value} {s : State} {m : MethodId} {meth : Method} {c : Code} (h1 : s.methodNamed? y = some m) (h2 : s.vm.method? m = some meth) (h3 : meth.code = some c) (h4 : c.code = bytes)
    (h5 : (c.maxLocals == mx && c.exceptionTable.isEmpty && decide (c.maxStack ≤ mostOperands) && decide (meth.sig.returnType = rt) && !meth.locks && decide (parseMethodDescriptor y.desc = some meth.sig)) = true) : (Jvm.Cond.code y bytes mx rt).before a s = true := by
  simp only [Bool.and_eq_true, beq_iff_eq, Bool.not_eq_true', decide_eq_true_eq] at h5
  obtain ⟨⟨⟨⟨⟨g1, g2⟩, g3⟩, g4⟩, g5⟩, g6⟩ := h5
  simp [Cond.before, Cond.holds, Cond.value, h1, h2, h3, h4, g1, g2, g3, g4, g5, g6]
def isCode : Jvm.Cond → Bool
  | .code _ _ _ _ => true
  | _ => false
theorem all_split {L : List Jvm.Cond} {P : Jvm.Cond → Bool} (h1 : L.all (fun c => isCode c || P c) = true) (h2 : ∀ c ∈ L.filter isCode, P c = true) : L.all P = true := by
  refine List.all_eq_true.mpr fun c hc => ?_
  have h := List.all_eq_true.mp h1 c hc
  rcases Bool.eq_false_or_eq_true (isCode c) with hi | hi
  · exact h2 c (List.mem_filter.mpr ⟨hc, hi⟩)
  · simpa [hi] using h
set_option maxRecDepth 65536 in
theorem w_c0 : (Jvm.Cond.code x code maxLocals ret).before args0 about1 = true := code_word (m := ⟨1, 1⟩) (meth := k1m1) (c := k1c1) (by decide +kernel) rfl rfl rfl (by decide +kernel)
set_option maxRecDepth 65536 in
theorem w_c1 : (Jvm.Cond.code ({ cls := "com/example/rootdb/rootdb/core/RecordKind", name := "ofCode", desc := "(I)Lcom/example/rootdb/rootdb/core/RecordKind;" } : Jvm.MethodName) prog_36_method_4_code (1 : Nat) (Option.some (Jvm.ClassFile.FieldType.object "com/example/rootdb/rootdb/core/RecordKind"))).before args0 about1 = true := code_word (m := ⟨6, 0⟩) (meth := k6m0) (c := k6c0) (by decide +kernel) rfl rfl rfl (by decide +kernel)
set_option maxRecDepth 65536 in
theorem w_c2 : (Jvm.Cond.code ({ cls := "com/example/rootdb/rootdb/core/RecordKind", name := "startsNode", desc := "()Z" } : Jvm.MethodName) prog_36_method_7_code (1 : Nat) (Option.some Jvm.ClassFile.FieldType.boolean)).before args0 about1 = true := code_word (m := ⟨6, 1⟩) (meth := k6m1) (c := k6c1) (by decide +kernel) rfl rfl rfl (by decide +kernel)
def codes1 : List Jvm.Cond := [Jvm.Cond.code x code maxLocals ret, Jvm.Cond.code ({ cls := "com/example/rootdb/rootdb/core/RecordKind", name := "ofCode", desc := "(I)Lcom/example/rootdb/rootdb/core/RecordKind;" } : Jvm.MethodName) prog_36_method_4_code (1 : Nat) (Option.some (Jvm.ClassFile.FieldType.object "com/example/rootdb/rootdb/core/RecordKind")), Jvm.Cond.code ({ cls := "com/example/rootdb/rootdb/core/RecordKind", name := "startsNode", desc := "()Z" } : Jvm.MethodName) prog_36_method_7_code (1 : Nat) (Option.some Jvm.ClassFile.FieldType.boolean)]
set_option maxRecDepth 65536 in
theorem codes_eq : words1.filter isCode = codes1 := rfl
theorem w_codes : ∀ c ∈ words1.filter isCode, c.before args0 about1 = true := by
  rw [codes_eq]
  intro c hc
  simp only [codes1, List.mem_cons, List.not_mem_nil, or_false] at hc
  rcases hc with rfl | rfl | rfl
  · exact w_c0
  · exact w_c1
  · exact w_c2
set_option maxRecDepth 65536 in
theorem w_t1 : (words1.take 24).all (fun c => isCode c || c.before args0 about1) = true := by decide +kernel
set_option maxRecDepth 65536 in
theorem w_t2 : (words1.drop 24).all (fun c => isCode c || c.before args0 about1) = true := by decide +kernel
theorem w_tables : (allAtoms (Jvm.Cond.code x code maxLocals ret :: tables_1)).before args0 about1 = true := by
  rw [allAtoms_all]
  show words1.all (fun c => c.before args0 about1) = true
  refine all_split ?_ w_codes
  rw [← List.take_append_drop 24 words1, List.all_append, w_t1, w_t2]
  rfl
set_option maxRecDepth 65536 in
theorem w_case : (Jvm.Cond.and given_1 narrow_1).before args0 about1 = true := by decide +kernel
theorem w_applies : (headSpec (Jvm.Cond.code x code maxLocals ret :: tables_1) room_1).applies x e0.platform about1 = true :=
  (Spec.applies_iff w_frames).mpr ⟨w_running, w_runnable, w_alone, w_named, w_hears, w_ripe, w_room, w_tables⟩
theorem atStart : AtStart classFile x code maxLocals ret World_1 tables_1 room_1 Calls_1 rest_1 Pre_1 launch0 p0 e0 about1 theMethod args0 below0 :=
  ⟨lists_1, trivial, launch0.admits_env _ _ _, launch0.least_env, fairChoices_fair.cas, fairChoices_fair.clock, w_frames, w_args, w_heap, w_applies, trivial, trivial, w_case⟩
end start1
theorem witness_1 : WitnessClaimed_1 := ⟨start1.p0, start1.e0, start1.about1, start1.theMethod, start1.args0, start1.below0, start1.atStart⟩
end Jvm.Pilot.@@N@@
