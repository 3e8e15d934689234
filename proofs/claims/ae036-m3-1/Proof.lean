import JvmDerived
import JvmDerived.Pilot.@@N@@Statement
import JvmDerived.Pilot.@@N@@Code
set_option linter.unusedVariables false
set_option linter.unusedSimpArgs false
namespace Jvm.RoadKit
open Sem ClassFile Op Lib Jvm.Stand Jvm.Free Jvm.LawKit
section New
variable {p : Program} {l : Launch} {e : Env} {R : Room} {s : State} {m : MethodId} {args : Array Value} {below : List Frame} {meth : Method} {c : Code} {T : State} {locs : List Loc} {cells slots : Nat}
theorem retI (X : Stand p l e R s m args below meth c T locs cells slots) (hx : p.tables.exec = Jvm.exec) {pc : Nat} {Ls : Array Slot} {z : Int32} {rest : List Value} (hret : meth.sig.returnType = some .int) (hd : decode c.code pc = .ok (.ireturn, 1)) {fs : List Frame}
    (hl : ∀ (f : JFrame) (acts : List Action), f.method = m → f.locked = none → f.entered = [] → (doReturn e (T.setTop f) acts (some (.int z))).1 = T.setFrames fs) : Steps p.tables e below (T.setTop (mkF m pc Ls (.int z :: rest))) (T.setFrames fs) := by
  have hm' : T.vm.method? m = some meth := X.method'
  have hn : narrow .int (.int z) = .int z := rfl
  show Steps p.tables e below (T.setTop { method := m, pc := pc, locals := Ls, stack := _ :: rest, locked := none }) _
  jvm_step X.here [X.here.top, hx, hd, hm', hret, hn]
  first | (intro acts; rw [hl _ acts rfl rfl rfl]) | rw [hl _ _ rfl rfl rfl]
  exact Steps.refl _
end New
end Jvm.RoadKit
namespace Jvm.Pilot.@@N@@
open Jvm Jvm.ClassFile Sem Op Lib Jvm.Free Jvm.Stand Jvm.LawKit Jvm.RoadKit Bundle Jvm.Pilot.@@N@@.Jvm.D
theorem own_more {p : Program} {l : Launch} {e : Env} {R : Room} {s : State} {m : MethodId} {args : Array Value} {below : List Frame} {meth : Method} {c : Code} {T : State} {locs : List Loc} {k n k' n' : Nat} (X : Stand p l e R s m args below meth c T locs k n) (hk : k ≤ k') (hn : n ≤ n') : Stand p l e R s m args below meth c T locs k' n' := { X with same := X.same.mono hk hn }
theorem own_nar {t : FieldType} {v : Value} (h : v.isRef = true) (ht : t.isReference = true := by rfl) : narrow t v = v := by
  rcases ref_cases h with rfl | ⟨a, rfl⟩ <;> cases t <;> first | rfl | (cases ht; done)
theorem own_fit {t : FieldType} {v : Value} (h : v.isRef = true) (ht : t.isReference = true := by rfl) : fits t v = true := by
  rcases ref_cases h with rfl | ⟨a, rfl⟩ <;> cases t <;> first | rfl | (cases ht; done)
theorem own_cat {v : Value} (h : v.isRef = true) : v.category = 1 := by rcases ref_cases h with rfl | ⟨a, rfl⟩ <;> rfl
abbrev Rch (p : Program) (e : Env) (below : List Frame) (A B : State) : Prop := ∀ t, Steps p.tables e below B t → Steps p.tables e below A t

theorem own_idx (y : Int32) : ¬ (y &&& 15) < 0 ∧ (y &&& 15) < (16 : Int32) := by
  have h := c_and y 15 (by decide)
  have e : (15 : Int32).toInt = 15 := rfl
  rw [Int32.lt_iff_toInt_lt, Int32.lt_iff_toInt_lt]
  exact ⟨by show ¬ _ < (0 : Int); omega, by show _ < (16 : Int); omega⟩
theorem own_getI : ∀ (L : List Int32) (i : Nat), ∃ z : Int32, (L.map Value.int).getD i (.int (0 : Int32)) = .int z
  | [], i => ⟨0, by simp⟩
  | a :: r, 0 => ⟨a, rfl⟩
  | a :: r, i + 1 => by simpa using own_getI r i
def own_v (c : Int32) : Int32 := (if (if c = (32 : Int32) then (1 : Int32) else (if c = (10 : Int32) then (1 : Int32) else (if c = (9 : Int32) then (1 : Int32) else (if c = (13 : Int32) then (1 : Int32) else (0 : Int32))))) = (if c < (9 : Int32) then (0 : Int32) else (if (32 : Int32) < c then (0 : Int32) else (if (10 : Int32) < c then (if c = (13 : Int32) then (1 : Int32) else (if c = (32 : Int32) then (1 : Int32) else (0 : Int32))) else (1 : Int32)))) then (1 : Int32) else (0 : Int32))
theorem own_law (c : Int32) : own_v c = 1 := by
  by_cases h1 : c = 32
  · subst h1; decide
  by_cases h2 : c = 10
  · subst h2; decide
  by_cases h3 : c = 9
  · subst h3; decide
  by_cases h4 : c = 13
  · subst h4; decide
  have n : c < 9 ∨ (10 : Int32) < c := by
    have k2 : ¬ c.toInt = (10 : Int32).toInt := fun q => h2 (Int32.toInt_inj.mp q)
    have k3 : ¬ c.toInt = (9 : Int32).toInt := fun q => h3 (Int32.toInt_inj.mp q)
    rw [Int32.lt_iff_toInt_lt, Int32.lt_iff_toInt_lt]
    have e1 : (10 : Int32).toInt = 10 := rfl
    have e2 : (9 : Int32).toInt = 9 := rfl
    omega
  rcases n with n | n
  · simp [own_v, h1, h2, h3, h4, n]
  · simp [own_v, h1, h2, h3, h4, n]

theorem d1_0 : decode prog_50_method_6_code 0 = .ok (.iload_n 0, 1) := by decide +kernel
theorem d1_1 : decode prog_50_method_6_code 1 = .ok (.bipush 32, 2) := by decide +kernel
theorem d1_3 : decode prog_50_method_6_code 3 = .ok (.if_icmp .eq 21, 3) := by decide +kernel
theorem d1_24 : decode prog_50_method_6_code 24 = .ok (.iconst 1, 1) := by decide +kernel
theorem d1_25 : decode prog_50_method_6_code 25 = .ok (.goto 4, 3) := by decide +kernel
theorem d1_6 : decode prog_50_method_6_code 6 = .ok (.iload_n 0, 1) := by decide +kernel
theorem d1_7 : decode prog_50_method_6_code 7 = .ok (.bipush 10, 2) := by decide +kernel
theorem d1_9 : decode prog_50_method_6_code 9 = .ok (.if_icmp .eq 15, 3) := by decide +kernel
theorem d1_12 : decode prog_50_method_6_code 12 = .ok (.iload_n 0, 1) := by decide +kernel
theorem d1_13 : decode prog_50_method_6_code 13 = .ok (.bipush 9, 2) := by decide +kernel
theorem d1_15 : decode prog_50_method_6_code 15 = .ok (.if_icmp .eq 9, 3) := by decide +kernel
theorem d1_18 : decode prog_50_method_6_code 18 = .ok (.iload_n 0, 1) := by decide +kernel
theorem d1_19 : decode prog_50_method_6_code 19 = .ok (.bipush 13, 2) := by decide +kernel
theorem d1_21 : decode prog_50_method_6_code 21 = .ok (.if_icmp .ne 7, 3) := by decide +kernel
theorem d1_28 : decode prog_50_method_6_code 28 = .ok (.iconst 0, 1) := by decide +kernel
theorem d1_29 : decode prog_50_method_6_code 29 = .ok (.ireturn, 1) := by decide +kernel
theorem pn_0 : plainName "com/example/rootdb/rootdb/core/XmlChars" = true := by first | (simp [plainName, overriddenIn]; done) | decide +kernel
theorem pn_1 : plainName "com/example/rootdb/rootdb/core/XmlCharsIsSpacePinLaw" = true := by first | (simp [plainName, overriddenIn]; done) | decide +kernel
theorem pd_0 : parseMethodDescriptor "(I)Z" = some ⟨[.int], some .boolean⟩ := by decide +kernel
def Q_rmS (Z : State) (p1 : Int32) (h0 : Heap) (n0 : Nat) (v : Option Value) (h : Heap) (L : List Loc) : Prop := v = some (.int (if p1 = (32 : Int32) then (1 : Int32) else (if p1 = (10 : Int32) then (1 : Int32) else (if p1 = (9 : Int32) then (1 : Int32) else (if p1 = (13 : Int32) then (1 : Int32) else (0 : Int32)))))) ∧ Fr n0 L ∧ h = h0
set_option maxRecDepth 65536 in
set_option maxHeartbeats 40000000 in
theorem rmS (l : Launch) (Z : State) (a0 : Array Value) (hw : ∀ d ∈ tables_1, d.before a0 Z = true) (ws : List Jvm.Cond) (p1 : Int32) (h0 : Heap) (n0 : Nat) (Z0 : n0 ≤ h0.size) :
    MetFree l (⟨"com/example/rootdb/rootdb/core/XmlChars", "isSpace", "(I)Z"⟩ : MethodName) (head1 (Jvm.Cond.code (⟨"com/example/rootdb/rootdb/core/XmlChars", "isSpace", "(I)Z"⟩ : MethodName) prog_50_method_6_code 1 (some .boolean) :: ws) ({ frames := 0, cells := 0, slots := 0, locals := 0 } : Room)) (fun a U => a = #[(.int p1)] ∧ Z.Warmed39 U.vm ∧ U.heap = h0) (fun _ _ _ _ _ => True) (fun _ U o U' => ∃ v L, o = .returned v ∧ Q_rmS Z p1 h0 n0 v U'.heap L ∧ FrameEnd U o U' L ({ frames := 0, cells := 0, slots := 0, locals := 0 } : Room).cells ({ frames := 0, cells := 0, slots := 0, locals := 0 } : Room).slots) := by
  refine MetFree.of_bodySF (plainFor_of_name pn_0) hisR ?_
  intro p e s m args below meth c s₁ Bd hml0 hP hK
  obtain ⟨rfl, hZ, hh⟩ := hP
  have hx := Bd.exec
  have hby := Bd.bytes
  have hml : c.maxLocals = 1 := hml0
  have hown : s.vm.findClass "com/example/rootdb/rootdb/core/XmlChars" = some m.cls := findClass_of_methodNamed Bd.named
  have hnm := (name_of_methodNamed Bd.named Bd.method).1
  have X0 : Stand p l e ({ frames := 0, cells := 0, slots := 0, locals := 0 } : Room) s m #[(.int p1)] below meth c s₁ [] 0 0 := Stand.of_body Bd
  have e0 : s₁.heap = h0 := by rw [← hh, Bd.state]; rfl
  have N0 := Fr.nil n0
  have P0 : Rch p e below (s₁.setTop (entryFrame m #[(.int p1)] 1)) (s₁.setTop (mkF m 0 #[.val (.int p1)] [])) := fun t k => castTop (by first | rfl | (simp [entryFrame, mkF, argsToLocals, Value.category]; done)) k
  have P1 : Rch p e below (s₁.setTop (entryFrame m #[(.int p1)] 1)) (s₁.setTop (mkF m 3 #[.val (.int p1)] [(.int (32 : Int32)), (.int p1)])) := fun t k => P0 t (by
    show Steps p.tables e below (s₁.setTop (mkF m 0 #[.val (.int p1)] [])) t
    refine XS.iloadN X0.here hx rfl (hb hby d1_0) rfl ?_
    show Steps p.tables e below (s₁.setTop (mkF m 1 #[.val (.int p1)] [(.int p1)])) t
    refine XS.bipush X0.here hx rfl (hb hby d1_1) ?_
    exact k)
  obtain ⟨v6, hv6, P7⟩ : ∃ (v6 : Int32), v6 = (if p1 = (32 : Int32) then (1 : Int32) else (if p1 = (10 : Int32) then (1 : Int32) else (if p1 = (9 : Int32) then (1 : Int32) else (if p1 = (13 : Int32) then (1 : Int32) else (0 : Int32))))) ∧ Rch p e below (s₁.setTop (entryFrame m #[(.int p1)] 1)) (s₁.setTop (mkF m 29 #[.val (.int p1)] [(.int v6)])) := by
    by_cases c2 : p1 = (32 : Int32)
    · refine ⟨(1 : Int32), (by first | rfl | rw [if_pos c2] | simp only [if_pos c2]), fun t k => P1 t ?_⟩
      show Steps p.tables e below (s₁.setTop (mkF m 3 #[.val (.int p1)] [(.int (32 : Int32)), (.int p1)])) t
      refine XS.icmpYes X0.here hx rfl (pc0 := 3) (pc' := 24) rfl (hb hby d1_3) rfl (teq c2).1 (by decide) (by decide) ?_
      show Steps p.tables e below (s₁.setTop (mkF m 24 #[.val (.int p1)] [])) t
      refine XS.iconst X0.here hx rfl (hb hby d1_24) ?_
      show Steps p.tables e below (s₁.setTop (mkF m 25 #[.val (.int p1)] [(.int (1 : Int32))])) t
      refine XS.goto X0.here hx rfl (pc0 := 25) (pc' := 29) rfl (hb hby d1_25) (by decide) (by decide) ?_
      exact k
    · by_cases c3 : p1 = (10 : Int32)
      · refine ⟨(1 : Int32), (by first | rfl | rw [if_neg c2, if_pos c3] | simp only [if_neg c2, if_pos c3]), fun t k => P1 t ?_⟩
        show Steps p.tables e below (s₁.setTop (mkF m 3 #[.val (.int p1)] [(.int (32 : Int32)), (.int p1)])) t
        refine XS.icmpNo X0.here hx rfl (hb hby d1_3) rfl (feq c2).1 ?_
        show Steps p.tables e below (s₁.setTop (mkF m 6 #[.val (.int p1)] [])) t
        refine XS.iloadN X0.here hx rfl (hb hby d1_6) rfl ?_
        show Steps p.tables e below (s₁.setTop (mkF m 7 #[.val (.int p1)] [(.int p1)])) t
        refine XS.bipush X0.here hx rfl (hb hby d1_7) ?_
        show Steps p.tables e below (s₁.setTop (mkF m 9 #[.val (.int p1)] [(.int (10 : Int32)), (.int p1)])) t
        refine XS.icmpYes X0.here hx rfl (pc0 := 9) (pc' := 24) rfl (hb hby d1_9) rfl (teq c3).1 (by decide) (by decide) ?_
        show Steps p.tables e below (s₁.setTop (mkF m 24 #[.val (.int p1)] [])) t
        refine XS.iconst X0.here hx rfl (hb hby d1_24) ?_
        show Steps p.tables e below (s₁.setTop (mkF m 25 #[.val (.int p1)] [(.int (1 : Int32))])) t
        refine XS.goto X0.here hx rfl (pc0 := 25) (pc' := 29) rfl (hb hby d1_25) (by decide) (by decide) ?_
        exact k
      · by_cases c4 : p1 = (9 : Int32)
        · refine ⟨(1 : Int32), (by first | rfl | rw [if_neg c2, if_neg c3, if_pos c4] | simp only [if_neg c2, if_neg c3, if_pos c4]), fun t k => P1 t ?_⟩
          show Steps p.tables e below (s₁.setTop (mkF m 3 #[.val (.int p1)] [(.int (32 : Int32)), (.int p1)])) t
          refine XS.icmpNo X0.here hx rfl (hb hby d1_3) rfl (feq c2).1 ?_
          show Steps p.tables e below (s₁.setTop (mkF m 6 #[.val (.int p1)] [])) t
          refine XS.iloadN X0.here hx rfl (hb hby d1_6) rfl ?_
          show Steps p.tables e below (s₁.setTop (mkF m 7 #[.val (.int p1)] [(.int p1)])) t
          refine XS.bipush X0.here hx rfl (hb hby d1_7) ?_
          show Steps p.tables e below (s₁.setTop (mkF m 9 #[.val (.int p1)] [(.int (10 : Int32)), (.int p1)])) t
          refine XS.icmpNo X0.here hx rfl (hb hby d1_9) rfl (feq c3).1 ?_
          show Steps p.tables e below (s₁.setTop (mkF m 12 #[.val (.int p1)] [])) t
          refine XS.iloadN X0.here hx rfl (hb hby d1_12) rfl ?_
          show Steps p.tables e below (s₁.setTop (mkF m 13 #[.val (.int p1)] [(.int p1)])) t
          refine XS.bipush X0.here hx rfl (hb hby d1_13) ?_
          show Steps p.tables e below (s₁.setTop (mkF m 15 #[.val (.int p1)] [(.int (9 : Int32)), (.int p1)])) t
          refine XS.icmpYes X0.here hx rfl (pc0 := 15) (pc' := 24) rfl (hb hby d1_15) rfl (teq c4).1 (by decide) (by decide) ?_
          show Steps p.tables e below (s₁.setTop (mkF m 24 #[.val (.int p1)] [])) t
          refine XS.iconst X0.here hx rfl (hb hby d1_24) ?_
          show Steps p.tables e below (s₁.setTop (mkF m 25 #[.val (.int p1)] [(.int (1 : Int32))])) t
          refine XS.goto X0.here hx rfl (pc0 := 25) (pc' := 29) rfl (hb hby d1_25) (by decide) (by decide) ?_
          exact k
        · by_cases c5 : p1 = (13 : Int32)
          · refine ⟨(1 : Int32), (by first | rfl | rw [if_neg c2, if_neg c3, if_neg c4, if_pos c5] | simp only [if_neg c2, if_neg c3, if_neg c4, if_pos c5]), fun t k => P1 t ?_⟩
            show Steps p.tables e below (s₁.setTop (mkF m 3 #[.val (.int p1)] [(.int (32 : Int32)), (.int p1)])) t
            refine XS.icmpNo X0.here hx rfl (hb hby d1_3) rfl (feq c2).1 ?_
            show Steps p.tables e below (s₁.setTop (mkF m 6 #[.val (.int p1)] [])) t
            refine XS.iloadN X0.here hx rfl (hb hby d1_6) rfl ?_
            show Steps p.tables e below (s₁.setTop (mkF m 7 #[.val (.int p1)] [(.int p1)])) t
            refine XS.bipush X0.here hx rfl (hb hby d1_7) ?_
            show Steps p.tables e below (s₁.setTop (mkF m 9 #[.val (.int p1)] [(.int (10 : Int32)), (.int p1)])) t
            refine XS.icmpNo X0.here hx rfl (hb hby d1_9) rfl (feq c3).1 ?_
            show Steps p.tables e below (s₁.setTop (mkF m 12 #[.val (.int p1)] [])) t
            refine XS.iloadN X0.here hx rfl (hb hby d1_12) rfl ?_
            show Steps p.tables e below (s₁.setTop (mkF m 13 #[.val (.int p1)] [(.int p1)])) t
            refine XS.bipush X0.here hx rfl (hb hby d1_13) ?_
            show Steps p.tables e below (s₁.setTop (mkF m 15 #[.val (.int p1)] [(.int (9 : Int32)), (.int p1)])) t
            refine XS.icmpNo X0.here hx rfl (hb hby d1_15) rfl (feq c4).1 ?_
            show Steps p.tables e below (s₁.setTop (mkF m 18 #[.val (.int p1)] [])) t
            refine XS.iloadN X0.here hx rfl (hb hby d1_18) rfl ?_
            show Steps p.tables e below (s₁.setTop (mkF m 19 #[.val (.int p1)] [(.int p1)])) t
            refine XS.bipush X0.here hx rfl (hb hby d1_19) ?_
            show Steps p.tables e below (s₁.setTop (mkF m 21 #[.val (.int p1)] [(.int (13 : Int32)), (.int p1)])) t
            refine XS.icmpNo X0.here hx rfl (hb hby d1_21) rfl (teq c5).2 ?_
            show Steps p.tables e below (s₁.setTop (mkF m 24 #[.val (.int p1)] [])) t
            refine XS.iconst X0.here hx rfl (hb hby d1_24) ?_
            show Steps p.tables e below (s₁.setTop (mkF m 25 #[.val (.int p1)] [(.int (1 : Int32))])) t
            refine XS.goto X0.here hx rfl (pc0 := 25) (pc' := 29) rfl (hb hby d1_25) (by decide) (by decide) ?_
            exact k
          · refine ⟨(0 : Int32), (by first | rfl | rw [if_neg c2, if_neg c3, if_neg c4, if_neg c5] | simp only [if_neg c2, if_neg c3, if_neg c4, if_neg c5]), fun t k => P1 t ?_⟩
            show Steps p.tables e below (s₁.setTop (mkF m 3 #[.val (.int p1)] [(.int (32 : Int32)), (.int p1)])) t
            refine XS.icmpNo X0.here hx rfl (hb hby d1_3) rfl (feq c2).1 ?_
            show Steps p.tables e below (s₁.setTop (mkF m 6 #[.val (.int p1)] [])) t
            refine XS.iloadN X0.here hx rfl (hb hby d1_6) rfl ?_
            show Steps p.tables e below (s₁.setTop (mkF m 7 #[.val (.int p1)] [(.int p1)])) t
            refine XS.bipush X0.here hx rfl (hb hby d1_7) ?_
            show Steps p.tables e below (s₁.setTop (mkF m 9 #[.val (.int p1)] [(.int (10 : Int32)), (.int p1)])) t
            refine XS.icmpNo X0.here hx rfl (hb hby d1_9) rfl (feq c3).1 ?_
            show Steps p.tables e below (s₁.setTop (mkF m 12 #[.val (.int p1)] [])) t
            refine XS.iloadN X0.here hx rfl (hb hby d1_12) rfl ?_
            show Steps p.tables e below (s₁.setTop (mkF m 13 #[.val (.int p1)] [(.int p1)])) t
            refine XS.bipush X0.here hx rfl (hb hby d1_13) ?_
            show Steps p.tables e below (s₁.setTop (mkF m 15 #[.val (.int p1)] [(.int (9 : Int32)), (.int p1)])) t
            refine XS.icmpNo X0.here hx rfl (hb hby d1_15) rfl (feq c4).1 ?_
            show Steps p.tables e below (s₁.setTop (mkF m 18 #[.val (.int p1)] [])) t
            refine XS.iloadN X0.here hx rfl (hb hby d1_18) rfl ?_
            show Steps p.tables e below (s₁.setTop (mkF m 19 #[.val (.int p1)] [(.int p1)])) t
            refine XS.bipush X0.here hx rfl (hb hby d1_19) ?_
            show Steps p.tables e below (s₁.setTop (mkF m 21 #[.val (.int p1)] [(.int (13 : Int32)), (.int p1)])) t
            refine XS.icmpYes X0.here hx rfl (pc0 := 21) (pc' := 28) rfl (hb hby d1_21) rfl (feq c5).2 (by decide) (by decide) ?_
            show Steps p.tables e below (s₁.setTop (mkF m 28 #[.val (.int p1)] [])) t
            refine XS.iconst X0.here hx rfl (hb hby d1_28) ?_
            exact k
  have hz8 : nar .boolean v6 = v6 := by rw [hv6]; (repeat' split) <;> rfl
  obtain ⟨fs, hr, hrun, hended, hW, hsame⟩ := X0.leave (v := some (.int (nar .boolean v6))) (fun h => by rw [Bd.returns] at h; cases h)
  refine ⟨_, _, P7 _ ?_, hrun, hended, _, _, rfl, ?_, ⟨_, rfl⟩, hW, hsame.mono (by decide) (by decide)⟩
  · exact retN X0 hx (t := .boolean) Bd.returns (by simp) (hb hby d1_29) hr
  · show Q_rmS Z p1 h0 n0 _ s₁.heap _
    rw [e0]
    exact ⟨(by rw [hz8]; subst hv6; first | rfl | rw [] | simp only [] | simp [*]), N0, rfl⟩
def Q_rm0 (Z : State) (p1 : Int32) (p2 : Int32) (h0 : Heap) (n0 : Nat) (v : Option Value) (h : Heap) (L : List Loc) : Prop := v = some (.int (1 : Int32)) ∧ Fr n0 L
set_option maxRecDepth 65536 in
set_option maxHeartbeats 40000000 in
theorem rm0 (l : Launch) (Z : State) (a0 : Array Value) (hw : ∀ d ∈ tables_1, d.before a0 Z = true) (ws : List Jvm.Cond) (p1 : Int32) (p2 : Int32) (h0 : Heap) (n0 : Nat) (Z0 : n0 ≤ h0.size) :
    MetFree l x (head1 (Jvm.Cond.code x code maxLocals ret :: ws) room_1) (fun a U => a = #[(.int p1), (.int p2)] ∧ Z.Warmed39 U.vm ∧ U.heap = h0) (fun _ _ _ _ _ => True) (fun _ U o U' => ∃ v L, o = .returned v ∧ Q_rm0 Z p1 p2 h0 n0 v U'.heap L ∧ FrameEnd U o U' L room_1.cells room_1.slots) := by
  refine MetFree.of_bodySF (plainFor_of_name pn_1) hisR ?_
  intro p e s m args below meth c s₁ Bd hml0 hP hK
  obtain ⟨rfl, hZ, hh⟩ := hP
  have hx := Bd.exec
  have hby := Bd.bytes
  have hml : c.maxLocals = 5 := hml0
  have hown : s.vm.findClass "com/example/rootdb/rootdb/core/XmlCharsIsSpacePinLaw" = some m.cls := findClass_of_methodNamed Bd.named
  have hnm := (name_of_methodNamed Bd.named Bd.method).1
  have X0 : Stand p l e room_1 s m #[(.int p1), (.int p2)] below meth c s₁ [] 0 0 := Stand.of_body Bd
  have e0 : s₁.heap = h0 := by rw [← hh, Bd.state]; rfl
  have N0 := Fr.nil n0
  have P0 : Rch p e below (s₁.setTop (entryFrame m #[(.int p1), (.int p2)] maxLocals)) (s₁.setTop (mkF m 0 #[.val (.int p1), .val (.int p2), .unset, .unset, .unset] [])) := fun t k => castTop (by first | rfl | (simp [entryFrame, mkF, argsToLocals, Value.category, maxLocals]; done)) k
  have P1 : Rch p e below (s₁.setTop (entryFrame m #[(.int p1), (.int p2)] maxLocals)) (s₁.setTop (mkF m 2 #[.val (.int p1), .val (.int p2), .unset, .unset, .unset] [(.int (16 : Int32))])) := fun t k => P0 t (by
    show Steps p.tables e below (s₁.setTop (mkF m 0 #[.val (.int p1), .val (.int p2), .unset, .unset, .unset] [])) t
    refine XS.bipush X0.here hx rfl (hb hby at_0) ?_
    exact k)
  obtain ⟨T2, h2, k2, X2, e2, E2, A2, st2⟩ := newP X0 hx hZ (hw _ (List.mem_of_getElem? (i := 0) rfl)) e0 (g := (mkF m 2 #[.val (.int p1), .val (.int p2), .unset, .unset, .unset] [(.int (16 : Int32))])) rfl (hb hby at_2) rfl (by decide) (cap := 16) (by decide) (by decide) (by decide) (by decide)
  obtain ⟨b2, g2⟩ : ∃ z, z = h0.size := ⟨_, rfl⟩
  rw [← g2] at A2 st2
  have g_b2 : n0 ≤ b2 := Nat.le_trans Z0 (Nat.le_of_eq g2.symm)
  have sz_b2 : h0.size ≤ b2 := Nat.le_trans (Keep.refl h0 []).1 (Nat.le_of_eq g2.symm)
  have V2 : Arv Z h2 b2 k2 .int (16 : Int32) [(.int (0 : Int32)), (.int (0 : Int32)), (.int (0 : Int32)), (.int (0 : Int32)), (.int (0 : Int32)), (.int (0 : Int32)), (.int (0 : Int32)), (.int (0 : Int32)), (.int (0 : Int32)), (.int (0 : Int32)), (.int (0 : Int32)), (.int (0 : Int32)), (.int (0 : Int32)), (.int (0 : Int32)), (.int (0 : Int32)), (.int (0 : Int32))] (.int (0 : Int32)) := (Arv.new A2 (by decide)).pad (pad_rep [] (.int (0 : Int32)) 16)
  have P3 : Rch p e below (s₁.setTop (entryFrame m #[(.int p1), (.int p2)] maxLocals)) (T2.setTop (mkF m 4 #[.val (.int p1), .val (.int p2), .unset, .unset, .unset] [(.ref b2)])) := fun t k => P1 t (st2 t k)
  have P4 : Rch p e below (s₁.setTop (entryFrame m #[(.int p1), (.int p2)] maxLocals)) (T2.setTop (mkF m 8 #[.val (.int p1), .val (.int p2), .unset, .unset, .unset] [(.int (8 : Int32)), (.int (0 : Int32)), (.ref b2), (.ref b2)])) := fun t k => P3 t (by
    show Steps p.tables e below (T2.setTop (mkF m 4 #[.val (.int p1), .val (.int p2), .unset, .unset, .unset] [(.ref b2)])) t
    refine XS.dup X2.here hx rfl (hb hby at_4) rfl rfl ?_
    show Steps p.tables e below (T2.setTop (mkF m 5 #[.val (.int p1), .val (.int p2), .unset, .unset, .unset] [(.ref b2), (.ref b2)])) t
    refine XS.iconst X2.here hx rfl (hb hby at_5) ?_
    show Steps p.tables e below (T2.setTop (mkF m 6 #[.val (.int p1), .val (.int p2), .unset, .unset, .unset] [(.int (0 : Int32)), (.ref b2), (.ref b2)])) t
    refine XS.bipush X2.here hx rfl (hb hby at_6) ?_
    exact k)
  have V_o5 := V2
  obtain ⟨co5, Aro5, qo5, So5, Mo5, Ho5, Go5⟩ := V_o5
  have hin6 : ¬ ((0 : Int32) < 0 ∨ co5.slots.size ≤ ((0 : Int32)).toNatClampNeg) := inb_of So5 ⟨by decide, by decide⟩
  obtain ⟨T6, h6, X6, e6, W6, st6⟩ := stI X2 hx hZ e2 Aro5 (j := (0 : Int32)) hin6 (g := (mkF m 8 #[.val (.int p1), .val (.int p2), .unset, .unset, .unset] [(.int (8 : Int32)), (.int (0 : Int32)), (.ref b2), (.ref b2)])) rfl rfl (hb hby at_8)
  have V6 : Arv Z h6 b2 k2 .int (16 : Int32) [(.int (8 : Int32)), (.int (0 : Int32)), (.int (0 : Int32)), (.int (0 : Int32)), (.int (0 : Int32)), (.int (0 : Int32)), (.int (0 : Int32)), (.int (0 : Int32)), (.int (0 : Int32)), (.int (0 : Int32)), (.int (0 : Int32)), (.int (0 : Int32)), (.int (0 : Int32)), (.int (0 : Int32)), (.int (0 : Int32)), (.int (0 : Int32))] (.int (0 : Int32)) := Arv.set Aro5 qo5 So5 Mo5 Ho5 Go5 rfl W6 0 rfl (Nat.le_of_ble_eq_true rfl)
  have P7 : Rch p e below (s₁.setTop (entryFrame m #[(.int p1), (.int p2)] maxLocals)) (T6.setTop (mkF m 9 #[.val (.int p1), .val (.int p2), .unset, .unset, .unset] [(.ref b2)])) := fun t k => P4 t (st6 t k)
  have N6 := Fr.snoc X6 N0 g_b2
  have P8 : Rch p e below (s₁.setTop (entryFrame m #[(.int p1), (.int p2)] maxLocals)) (T6.setTop (mkF m 13 #[.val (.int p1), .val (.int p2), .unset, .unset, .unset] [(.int (9 : Int32)), (.int (1 : Int32)), (.ref b2), (.ref b2)])) := fun t k => P7 t (by
    show Steps p.tables e below (T6.setTop (mkF m 9 #[.val (.int p1), .val (.int p2), .unset, .unset, .unset] [(.ref b2)])) t
    refine XS.dup X6.here hx rfl (hb hby at_9) rfl rfl ?_
    show Steps p.tables e below (T6.setTop (mkF m 10 #[.val (.int p1), .val (.int p2), .unset, .unset, .unset] [(.ref b2), (.ref b2)])) t
    refine XS.iconst X6.here hx rfl (hb hby at_10) ?_
    show Steps p.tables e below (T6.setTop (mkF m 11 #[.val (.int p1), .val (.int p2), .unset, .unset, .unset] [(.int (1 : Int32)), (.ref b2), (.ref b2)])) t
    refine XS.bipush X6.here hx rfl (hb hby at_11) ?_
    exact k)
  have V_o9 := V6
  obtain ⟨co9, Aro9, qo9, So9, Mo9, Ho9, Go9⟩ := V_o9
  have hin10 : ¬ ((1 : Int32) < 0 ∨ co9.slots.size ≤ ((1 : Int32)).toNatClampNeg) := inb_of So9 ⟨by decide, by decide⟩
  obtain ⟨T10, h10, X10, e10, W10, st10⟩ := stI X6 hx hZ e6 Aro9 (j := (1 : Int32)) hin10 (g := (mkF m 13 #[.val (.int p1), .val (.int p2), .unset, .unset, .unset] [(.int (9 : Int32)), (.int (1 : Int32)), (.ref b2), (.ref b2)])) rfl rfl (hb hby at_13)
  have V10 : Arv Z h10 b2 k2 .int (16 : Int32) [(.int (8 : Int32)), (.int (9 : Int32)), (.int (0 : Int32)), (.int (0 : Int32)), (.int (0 : Int32)), (.int (0 : Int32)), (.int (0 : Int32)), (.int (0 : Int32)), (.int (0 : Int32)), (.int (0 : Int32)), (.int (0 : Int32)), (.int (0 : Int32)), (.int (0 : Int32)), (.int (0 : Int32)), (.int (0 : Int32)), (.int (0 : Int32))] (.int (0 : Int32)) := Arv.set Aro9 qo9 So9 Mo9 Ho9 Go9 rfl W10 1 rfl (Nat.le_of_ble_eq_true rfl)
  have P11 : Rch p e below (s₁.setTop (entryFrame m #[(.int p1), (.int p2)] maxLocals)) (T10.setTop (mkF m 14 #[.val (.int p1), .val (.int p2), .unset, .unset, .unset] [(.ref b2)])) := fun t k => P8 t (st10 t k)
  have N10 := Fr.snoc X10 N6 g_b2
  have P12 : Rch p e below (s₁.setTop (entryFrame m #[(.int p1), (.int p2)] maxLocals)) (T10.setTop (mkF m 18 #[.val (.int p1), .val (.int p2), .unset, .unset, .unset] [(.int (10 : Int32)), (.int (2 : Int32)), (.ref b2), (.ref b2)])) := fun t k => P11 t (by
    show Steps p.tables e below (T10.setTop (mkF m 14 #[.val (.int p1), .val (.int p2), .unset, .unset, .unset] [(.ref b2)])) t
    refine XS.dup X10.here hx rfl (hb hby at_14) rfl rfl ?_
    show Steps p.tables e below (T10.setTop (mkF m 15 #[.val (.int p1), .val (.int p2), .unset, .unset, .unset] [(.ref b2), (.ref b2)])) t
    refine XS.iconst X10.here hx rfl (hb hby at_15) ?_
    show Steps p.tables e below (T10.setTop (mkF m 16 #[.val (.int p1), .val (.int p2), .unset, .unset, .unset] [(.int (2 : Int32)), (.ref b2), (.ref b2)])) t
    refine XS.bipush X10.here hx rfl (hb hby at_16) ?_
    exact k)
  have V_o13 := V10
  obtain ⟨co13, Aro13, qo13, So13, Mo13, Ho13, Go13⟩ := V_o13
  have hin14 : ¬ ((2 : Int32) < 0 ∨ co13.slots.size ≤ ((2 : Int32)).toNatClampNeg) := inb_of So13 ⟨by decide, by decide⟩
  obtain ⟨T14, h14, X14, e14, W14, st14⟩ := stI X10 hx hZ e10 Aro13 (j := (2 : Int32)) hin14 (g := (mkF m 18 #[.val (.int p1), .val (.int p2), .unset, .unset, .unset] [(.int (10 : Int32)), (.int (2 : Int32)), (.ref b2), (.ref b2)])) rfl rfl (hb hby at_18)
  have V14 : Arv Z h14 b2 k2 .int (16 : Int32) [(.int (8 : Int32)), (.int (9 : Int32)), (.int (10 : Int32)), (.int (0 : Int32)), (.int (0 : Int32)), (.int (0 : Int32)), (.int (0 : Int32)), (.int (0 : Int32)), (.int (0 : Int32)), (.int (0 : Int32)), (.int (0 : Int32)), (.int (0 : Int32)), (.int (0 : Int32)), (.int (0 : Int32)), (.int (0 : Int32)), (.int (0 : Int32))] (.int (0 : Int32)) := Arv.set Aro13 qo13 So13 Mo13 Ho13 Go13 rfl W14 2 rfl (Nat.le_of_ble_eq_true rfl)
  have P15 : Rch p e below (s₁.setTop (entryFrame m #[(.int p1), (.int p2)] maxLocals)) (T14.setTop (mkF m 19 #[.val (.int p1), .val (.int p2), .unset, .unset, .unset] [(.ref b2)])) := fun t k => P12 t (st14 t k)
  have N14 := Fr.snoc X14 N10 g_b2
  have P16 : Rch p e below (s₁.setTop (entryFrame m #[(.int p1), (.int p2)] maxLocals)) (T14.setTop (mkF m 23 #[.val (.int p1), .val (.int p2), .unset, .unset, .unset] [(.int (11 : Int32)), (.int (3 : Int32)), (.ref b2), (.ref b2)])) := fun t k => P15 t (by
    show Steps p.tables e below (T14.setTop (mkF m 19 #[.val (.int p1), .val (.int p2), .unset, .unset, .unset] [(.ref b2)])) t
    refine XS.dup X14.here hx rfl (hb hby at_19) rfl rfl ?_
    show Steps p.tables e below (T14.setTop (mkF m 20 #[.val (.int p1), .val (.int p2), .unset, .unset, .unset] [(.ref b2), (.ref b2)])) t
    refine XS.iconst X14.here hx rfl (hb hby at_20) ?_
    show Steps p.tables e below (T14.setTop (mkF m 21 #[.val (.int p1), .val (.int p2), .unset, .unset, .unset] [(.int (3 : Int32)), (.ref b2), (.ref b2)])) t
    refine XS.bipush X14.here hx rfl (hb hby at_21) ?_
    exact k)
  have V_o17 := V14
  obtain ⟨co17, Aro17, qo17, So17, Mo17, Ho17, Go17⟩ := V_o17
  have hin18 : ¬ ((3 : Int32) < 0 ∨ co17.slots.size ≤ ((3 : Int32)).toNatClampNeg) := inb_of So17 ⟨by decide, by decide⟩
  obtain ⟨T18, h18, X18, e18, W18, st18⟩ := stI X14 hx hZ e14 Aro17 (j := (3 : Int32)) hin18 (g := (mkF m 23 #[.val (.int p1), .val (.int p2), .unset, .unset, .unset] [(.int (11 : Int32)), (.int (3 : Int32)), (.ref b2), (.ref b2)])) rfl rfl (hb hby at_23)
  have V18 : Arv Z h18 b2 k2 .int (16 : Int32) [(.int (8 : Int32)), (.int (9 : Int32)), (.int (10 : Int32)), (.int (11 : Int32)), (.int (0 : Int32)), (.int (0 : Int32)), (.int (0 : Int32)), (.int (0 : Int32)), (.int (0 : Int32)), (.int (0 : Int32)), (.int (0 : Int32)), (.int (0 : Int32)), (.int (0 : Int32)), (.int (0 : Int32)), (.int (0 : Int32)), (.int (0 : Int32))] (.int (0 : Int32)) := Arv.set Aro17 qo17 So17 Mo17 Ho17 Go17 rfl W18 3 rfl (Nat.le_of_ble_eq_true rfl)
  have P19 : Rch p e below (s₁.setTop (entryFrame m #[(.int p1), (.int p2)] maxLocals)) (T18.setTop (mkF m 24 #[.val (.int p1), .val (.int p2), .unset, .unset, .unset] [(.ref b2)])) := fun t k => P16 t (st18 t k)
  have N18 := Fr.snoc X18 N14 g_b2
  have P20 : Rch p e below (s₁.setTop (entryFrame m #[(.int p1), (.int p2)] maxLocals)) (T18.setTop (mkF m 28 #[.val (.int p1), .val (.int p2), .unset, .unset, .unset] [(.int (12 : Int32)), (.int (4 : Int32)), (.ref b2), (.ref b2)])) := fun t k => P19 t (by
    show Steps p.tables e below (T18.setTop (mkF m 24 #[.val (.int p1), .val (.int p2), .unset, .unset, .unset] [(.ref b2)])) t
    refine XS.dup X18.here hx rfl (hb hby at_24) rfl rfl ?_
    show Steps p.tables e below (T18.setTop (mkF m 25 #[.val (.int p1), .val (.int p2), .unset, .unset, .unset] [(.ref b2), (.ref b2)])) t
    refine XS.iconst X18.here hx rfl (hb hby at_25) ?_
    show Steps p.tables e below (T18.setTop (mkF m 26 #[.val (.int p1), .val (.int p2), .unset, .unset, .unset] [(.int (4 : Int32)), (.ref b2), (.ref b2)])) t
    refine XS.bipush X18.here hx rfl (hb hby at_26) ?_
    exact k)
  have V_o21 := V18
  obtain ⟨co21, Aro21, qo21, So21, Mo21, Ho21, Go21⟩ := V_o21
  have hin22 : ¬ ((4 : Int32) < 0 ∨ co21.slots.size ≤ ((4 : Int32)).toNatClampNeg) := inb_of So21 ⟨by decide, by decide⟩
  obtain ⟨T22, h22, X22, e22, W22, st22⟩ := stI X18 hx hZ e18 Aro21 (j := (4 : Int32)) hin22 (g := (mkF m 28 #[.val (.int p1), .val (.int p2), .unset, .unset, .unset] [(.int (12 : Int32)), (.int (4 : Int32)), (.ref b2), (.ref b2)])) rfl rfl (hb hby at_28)
  have V22 : Arv Z h22 b2 k2 .int (16 : Int32) [(.int (8 : Int32)), (.int (9 : Int32)), (.int (10 : Int32)), (.int (11 : Int32)), (.int (12 : Int32)), (.int (0 : Int32)), (.int (0 : Int32)), (.int (0 : Int32)), (.int (0 : Int32)), (.int (0 : Int32)), (.int (0 : Int32)), (.int (0 : Int32)), (.int (0 : Int32)), (.int (0 : Int32)), (.int (0 : Int32)), (.int (0 : Int32))] (.int (0 : Int32)) := Arv.set Aro21 qo21 So21 Mo21 Ho21 Go21 rfl W22 4 rfl (Nat.le_of_ble_eq_true rfl)
  have P23 : Rch p e below (s₁.setTop (entryFrame m #[(.int p1), (.int p2)] maxLocals)) (T22.setTop (mkF m 29 #[.val (.int p1), .val (.int p2), .unset, .unset, .unset] [(.ref b2)])) := fun t k => P20 t (st22 t k)
  have N22 := Fr.snoc X22 N18 g_b2
  have P24 : Rch p e below (s₁.setTop (entryFrame m #[(.int p1), (.int p2)] maxLocals)) (T22.setTop (mkF m 33 #[.val (.int p1), .val (.int p2), .unset, .unset, .unset] [(.int (13 : Int32)), (.int (5 : Int32)), (.ref b2), (.ref b2)])) := fun t k => P23 t (by
    show Steps p.tables e below (T22.setTop (mkF m 29 #[.val (.int p1), .val (.int p2), .unset, .unset, .unset] [(.ref b2)])) t
    refine XS.dup X22.here hx rfl (hb hby at_29) rfl rfl ?_
    show Steps p.tables e below (T22.setTop (mkF m 30 #[.val (.int p1), .val (.int p2), .unset, .unset, .unset] [(.ref b2), (.ref b2)])) t
    refine XS.iconst X22.here hx rfl (hb hby at_30) ?_
    show Steps p.tables e below (T22.setTop (mkF m 31 #[.val (.int p1), .val (.int p2), .unset, .unset, .unset] [(.int (5 : Int32)), (.ref b2), (.ref b2)])) t
    refine XS.bipush X22.here hx rfl (hb hby at_31) ?_
    exact k)
  have V_o25 := V22
  obtain ⟨co25, Aro25, qo25, So25, Mo25, Ho25, Go25⟩ := V_o25
  have hin26 : ¬ ((5 : Int32) < 0 ∨ co25.slots.size ≤ ((5 : Int32)).toNatClampNeg) := inb_of So25 ⟨by decide, by decide⟩
  obtain ⟨T26, h26, X26, e26, W26, st26⟩ := stI X22 hx hZ e22 Aro25 (j := (5 : Int32)) hin26 (g := (mkF m 33 #[.val (.int p1), .val (.int p2), .unset, .unset, .unset] [(.int (13 : Int32)), (.int (5 : Int32)), (.ref b2), (.ref b2)])) rfl rfl (hb hby at_33)
  have V26 : Arv Z h26 b2 k2 .int (16 : Int32) [(.int (8 : Int32)), (.int (9 : Int32)), (.int (10 : Int32)), (.int (11 : Int32)), (.int (12 : Int32)), (.int (13 : Int32)), (.int (0 : Int32)), (.int (0 : Int32)), (.int (0 : Int32)), (.int (0 : Int32)), (.int (0 : Int32)), (.int (0 : Int32)), (.int (0 : Int32)), (.int (0 : Int32)), (.int (0 : Int32)), (.int (0 : Int32))] (.int (0 : Int32)) := Arv.set Aro25 qo25 So25 Mo25 Ho25 Go25 rfl W26 5 rfl (Nat.le_of_ble_eq_true rfl)
  have P27 : Rch p e below (s₁.setTop (entryFrame m #[(.int p1), (.int p2)] maxLocals)) (T26.setTop (mkF m 34 #[.val (.int p1), .val (.int p2), .unset, .unset, .unset] [(.ref b2)])) := fun t k => P24 t (st26 t k)
  have N26 := Fr.snoc X26 N22 g_b2
  have P28 : Rch p e below (s₁.setTop (entryFrame m #[(.int p1), (.int p2)] maxLocals)) (T26.setTop (mkF m 39 #[.val (.int p1), .val (.int p2), .unset, .unset, .unset] [(.int (14 : Int32)), (.int (6 : Int32)), (.ref b2), (.ref b2)])) := fun t k => P27 t (by
    show Steps p.tables e below (T26.setTop (mkF m 34 #[.val (.int p1), .val (.int p2), .unset, .unset, .unset] [(.ref b2)])) t
    refine XS.dup X26.here hx rfl (hb hby at_34) rfl rfl ?_
    show Steps p.tables e below (T26.setTop (mkF m 35 #[.val (.int p1), .val (.int p2), .unset, .unset, .unset] [(.ref b2), (.ref b2)])) t
    refine XS.bipush X26.here hx rfl (hb hby at_35) ?_
    show Steps p.tables e below (T26.setTop (mkF m 37 #[.val (.int p1), .val (.int p2), .unset, .unset, .unset] [(.int (6 : Int32)), (.ref b2), (.ref b2)])) t
    refine XS.bipush X26.here hx rfl (hb hby at_37) ?_
    exact k)
  have V_o29 := V26
  obtain ⟨co29, Aro29, qo29, So29, Mo29, Ho29, Go29⟩ := V_o29
  have hin30 : ¬ ((6 : Int32) < 0 ∨ co29.slots.size ≤ ((6 : Int32)).toNatClampNeg) := inb_of So29 ⟨by decide, by decide⟩
  obtain ⟨T30, h30, X30, e30, W30, st30⟩ := stI X26 hx hZ e26 Aro29 (j := (6 : Int32)) hin30 (g := (mkF m 39 #[.val (.int p1), .val (.int p2), .unset, .unset, .unset] [(.int (14 : Int32)), (.int (6 : Int32)), (.ref b2), (.ref b2)])) rfl rfl (hb hby at_39)
  have V30 : Arv Z h30 b2 k2 .int (16 : Int32) [(.int (8 : Int32)), (.int (9 : Int32)), (.int (10 : Int32)), (.int (11 : Int32)), (.int (12 : Int32)), (.int (13 : Int32)), (.int (14 : Int32)), (.int (0 : Int32)), (.int (0 : Int32)), (.int (0 : Int32)), (.int (0 : Int32)), (.int (0 : Int32)), (.int (0 : Int32)), (.int (0 : Int32)), (.int (0 : Int32)), (.int (0 : Int32))] (.int (0 : Int32)) := Arv.set Aro29 qo29 So29 Mo29 Ho29 Go29 rfl W30 6 rfl (Nat.le_of_ble_eq_true rfl)
  have P31 : Rch p e below (s₁.setTop (entryFrame m #[(.int p1), (.int p2)] maxLocals)) (T30.setTop (mkF m 40 #[.val (.int p1), .val (.int p2), .unset, .unset, .unset] [(.ref b2)])) := fun t k => P28 t (st30 t k)
  have N30 := Fr.snoc X30 N26 g_b2
  have P32 : Rch p e below (s₁.setTop (entryFrame m #[(.int p1), (.int p2)] maxLocals)) (T30.setTop (mkF m 45 #[.val (.int p1), .val (.int p2), .unset, .unset, .unset] [(.int (31 : Int32)), (.int (7 : Int32)), (.ref b2), (.ref b2)])) := fun t k => P31 t (by
    show Steps p.tables e below (T30.setTop (mkF m 40 #[.val (.int p1), .val (.int p2), .unset, .unset, .unset] [(.ref b2)])) t
    refine XS.dup X30.here hx rfl (hb hby at_40) rfl rfl ?_
    show Steps p.tables e below (T30.setTop (mkF m 41 #[.val (.int p1), .val (.int p2), .unset, .unset, .unset] [(.ref b2), (.ref b2)])) t
    refine XS.bipush X30.here hx rfl (hb hby at_41) ?_
    show Steps p.tables e below (T30.setTop (mkF m 43 #[.val (.int p1), .val (.int p2), .unset, .unset, .unset] [(.int (7 : Int32)), (.ref b2), (.ref b2)])) t
    refine XS.bipush X30.here hx rfl (hb hby at_43) ?_
    exact k)
  have V_o33 := V30
  obtain ⟨co33, Aro33, qo33, So33, Mo33, Ho33, Go33⟩ := V_o33
  have hin34 : ¬ ((7 : Int32) < 0 ∨ co33.slots.size ≤ ((7 : Int32)).toNatClampNeg) := inb_of So33 ⟨by decide, by decide⟩
  obtain ⟨T34, h34, X34, e34, W34, st34⟩ := stI X30 hx hZ e30 Aro33 (j := (7 : Int32)) hin34 (g := (mkF m 45 #[.val (.int p1), .val (.int p2), .unset, .unset, .unset] [(.int (31 : Int32)), (.int (7 : Int32)), (.ref b2), (.ref b2)])) rfl rfl (hb hby at_45)
  have V34 : Arv Z h34 b2 k2 .int (16 : Int32) [(.int (8 : Int32)), (.int (9 : Int32)), (.int (10 : Int32)), (.int (11 : Int32)), (.int (12 : Int32)), (.int (13 : Int32)), (.int (14 : Int32)), (.int (31 : Int32)), (.int (0 : Int32)), (.int (0 : Int32)), (.int (0 : Int32)), (.int (0 : Int32)), (.int (0 : Int32)), (.int (0 : Int32)), (.int (0 : Int32)), (.int (0 : Int32))] (.int (0 : Int32)) := Arv.set Aro33 qo33 So33 Mo33 Ho33 Go33 rfl W34 7 rfl (Nat.le_of_ble_eq_true rfl)
  have P35 : Rch p e below (s₁.setTop (entryFrame m #[(.int p1), (.int p2)] maxLocals)) (T34.setTop (mkF m 46 #[.val (.int p1), .val (.int p2), .unset, .unset, .unset] [(.ref b2)])) := fun t k => P32 t (st34 t k)
  have N34 := Fr.snoc X34 N30 g_b2
  have P36 : Rch p e below (s₁.setTop (entryFrame m #[(.int p1), (.int p2)] maxLocals)) (T34.setTop (mkF m 51 #[.val (.int p1), .val (.int p2), .unset, .unset, .unset] [(.int (32 : Int32)), (.int (8 : Int32)), (.ref b2), (.ref b2)])) := fun t k => P35 t (by
    show Steps p.tables e below (T34.setTop (mkF m 46 #[.val (.int p1), .val (.int p2), .unset, .unset, .unset] [(.ref b2)])) t
    refine XS.dup X34.here hx rfl (hb hby at_46) rfl rfl ?_
    show Steps p.tables e below (T34.setTop (mkF m 47 #[.val (.int p1), .val (.int p2), .unset, .unset, .unset] [(.ref b2), (.ref b2)])) t
    refine XS.bipush X34.here hx rfl (hb hby at_47) ?_
    show Steps p.tables e below (T34.setTop (mkF m 49 #[.val (.int p1), .val (.int p2), .unset, .unset, .unset] [(.int (8 : Int32)), (.ref b2), (.ref b2)])) t
    refine XS.bipush X34.here hx rfl (hb hby at_49) ?_
    exact k)
  have V_o37 := V34
  obtain ⟨co37, Aro37, qo37, So37, Mo37, Ho37, Go37⟩ := V_o37
  have hin38 : ¬ ((8 : Int32) < 0 ∨ co37.slots.size ≤ ((8 : Int32)).toNatClampNeg) := inb_of So37 ⟨by decide, by decide⟩
  obtain ⟨T38, h38, X38, e38, W38, st38⟩ := stI X34 hx hZ e34 Aro37 (j := (8 : Int32)) hin38 (g := (mkF m 51 #[.val (.int p1), .val (.int p2), .unset, .unset, .unset] [(.int (32 : Int32)), (.int (8 : Int32)), (.ref b2), (.ref b2)])) rfl rfl (hb hby at_51)
  have V38 : Arv Z h38 b2 k2 .int (16 : Int32) [(.int (8 : Int32)), (.int (9 : Int32)), (.int (10 : Int32)), (.int (11 : Int32)), (.int (12 : Int32)), (.int (13 : Int32)), (.int (14 : Int32)), (.int (31 : Int32)), (.int (32 : Int32)), (.int (0 : Int32)), (.int (0 : Int32)), (.int (0 : Int32)), (.int (0 : Int32)), (.int (0 : Int32)), (.int (0 : Int32)), (.int (0 : Int32))] (.int (0 : Int32)) := Arv.set Aro37 qo37 So37 Mo37 Ho37 Go37 rfl W38 8 rfl (Nat.le_of_ble_eq_true rfl)
  have P39 : Rch p e below (s₁.setTop (entryFrame m #[(.int p1), (.int p2)] maxLocals)) (T38.setTop (mkF m 52 #[.val (.int p1), .val (.int p2), .unset, .unset, .unset] [(.ref b2)])) := fun t k => P36 t (st38 t k)
  have N38 := Fr.snoc X38 N34 g_b2
  have P40 : Rch p e below (s₁.setTop (entryFrame m #[(.int p1), (.int p2)] maxLocals)) (T38.setTop (mkF m 57 #[.val (.int p1), .val (.int p2), .unset, .unset, .unset] [(.int (33 : Int32)), (.int (9 : Int32)), (.ref b2), (.ref b2)])) := fun t k => P39 t (by
    show Steps p.tables e below (T38.setTop (mkF m 52 #[.val (.int p1), .val (.int p2), .unset, .unset, .unset] [(.ref b2)])) t
    refine XS.dup X38.here hx rfl (hb hby at_52) rfl rfl ?_
    show Steps p.tables e below (T38.setTop (mkF m 53 #[.val (.int p1), .val (.int p2), .unset, .unset, .unset] [(.ref b2), (.ref b2)])) t
    refine XS.bipush X38.here hx rfl (hb hby at_53) ?_
    show Steps p.tables e below (T38.setTop (mkF m 55 #[.val (.int p1), .val (.int p2), .unset, .unset, .unset] [(.int (9 : Int32)), (.ref b2), (.ref b2)])) t
    refine XS.bipush X38.here hx rfl (hb hby at_55) ?_
    exact k)
  have V_o41 := V38
  obtain ⟨co41, Aro41, qo41, So41, Mo41, Ho41, Go41⟩ := V_o41
  have hin42 : ¬ ((9 : Int32) < 0 ∨ co41.slots.size ≤ ((9 : Int32)).toNatClampNeg) := inb_of So41 ⟨by decide, by decide⟩
  obtain ⟨T42, h42, X42, e42, W42, st42⟩ := stI X38 hx hZ e38 Aro41 (j := (9 : Int32)) hin42 (g := (mkF m 57 #[.val (.int p1), .val (.int p2), .unset, .unset, .unset] [(.int (33 : Int32)), (.int (9 : Int32)), (.ref b2), (.ref b2)])) rfl rfl (hb hby at_57)
  have V42 : Arv Z h42 b2 k2 .int (16 : Int32) [(.int (8 : Int32)), (.int (9 : Int32)), (.int (10 : Int32)), (.int (11 : Int32)), (.int (12 : Int32)), (.int (13 : Int32)), (.int (14 : Int32)), (.int (31 : Int32)), (.int (32 : Int32)), (.int (33 : Int32)), (.int (0 : Int32)), (.int (0 : Int32)), (.int (0 : Int32)), (.int (0 : Int32)), (.int (0 : Int32)), (.int (0 : Int32))] (.int (0 : Int32)) := Arv.set Aro41 qo41 So41 Mo41 Ho41 Go41 rfl W42 9 rfl (Nat.le_of_ble_eq_true rfl)
  have P43 : Rch p e below (s₁.setTop (entryFrame m #[(.int p1), (.int p2)] maxLocals)) (T42.setTop (mkF m 58 #[.val (.int p1), .val (.int p2), .unset, .unset, .unset] [(.ref b2)])) := fun t k => P40 t (st42 t k)
  have N42 := Fr.snoc X42 N38 g_b2
  have P44 : Rch p e below (s₁.setTop (entryFrame m #[(.int p1), (.int p2)] maxLocals)) (T42.setTop (mkF m 62 #[.val (.int p1), .val (.int p2), .unset, .unset, .unset] [(.int (0 : Int32)), (.int (10 : Int32)), (.ref b2), (.ref b2)])) := fun t k => P43 t (by
    show Steps p.tables e below (T42.setTop (mkF m 58 #[.val (.int p1), .val (.int p2), .unset, .unset, .unset] [(.ref b2)])) t
    refine XS.dup X42.here hx rfl (hb hby at_58) rfl rfl ?_
    show Steps p.tables e below (T42.setTop (mkF m 59 #[.val (.int p1), .val (.int p2), .unset, .unset, .unset] [(.ref b2), (.ref b2)])) t
    refine XS.bipush X42.here hx rfl (hb hby at_59) ?_
    show Steps p.tables e below (T42.setTop (mkF m 61 #[.val (.int p1), .val (.int p2), .unset, .unset, .unset] [(.int (10 : Int32)), (.ref b2), (.ref b2)])) t
    refine XS.iconst X42.here hx rfl (hb hby at_61) ?_
    exact k)
  have V_o45 := V42
  obtain ⟨co45, Aro45, qo45, So45, Mo45, Ho45, Go45⟩ := V_o45
  have hin46 : ¬ ((10 : Int32) < 0 ∨ co45.slots.size ≤ ((10 : Int32)).toNatClampNeg) := inb_of So45 ⟨by decide, by decide⟩
  obtain ⟨T46, h46, X46, e46, W46, st46⟩ := stI X42 hx hZ e42 Aro45 (j := (10 : Int32)) hin46 (g := (mkF m 62 #[.val (.int p1), .val (.int p2), .unset, .unset, .unset] [(.int (0 : Int32)), (.int (10 : Int32)), (.ref b2), (.ref b2)])) rfl rfl (hb hby at_62)
  have V46 : Arv Z h46 b2 k2 .int (16 : Int32) [(.int (8 : Int32)), (.int (9 : Int32)), (.int (10 : Int32)), (.int (11 : Int32)), (.int (12 : Int32)), (.int (13 : Int32)), (.int (14 : Int32)), (.int (31 : Int32)), (.int (32 : Int32)), (.int (33 : Int32)), (.int (0 : Int32)), (.int (0 : Int32)), (.int (0 : Int32)), (.int (0 : Int32)), (.int (0 : Int32)), (.int (0 : Int32))] (.int (0 : Int32)) := Arv.set Aro45 qo45 So45 Mo45 Ho45 Go45 rfl W46 10 rfl (Nat.le_of_ble_eq_true rfl)
  have P47 : Rch p e below (s₁.setTop (entryFrame m #[(.int p1), (.int p2)] maxLocals)) (T46.setTop (mkF m 63 #[.val (.int p1), .val (.int p2), .unset, .unset, .unset] [(.ref b2)])) := fun t k => P44 t (st46 t k)
  have N46 := Fr.snoc X46 N42 g_b2
  have P48 : Rch p e below (s₁.setTop (entryFrame m #[(.int p1), (.int p2)] maxLocals)) (T46.setTop (mkF m 67 #[.val (.int p1), .val (.int p2), .unset, .unset, .unset] [(.int (-1 : Int32)), (.int (11 : Int32)), (.ref b2), (.ref b2)])) := fun t k => P47 t (by
    show Steps p.tables e below (T46.setTop (mkF m 63 #[.val (.int p1), .val (.int p2), .unset, .unset, .unset] [(.ref b2)])) t
    refine XS.dup X46.here hx rfl (hb hby at_63) rfl rfl ?_
    show Steps p.tables e below (T46.setTop (mkF m 64 #[.val (.int p1), .val (.int p2), .unset, .unset, .unset] [(.ref b2), (.ref b2)])) t
    refine XS.bipush X46.here hx rfl (hb hby at_64) ?_
    show Steps p.tables e below (T46.setTop (mkF m 66 #[.val (.int p1), .val (.int p2), .unset, .unset, .unset] [(.int (11 : Int32)), (.ref b2), (.ref b2)])) t
    refine XS.iconst X46.here hx rfl (hb hby at_66) ?_
    exact k)
  have V_o49 := V46
  obtain ⟨co49, Aro49, qo49, So49, Mo49, Ho49, Go49⟩ := V_o49
  have hin50 : ¬ ((11 : Int32) < 0 ∨ co49.slots.size ≤ ((11 : Int32)).toNatClampNeg) := inb_of So49 ⟨by decide, by decide⟩
  obtain ⟨T50, h50, X50, e50, W50, st50⟩ := stI X46 hx hZ e46 Aro49 (j := (11 : Int32)) hin50 (g := (mkF m 67 #[.val (.int p1), .val (.int p2), .unset, .unset, .unset] [(.int (-1 : Int32)), (.int (11 : Int32)), (.ref b2), (.ref b2)])) rfl rfl (hb hby at_67)
  have V50 : Arv Z h50 b2 k2 .int (16 : Int32) [(.int (8 : Int32)), (.int (9 : Int32)), (.int (10 : Int32)), (.int (11 : Int32)), (.int (12 : Int32)), (.int (13 : Int32)), (.int (14 : Int32)), (.int (31 : Int32)), (.int (32 : Int32)), (.int (33 : Int32)), (.int (0 : Int32)), (.int (-1 : Int32)), (.int (0 : Int32)), (.int (0 : Int32)), (.int (0 : Int32)), (.int (0 : Int32))] (.int (0 : Int32)) := Arv.set Aro49 qo49 So49 Mo49 Ho49 Go49 rfl W50 11 rfl (Nat.le_of_ble_eq_true rfl)
  have P51 : Rch p e below (s₁.setTop (entryFrame m #[(.int p1), (.int p2)] maxLocals)) (T50.setTop (mkF m 68 #[.val (.int p1), .val (.int p2), .unset, .unset, .unset] [(.ref b2)])) := fun t k => P48 t (st50 t k)
  have N50 := Fr.snoc X50 N46 g_b2
  have P52 : Rch p e below (s₁.setTop (entryFrame m #[(.int p1), (.int p2)] maxLocals)) (T50.setTop (mkF m 74 #[.val (.int p1), .val (.int p2), .unset, .unset, .unset] [(.int (133 : Int32)), (.int (12 : Int32)), (.ref b2), (.ref b2)])) := fun t k => P51 t (by
    show Steps p.tables e below (T50.setTop (mkF m 68 #[.val (.int p1), .val (.int p2), .unset, .unset, .unset] [(.ref b2)])) t
    refine XS.dup X50.here hx rfl (hb hby at_68) rfl rfl ?_
    show Steps p.tables e below (T50.setTop (mkF m 69 #[.val (.int p1), .val (.int p2), .unset, .unset, .unset] [(.ref b2), (.ref b2)])) t
    refine XS.bipush X50.here hx rfl (hb hby at_69) ?_
    show Steps p.tables e below (T50.setTop (mkF m 71 #[.val (.int p1), .val (.int p2), .unset, .unset, .unset] [(.int (12 : Int32)), (.ref b2), (.ref b2)])) t
    refine XS.sipush X50.here hx rfl (hb hby at_71) ?_
    exact k)
  have V_o53 := V50
  obtain ⟨co53, Aro53, qo53, So53, Mo53, Ho53, Go53⟩ := V_o53
  have hin54 : ¬ ((12 : Int32) < 0 ∨ co53.slots.size ≤ ((12 : Int32)).toNatClampNeg) := inb_of So53 ⟨by decide, by decide⟩
  obtain ⟨T54, h54, X54, e54, W54, st54⟩ := stI X50 hx hZ e50 Aro53 (j := (12 : Int32)) hin54 (g := (mkF m 74 #[.val (.int p1), .val (.int p2), .unset, .unset, .unset] [(.int (133 : Int32)), (.int (12 : Int32)), (.ref b2), (.ref b2)])) rfl rfl (hb hby at_74)
  have V54 : Arv Z h54 b2 k2 .int (16 : Int32) [(.int (8 : Int32)), (.int (9 : Int32)), (.int (10 : Int32)), (.int (11 : Int32)), (.int (12 : Int32)), (.int (13 : Int32)), (.int (14 : Int32)), (.int (31 : Int32)), (.int (32 : Int32)), (.int (33 : Int32)), (.int (0 : Int32)), (.int (-1 : Int32)), (.int (133 : Int32)), (.int (0 : Int32)), (.int (0 : Int32)), (.int (0 : Int32))] (.int (0 : Int32)) := Arv.set Aro53 qo53 So53 Mo53 Ho53 Go53 rfl W54 12 rfl (Nat.le_of_ble_eq_true rfl)
  have P55 : Rch p e below (s₁.setTop (entryFrame m #[(.int p1), (.int p2)] maxLocals)) (T54.setTop (mkF m 75 #[.val (.int p1), .val (.int p2), .unset, .unset, .unset] [(.ref b2)])) := fun t k => P52 t (st54 t k)
  have N54 := Fr.snoc X54 N50 g_b2
  have P56 : Rch p e below (s₁.setTop (entryFrame m #[(.int p1), (.int p2)] maxLocals)) (T54.setTop (mkF m 81 #[.val (.int p1), .val (.int p2), .unset, .unset, .unset] [(.int (160 : Int32)), (.int (13 : Int32)), (.ref b2), (.ref b2)])) := fun t k => P55 t (by
    show Steps p.tables e below (T54.setTop (mkF m 75 #[.val (.int p1), .val (.int p2), .unset, .unset, .unset] [(.ref b2)])) t
    refine XS.dup X54.here hx rfl (hb hby at_75) rfl rfl ?_
    show Steps p.tables e below (T54.setTop (mkF m 76 #[.val (.int p1), .val (.int p2), .unset, .unset, .unset] [(.ref b2), (.ref b2)])) t
    refine XS.bipush X54.here hx rfl (hb hby at_76) ?_
    show Steps p.tables e below (T54.setTop (mkF m 78 #[.val (.int p1), .val (.int p2), .unset, .unset, .unset] [(.int (13 : Int32)), (.ref b2), (.ref b2)])) t
    refine XS.sipush X54.here hx rfl (hb hby at_78) ?_
    exact k)
  have V_o57 := V54
  obtain ⟨co57, Aro57, qo57, So57, Mo57, Ho57, Go57⟩ := V_o57
  have hin58 : ¬ ((13 : Int32) < 0 ∨ co57.slots.size ≤ ((13 : Int32)).toNatClampNeg) := inb_of So57 ⟨by decide, by decide⟩
  obtain ⟨T58, h58, X58, e58, W58, st58⟩ := stI X54 hx hZ e54 Aro57 (j := (13 : Int32)) hin58 (g := (mkF m 81 #[.val (.int p1), .val (.int p2), .unset, .unset, .unset] [(.int (160 : Int32)), (.int (13 : Int32)), (.ref b2), (.ref b2)])) rfl rfl (hb hby at_81)
  have V58 : Arv Z h58 b2 k2 .int (16 : Int32) [(.int (8 : Int32)), (.int (9 : Int32)), (.int (10 : Int32)), (.int (11 : Int32)), (.int (12 : Int32)), (.int (13 : Int32)), (.int (14 : Int32)), (.int (31 : Int32)), (.int (32 : Int32)), (.int (33 : Int32)), (.int (0 : Int32)), (.int (-1 : Int32)), (.int (133 : Int32)), (.int (160 : Int32)), (.int (0 : Int32)), (.int (0 : Int32))] (.int (0 : Int32)) := Arv.set Aro57 qo57 So57 Mo57 Ho57 Go57 rfl W58 13 rfl (Nat.le_of_ble_eq_true rfl)
  have P59 : Rch p e below (s₁.setTop (entryFrame m #[(.int p1), (.int p2)] maxLocals)) (T58.setTop (mkF m 82 #[.val (.int p1), .val (.int p2), .unset, .unset, .unset] [(.ref b2)])) := fun t k => P56 t (st58 t k)
  have N58 := Fr.snoc X58 N54 g_b2
  have P60 : Rch p e below (s₁.setTop (entryFrame m #[(.int p1), (.int p2)] maxLocals)) (T58.setTop (mkF m 88 #[.val (.int p1), .val (.int p2), .unset, .unset, .unset] [(.int (8232 : Int32)), (.int (14 : Int32)), (.ref b2), (.ref b2)])) := fun t k => P59 t (by
    show Steps p.tables e below (T58.setTop (mkF m 82 #[.val (.int p1), .val (.int p2), .unset, .unset, .unset] [(.ref b2)])) t
    refine XS.dup X58.here hx rfl (hb hby at_82) rfl rfl ?_
    show Steps p.tables e below (T58.setTop (mkF m 83 #[.val (.int p1), .val (.int p2), .unset, .unset, .unset] [(.ref b2), (.ref b2)])) t
    refine XS.bipush X58.here hx rfl (hb hby at_83) ?_
    show Steps p.tables e below (T58.setTop (mkF m 85 #[.val (.int p1), .val (.int p2), .unset, .unset, .unset] [(.int (14 : Int32)), (.ref b2), (.ref b2)])) t
    refine XS.sipush X58.here hx rfl (hb hby at_85) ?_
    exact k)
  have V_o61 := V58
  obtain ⟨co61, Aro61, qo61, So61, Mo61, Ho61, Go61⟩ := V_o61
  have hin62 : ¬ ((14 : Int32) < 0 ∨ co61.slots.size ≤ ((14 : Int32)).toNatClampNeg) := inb_of So61 ⟨by decide, by decide⟩
  obtain ⟨T62, h62, X62, e62, W62, st62⟩ := stI X58 hx hZ e58 Aro61 (j := (14 : Int32)) hin62 (g := (mkF m 88 #[.val (.int p1), .val (.int p2), .unset, .unset, .unset] [(.int (8232 : Int32)), (.int (14 : Int32)), (.ref b2), (.ref b2)])) rfl rfl (hb hby at_88)
  have V62 : Arv Z h62 b2 k2 .int (16 : Int32) [(.int (8 : Int32)), (.int (9 : Int32)), (.int (10 : Int32)), (.int (11 : Int32)), (.int (12 : Int32)), (.int (13 : Int32)), (.int (14 : Int32)), (.int (31 : Int32)), (.int (32 : Int32)), (.int (33 : Int32)), (.int (0 : Int32)), (.int (-1 : Int32)), (.int (133 : Int32)), (.int (160 : Int32)), (.int (8232 : Int32)), (.int (0 : Int32))] (.int (0 : Int32)) := Arv.set Aro61 qo61 So61 Mo61 Ho61 Go61 rfl W62 14 rfl (Nat.le_of_ble_eq_true rfl)
  have P63 : Rch p e below (s₁.setTop (entryFrame m #[(.int p1), (.int p2)] maxLocals)) (T62.setTop (mkF m 89 #[.val (.int p1), .val (.int p2), .unset, .unset, .unset] [(.ref b2)])) := fun t k => P60 t (st62 t k)
  have N62 := Fr.snoc X62 N58 g_b2
  have P64 : Rch p e below (s₁.setTop (entryFrame m #[(.int p1), (.int p2)] maxLocals)) (T62.setTop (mkF m 94 #[.val (.int p1), .val (.int p2), .unset, .unset, .unset] [(.int (65568 : Int32)), (.int (15 : Int32)), (.ref b2), (.ref b2)])) := fun t k => P63 t (by
    show Steps p.tables e below (T62.setTop (mkF m 89 #[.val (.int p1), .val (.int p2), .unset, .unset, .unset] [(.ref b2)])) t
    refine XS.dup X62.here hx rfl (hb hby at_89) rfl rfl ?_
    show Steps p.tables e below (T62.setTop (mkF m 90 #[.val (.int p1), .val (.int p2), .unset, .unset, .unset] [(.ref b2), (.ref b2)])) t
    refine XS.bipush X62.here hx rfl (hb hby at_90) ?_
    show Steps p.tables e below (T62.setTop (mkF m 92 #[.val (.int p1), .val (.int p2), .unset, .unset, .unset] [(.int (15 : Int32)), (.ref b2), (.ref b2)])) t
    refine X62.ldcInt hx hown (mvT hZ (hw _ (List.mem_of_getElem? (i := 1) rfl))) (g := (mkF m 92 #[.val (.int p1), .val (.int p2), .unset, .unset, .unset] [(.int (15 : Int32)), (.ref b2), (.ref b2)])) rfl (hb hby at_92) _ ?_
    exact k)
  have V_o65 := V62
  obtain ⟨co65, Aro65, qo65, So65, Mo65, Ho65, Go65⟩ := V_o65
  have hin66 : ¬ ((15 : Int32) < 0 ∨ co65.slots.size ≤ ((15 : Int32)).toNatClampNeg) := inb_of So65 ⟨by decide, by decide⟩
  obtain ⟨T66, h66, X66, e66, W66, st66⟩ := stI X62 hx hZ e62 Aro65 (j := (15 : Int32)) hin66 (g := (mkF m 94 #[.val (.int p1), .val (.int p2), .unset, .unset, .unset] [(.int (65568 : Int32)), (.int (15 : Int32)), (.ref b2), (.ref b2)])) rfl rfl (hb hby at_94)
  have V66 : Arv Z h66 b2 k2 .int (16 : Int32) [(.int (8 : Int32)), (.int (9 : Int32)), (.int (10 : Int32)), (.int (11 : Int32)), (.int (12 : Int32)), (.int (13 : Int32)), (.int (14 : Int32)), (.int (31 : Int32)), (.int (32 : Int32)), (.int (33 : Int32)), (.int (0 : Int32)), (.int (-1 : Int32)), (.int (133 : Int32)), (.int (160 : Int32)), (.int (8232 : Int32)), (.int (65568 : Int32))] (.int (0 : Int32)) := Arv.set Aro65 qo65 So65 Mo65 Ho65 Go65 rfl W66 15 rfl (Nat.le_of_ble_eq_true rfl)
  have P67 : Rch p e below (s₁.setTop (entryFrame m #[(.int p1), (.int p2)] maxLocals)) (T66.setTop (mkF m 95 #[.val (.int p1), .val (.int p2), .unset, .unset, .unset] [(.ref b2)])) := fun t k => P64 t (st66 t k)
  have N66 := Fr.snoc X66 N62 g_b2
  obtain ⟨x68, hx68⟩ : ∃ z : Int32, z = (p2 &&& (1 : Int32)) := ⟨_, rfl⟩
  have P69 : Rch p e below (s₁.setTop (entryFrame m #[(.int p1), (.int p2)] maxLocals)) (T66.setTop (mkF m 99 #[.val (.int p1), .val (.int p2), .val (.ref b2), .unset, .unset] [(.int x68)])) := fun t k => P67 t (by
    subst hx68
    show Steps p.tables e below (T66.setTop (mkF m 95 #[.val (.int p1), .val (.int p2), .unset, .unset, .unset] [(.ref b2)])) t
    refine XS.astoreN X66.here hx rfl (hb hby at_95) rfl rfl (l' := #[.val (.int p1), .val (.int p2), .val (.ref b2), .unset, .unset]) rfl ?_
    show Steps p.tables e below (T66.setTop (mkF m 96 #[.val (.int p1), .val (.int p2), .val (.ref b2), .unset, .unset] [])) t
    refine XS.iloadN X66.here hx rfl (hb hby at_96) rfl ?_
    show Steps p.tables e below (T66.setTop (mkF m 97 #[.val (.int p1), .val (.int p2), .val (.ref b2), .unset, .unset] [(.int p2)])) t
    refine XS.iconst X66.here hx rfl (hb hby at_97) ?_
    show Steps p.tables e below (T66.setTop (mkF m 98 #[.val (.int p1), .val (.int p2), .val (.ref b2), .unset, .unset] [(.int (1 : Int32)), (.int p2)])) t
    refine XS.iand X66.here hx rfl (hb hby at_98) rfl ?_
    exact k)
  by_cases c70 : x68 = (0 : Int32)
  · obtain ⟨x71, hx71⟩ : ∃ z : Int32, z = (((p2.toUInt32 >>> ((1 : Int32) &&& 31).toUInt32).toInt32) &&& (15 : Int32)) := ⟨_, rfl⟩
    have P72 : Rch p e below (s₁.setTop (entryFrame m #[(.int p1), (.int p2)] maxLocals)) (T66.setTop (mkF m 113 #[.val (.int p1), .val (.int p2), .val (.ref b2), .unset, .unset] [(.int x71), (.ref b2)])) := fun t k => P69 t (by
      subst hx71
      show Steps p.tables e below (T66.setTop (mkF m 99 #[.val (.int p1), .val (.int p2), .val (.ref b2), .unset, .unset] [(.int x68)])) t
      refine XS.ifYes X66.here hx rfl (pc0 := 99) (pc' := 106) rfl (hb hby at_99) rfl ((if0 _ _).trans (teq c70).1) (by decide) (by decide) ?_
      show Steps p.tables e below (T66.setTop (mkF m 106 #[.val (.int p1), .val (.int p2), .val (.ref b2), .unset, .unset] [])) t
      refine XS.aloadN X66.here hx rfl (hb hby at_106) rfl rfl ?_
      show Steps p.tables e below (T66.setTop (mkF m 107 #[.val (.int p1), .val (.int p2), .val (.ref b2), .unset, .unset] [(.ref b2)])) t
      refine XS.iloadN X66.here hx rfl (hb hby at_107) rfl ?_
      show Steps p.tables e below (T66.setTop (mkF m 108 #[.val (.int p1), .val (.int p2), .val (.ref b2), .unset, .unset] [(.int p2), (.ref b2)])) t
      refine XS.iconst X66.here hx rfl (hb hby at_108) ?_
      show Steps p.tables e below (T66.setTop (mkF m 109 #[.val (.int p1), .val (.int p2), .val (.ref b2), .unset, .unset] [(.int (1 : Int32)), (.int p2), (.ref b2)])) t
      refine XS.iushr X66.here hx rfl (hb hby at_109) rfl ?_
      show Steps p.tables e below (T66.setTop (mkF m 110 #[.val (.int p1), .val (.int p2), .val (.ref b2), .unset, .unset] [(.int ((p2.toUInt32 >>> ((1 : Int32) &&& 31).toUInt32).toInt32)), (.ref b2)])) t
      refine XS.bipush X66.here hx rfl (hb hby at_110) ?_
      show Steps p.tables e below (T66.setTop (mkF m 112 #[.val (.int p1), .val (.int p2), .val (.ref b2), .unset, .unset] [(.int (15 : Int32)), (.int ((p2.toUInt32 >>> ((1 : Int32) &&& 31).toUInt32).toInt32)), (.ref b2)])) t
      refine XS.iand X66.here hx rfl (hb hby at_112) rfl ?_
      exact k)
    have hj : ¬ x71 < 0 ∧ x71 < (16 : Int32) := by rw [hx71]; exact own_idx _
    obtain ⟨w9, hw9⟩ := own_getI [(8 : Int32), (9 : Int32), (10 : Int32), (11 : Int32), (12 : Int32), (13 : Int32), (14 : Int32), (31 : Int32), (32 : Int32), (33 : Int32), (0 : Int32), (-1 : Int32), (133 : Int32), (160 : Int32), (8232 : Int32), (65568 : Int32)] (x71).toNatClampNeg
    have V_o73 := V66
    obtain ⟨co73, Aro73, qo73, So73, Mo73, Ho73, Go73⟩ := V_o73
    have hin74 : ¬ (x71 < 0 ∨ co73.slots.size ≤ (x71).toNatClampNeg) := inb_of So73 hj
    have hat74 : co73.slots[(x71).toNatClampNeg]? = some (.int w9) := Has.at Ho73 hin74 hw9
    have P75 : Rch p e below (s₁.setTop (entryFrame m #[(.int p1), (.int p2)] maxLocals)) (T66.setTop (mkF m 114 #[.val (.int p1), .val (.int p2), .val (.ref b2), .unset, .unset] [(.int w9)])) := fun t k => P72 t (X66.iaload hx (j := x71) (v := (.int w9)) (by rw [e66]; exact Aro73.1) (State.isArrayOf_alike hZ.alike Aro73.2.1) Aro73.2.2 hin74 hat74 (g := (mkF m 113 #[.val (.int p1), .val (.int p2), .val (.ref b2), .unset, .unset] [(.int x71), (.ref b2)])) rfl rfl (hb hby at_113) t k)
    have P76 : Rch p e below (s₁.setTop (entryFrame m #[(.int p1), (.int p2)] maxLocals)) (T66.setTop (mkF m 118 #[.val (.int p1), .val (.int p2), .val (.ref b2), .val (.int w9), .unset] [(.int (9 : Int32)), (.int w9)])) := fun t k => P75 t (by
      show Steps p.tables e below (T66.setTop (mkF m 114 #[.val (.int p1), .val (.int p2), .val (.ref b2), .unset, .unset] [(.int w9)])) t
      refine XS.istoreN X66.here hx rfl (hb hby at_114) rfl (l' := #[.val (.int p1), .val (.int p2), .val (.ref b2), .val (.int w9), .unset]) rfl ?_
      show Steps p.tables e below (T66.setTop (mkF m 115 #[.val (.int p1), .val (.int p2), .val (.ref b2), .val (.int w9), .unset] [])) t
      refine XS.iloadN X66.here hx rfl (hb hby at_115) rfl ?_
      show Steps p.tables e below (T66.setTop (mkF m 116 #[.val (.int p1), .val (.int p2), .val (.ref b2), .val (.int w9), .unset] [(.int w9)])) t
      refine XS.bipush X66.here hx rfl (hb hby at_116) ?_
      exact k)
    obtain ⟨v82, hv82, P83⟩ : ∃ (v82 : Int32), v82 = (if w9 < (9 : Int32) then (0 : Int32) else (if (32 : Int32) < w9 then (0 : Int32) else (if (10 : Int32) < w9 then (if w9 = (13 : Int32) then (1 : Int32) else (if w9 = (32 : Int32) then (1 : Int32) else (0 : Int32))) else (1 : Int32)))) ∧ Rch p e below (s₁.setTop (entryFrame m #[(.int p1), (.int p2)] maxLocals)) (T66.setTop (mkF m 150 #[.val (.int p1), .val (.int p2), .val (.ref b2), .val (.int w9), .unset] [(.int v82)])) := by
      by_cases c77 : w9 < (9 : Int32)
      · refine ⟨(0 : Int32), (by first | rfl | rw [if_pos c77] | simp only [if_pos c77]), fun t k => P76 t ?_⟩
        show Steps p.tables e below (T66.setTop (mkF m 118 #[.val (.int p1), .val (.int p2), .val (.ref b2), .val (.int w9), .unset] [(.int (9 : Int32)), (.int w9)])) t
        refine XS.icmpYes X66.here hx rfl (pc0 := 118) (pc' := 149) rfl (hb hby at_118) rfl (tlt c77).1 (by decide) (by decide) ?_
        show Steps p.tables e below (T66.setTop (mkF m 149 #[.val (.int p1), .val (.int p2), .val (.ref b2), .val (.int w9), .unset] [])) t
        refine XS.iconst X66.here hx rfl (hb hby at_149) ?_
        exact k
      · by_cases c78 : (32 : Int32) < w9
        · refine ⟨(0 : Int32), (by first | rfl | rw [if_neg c77, if_pos c78] | simp only [if_neg c77, if_pos c78]), fun t k => P76 t ?_⟩
          show Steps p.tables e below (T66.setTop (mkF m 118 #[.val (.int p1), .val (.int p2), .val (.ref b2), .val (.int w9), .unset] [(.int (9 : Int32)), (.int w9)])) t
          refine XS.icmpNo X66.here hx rfl (hb hby at_118) rfl (flt c77).1 ?_
          show Steps p.tables e below (T66.setTop (mkF m 121 #[.val (.int p1), .val (.int p2), .val (.ref b2), .val (.int w9), .unset] [])) t
          refine XS.iloadN X66.here hx rfl (hb hby at_121) rfl ?_
          show Steps p.tables e below (T66.setTop (mkF m 122 #[.val (.int p1), .val (.int p2), .val (.ref b2), .val (.int w9), .unset] [(.int w9)])) t
          refine XS.bipush X66.here hx rfl (hb hby at_122) ?_
          show Steps p.tables e below (T66.setTop (mkF m 124 #[.val (.int p1), .val (.int p2), .val (.ref b2), .val (.int w9), .unset] [(.int (32 : Int32)), (.int w9)])) t
          refine XS.icmpYes X66.here hx rfl (pc0 := 124) (pc' := 149) rfl (hb hby at_124) rfl (tlt c78).2.2.1 (by decide) (by decide) ?_
          show Steps p.tables e below (T66.setTop (mkF m 149 #[.val (.int p1), .val (.int p2), .val (.ref b2), .val (.int w9), .unset] [])) t
          refine XS.iconst X66.here hx rfl (hb hby at_149) ?_
          exact k
        · by_cases c79 : (10 : Int32) < w9
          · by_cases c80 : w9 = (13 : Int32)
            · refine ⟨(1 : Int32), (by first | rfl | rw [if_neg c77, if_neg c78, if_pos c79, if_pos c80] | simp only [if_neg c77, if_neg c78, if_pos c79, if_pos c80]), fun t k => P76 t ?_⟩
              show Steps p.tables e below (T66.setTop (mkF m 118 #[.val (.int p1), .val (.int p2), .val (.ref b2), .val (.int w9), .unset] [(.int (9 : Int32)), (.int w9)])) t
              refine XS.icmpNo X66.here hx rfl (hb hby at_118) rfl (flt c77).1 ?_
              show Steps p.tables e below (T66.setTop (mkF m 121 #[.val (.int p1), .val (.int p2), .val (.ref b2), .val (.int w9), .unset] [])) t
              refine XS.iloadN X66.here hx rfl (hb hby at_121) rfl ?_
              show Steps p.tables e below (T66.setTop (mkF m 122 #[.val (.int p1), .val (.int p2), .val (.ref b2), .val (.int w9), .unset] [(.int w9)])) t
              refine XS.bipush X66.here hx rfl (hb hby at_122) ?_
              show Steps p.tables e below (T66.setTop (mkF m 124 #[.val (.int p1), .val (.int p2), .val (.ref b2), .val (.int w9), .unset] [(.int (32 : Int32)), (.int w9)])) t
              refine XS.icmpNo X66.here hx rfl (hb hby at_124) rfl (flt c78).2.2.1 ?_
              show Steps p.tables e below (T66.setTop (mkF m 127 #[.val (.int p1), .val (.int p2), .val (.ref b2), .val (.int w9), .unset] [])) t
              refine XS.iloadN X66.here hx rfl (hb hby at_127) rfl ?_
              show Steps p.tables e below (T66.setTop (mkF m 128 #[.val (.int p1), .val (.int p2), .val (.ref b2), .val (.int w9), .unset] [(.int w9)])) t
              refine XS.bipush X66.here hx rfl (hb hby at_128) ?_
              show Steps p.tables e below (T66.setTop (mkF m 130 #[.val (.int p1), .val (.int p2), .val (.ref b2), .val (.int w9), .unset] [(.int (10 : Int32)), (.int w9)])) t
              refine XS.icmpNo X66.here hx rfl (hb hby at_130) rfl (tlt c79).2.2.2 ?_
              show Steps p.tables e below (T66.setTop (mkF m 133 #[.val (.int p1), .val (.int p2), .val (.ref b2), .val (.int w9), .unset] [])) t
              refine XS.iloadN X66.here hx rfl (hb hby at_133) rfl ?_
              show Steps p.tables e below (T66.setTop (mkF m 134 #[.val (.int p1), .val (.int p2), .val (.ref b2), .val (.int w9), .unset] [(.int w9)])) t
              refine XS.bipush X66.here hx rfl (hb hby at_134) ?_
              show Steps p.tables e below (T66.setTop (mkF m 136 #[.val (.int p1), .val (.int p2), .val (.ref b2), .val (.int w9), .unset] [(.int (13 : Int32)), (.int w9)])) t
              refine XS.icmpYes X66.here hx rfl (pc0 := 136) (pc' := 145) rfl (hb hby at_136) rfl (teq c80).1 (by decide) (by decide) ?_
              show Steps p.tables e below (T66.setTop (mkF m 145 #[.val (.int p1), .val (.int p2), .val (.ref b2), .val (.int w9), .unset] [])) t
              refine XS.iconst X66.here hx rfl (hb hby at_145) ?_
              show Steps p.tables e below (T66.setTop (mkF m 146 #[.val (.int p1), .val (.int p2), .val (.ref b2), .val (.int w9), .unset] [(.int (1 : Int32))])) t
              refine XS.goto X66.here hx rfl (pc0 := 146) (pc' := 150) rfl (hb hby at_146) (by decide) (by decide) ?_
              exact k
            · by_cases c81 : w9 = (32 : Int32)
              · refine ⟨(1 : Int32), (by first | rfl | rw [if_neg c77, if_neg c78, if_pos c79, if_neg c80, if_pos c81] | simp only [if_neg c77, if_neg c78, if_pos c79, if_neg c80, if_pos c81]), fun t k => P76 t ?_⟩
                show Steps p.tables e below (T66.setTop (mkF m 118 #[.val (.int p1), .val (.int p2), .val (.ref b2), .val (.int w9), .unset] [(.int (9 : Int32)), (.int w9)])) t
                refine XS.icmpNo X66.here hx rfl (hb hby at_118) rfl (flt c77).1 ?_
                show Steps p.tables e below (T66.setTop (mkF m 121 #[.val (.int p1), .val (.int p2), .val (.ref b2), .val (.int w9), .unset] [])) t
                refine XS.iloadN X66.here hx rfl (hb hby at_121) rfl ?_
                show Steps p.tables e below (T66.setTop (mkF m 122 #[.val (.int p1), .val (.int p2), .val (.ref b2), .val (.int w9), .unset] [(.int w9)])) t
                refine XS.bipush X66.here hx rfl (hb hby at_122) ?_
                show Steps p.tables e below (T66.setTop (mkF m 124 #[.val (.int p1), .val (.int p2), .val (.ref b2), .val (.int w9), .unset] [(.int (32 : Int32)), (.int w9)])) t
                refine XS.icmpNo X66.here hx rfl (hb hby at_124) rfl (flt c78).2.2.1 ?_
                show Steps p.tables e below (T66.setTop (mkF m 127 #[.val (.int p1), .val (.int p2), .val (.ref b2), .val (.int w9), .unset] [])) t
                refine XS.iloadN X66.here hx rfl (hb hby at_127) rfl ?_
                show Steps p.tables e below (T66.setTop (mkF m 128 #[.val (.int p1), .val (.int p2), .val (.ref b2), .val (.int w9), .unset] [(.int w9)])) t
                refine XS.bipush X66.here hx rfl (hb hby at_128) ?_
                show Steps p.tables e below (T66.setTop (mkF m 130 #[.val (.int p1), .val (.int p2), .val (.ref b2), .val (.int w9), .unset] [(.int (10 : Int32)), (.int w9)])) t
                refine XS.icmpNo X66.here hx rfl (hb hby at_130) rfl (tlt c79).2.2.2 ?_
                show Steps p.tables e below (T66.setTop (mkF m 133 #[.val (.int p1), .val (.int p2), .val (.ref b2), .val (.int w9), .unset] [])) t
                refine XS.iloadN X66.here hx rfl (hb hby at_133) rfl ?_
                show Steps p.tables e below (T66.setTop (mkF m 134 #[.val (.int p1), .val (.int p2), .val (.ref b2), .val (.int w9), .unset] [(.int w9)])) t
                refine XS.bipush X66.here hx rfl (hb hby at_134) ?_
                show Steps p.tables e below (T66.setTop (mkF m 136 #[.val (.int p1), .val (.int p2), .val (.ref b2), .val (.int w9), .unset] [(.int (13 : Int32)), (.int w9)])) t
                refine XS.icmpNo X66.here hx rfl (hb hby at_136) rfl (feq c80).1 ?_
                show Steps p.tables e below (T66.setTop (mkF m 139 #[.val (.int p1), .val (.int p2), .val (.ref b2), .val (.int w9), .unset] [])) t
                refine XS.iloadN X66.here hx rfl (hb hby at_139) rfl ?_
                show Steps p.tables e below (T66.setTop (mkF m 140 #[.val (.int p1), .val (.int p2), .val (.ref b2), .val (.int w9), .unset] [(.int w9)])) t
                refine XS.bipush X66.here hx rfl (hb hby at_140) ?_
                show Steps p.tables e below (T66.setTop (mkF m 142 #[.val (.int p1), .val (.int p2), .val (.ref b2), .val (.int w9), .unset] [(.int (32 : Int32)), (.int w9)])) t
                refine XS.icmpNo X66.here hx rfl (hb hby at_142) rfl (teq c81).2 ?_
                show Steps p.tables e below (T66.setTop (mkF m 145 #[.val (.int p1), .val (.int p2), .val (.ref b2), .val (.int w9), .unset] [])) t
                refine XS.iconst X66.here hx rfl (hb hby at_145) ?_
                show Steps p.tables e below (T66.setTop (mkF m 146 #[.val (.int p1), .val (.int p2), .val (.ref b2), .val (.int w9), .unset] [(.int (1 : Int32))])) t
                refine XS.goto X66.here hx rfl (pc0 := 146) (pc' := 150) rfl (hb hby at_146) (by decide) (by decide) ?_
                exact k
              · refine ⟨(0 : Int32), (by first | rfl | rw [if_neg c77, if_neg c78, if_pos c79, if_neg c80, if_neg c81] | simp only [if_neg c77, if_neg c78, if_pos c79, if_neg c80, if_neg c81]), fun t k => P76 t ?_⟩
                show Steps p.tables e below (T66.setTop (mkF m 118 #[.val (.int p1), .val (.int p2), .val (.ref b2), .val (.int w9), .unset] [(.int (9 : Int32)), (.int w9)])) t
                refine XS.icmpNo X66.here hx rfl (hb hby at_118) rfl (flt c77).1 ?_
                show Steps p.tables e below (T66.setTop (mkF m 121 #[.val (.int p1), .val (.int p2), .val (.ref b2), .val (.int w9), .unset] [])) t
                refine XS.iloadN X66.here hx rfl (hb hby at_121) rfl ?_
                show Steps p.tables e below (T66.setTop (mkF m 122 #[.val (.int p1), .val (.int p2), .val (.ref b2), .val (.int w9), .unset] [(.int w9)])) t
                refine XS.bipush X66.here hx rfl (hb hby at_122) ?_
                show Steps p.tables e below (T66.setTop (mkF m 124 #[.val (.int p1), .val (.int p2), .val (.ref b2), .val (.int w9), .unset] [(.int (32 : Int32)), (.int w9)])) t
                refine XS.icmpNo X66.here hx rfl (hb hby at_124) rfl (flt c78).2.2.1 ?_
                show Steps p.tables e below (T66.setTop (mkF m 127 #[.val (.int p1), .val (.int p2), .val (.ref b2), .val (.int w9), .unset] [])) t
                refine XS.iloadN X66.here hx rfl (hb hby at_127) rfl ?_
                show Steps p.tables e below (T66.setTop (mkF m 128 #[.val (.int p1), .val (.int p2), .val (.ref b2), .val (.int w9), .unset] [(.int w9)])) t
                refine XS.bipush X66.here hx rfl (hb hby at_128) ?_
                show Steps p.tables e below (T66.setTop (mkF m 130 #[.val (.int p1), .val (.int p2), .val (.ref b2), .val (.int w9), .unset] [(.int (10 : Int32)), (.int w9)])) t
                refine XS.icmpNo X66.here hx rfl (hb hby at_130) rfl (tlt c79).2.2.2 ?_
                show Steps p.tables e below (T66.setTop (mkF m 133 #[.val (.int p1), .val (.int p2), .val (.ref b2), .val (.int w9), .unset] [])) t
                refine XS.iloadN X66.here hx rfl (hb hby at_133) rfl ?_
                show Steps p.tables e below (T66.setTop (mkF m 134 #[.val (.int p1), .val (.int p2), .val (.ref b2), .val (.int w9), .unset] [(.int w9)])) t
                refine XS.bipush X66.here hx rfl (hb hby at_134) ?_
                show Steps p.tables e below (T66.setTop (mkF m 136 #[.val (.int p1), .val (.int p2), .val (.ref b2), .val (.int w9), .unset] [(.int (13 : Int32)), (.int w9)])) t
                refine XS.icmpNo X66.here hx rfl (hb hby at_136) rfl (feq c80).1 ?_
                show Steps p.tables e below (T66.setTop (mkF m 139 #[.val (.int p1), .val (.int p2), .val (.ref b2), .val (.int w9), .unset] [])) t
                refine XS.iloadN X66.here hx rfl (hb hby at_139) rfl ?_
                show Steps p.tables e below (T66.setTop (mkF m 140 #[.val (.int p1), .val (.int p2), .val (.ref b2), .val (.int w9), .unset] [(.int w9)])) t
                refine XS.bipush X66.here hx rfl (hb hby at_140) ?_
                show Steps p.tables e below (T66.setTop (mkF m 142 #[.val (.int p1), .val (.int p2), .val (.ref b2), .val (.int w9), .unset] [(.int (32 : Int32)), (.int w9)])) t
                refine XS.icmpYes X66.here hx rfl (pc0 := 142) (pc' := 149) rfl (hb hby at_142) rfl (feq c81).2 (by decide) (by decide) ?_
                show Steps p.tables e below (T66.setTop (mkF m 149 #[.val (.int p1), .val (.int p2), .val (.ref b2), .val (.int w9), .unset] [])) t
                refine XS.iconst X66.here hx rfl (hb hby at_149) ?_
                exact k
          · refine ⟨(1 : Int32), (by first | rfl | rw [if_neg c77, if_neg c78, if_neg c79] | simp only [if_neg c77, if_neg c78, if_neg c79]), fun t k => P76 t ?_⟩
            show Steps p.tables e below (T66.setTop (mkF m 118 #[.val (.int p1), .val (.int p2), .val (.ref b2), .val (.int w9), .unset] [(.int (9 : Int32)), (.int w9)])) t
            refine XS.icmpNo X66.here hx rfl (hb hby at_118) rfl (flt c77).1 ?_
            show Steps p.tables e below (T66.setTop (mkF m 121 #[.val (.int p1), .val (.int p2), .val (.ref b2), .val (.int w9), .unset] [])) t
            refine XS.iloadN X66.here hx rfl (hb hby at_121) rfl ?_
            show Steps p.tables e below (T66.setTop (mkF m 122 #[.val (.int p1), .val (.int p2), .val (.ref b2), .val (.int w9), .unset] [(.int w9)])) t
            refine XS.bipush X66.here hx rfl (hb hby at_122) ?_
            show Steps p.tables e below (T66.setTop (mkF m 124 #[.val (.int p1), .val (.int p2), .val (.ref b2), .val (.int w9), .unset] [(.int (32 : Int32)), (.int w9)])) t
            refine XS.icmpNo X66.here hx rfl (hb hby at_124) rfl (flt c78).2.2.1 ?_
            show Steps p.tables e below (T66.setTop (mkF m 127 #[.val (.int p1), .val (.int p2), .val (.ref b2), .val (.int w9), .unset] [])) t
            refine XS.iloadN X66.here hx rfl (hb hby at_127) rfl ?_
            show Steps p.tables e below (T66.setTop (mkF m 128 #[.val (.int p1), .val (.int p2), .val (.ref b2), .val (.int w9), .unset] [(.int w9)])) t
            refine XS.bipush X66.here hx rfl (hb hby at_128) ?_
            show Steps p.tables e below (T66.setTop (mkF m 130 #[.val (.int p1), .val (.int p2), .val (.ref b2), .val (.int w9), .unset] [(.int (10 : Int32)), (.int w9)])) t
            refine XS.icmpYes X66.here hx rfl (pc0 := 130) (pc' := 145) rfl (hb hby at_130) rfl (flt c79).2.2.2 (by decide) (by decide) ?_
            show Steps p.tables e below (T66.setTop (mkF m 145 #[.val (.int p1), .val (.int p2), .val (.ref b2), .val (.int w9), .unset] [])) t
            refine XS.iconst X66.here hx rfl (hb hby at_145) ?_
            show Steps p.tables e below (T66.setTop (mkF m 146 #[.val (.int p1), .val (.int p2), .val (.ref b2), .val (.int w9), .unset] [(.int (1 : Int32))])) t
            refine XS.goto X66.here hx rfl (pc0 := 146) (pc' := 150) rfl (hb hby at_146) (by decide) (by decide) ?_
            exact k
    have P84 : Rch p e below (s₁.setTop (entryFrame m #[(.int p1), (.int p2)] maxLocals)) (T66.setTop (mkF m 153 #[.val (.int p1), .val (.int p2), .val (.ref b2), .val (.int w9), .val (.int v82)] [(.int w9)])) := fun t k => P83 t (by
      show Steps p.tables e below (T66.setTop (mkF m 150 #[.val (.int p1), .val (.int p2), .val (.ref b2), .val (.int w9), .unset] [(.int v82)])) t
      refine XS.istore X66.here hx rfl (hb hby at_150) rfl (l' := #[.val (.int p1), .val (.int p2), .val (.ref b2), .val (.int w9), .val (.int v82)]) rfl ?_
      show Steps p.tables e below (T66.setTop (mkF m 152 #[.val (.int p1), .val (.int p2), .val (.ref b2), .val (.int w9), .val (.int v82)] [])) t
      refine XS.iloadN X66.here hx rfl (hb hby at_152) rfl ?_
      exact k)
    have f86 : n0 ≤ h66.size := (Nat.le_trans (Nat.le_trans (Nat.le_trans (Nat.le_trans (Nat.le_trans (Nat.le_trans (Nat.le_trans (Nat.le_trans (Nat.le_trans (Nat.le_trans (Nat.le_trans (Nat.le_trans (Nat.le_trans (Nat.le_trans (Nat.le_trans (Nat.le_trans (Nat.le_trans Z0 E2.1) (Keep.of_wr W6).1) (Keep.of_wr W10).1) (Keep.of_wr W14).1) (Keep.of_wr W18).1) (Keep.of_wr W22).1) (Keep.of_wr W26).1) (Keep.of_wr W30).1) (Keep.of_wr W34).1) (Keep.of_wr W38).1) (Keep.of_wr W42).1) (Keep.of_wr W46).1) (Keep.of_wr W50).1) (Keep.of_wr W54).1) (Keep.of_wr W58).1) (Keep.of_wr W62).1) (Keep.of_wr W66).1)
    obtain ⟨_, _, ⟨T85, L85, k85, n85⟩, -, X85, ⟨Lc85, hQ85, l85, y85, z85⟩, st85⟩ := Jvm.LawKit.callS X66 hx (y := (⟨"com/example/rootdb/rootdb/core/XmlChars", "isSpace", "(I)Z"⟩ : MethodName)) hown (mvT hZ (hw _ (List.mem_of_getElem? (i := 2) rfl))) (mvT hZ (hw _ (List.mem_of_getElem? (i := 3) rfl))) (mvT hZ (hw _ (List.mem_of_getElem? (i := 4) rfl))) (mvT hZ (hw _ (List.mem_of_getElem? (i := 5) rfl))) (by decide) (backOf (W := 0) (rmS l Z a0 hw [] w9 h66 n0 f86 ) hZ (hw _ (List.mem_of_getElem? (i := 5) rfl)) (hw _ (List.mem_of_getElem? (i := 4) rfl)) (by decide) (by decide)) (g := (mkF m 153 #[.val (.int p1), .val (.int p2), .val (.ref b2), .val (.int w9), .val (.int v82)] [(.int w9)])) rfl (by rw [hml]; rfl) (argsL := [(.int w9)]) (rest := []) (lenOf pd_0 rfl) rfl (by show 2 * 0 + _ ≤ _; exact Nat.le_of_eq rfl) (hb hby at_153) (fun _ _ => ⟨rfl, e66, (by decide : 1 + 0 ≤ _), (by decide : 16 + 0 ≤ _)⟩)
    dsimp only [Pt.U, Pt.locs, Pt.cells, Pt.slots] at X85 l85 y85 z85 st85 hQ85
    subst l85 y85 z85
    obtain ⟨rfl, N85q, e85⟩ := hQ85
    have N85 := Fr.app N66 N85q
    have P87 : Rch p e below (s₁.setTop (entryFrame m #[(.int p1), (.int p2)] maxLocals)) (T85.setTop (mkF m 156 #[.val (.int p1), .val (.int p2), .val (.ref b2), .val (.int w9), .val (.int v82)] [(.int (if w9 = (32 : Int32) then (1 : Int32) else (if w9 = (10 : Int32) then (1 : Int32) else (if w9 = (9 : Int32) then (1 : Int32) else (if w9 = (13 : Int32) then (1 : Int32) else (0 : Int32))))))])) := fun t k => P84 t (st85 t k)
    obtain ⟨x88, hx88⟩ : ∃ z : Int32, z = (if w9 = (32 : Int32) then (1 : Int32) else (if w9 = (10 : Int32) then (1 : Int32) else (if w9 = (9 : Int32) then (1 : Int32) else (if w9 = (13 : Int32) then (1 : Int32) else (0 : Int32))))) := ⟨_, rfl⟩
    rw [← hx88] at P87
    have P89 : Rch p e below (s₁.setTop (entryFrame m #[(.int p1), (.int p2)] maxLocals)) (T85.setTop (mkF m 158 #[.val (.int p1), .val (.int p2), .val (.ref b2), .val (.int w9), .val (.int v82)] [(.int v82), (.int x88)])) := fun t k => P87 t (by
      show Steps p.tables e below (T85.setTop (mkF m 156 #[.val (.int p1), .val (.int p2), .val (.ref b2), .val (.int w9), .val (.int v82)] [(.int x88)])) t
      refine XS.iload X85.here hx rfl (hb hby at_156) rfl ?_
      exact k)
    obtain ⟨v91, hv91, P92⟩ : ∃ (v91 : Int32), v91 = (if x88 = v82 then (1 : Int32) else (0 : Int32)) ∧ Rch p e below (s₁.setTop (entryFrame m #[(.int p1), (.int p2)] maxLocals)) (T85.setTop (mkF m 166 #[.val (.int p1), .val (.int p2), .val (.ref b2), .val (.int w9), .val (.int v82)] [(.int v91)])) := by
      by_cases c90 : x88 = v82
      · refine ⟨(1 : Int32), (by first | rfl | rw [if_pos c90] | simp only [if_pos c90]), fun t k => P89 t ?_⟩
        show Steps p.tables e below (T85.setTop (mkF m 158 #[.val (.int p1), .val (.int p2), .val (.ref b2), .val (.int w9), .val (.int v82)] [(.int v82), (.int x88)])) t
        refine XS.icmpNo X85.here hx rfl (hb hby at_158) rfl (teq c90).2 ?_
        show Steps p.tables e below (T85.setTop (mkF m 161 #[.val (.int p1), .val (.int p2), .val (.ref b2), .val (.int w9), .val (.int v82)] [])) t
        refine XS.iconst X85.here hx rfl (hb hby at_161) ?_
        show Steps p.tables e below (T85.setTop (mkF m 162 #[.val (.int p1), .val (.int p2), .val (.ref b2), .val (.int w9), .val (.int v82)] [(.int (1 : Int32))])) t
        refine XS.goto X85.here hx rfl (pc0 := 162) (pc' := 166) rfl (hb hby at_162) (by decide) (by decide) ?_
        exact k
      · refine ⟨(0 : Int32), (by first | rfl | rw [if_neg c90] | simp only [if_neg c90]), fun t k => P89 t ?_⟩
        show Steps p.tables e below (T85.setTop (mkF m 158 #[.val (.int p1), .val (.int p2), .val (.ref b2), .val (.int w9), .val (.int v82)] [(.int v82), (.int x88)])) t
        refine XS.icmpYes X85.here hx rfl (pc0 := 158) (pc' := 165) rfl (hb hby at_158) rfl (feq c90).2 (by decide) (by decide) ?_
        show Steps p.tables e below (T85.setTop (mkF m 165 #[.val (.int p1), .val (.int p2), .val (.ref b2), .val (.int w9), .val (.int v82)] [])) t
        refine XS.iconst X85.here hx rfl (hb hby at_165) ?_
        exact k
    have hfin : v91 = (1 : Int32) := by
      subst hv91 hx88 hv82
      exact own_law w9
    have P93 : Rch p e below (s₁.setTop (entryFrame m #[(.int p1), (.int p2)] maxLocals)) (T85.setTop (mkF m 166 #[.val (.int p1), .val (.int p2), .val (.ref b2), .val (.int w9), .val (.int v82)] [(.int (1 : Int32))])) := by have q_ := P92; rw [hfin] at q_; exact q_
    obtain ⟨fs, hr, hrun, hended, hW, hsame⟩ := X85.leave (v := some (.int (1 : Int32))) (fun h => by rw [Bd.returns] at h; cases h)
    refine ⟨_, _, P93 _ ?_, hrun, hended, _, _, rfl, ?_, ⟨_, rfl⟩, hW, hsame.mono (by decide) (by decide)⟩
    · exact retN X85 hx (t := .boolean) Bd.returns (by simp) (hb hby at_166) hr
    · show Q_rm0 Z p1 p2 h0 n0 _ T85.heap _
      rw [e85]
      exact ⟨rfl, N85⟩
  · have P94 : Rch p e below (s₁.setTop (entryFrame m #[(.int p1), (.int p2)] maxLocals)) (T66.setTop (mkF m 118 #[.val (.int p1), .val (.int p2), .val (.ref b2), .val (.int p1), .unset] [(.int (9 : Int32)), (.int p1)])) := fun t k => P69 t (by
      show Steps p.tables e below (T66.setTop (mkF m 99 #[.val (.int p1), .val (.int p2), .val (.ref b2), .unset, .unset] [(.int x68)])) t
      refine XS.ifNo X66.here hx rfl (hb hby at_99) rfl ((if0 _ _).trans (feq c70).1) ?_
      show Steps p.tables e below (T66.setTop (mkF m 102 #[.val (.int p1), .val (.int p2), .val (.ref b2), .unset, .unset] [])) t
      refine XS.iloadN X66.here hx rfl (hb hby at_102) rfl ?_
      show Steps p.tables e below (T66.setTop (mkF m 103 #[.val (.int p1), .val (.int p2), .val (.ref b2), .unset, .unset] [(.int p1)])) t
      refine XS.goto X66.here hx rfl (pc0 := 103) (pc' := 114) rfl (hb hby at_103) (by decide) (by decide) ?_
      show Steps p.tables e below (T66.setTop (mkF m 114 #[.val (.int p1), .val (.int p2), .val (.ref b2), .unset, .unset] [(.int p1)])) t
      refine XS.istoreN X66.here hx rfl (hb hby at_114) rfl (l' := #[.val (.int p1), .val (.int p2), .val (.ref b2), .val (.int p1), .unset]) rfl ?_
      show Steps p.tables e below (T66.setTop (mkF m 115 #[.val (.int p1), .val (.int p2), .val (.ref b2), .val (.int p1), .unset] [])) t
      refine XS.iloadN X66.here hx rfl (hb hby at_115) rfl ?_
      show Steps p.tables e below (T66.setTop (mkF m 116 #[.val (.int p1), .val (.int p2), .val (.ref b2), .val (.int p1), .unset] [(.int p1)])) t
      refine XS.bipush X66.here hx rfl (hb hby at_116) ?_
      exact k)
    obtain ⟨v100, hv100, P101⟩ : ∃ (v100 : Int32), v100 = (if p1 < (9 : Int32) then (0 : Int32) else (if (32 : Int32) < p1 then (0 : Int32) else (if (10 : Int32) < p1 then (if p1 = (13 : Int32) then (1 : Int32) else (if p1 = (32 : Int32) then (1 : Int32) else (0 : Int32))) else (1 : Int32)))) ∧ Rch p e below (s₁.setTop (entryFrame m #[(.int p1), (.int p2)] maxLocals)) (T66.setTop (mkF m 150 #[.val (.int p1), .val (.int p2), .val (.ref b2), .val (.int p1), .unset] [(.int v100)])) := by
      by_cases c95 : p1 < (9 : Int32)
      · refine ⟨(0 : Int32), (by first | rfl | rw [if_pos c95] | simp only [if_pos c95]), fun t k => P94 t ?_⟩
        show Steps p.tables e below (T66.setTop (mkF m 118 #[.val (.int p1), .val (.int p2), .val (.ref b2), .val (.int p1), .unset] [(.int (9 : Int32)), (.int p1)])) t
        refine XS.icmpYes X66.here hx rfl (pc0 := 118) (pc' := 149) rfl (hb hby at_118) rfl (tlt c95).1 (by decide) (by decide) ?_
        show Steps p.tables e below (T66.setTop (mkF m 149 #[.val (.int p1), .val (.int p2), .val (.ref b2), .val (.int p1), .unset] [])) t
        refine XS.iconst X66.here hx rfl (hb hby at_149) ?_
        exact k
      · by_cases c96 : (32 : Int32) < p1
        · refine ⟨(0 : Int32), (by first | rfl | rw [if_neg c95, if_pos c96] | simp only [if_neg c95, if_pos c96]), fun t k => P94 t ?_⟩
          show Steps p.tables e below (T66.setTop (mkF m 118 #[.val (.int p1), .val (.int p2), .val (.ref b2), .val (.int p1), .unset] [(.int (9 : Int32)), (.int p1)])) t
          refine XS.icmpNo X66.here hx rfl (hb hby at_118) rfl (flt c95).1 ?_
          show Steps p.tables e below (T66.setTop (mkF m 121 #[.val (.int p1), .val (.int p2), .val (.ref b2), .val (.int p1), .unset] [])) t
          refine XS.iloadN X66.here hx rfl (hb hby at_121) rfl ?_
          show Steps p.tables e below (T66.setTop (mkF m 122 #[.val (.int p1), .val (.int p2), .val (.ref b2), .val (.int p1), .unset] [(.int p1)])) t
          refine XS.bipush X66.here hx rfl (hb hby at_122) ?_
          show Steps p.tables e below (T66.setTop (mkF m 124 #[.val (.int p1), .val (.int p2), .val (.ref b2), .val (.int p1), .unset] [(.int (32 : Int32)), (.int p1)])) t
          refine XS.icmpYes X66.here hx rfl (pc0 := 124) (pc' := 149) rfl (hb hby at_124) rfl (tlt c96).2.2.1 (by decide) (by decide) ?_
          show Steps p.tables e below (T66.setTop (mkF m 149 #[.val (.int p1), .val (.int p2), .val (.ref b2), .val (.int p1), .unset] [])) t
          refine XS.iconst X66.here hx rfl (hb hby at_149) ?_
          exact k
        · by_cases c97 : (10 : Int32) < p1
          · by_cases c98 : p1 = (13 : Int32)
            · refine ⟨(1 : Int32), (by first | rfl | rw [if_neg c95, if_neg c96, if_pos c97, if_pos c98] | simp only [if_neg c95, if_neg c96, if_pos c97, if_pos c98]), fun t k => P94 t ?_⟩
              show Steps p.tables e below (T66.setTop (mkF m 118 #[.val (.int p1), .val (.int p2), .val (.ref b2), .val (.int p1), .unset] [(.int (9 : Int32)), (.int p1)])) t
              refine XS.icmpNo X66.here hx rfl (hb hby at_118) rfl (flt c95).1 ?_
              show Steps p.tables e below (T66.setTop (mkF m 121 #[.val (.int p1), .val (.int p2), .val (.ref b2), .val (.int p1), .unset] [])) t
              refine XS.iloadN X66.here hx rfl (hb hby at_121) rfl ?_
              show Steps p.tables e below (T66.setTop (mkF m 122 #[.val (.int p1), .val (.int p2), .val (.ref b2), .val (.int p1), .unset] [(.int p1)])) t
              refine XS.bipush X66.here hx rfl (hb hby at_122) ?_
              show Steps p.tables e below (T66.setTop (mkF m 124 #[.val (.int p1), .val (.int p2), .val (.ref b2), .val (.int p1), .unset] [(.int (32 : Int32)), (.int p1)])) t
              refine XS.icmpNo X66.here hx rfl (hb hby at_124) rfl (flt c96).2.2.1 ?_
              show Steps p.tables e below (T66.setTop (mkF m 127 #[.val (.int p1), .val (.int p2), .val (.ref b2), .val (.int p1), .unset] [])) t
              refine XS.iloadN X66.here hx rfl (hb hby at_127) rfl ?_
              show Steps p.tables e below (T66.setTop (mkF m 128 #[.val (.int p1), .val (.int p2), .val (.ref b2), .val (.int p1), .unset] [(.int p1)])) t
              refine XS.bipush X66.here hx rfl (hb hby at_128) ?_
              show Steps p.tables e below (T66.setTop (mkF m 130 #[.val (.int p1), .val (.int p2), .val (.ref b2), .val (.int p1), .unset] [(.int (10 : Int32)), (.int p1)])) t
              refine XS.icmpNo X66.here hx rfl (hb hby at_130) rfl (tlt c97).2.2.2 ?_
              show Steps p.tables e below (T66.setTop (mkF m 133 #[.val (.int p1), .val (.int p2), .val (.ref b2), .val (.int p1), .unset] [])) t
              refine XS.iloadN X66.here hx rfl (hb hby at_133) rfl ?_
              show Steps p.tables e below (T66.setTop (mkF m 134 #[.val (.int p1), .val (.int p2), .val (.ref b2), .val (.int p1), .unset] [(.int p1)])) t
              refine XS.bipush X66.here hx rfl (hb hby at_134) ?_
              show Steps p.tables e below (T66.setTop (mkF m 136 #[.val (.int p1), .val (.int p2), .val (.ref b2), .val (.int p1), .unset] [(.int (13 : Int32)), (.int p1)])) t
              refine XS.icmpYes X66.here hx rfl (pc0 := 136) (pc' := 145) rfl (hb hby at_136) rfl (teq c98).1 (by decide) (by decide) ?_
              show Steps p.tables e below (T66.setTop (mkF m 145 #[.val (.int p1), .val (.int p2), .val (.ref b2), .val (.int p1), .unset] [])) t
              refine XS.iconst X66.here hx rfl (hb hby at_145) ?_
              show Steps p.tables e below (T66.setTop (mkF m 146 #[.val (.int p1), .val (.int p2), .val (.ref b2), .val (.int p1), .unset] [(.int (1 : Int32))])) t
              refine XS.goto X66.here hx rfl (pc0 := 146) (pc' := 150) rfl (hb hby at_146) (by decide) (by decide) ?_
              exact k
            · by_cases c99 : p1 = (32 : Int32)
              · refine ⟨(1 : Int32), (by first | rfl | rw [if_neg c95, if_neg c96, if_pos c97, if_neg c98, if_pos c99] | simp only [if_neg c95, if_neg c96, if_pos c97, if_neg c98, if_pos c99]), fun t k => P94 t ?_⟩
                show Steps p.tables e below (T66.setTop (mkF m 118 #[.val (.int p1), .val (.int p2), .val (.ref b2), .val (.int p1), .unset] [(.int (9 : Int32)), (.int p1)])) t
                refine XS.icmpNo X66.here hx rfl (hb hby at_118) rfl (flt c95).1 ?_
                show Steps p.tables e below (T66.setTop (mkF m 121 #[.val (.int p1), .val (.int p2), .val (.ref b2), .val (.int p1), .unset] [])) t
                refine XS.iloadN X66.here hx rfl (hb hby at_121) rfl ?_
                show Steps p.tables e below (T66.setTop (mkF m 122 #[.val (.int p1), .val (.int p2), .val (.ref b2), .val (.int p1), .unset] [(.int p1)])) t
                refine XS.bipush X66.here hx rfl (hb hby at_122) ?_
                show Steps p.tables e below (T66.setTop (mkF m 124 #[.val (.int p1), .val (.int p2), .val (.ref b2), .val (.int p1), .unset] [(.int (32 : Int32)), (.int p1)])) t
                refine XS.icmpNo X66.here hx rfl (hb hby at_124) rfl (flt c96).2.2.1 ?_
                show Steps p.tables e below (T66.setTop (mkF m 127 #[.val (.int p1), .val (.int p2), .val (.ref b2), .val (.int p1), .unset] [])) t
                refine XS.iloadN X66.here hx rfl (hb hby at_127) rfl ?_
                show Steps p.tables e below (T66.setTop (mkF m 128 #[.val (.int p1), .val (.int p2), .val (.ref b2), .val (.int p1), .unset] [(.int p1)])) t
                refine XS.bipush X66.here hx rfl (hb hby at_128) ?_
                show Steps p.tables e below (T66.setTop (mkF m 130 #[.val (.int p1), .val (.int p2), .val (.ref b2), .val (.int p1), .unset] [(.int (10 : Int32)), (.int p1)])) t
                refine XS.icmpNo X66.here hx rfl (hb hby at_130) rfl (tlt c97).2.2.2 ?_
                show Steps p.tables e below (T66.setTop (mkF m 133 #[.val (.int p1), .val (.int p2), .val (.ref b2), .val (.int p1), .unset] [])) t
                refine XS.iloadN X66.here hx rfl (hb hby at_133) rfl ?_
                show Steps p.tables e below (T66.setTop (mkF m 134 #[.val (.int p1), .val (.int p2), .val (.ref b2), .val (.int p1), .unset] [(.int p1)])) t
                refine XS.bipush X66.here hx rfl (hb hby at_134) ?_
                show Steps p.tables e below (T66.setTop (mkF m 136 #[.val (.int p1), .val (.int p2), .val (.ref b2), .val (.int p1), .unset] [(.int (13 : Int32)), (.int p1)])) t
                refine XS.icmpNo X66.here hx rfl (hb hby at_136) rfl (feq c98).1 ?_
                show Steps p.tables e below (T66.setTop (mkF m 139 #[.val (.int p1), .val (.int p2), .val (.ref b2), .val (.int p1), .unset] [])) t
                refine XS.iloadN X66.here hx rfl (hb hby at_139) rfl ?_
                show Steps p.tables e below (T66.setTop (mkF m 140 #[.val (.int p1), .val (.int p2), .val (.ref b2), .val (.int p1), .unset] [(.int p1)])) t
                refine XS.bipush X66.here hx rfl (hb hby at_140) ?_
                show Steps p.tables e below (T66.setTop (mkF m 142 #[.val (.int p1), .val (.int p2), .val (.ref b2), .val (.int p1), .unset] [(.int (32 : Int32)), (.int p1)])) t
                refine XS.icmpNo X66.here hx rfl (hb hby at_142) rfl (teq c99).2 ?_
                show Steps p.tables e below (T66.setTop (mkF m 145 #[.val (.int p1), .val (.int p2), .val (.ref b2), .val (.int p1), .unset] [])) t
                refine XS.iconst X66.here hx rfl (hb hby at_145) ?_
                show Steps p.tables e below (T66.setTop (mkF m 146 #[.val (.int p1), .val (.int p2), .val (.ref b2), .val (.int p1), .unset] [(.int (1 : Int32))])) t
                refine XS.goto X66.here hx rfl (pc0 := 146) (pc' := 150) rfl (hb hby at_146) (by decide) (by decide) ?_
                exact k
              · refine ⟨(0 : Int32), (by first | rfl | rw [if_neg c95, if_neg c96, if_pos c97, if_neg c98, if_neg c99] | simp only [if_neg c95, if_neg c96, if_pos c97, if_neg c98, if_neg c99]), fun t k => P94 t ?_⟩
                show Steps p.tables e below (T66.setTop (mkF m 118 #[.val (.int p1), .val (.int p2), .val (.ref b2), .val (.int p1), .unset] [(.int (9 : Int32)), (.int p1)])) t
                refine XS.icmpNo X66.here hx rfl (hb hby at_118) rfl (flt c95).1 ?_
                show Steps p.tables e below (T66.setTop (mkF m 121 #[.val (.int p1), .val (.int p2), .val (.ref b2), .val (.int p1), .unset] [])) t
                refine XS.iloadN X66.here hx rfl (hb hby at_121) rfl ?_
                show Steps p.tables e below (T66.setTop (mkF m 122 #[.val (.int p1), .val (.int p2), .val (.ref b2), .val (.int p1), .unset] [(.int p1)])) t
                refine XS.bipush X66.here hx rfl (hb hby at_122) ?_
                show Steps p.tables e below (T66.setTop (mkF m 124 #[.val (.int p1), .val (.int p2), .val (.ref b2), .val (.int p1), .unset] [(.int (32 : Int32)), (.int p1)])) t
                refine XS.icmpNo X66.here hx rfl (hb hby at_124) rfl (flt c96).2.2.1 ?_
                show Steps p.tables e below (T66.setTop (mkF m 127 #[.val (.int p1), .val (.int p2), .val (.ref b2), .val (.int p1), .unset] [])) t
                refine XS.iloadN X66.here hx rfl (hb hby at_127) rfl ?_
                show Steps p.tables e below (T66.setTop (mkF m 128 #[.val (.int p1), .val (.int p2), .val (.ref b2), .val (.int p1), .unset] [(.int p1)])) t
                refine XS.bipush X66.here hx rfl (hb hby at_128) ?_
                show Steps p.tables e below (T66.setTop (mkF m 130 #[.val (.int p1), .val (.int p2), .val (.ref b2), .val (.int p1), .unset] [(.int (10 : Int32)), (.int p1)])) t
                refine XS.icmpNo X66.here hx rfl (hb hby at_130) rfl (tlt c97).2.2.2 ?_
                show Steps p.tables e below (T66.setTop (mkF m 133 #[.val (.int p1), .val (.int p2), .val (.ref b2), .val (.int p1), .unset] [])) t
                refine XS.iloadN X66.here hx rfl (hb hby at_133) rfl ?_
                show Steps p.tables e below (T66.setTop (mkF m 134 #[.val (.int p1), .val (.int p2), .val (.ref b2), .val (.int p1), .unset] [(.int p1)])) t
                refine XS.bipush X66.here hx rfl (hb hby at_134) ?_
                show Steps p.tables e below (T66.setTop (mkF m 136 #[.val (.int p1), .val (.int p2), .val (.ref b2), .val (.int p1), .unset] [(.int (13 : Int32)), (.int p1)])) t
                refine XS.icmpNo X66.here hx rfl (hb hby at_136) rfl (feq c98).1 ?_
                show Steps p.tables e below (T66.setTop (mkF m 139 #[.val (.int p1), .val (.int p2), .val (.ref b2), .val (.int p1), .unset] [])) t
                refine XS.iloadN X66.here hx rfl (hb hby at_139) rfl ?_
                show Steps p.tables e below (T66.setTop (mkF m 140 #[.val (.int p1), .val (.int p2), .val (.ref b2), .val (.int p1), .unset] [(.int p1)])) t
                refine XS.bipush X66.here hx rfl (hb hby at_140) ?_
                show Steps p.tables e below (T66.setTop (mkF m 142 #[.val (.int p1), .val (.int p2), .val (.ref b2), .val (.int p1), .unset] [(.int (32 : Int32)), (.int p1)])) t
                refine XS.icmpYes X66.here hx rfl (pc0 := 142) (pc' := 149) rfl (hb hby at_142) rfl (feq c99).2 (by decide) (by decide) ?_
                show Steps p.tables e below (T66.setTop (mkF m 149 #[.val (.int p1), .val (.int p2), .val (.ref b2), .val (.int p1), .unset] [])) t
                refine XS.iconst X66.here hx rfl (hb hby at_149) ?_
                exact k
          · refine ⟨(1 : Int32), (by first | rfl | rw [if_neg c95, if_neg c96, if_neg c97] | simp only [if_neg c95, if_neg c96, if_neg c97]), fun t k => P94 t ?_⟩
            show Steps p.tables e below (T66.setTop (mkF m 118 #[.val (.int p1), .val (.int p2), .val (.ref b2), .val (.int p1), .unset] [(.int (9 : Int32)), (.int p1)])) t
            refine XS.icmpNo X66.here hx rfl (hb hby at_118) rfl (flt c95).1 ?_
            show Steps p.tables e below (T66.setTop (mkF m 121 #[.val (.int p1), .val (.int p2), .val (.ref b2), .val (.int p1), .unset] [])) t
            refine XS.iloadN X66.here hx rfl (hb hby at_121) rfl ?_
            show Steps p.tables e below (T66.setTop (mkF m 122 #[.val (.int p1), .val (.int p2), .val (.ref b2), .val (.int p1), .unset] [(.int p1)])) t
            refine XS.bipush X66.here hx rfl (hb hby at_122) ?_
            show Steps p.tables e below (T66.setTop (mkF m 124 #[.val (.int p1), .val (.int p2), .val (.ref b2), .val (.int p1), .unset] [(.int (32 : Int32)), (.int p1)])) t
            refine XS.icmpNo X66.here hx rfl (hb hby at_124) rfl (flt c96).2.2.1 ?_
            show Steps p.tables e below (T66.setTop (mkF m 127 #[.val (.int p1), .val (.int p2), .val (.ref b2), .val (.int p1), .unset] [])) t
            refine XS.iloadN X66.here hx rfl (hb hby at_127) rfl ?_
            show Steps p.tables e below (T66.setTop (mkF m 128 #[.val (.int p1), .val (.int p2), .val (.ref b2), .val (.int p1), .unset] [(.int p1)])) t
            refine XS.bipush X66.here hx rfl (hb hby at_128) ?_
            show Steps p.tables e below (T66.setTop (mkF m 130 #[.val (.int p1), .val (.int p2), .val (.ref b2), .val (.int p1), .unset] [(.int (10 : Int32)), (.int p1)])) t
            refine XS.icmpYes X66.here hx rfl (pc0 := 130) (pc' := 145) rfl (hb hby at_130) rfl (flt c97).2.2.2 (by decide) (by decide) ?_
            show Steps p.tables e below (T66.setTop (mkF m 145 #[.val (.int p1), .val (.int p2), .val (.ref b2), .val (.int p1), .unset] [])) t
            refine XS.iconst X66.here hx rfl (hb hby at_145) ?_
            show Steps p.tables e below (T66.setTop (mkF m 146 #[.val (.int p1), .val (.int p2), .val (.ref b2), .val (.int p1), .unset] [(.int (1 : Int32))])) t
            refine XS.goto X66.here hx rfl (pc0 := 146) (pc' := 150) rfl (hb hby at_146) (by decide) (by decide) ?_
            exact k
    have P102 : Rch p e below (s₁.setTop (entryFrame m #[(.int p1), (.int p2)] maxLocals)) (T66.setTop (mkF m 153 #[.val (.int p1), .val (.int p2), .val (.ref b2), .val (.int p1), .val (.int v100)] [(.int p1)])) := fun t k => P101 t (by
      show Steps p.tables e below (T66.setTop (mkF m 150 #[.val (.int p1), .val (.int p2), .val (.ref b2), .val (.int p1), .unset] [(.int v100)])) t
      refine XS.istore X66.here hx rfl (hb hby at_150) rfl (l' := #[.val (.int p1), .val (.int p2), .val (.ref b2), .val (.int p1), .val (.int v100)]) rfl ?_
      show Steps p.tables e below (T66.setTop (mkF m 152 #[.val (.int p1), .val (.int p2), .val (.ref b2), .val (.int p1), .val (.int v100)] [])) t
      refine XS.iloadN X66.here hx rfl (hb hby at_152) rfl ?_
      exact k)
    have f104 : n0 ≤ h66.size := (Nat.le_trans (Nat.le_trans (Nat.le_trans (Nat.le_trans (Nat.le_trans (Nat.le_trans (Nat.le_trans (Nat.le_trans (Nat.le_trans (Nat.le_trans (Nat.le_trans (Nat.le_trans (Nat.le_trans (Nat.le_trans (Nat.le_trans (Nat.le_trans (Nat.le_trans Z0 E2.1) (Keep.of_wr W6).1) (Keep.of_wr W10).1) (Keep.of_wr W14).1) (Keep.of_wr W18).1) (Keep.of_wr W22).1) (Keep.of_wr W26).1) (Keep.of_wr W30).1) (Keep.of_wr W34).1) (Keep.of_wr W38).1) (Keep.of_wr W42).1) (Keep.of_wr W46).1) (Keep.of_wr W50).1) (Keep.of_wr W54).1) (Keep.of_wr W58).1) (Keep.of_wr W62).1) (Keep.of_wr W66).1)
    obtain ⟨_, _, ⟨T103, L103, k103, n103⟩, -, X103, ⟨Lc103, hQ103, l103, y103, z103⟩, st103⟩ := Jvm.LawKit.callS X66 hx (y := (⟨"com/example/rootdb/rootdb/core/XmlChars", "isSpace", "(I)Z"⟩ : MethodName)) hown (mvT hZ (hw _ (List.mem_of_getElem? (i := 2) rfl))) (mvT hZ (hw _ (List.mem_of_getElem? (i := 3) rfl))) (mvT hZ (hw _ (List.mem_of_getElem? (i := 4) rfl))) (mvT hZ (hw _ (List.mem_of_getElem? (i := 5) rfl))) (by decide) (backOf (W := 0) (rmS l Z a0 hw [] p1 h66 n0 f104 ) hZ (hw _ (List.mem_of_getElem? (i := 5) rfl)) (hw _ (List.mem_of_getElem? (i := 4) rfl)) (by decide) (by decide)) (g := (mkF m 153 #[.val (.int p1), .val (.int p2), .val (.ref b2), .val (.int p1), .val (.int v100)] [(.int p1)])) rfl (by rw [hml]; rfl) (argsL := [(.int p1)]) (rest := []) (lenOf pd_0 rfl) rfl (by show 2 * 0 + _ ≤ _; exact Nat.le_of_eq rfl) (hb hby at_153) (fun _ _ => ⟨rfl, e66, (by decide : 1 + 0 ≤ _), (by decide : 16 + 0 ≤ _)⟩)
    dsimp only [Pt.U, Pt.locs, Pt.cells, Pt.slots] at X103 l103 y103 z103 st103 hQ103
    subst l103 y103 z103
    obtain ⟨rfl, N103q, e103⟩ := hQ103
    have N103 := Fr.app N66 N103q
    have P105 : Rch p e below (s₁.setTop (entryFrame m #[(.int p1), (.int p2)] maxLocals)) (T103.setTop (mkF m 156 #[.val (.int p1), .val (.int p2), .val (.ref b2), .val (.int p1), .val (.int v100)] [(.int (if p1 = (32 : Int32) then (1 : Int32) else (if p1 = (10 : Int32) then (1 : Int32) else (if p1 = (9 : Int32) then (1 : Int32) else (if p1 = (13 : Int32) then (1 : Int32) else (0 : Int32))))))])) := fun t k => P102 t (st103 t k)
    obtain ⟨x106, hx106⟩ : ∃ z : Int32, z = (if p1 = (32 : Int32) then (1 : Int32) else (if p1 = (10 : Int32) then (1 : Int32) else (if p1 = (9 : Int32) then (1 : Int32) else (if p1 = (13 : Int32) then (1 : Int32) else (0 : Int32))))) := ⟨_, rfl⟩
    rw [← hx106] at P105
    have P107 : Rch p e below (s₁.setTop (entryFrame m #[(.int p1), (.int p2)] maxLocals)) (T103.setTop (mkF m 158 #[.val (.int p1), .val (.int p2), .val (.ref b2), .val (.int p1), .val (.int v100)] [(.int v100), (.int x106)])) := fun t k => P105 t (by
      show Steps p.tables e below (T103.setTop (mkF m 156 #[.val (.int p1), .val (.int p2), .val (.ref b2), .val (.int p1), .val (.int v100)] [(.int x106)])) t
      refine XS.iload X103.here hx rfl (hb hby at_156) rfl ?_
      exact k)
    obtain ⟨v109, hv109, P110⟩ : ∃ (v109 : Int32), v109 = (if x106 = v100 then (1 : Int32) else (0 : Int32)) ∧ Rch p e below (s₁.setTop (entryFrame m #[(.int p1), (.int p2)] maxLocals)) (T103.setTop (mkF m 166 #[.val (.int p1), .val (.int p2), .val (.ref b2), .val (.int p1), .val (.int v100)] [(.int v109)])) := by
      by_cases c108 : x106 = v100
      · refine ⟨(1 : Int32), (by first | rfl | rw [if_pos c108] | simp only [if_pos c108]), fun t k => P107 t ?_⟩
        show Steps p.tables e below (T103.setTop (mkF m 158 #[.val (.int p1), .val (.int p2), .val (.ref b2), .val (.int p1), .val (.int v100)] [(.int v100), (.int x106)])) t
        refine XS.icmpNo X103.here hx rfl (hb hby at_158) rfl (teq c108).2 ?_
        show Steps p.tables e below (T103.setTop (mkF m 161 #[.val (.int p1), .val (.int p2), .val (.ref b2), .val (.int p1), .val (.int v100)] [])) t
        refine XS.iconst X103.here hx rfl (hb hby at_161) ?_
        show Steps p.tables e below (T103.setTop (mkF m 162 #[.val (.int p1), .val (.int p2), .val (.ref b2), .val (.int p1), .val (.int v100)] [(.int (1 : Int32))])) t
        refine XS.goto X103.here hx rfl (pc0 := 162) (pc' := 166) rfl (hb hby at_162) (by decide) (by decide) ?_
        exact k
      · refine ⟨(0 : Int32), (by first | rfl | rw [if_neg c108] | simp only [if_neg c108]), fun t k => P107 t ?_⟩
        show Steps p.tables e below (T103.setTop (mkF m 158 #[.val (.int p1), .val (.int p2), .val (.ref b2), .val (.int p1), .val (.int v100)] [(.int v100), (.int x106)])) t
        refine XS.icmpYes X103.here hx rfl (pc0 := 158) (pc' := 165) rfl (hb hby at_158) rfl (feq c108).2 (by decide) (by decide) ?_
        show Steps p.tables e below (T103.setTop (mkF m 165 #[.val (.int p1), .val (.int p2), .val (.ref b2), .val (.int p1), .val (.int v100)] [])) t
        refine XS.iconst X103.here hx rfl (hb hby at_165) ?_
        exact k
    have hfin : v109 = (1 : Int32) := by
      subst hv109 hx106 hv100
      exact own_law p1
    have P111 : Rch p e below (s₁.setTop (entryFrame m #[(.int p1), (.int p2)] maxLocals)) (T103.setTop (mkF m 166 #[.val (.int p1), .val (.int p2), .val (.ref b2), .val (.int p1), .val (.int v100)] [(.int (1 : Int32))])) := by have q_ := P110; rw [hfin] at q_; exact q_
    obtain ⟨fs, hr, hrun, hended, hW, hsame⟩ := X103.leave (v := some (.int (1 : Int32))) (fun h => by rw [Bd.returns] at h; cases h)
    refine ⟨_, _, P111 _ ?_, hrun, hended, _, _, rfl, ?_, ⟨_, rfl⟩, hW, hsame.mono (by decide) (by decide)⟩
    · exact retN X103 hx (t := .boolean) Bd.returns (by simp) (hb hby at_166) hr
    · show Q_rm0 Z p1 p2 h0 n0 _ T103.heap _
      rw [e103]
      exact ⟨rfl, N103⟩
set_option maxRecDepth 65536 in
set_option maxHeartbeats 40000000 in
theorem comes_1 {Post : Tables → Env → Array Value → State → Outcome → State → Prop} (hpost : ∀ tb e args s v u, (limb_1_1.after args s (.returned v) u = true ∧ limb_1_2.after args s (.returned v) u = true ∧ True) → FrameEnd s (.returned v) u (Jvm.fieldLocs frame_1_writes args s ++ Jvm.arrayLocs frame_1_arrays args s ++ Jvm.staticLocs frame_1_statics s) 16 128 → Post tb e args s (.returned v) u) :
    ArmFor flags0 classFile x code maxLocals ret World_1 tables_1 room_1 Calls_1 rest_1 Pre_1 Post := by
  intro l hfl _ _ p e ha hc hk s m args below hf hA hF happ hP
  obtain ⟨hcalls, hrest, hpre⟩ := hP
  obtain ⟨-, -, -, hnamed, -, -, -, hat⟩ := (Spec.applies_iff hf).mp happ
  obtain ⟨hg, hn⟩ := and_e (Cond.before_iff.mp (show (Jvm.Cond.and given_1 narrow_1).before args s = true from hpre))
  obtain ⟨gc, gr0⟩ := and_e hg
  obtain ⟨ga0, gr1⟩ := and_e gr0
  obtain ⟨w0, w1, rfl⟩ : ∃ w0 w1 : Value, args = #[w0, w1] := by
    have hs : args.size = 2 := by simpa [Cond.value, given_1] using gc
    obtain ⟨L⟩ := args
    match L, hs with
    | [w0, w1], _ => exact ⟨w0, w1, rfl⟩
  have hw := fun d (hd : d ∈ tables_1) => atoms_spec (ws := Jvm.Cond.code x code maxLocals ret :: tables_1) hat d (List.mem_cons_of_mem _ hd)
  have hfit : Fit s := fun {y c} hc i hi => by
    obtain ⟨ha, rfl⟩ := Array.getElem?_eq_some_iff.mp hc
    have q := List.all_eq_true.mp ((Array.all_eq_true_iff_forall_mem.mp hF) _ (Array.getElem_mem ha)) i (List.mem_range.mpr hi)
    simpa [Array.getElem?_eq_getElem hi] using q
  obtain ⟨i0, ei0⟩ := is_v ga0
  obtain rfl : w0 = (.int i0) := Option.some.inj ei0
  obtain ⟨i1, ei1⟩ := is_v gr1
  obtain rfl : w1 = (.int i1) := Option.some.inj ei1
  obtain ⟨n, o, h1, h2, h3, _, L, rfl, ⟨rfl, N⟩, hq⟩ := rm0 l s _ hw tables_1 i0 i1 s.heap s.heap.size (Nat.le_refl _)  p e ha hc hk s m _ below hf ((Spec.applies_iff_loose hf).mp happ).1 ⟨rfl, State.Warmed39.refl s, rfl⟩ trivial
  refine ⟨n, _, h1, h2, h3, hpost _ _ _ _ _ _ ⟨Cond.after_iff.mpr rfl, Cond.after_iff.mpr (eq_i res_at (Term.int_eval (1)) rfl), trivial⟩ ⟨hq.1, hq.2.1, (hq.2.2.sift fun y hy => Or.inr (N y hy)).mono (by decide) (by decide)⟩⟩
theorem main_1_1 : Claimed_1_1 := comes_1 fun _ _ _ _ _ _ h hF => ⟨h.1, hF⟩
theorem main_1_2 : Claimed_1_2 := comes_1 fun _ _ _ _ _ _ h hF => ⟨h.2.1, hF⟩
end Jvm.Pilot.@@N@@
namespace Jvm.Pilot.@@N@@
open Jvm Jvm.ClassFile Sem Op Lib Jvm.Free Jvm.Stand Jvm.Pilot.@@N@@.Jvm.D
/-! MADE BY PROGRAM (witnessworld.py) out of the Statement's table words and the real class files: 9 classes; the members and pool entries that the words name. The judged class is class 1, her method 1. -/
namespace start1
open Jvm.ClassFile
def u (s : String) : CpInfo := .utf8 (stringToUtf16 s)
/-- a pool by its gaps: so many unusable entries, then the entry; so many at the end -/
def gap : Nat → List CpInfo → List CpInfo
  | 0, r => r
  | n + 1, r => .unusable :: gap n r
def poolList (es : List (Nat × CpInfo)) (last : Nat) : List CpInfo := es.foldr (fun e r => gap e.1 (e.2 :: r)) (gap last [])
def pool (es : List (Nat × CpInfo)) (last : Nat) : Array CpInfo := ⟨poolList es last⟩
def fileOf (pool : Array CpInfo) (this : Nat) (attrs : Array Attribute := #[]) (ms : Array MethodInfo := #[]) (fl : Nat := 33) (sup : Nat := 0) (ifs : Array Nat := #[]) (fds : Array FieldInfo := #[]) : ClassFile where
  minorVersion := 0
  majorVersion := 65
  constantPool := pool
  accessFlags := fl
  thisClass := this
  superClass := sup
  interfaces := ifs
  fields := fds
  methods := ms
  attributes := attrs
def plain (name : String) (sup : Option ClassId) : Class where
  name := name
  kind := .ordinary
  loader := none
  accessFlags := 33
  super := sup
  interfaces := #[]
  cf := none
  fields := #[]
  methods := #[]
  instanceTypes := #[]
  staticTypes := #[]
  resolved := #[]
  callSites := []
  init := .initialized
  statics := none
  mirror := none

def pool0 : Array CpInfo := pool [(5, u "<init>"), (0, u "()V"), (1, .class_ 10), (1, u "java/lang/Object")] 113

def k0m0 : Method := { name := "<init>", desc := "()V", sig := { parameters := [], returnType := none }, accessFlags := 1, code := none }
/-- java/lang/Object -/
def k0 : Class := { plain "java/lang/Object" none with
  accessFlags := 33
  interfaces := #[]
  cf := some (fileOf pool0 8 #[] #[{ accessFlags := 1, nameIndex := 5, descriptorIndex := 6, attributes := #[] }] 33 0 #[] #[])
  fields := #[]
  methods := #[k0m0]
  instanceTypes := #[]
  staticTypes := #[]
  resolved := Array.replicate 124 none
  statics := none }

def pool1 : Array CpInfo := pool [(2, .class_ 4), (1, u "java/lang/Object"), (0, u "<init>"), (0, u "()V"), (0, .integer 65568), (0, .methodref 9 10), (0, .class_ 11), (0, .nameAndType 12 13), (0, u "com/example/rootdb/rootdb/core/XmlChars"), (0, u "isSpace"), (0, u "(I)Z"), (0, .class_ 15), (0, u "com/example/rootdb/rootdb/core/XmlCharsIsSpacePinLaw"), (2, u "law"), (0, u "(II)Z")] 5

def k1m0 : Method := { name := "<init>", desc := "()V", sig := { parameters := [], returnType := none }, accessFlags := 2, code := none }
def k1c1 : Code := { maxStack := 4, maxLocals := 5, code := code, exceptionTable := #[], attributes := #[] }
def k1m1 : Method := { name := "law", desc := "(II)Z", sig := { parameters := [.int, .int], returnType := some .boolean }, accessFlags := 9, code := some k1c1 }
/-- com/example/rootdb/rootdb/core/XmlCharsIsSpacePinLaw -/
def k1 : Class := { plain "com/example/rootdb/rootdb/core/XmlCharsIsSpacePinLaw" (some 0) with
  accessFlags := 49
  interfaces := #[]
  cf := some (fileOf pool1 14 #[] #[{ accessFlags := 2, nameIndex := 5, descriptorIndex := 6, attributes := #[] }, { accessFlags := 9, nameIndex := 18, descriptorIndex := 19, attributes := #[] }] 49 2 #[] #[])
  fields := #[]
  methods := #[k1m0, k1m1]
  instanceTypes := #[]
  staticTypes := #[]
  resolved := Array.replicate 25 none
  statics := none }

def pool2 : Array CpInfo := pool [(2, .class_ 4), (1, u "java/lang/Object"), (0, u "<init>"), (0, u "()V"), (6, .class_ 15), (1, u "com/example/rootdb/rootdb/core/XmlChars"), (0, u "isSpace"), (0, u "(I)Z"), (2, u "ASCII_NAME_START"), (0, u "[Z"), (2, u "NAME_START_RANGES"), (0, u "[I"), (6, u "ASCII_NAME"), (2, u "NAME_ONLY_RANGES"), (2, u "ASCII_PUBID")] 23

def k2m0 : Method := { name := "<init>", desc := "()V", sig := { parameters := [], returnType := none }, accessFlags := 2, code := none }
def k2c1 : Code := { maxStack := 2, maxLocals := 1, code := prog_50_method_6_code, exceptionTable := #[], attributes := #[] }
def k2m1 : Method := { name := "isSpace", desc := "(I)Z", sig := { parameters := [.int], returnType := some .boolean }, accessFlags := 8, code := some k2c1 }
/-- com/example/rootdb/rootdb/core/XmlChars -/
def k2 : Class := { plain "com/example/rootdb/rootdb/core/XmlChars" (some 0) with
  accessFlags := 32
  interfaces := #[]
  cf := some (fileOf pool2 13 #[] #[{ accessFlags := 2, nameIndex := 5, descriptorIndex := 6, attributes := #[] }, { accessFlags := 8, nameIndex := 16, descriptorIndex := 17, attributes := #[] }] 32 2 #[] #[{ accessFlags := 26, nameIndex := 24, descriptorIndex := 25, attributes := #[] }, { accessFlags := 26, nameIndex := 35, descriptorIndex := 25, attributes := #[] }, { accessFlags := 26, nameIndex := 20, descriptorIndex := 21, attributes := #[] }, { accessFlags := 26, nameIndex := 32, descriptorIndex := 21, attributes := #[] }, { accessFlags := 26, nameIndex := 38, descriptorIndex := 21, attributes := #[] }])
  fields := #[{ name := "NAME_START_RANGES", type := (.array .int), accessFlags := 26, slot := 0, constantValue := 0 }, { name := "NAME_ONLY_RANGES", type := (.array .int), accessFlags := 26, slot := 1, constantValue := 0 }, { name := "ASCII_NAME_START", type := (.array .boolean), accessFlags := 26, slot := 2, constantValue := 0 }, { name := "ASCII_NAME", type := (.array .boolean), accessFlags := 26, slot := 3, constantValue := 0 }, { name := "ASCII_PUBID", type := (.array .boolean), accessFlags := 26, slot := 4, constantValue := 0 }]
  methods := #[k2m0, k2m1]
  instanceTypes := #[]
  staticTypes := #[(.array .int), (.array .int), (.array .boolean), (.array .boolean), (.array .boolean)]
  resolved := Array.replicate 62 none
  statics := none }

def pool3 : Array CpInfo := pool [(1, u "java/lang/Cloneable"), (0, .class_ 1), (0, u "java/lang/Object"), (0, .class_ 3)] 3

/-- java/lang/Cloneable -/
def k3 : Class := { plain "java/lang/Cloneable" (some 0) with
  accessFlags := 1537
  interfaces := #[]
  cf := some (fileOf pool3 2 #[] #[] 1537 4 #[] #[])
  fields := #[]
  methods := #[]
  instanceTypes := #[]
  staticTypes := #[]
  resolved := Array.replicate 8 none
  statics := none }

def pool4 : Array CpInfo := pool [(1, u "java/io/Serializable"), (0, .class_ 1), (0, u "java/lang/Object"), (0, .class_ 3)] 3

/-- java/io/Serializable -/
def k4 : Class := { plain "java/io/Serializable" (some 0) with
  accessFlags := 1537
  interfaces := #[]
  cf := some (fileOf pool4 2 #[] #[] 1537 4 #[] #[])
  fields := #[]
  methods := #[]
  instanceTypes := #[]
  staticTypes := #[]
  resolved := Array.replicate 8 none
  statics := none }

/-- the primitive byte -/
def k5 : Class := { plain "byte" none with kind := .primitive 'B', accessFlags := 0x411 }
/-- [B -/
def k6 : Class := { plain "[B" (some 0) with kind := .array 5 .byte, interfaces := #[3, 4], accessFlags := 1041 }

/-- the primitive int -/
def k7 : Class := { plain "int" none with kind := .primitive 'I', accessFlags := 0x411 }
/-- [I -/
def k8 : Class := { plain "[I" (some 0) with kind := .array 7 .int, interfaces := #[3, 4], accessFlags := 1041 }

def heap : Heap := #[]
def classes : Array Class := #[k0, k1, k2, k3, k4, k5, k6, k7, k8]
def interned : List (Array UInt16 × Addr) := []
def slotsUsed : Nat := 0
def theMethod : MethodId := ⟨1, 1⟩
def args0 : Array Value := #[.int 5, .int 7]
def aboutOver (below : List Frame) : State where
  vm := { classes := classes, interned := interned.toArray }
  heap := heap
  slotsUsed := slotsUsed
  threads := #[{ frames := .invoking theMethod args0 :: below }]
def below0 : List Frame := [.native { method := ⟨0, 0⟩, args := #[] }]
def about1 : State := aboutOver below0
def p0 : Program := .bare "" "" ""
def e0 : Env := launch0.env 0 0 0
theorem w_frames : about1.frames = Frame.invoking theMethod args0 :: below0 := rfl
set_option maxRecDepth 65536 in
theorem w_args : argsFit about1.vm theMethod args0 = true := by decide +kernel
set_option maxRecDepth 65536 in
theorem w_heap : heapFits about1 = true := by decide +kernel
set_option maxRecDepth 65536 in
theorem w_runnable : about1.curStatus? = some .runnable := by decide +kernel
set_option maxRecDepth 65536 in
theorem w_alone : about1.alone = true := by decide +kernel
set_option maxRecDepth 65536 in
theorem w_named : about1.methodNamed? x = some theMethod := by decide +kernel
set_option maxRecDepth 65536 in
theorem w_hears : about1.hears theMethod below0 = true := by decide +kernel
set_option maxRecDepth 65536 in
theorem w_ripe : about1.ripe theMethod args0 below0 = true := by decide +kernel
theorem w_running : about1.status = .running := rfl
set_option maxRecDepth 65536 in
theorem w_room : about1.hasRoom e0.platform room_1 = true :=
  launch0.hasRoom_least _ room_1 (by decide +kernel) (by decide +kernel) (by decide +kernel) (by decide +kernel) (by decide +kernel) (by decide +kernel)
theorem allAtoms_all (ts : List Jvm.Cond) (a : Array Jvm.Value) (st : Jvm.State) : (allAtoms ts).before a st = ts.all (fun c => c.before a st) := by
  induction ts with
  | nil => rfl
  | cons c t ih =>
    show (Jvm.Cond.and c (allAtoms t)).before a st = _
    rw [Jvm.Cond.before_and, ih, List.all_cons]
def words1 : List Jvm.Cond := Jvm.Cond.code x code maxLocals ret :: tables_1
/-- a 'code' word, met by the world's own term for the bytes: nothing is compared byte by byte -/
theorem code_word {y : MethodName} {bytes : ByteArray} {mx : Nat} {rt : Option FieldType} {a : Array Value} {s : State} {m : MethodId} {meth : Method} {c : Code} (h1 : s.methodNamed? y = some m) (h2 : s.vm.method? m = some meth) (h3 : meth.code = some c) (h4 : c.code = bytes)
    (h5 : (c.maxLocals == mx && c.exceptionTable.isEmpty && decide (c.maxStack ≤ mostOperands) && decide (meth.sig.returnType = rt) && !meth.locks && decide (parseMethodDescriptor y.desc = some meth.sig)) = true) : (Jvm.Cond.code y bytes mx rt).before a s = true := by
  simp only [Bool.and_eq_true, beq_iff_eq, Bool.not_eq_true', decide_eq_true_eq] at h5
  obtain ⟨⟨⟨⟨⟨g1, g2⟩, g3⟩, g4⟩, g5⟩, g6⟩ := h5
  simp [Cond.before, Cond.holds, Cond.value, h1, h2, h3, h4, g1, g2, g3, g4, g5, g6]
def isCode : Jvm.Cond → Bool
  | .code _ _ _ _ => true
  | _ => false
theorem all_split {L : List Jvm.Cond} {P : Jvm.Cond → Bool} (h1 : L.all (fun c => isCode c || P c) = true) (h2 : ∀ c ∈ L.filter isCode, P c = true) : L.all P = true := by
  refine List.all_eq_true.mpr fun c hc => ?_
  have h := List.all_eq_true.mp h1 c hc
  rcases Bool.eq_false_or_eq_true (isCode c) with hi | hi
  · exact h2 c (List.mem_filter.mpr ⟨hc, hi⟩)
  · simpa [hi] using h
set_option maxRecDepth 65536 in
theorem w_c0 : (Jvm.Cond.code x code maxLocals ret).before args0 about1 = true := code_word (m := ⟨1, 1⟩) (meth := k1m1) (c := k1c1) (by decide +kernel) rfl rfl rfl (by decide +kernel)
set_option maxRecDepth 65536 in
theorem w_c1 : (Jvm.Cond.code ({ cls := "com/example/rootdb/rootdb/core/XmlChars", name := "isSpace", desc := "(I)Z" } : Jvm.MethodName) prog_50_method_6_code (1 : Nat) (Option.some Jvm.ClassFile.FieldType.boolean)).before args0 about1 = true := code_word (m := ⟨2, 1⟩) (meth := k2m1) (c := k2c1) (by decide +kernel) rfl rfl rfl (by decide +kernel)
def codes1 : List Jvm.Cond := [Jvm.Cond.code x code maxLocals ret, Jvm.Cond.code ({ cls := "com/example/rootdb/rootdb/core/XmlChars", name := "isSpace", desc := "(I)Z" } : Jvm.MethodName) prog_50_method_6_code (1 : Nat) (Option.some Jvm.ClassFile.FieldType.boolean)]
set_option maxRecDepth 65536 in
theorem codes_eq : words1.filter isCode = codes1 := rfl
theorem w_codes : ∀ c ∈ words1.filter isCode, c.before args0 about1 = true := by
  rw [codes_eq]
  intro c hc
  simp only [codes1, List.mem_cons, List.not_mem_nil, or_false] at hc
  rcases hc with rfl | rfl
  · exact w_c0
  · exact w_c1
set_option maxRecDepth 65536 in
theorem w_t1 : words1.all (fun c => isCode c || c.before args0 about1) = true := by decide +kernel
theorem w_tables : (allAtoms (Jvm.Cond.code x code maxLocals ret :: tables_1)).before args0 about1 = true := by
  rw [allAtoms_all]
  show words1.all (fun c => c.before args0 about1) = true
  refine all_split ?_ w_codes
  rw [w_t1]
set_option maxRecDepth 65536 in
theorem w_case : (Jvm.Cond.and given_1 narrow_1).before args0 about1 = true := by decide +kernel
theorem w_applies : (headSpec (Jvm.Cond.code x code maxLocals ret :: tables_1) room_1).applies x e0.platform about1 = true :=
  (Spec.applies_iff w_frames).mpr ⟨w_running, w_runnable, w_alone, w_named, w_hears, w_ripe, w_room, w_tables⟩
theorem atStart : AtStart classFile x code maxLocals ret World_1 tables_1 room_1 Calls_1 rest_1 Pre_1 launch0 p0 e0 about1 theMethod args0 below0 :=
  ⟨lists_1, trivial, launch0.admits_env _ _ _, launch0.least_env, fairChoices_fair.cas, fairChoices_fair.clock, w_frames, w_args, w_heap, w_applies, trivial, trivial, w_case⟩
end start1
theorem witness_1 : WitnessClaimed_1 := ⟨start1.p0, start1.e0, start1.about1, start1.theMethod, start1.args0, start1.below0, start1.atStart⟩
end Jvm.Pilot.@@N@@
