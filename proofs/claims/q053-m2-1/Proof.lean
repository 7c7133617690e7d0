import JvmDerived
import JvmDerived.Pilot.@@N@@Statement
import JvmDerived.Pilot.@@N@@Code
set_option linter.unusedVariables false
set_option linter.unusedSimpArgs false
@@BLOCK:NumsL.lean.txt@@
namespace Jvm.RoadKit
open Sem ClassFile Op Lib Jvm.Stand Jvm.Free Jvm.LawKit
section New
variable {p : Program} {l : Launch} {e : Env} {R : Room} {s : State} {m : MethodId} {args : Array Value} {below : List Frame} {meth : Method} {c : Code} {T : State} {locs : List Loc} {cells slots : Nat}
theorem retI (X : Stand p l e R s m args below meth c T locs cells slots) (hx : p.tables.exec = Jvm.exec) {pc : Nat} {Ls : Array Slot} {z : Int32} {rest : List Value} (hret : meth.sig.returnType = some .int) (hd : decode c.code pc = .ok (.ireturn, 1)) {fs : List Frame}
    (hl : ∀ (f : JFrame) (acts : List Action), f.method = m → f.locked = none → f.entered = [] → (doReturn e (T.setTop f) acts (some (.int z))).1 = T.setFrames fs) : Steps p.tables e below (T.setTop (mkF m pc Ls (.int z :: rest))) (T.setFrames fs) := by
  have hm' : T.vm.method? m = some meth := X.method'
  have hn : narrow .int (.int z) = .int z := rfl
  show Steps p.tables e below (T.setTop { method := m, pc := pc, locals := Ls, stack := _ :: rest, locked := none }) _
  jvm_step X.here [X.here.top, hx, hd, hm', hret, hn]
  first | (intro acts; rw [hl _ acts rfl rfl rfl]) | rw [hl _ _ rfl rfl rfl]
  exact Steps.refl _
end New
end Jvm.RoadKit
namespace Jvm.Pilot.@@N@@
open Jvm Jvm.ClassFile Sem Op Lib Jvm.Free Jvm.Stand Jvm.LawKit Jvm.RoadKit Bundle Jvm.Pilot.@@N@@.Jvm.D
theorem pn_4 : plainName "com/example/ledgerstream/ledgerstream/model/GroupConfig" = true := by first | (simp [plainName, overriddenIn]; done) | decide +kernel
theorem ef_4 (m : MethodId) (x0 : Addr) (x1 : Int32) : entryFrame m #[(.ref x0), (.int x1)] 2 = mkF m 0 #[.val (.ref x0), .val (.int x1)] [] := by first | (simp [entryFrame, mkF, argsToLocals, Value.category]; done) | rfl
theorem d4_0 : decode prog_105_method_2_code 0 = .ok (.iload_n 1, 1) := by decide +kernel
theorem d4_1 : decode prog_105_method_2_code 1 = .ok (.aload_n 0, 1) := by decide +kernel
theorem d4_2 : decode prog_105_method_2_code 2 = .ok (.getfield 20, 3) := by decide +kernel
theorem d4_5 : decode prog_105_method_2_code 5 = .ok (.if_icmp .lt 15, 3) := by decide +kernel
theorem d4_20 : decode prog_105_method_2_code 20 = .ok (.iconst 0, 1) := by decide +kernel
theorem d4_21 : decode prog_105_method_2_code 21 = .ok (.ireturn, 1) := by decide +kernel
theorem d4_8 : decode prog_105_method_2_code 8 = .ok (.iload_n 1, 1) := by decide +kernel
theorem d4_9 : decode prog_105_method_2_code 9 = .ok (.aload_n 0, 1) := by decide +kernel
theorem d4_10 : decode prog_105_method_2_code 10 = .ok (.getfield 26, 3) := by decide +kernel
theorem d4_13 : decode prog_105_method_2_code 13 = .ok (.if_icmp .gt 7, 3) := by decide +kernel
theorem d4_16 : decode prog_105_method_2_code 16 = .ok (.iconst 1, 1) := by decide +kernel
theorem d4_17 : decode prog_105_method_2_code 17 = .ok (.goto 4, 3) := by decide +kernel
def own_allow (a1 : Addr) (p2 : Int32) (mn : Int32) (mx : Int32) : Int32 := if p2 < mn then ((0 : Int32)) else (if mx < p2 then ((0 : Int32)) else ((1 : Int32)))
def Q4 (Z : State) (a1 : Addr) (p2 : Int32) (mn : Int32) (mx : Int32) (h0 : Heap) (n0 : Nat) (v : Option Value) (h : Heap) (L : List Loc) : Prop := v = some (.int (own_allow a1 p2 mn mx)) ∧ Fr n0 L ∧ h = h0
set_option maxRecDepth 65536 in
set_option maxHeartbeats 40000000 in
theorem rm4 (l : Launch) (Z : State) (a0 : Array Value) (hw : ∀ d ∈ tables_1, d.before a0 Z = true) (ws : List Jvm.Cond) (a1 : Addr) (p2 : Int32) (mn : Int32) (mx : Int32) (h0 : Heap) (n0 : Nat) (Z0 : n0 ≤ h0.size) (F1 : Fld Z h0 a1 "com/example/ledgerstream/ledgerstream/model/GroupConfig" "minSessionTimeoutMs" "I" (.int mn)) (F2 : Fld Z h0 a1 "com/example/ledgerstream/ledgerstream/model/GroupConfig" "maxSessionTimeoutMs" "I" (.int mx)) :
    MetFree l (⟨"com/example/ledgerstream/ledgerstream/model/GroupConfig", "allowsSessionTimeout", "(I)Z"⟩ : MethodName) (head1 (Jvm.Cond.code (⟨"com/example/ledgerstream/ledgerstream/model/GroupConfig", "allowsSessionTimeout", "(I)Z"⟩ : MethodName) prog_105_method_2_code 2 (some .boolean) :: ws) ({ frames := 0, cells := 0, slots := 0, locals := 0 } : Room)) (fun a U => a = #[(.ref a1), (.int p2)] ∧ Z.Warmed39 U.vm ∧ U.heap = h0) (fun _ _ _ _ _ => True) (fun _ U o U' => ∃ v L, o = .returned v ∧ Q4 Z a1 p2 mn mx h0 n0 v U'.heap L ∧ FrameEnd U o U' L ({ frames := 0, cells := 0, slots := 0, locals := 0 } : Room).cells ({ frames := 0, cells := 0, slots := 0, locals := 0 } : Room).slots) := by
  refine MetFree.of_bodySF (plainFor_of_name pn_4) hisR ?_
  intro p e s m args below meth c s₁ Bd hml0 hP hK
  obtain ⟨rfl, hZ, hh⟩ := hP
  have hx := Bd.exec
  have hby := Bd.bytes
  have hml : c.maxLocals = 2 := hml0
  have hown : s.vm.findClass "com/example/ledgerstream/ledgerstream/model/GroupConfig" = some m.cls := findClass_of_methodNamed Bd.named
  have hnm := (name_of_methodNamed Bd.named Bd.method).1
  have X0 : Stand p l e ({ frames := 0, cells := 0, slots := 0, locals := 0 } : Room) s m #[(.ref a1), (.int p2)] below meth c s₁ [] 0 0 := Stand.of_body Bd
  have e0 : s₁.heap = h0 := by rw [← hh, Bd.state]; rfl
  have N0 := Fr.nil n0
  have pre0 : ∀ t, Steps p.tables e below (s₁.setTop (mkF m 0 #[.val (.ref a1), .val (.int p2)] [])) t → Steps p.tables e below (s₁.setTop (entryFrame m #[(.ref a1), (.int p2)] 2)) t := fun t k => castTop (ef_4 m a1 p2) k
  have pre1 : ∀ t, Steps p.tables e below (s₁.setTop (mkF m 2 #[.val (.ref a1), .val (.int p2)] [(.ref a1), (.int p2)])) t → Steps p.tables e below _ t := fun t kt => pre0 t (by
    show Steps p.tables e below (s₁.setTop (mkF m 0 #[.val (.ref a1), .val (.int p2)] [])) _
    refine XS.iloadN X0.here hx rfl (hb hby d4_0) rfl ?_
    show Steps p.tables e below (s₁.setTop (mkF m 1 #[.val (.ref a1), .val (.int p2)] [(.int p2)])) _
    refine XS.aloadN X0.here hx rfl (hb hby d4_1) rfl rfl ?_
    exact kt)
  obtain ⟨T2, X2, e2, st2⟩ := getF X0 hx hZ hown (host := "") (Or.inl (hw _ (List.mem_of_getElem? (i := 15) rfl))) Via.refl e0 F1 (g := (mkF m 2 #[.val (.ref a1), .val (.int p2)] [(.ref a1), (.int p2)])) rfl rfl (hb hby d4_2)
  have pre3 : ∀ t, Steps p.tables e below (T2.setTop (mkF m 5 #[.val (.ref a1), .val (.int p2)] [(.int mn), (.int p2)])) t → Steps p.tables e below _ t := fun t kt => pre1 t (by
    show Steps p.tables e below (s₁.setTop (mkF m 2 #[.val (.ref a1), .val (.int p2)] [(.ref a1), (.int p2)])) _
    refine st2 _ ?_
    exact kt)
  by_cases hc5 : p2 < mn
  · obtain ⟨fs, hr, hrun, hended, hW, hsame⟩ := X2.leave (v := some (.int (0 : Int32))) (fun h => by rw [Bd.returns] at h; cases h)
    refine ⟨_, _, pre3 _ ?_, hrun, hended, _, _, rfl, ?_, ⟨_, rfl⟩, hW, hsame.mono (by decide) (by decide)⟩
    · show Steps p.tables e below (T2.setTop (mkF m 5 #[.val (.ref a1), .val (.int p2)] [(.int mn), (.int p2)])) _
      refine XS.icmpYes X2.here hx rfl (pc0 := 5) (pc' := 20) rfl (hb hby d4_5) rfl (tlt hc5).1 (by decide) (by decide) ?_
      show Steps p.tables e below (T2.setTop (mkF m 20 #[.val (.ref a1), .val (.int p2)] [])) _
      refine XS.iconst X2.here hx rfl (hb hby d4_20) ?_
      show Steps p.tables e below (T2.setTop (mkF m 21 #[.val (.ref a1), .val (.int p2)] [(.int (0 : Int32))])) _
      exact retN X2 hx (t := .boolean) Bd.returns (by simp) (hb hby d4_21) hr
    · show Q4 Z a1 p2 mn mx h0 n0 _ T2.heap _
      rw [e2]
      exact ⟨by simp only [own_allow, if_pos hc5], N0, rfl⟩
  · have pre4 : ∀ t, Steps p.tables e below (T2.setTop (mkF m 10 #[.val (.ref a1), .val (.int p2)] [(.ref a1), (.int p2)])) t → Steps p.tables e below _ t := fun t kt => pre3 t (by
      show Steps p.tables e below (T2.setTop (mkF m 5 #[.val (.ref a1), .val (.int p2)] [(.int mn), (.int p2)])) _
      refine XS.icmpNo X2.here hx rfl (hb hby d4_5) rfl (flt hc5).1 ?_
      show Steps p.tables e below (T2.setTop (mkF m 8 #[.val (.ref a1), .val (.int p2)] [])) _
      refine XS.iloadN X2.here hx rfl (hb hby d4_8) rfl ?_
      show Steps p.tables e below (T2.setTop (mkF m 9 #[.val (.ref a1), .val (.int p2)] [(.int p2)])) _
      refine XS.aloadN X2.here hx rfl (hb hby d4_9) rfl rfl ?_
      exact kt)
    obtain ⟨T5, X5, e5, st5⟩ := getF X2 hx hZ hown (host := "") (Or.inl (hw _ (List.mem_of_getElem? (i := 17) rfl))) Via.refl e2 F2 (g := (mkF m 10 #[.val (.ref a1), .val (.int p2)] [(.ref a1), (.int p2)])) rfl rfl (hb hby d4_10)
    have pre6 : ∀ t, Steps p.tables e below (T5.setTop (mkF m 13 #[.val (.ref a1), .val (.int p2)] [(.int mx), (.int p2)])) t → Steps p.tables e below _ t := fun t kt => pre4 t (by
      show Steps p.tables e below (T2.setTop (mkF m 10 #[.val (.ref a1), .val (.int p2)] [(.ref a1), (.int p2)])) _
      refine st5 _ ?_
      exact kt)
    by_cases hc13 : mx < p2
    · obtain ⟨fs, hr, hrun, hended, hW, hsame⟩ := X5.leave (v := some (.int (0 : Int32))) (fun h => by rw [Bd.returns] at h; cases h)
      refine ⟨_, _, pre6 _ ?_, hrun, hended, _, _, rfl, ?_, ⟨_, rfl⟩, hW, hsame.mono (by decide) (by decide)⟩
      · show Steps p.tables e below (T5.setTop (mkF m 13 #[.val (.ref a1), .val (.int p2)] [(.int mx), (.int p2)])) _
        refine XS.icmpYes X5.here hx rfl (pc0 := 13) (pc' := 20) rfl (hb hby d4_13) rfl (tlt hc13).2.2.1 (by decide) (by decide) ?_
        show Steps p.tables e below (T5.setTop (mkF m 20 #[.val (.ref a1), .val (.int p2)] [])) _
        refine XS.iconst X5.here hx rfl (hb hby d4_20) ?_
        show Steps p.tables e below (T5.setTop (mkF m 21 #[.val (.ref a1), .val (.int p2)] [(.int (0 : Int32))])) _
        exact retN X5 hx (t := .boolean) Bd.returns (by simp) (hb hby d4_21) hr
      · show Q4 Z a1 p2 mn mx h0 n0 _ T5.heap _
        rw [e5]
        exact ⟨by simp only [own_allow, if_neg hc5, if_pos hc13], N0, rfl⟩
    · obtain ⟨fs, hr, hrun, hended, hW, hsame⟩ := X5.leave (v := some (.int (1 : Int32))) (fun h => by rw [Bd.returns] at h; cases h)
      refine ⟨_, _, pre6 _ ?_, hrun, hended, _, _, rfl, ?_, ⟨_, rfl⟩, hW, hsame.mono (by decide) (by decide)⟩
      · show Steps p.tables e below (T5.setTop (mkF m 13 #[.val (.ref a1), .val (.int p2)] [(.int mx), (.int p2)])) _
        refine XS.icmpNo X5.here hx rfl (hb hby d4_13) rfl (flt hc13).2.2.1 ?_
        show Steps p.tables e below (T5.setTop (mkF m 16 #[.val (.ref a1), .val (.int p2)] [])) _
        refine XS.iconst X5.here hx rfl (hb hby d4_16) ?_
        show Steps p.tables e below (T5.setTop (mkF m 17 #[.val (.ref a1), .val (.int p2)] [(.int (1 : Int32))])) _
        refine XS.goto X5.here hx rfl (pc0 := 17) (pc' := 21) rfl (hb hby d4_17) (by decide) (by decide) ?_
        show Steps p.tables e below (T5.setTop (mkF m 21 #[.val (.ref a1), .val (.int p2)] [(.int (1 : Int32))])) _
        exact retN X5 hx (t := .boolean) Bd.returns (by simp) (hb hby d4_21) hr
      · show Q4 Z a1 p2 mn mx h0 n0 _ T5.heap _
        rw [e5]
        exact ⟨by simp only [own_allow, if_neg hc5, if_neg hc13], N0, rfl⟩
theorem pn_2 : plainName "java/lang/Record" = true := by first | (simp [plainName, overriddenIn]; done) | decide +kernel
theorem ef_2 (m : MethodId) (x0 : Addr) : entryFrame m #[(.ref x0)] 1 = mkF m 0 #[.val (.ref x0)] [] := by first | (simp [entryFrame, mkF, argsToLocals, Value.category]; done) | rfl
theorem d2_0 : decode jdk_30_method_1_code 0 = .ok (.aload_n 0, 1) := by decide +kernel
theorem d2_1 : decode jdk_30_method_1_code 1 = .ok (.invokespecial 1, 3) := by decide +kernel
theorem d2_4 : decode jdk_30_method_1_code 4 = .ok (.return_, 1) := by decide +kernel
def Q2 (Z : State) (a1 : Addr) (h0 : Heap) (n0 : Nat) (v : Option Value) (h : Heap) (L : List Loc) : Prop := v = none ∧ Fr n0 L ∧ h = h0
set_option maxRecDepth 65536 in
set_option maxHeartbeats 40000000 in
theorem rm2 (l : Launch) (Z : State) (a0 : Array Value) (hw : ∀ d ∈ tables_1, d.before a0 Z = true) (ws : List Jvm.Cond) (a1 : Addr) (h0 : Heap) (n0 : Nat) (Z0 : n0 ≤ h0.size) :
    MetFree l (⟨"java/lang/Record", "<init>", "()V"⟩ : MethodName) (head1 (Jvm.Cond.code (⟨"java/lang/Record", "<init>", "()V"⟩ : MethodName) jdk_30_method_1_code 1 none :: ws) ({ frames := 1, cells := 0, slots := 0, locals := 12 } : Room)) (fun a U => a = #[(.ref a1)] ∧ Z.Warmed39 U.vm ∧ U.heap = h0) (fun _ _ _ _ _ => True) (fun _ U o U' => ∃ v L, o = .returned v ∧ Q2 Z a1 h0 n0 v U'.heap L ∧ FrameEnd U o U' L ({ frames := 1, cells := 0, slots := 0, locals := 12 } : Room).cells ({ frames := 1, cells := 0, slots := 0, locals := 12 } : Room).slots) := by
  refine MetFree.of_bodySF (plainFor_of_name pn_2) hisR ?_
  intro p e s m args below meth c s₁ Bd hml0 hP hK
  obtain ⟨rfl, hZ, hh⟩ := hP
  have hx := Bd.exec
  have hby := Bd.bytes
  have hml : c.maxLocals = 1 := hml0
  have hown : s.vm.findClass "java/lang/Record" = some m.cls := findClass_of_methodNamed Bd.named
  have hnm := (name_of_methodNamed Bd.named Bd.method).1
  have X0 : Stand p l e ({ frames := 1, cells := 0, slots := 0, locals := 12 } : Room) s m #[(.ref a1)] below meth c s₁ [] 0 0 := Stand.of_body Bd
  have e0 : s₁.heap = h0 := by rw [← hh, Bd.state]; rfl
  have N0 := Fr.nil n0
  have pre0 : ∀ t, Steps p.tables e below (s₁.setTop (mkF m 0 #[.val (.ref a1)] [])) t → Steps p.tables e below (s₁.setTop (entryFrame m #[(.ref a1)] 1)) t := fun t k => castTop (ef_2 m a1) k
  have pre1 : ∀ t, Steps p.tables e below (s₁.setTop (mkF m 1 #[.val (.ref a1)] [(.ref a1)])) t → Steps p.tables e below _ t := fun t kt => pre0 t (by
    show Steps p.tables e below (s₁.setTop (mkF m 0 #[.val (.ref a1)] [])) _
    refine XS.aloadN X0.here hx rfl (hb hby d2_0) rfl rfl ?_
    exact kt)
  obtain ⟨T2, X2, e2, st2⟩ := initO X0 hx hZ hown (hw _ (List.mem_of_getElem? (i := 12) rfl)) (hw _ (List.mem_of_getElem? (i := 13) rfl)) (hw _ (List.mem_of_getElem? (i := 14) rfl)) e0 (g := (mkF m 1 #[.val (.ref a1)] [(.ref a1)])) rfl (by rw [hml]; rfl) rfl (hb hby d2_1) (by decide) (W := 0) (by show 2 * 0 + _ ≤ _; exact Nat.le_of_eq rfl) (by decide)
  obtain ⟨fs, hr, hrun, hended, hW, hsame⟩ := X2.leave (v := none) (fun _ => rfl)
  refine ⟨_, _, pre1 _ ?_, hrun, hended, _, _, rfl, ?_, ⟨_, rfl⟩, hW, hsame.mono (by decide) (by decide)⟩
  · show Steps p.tables e below (s₁.setTop (mkF m 1 #[.val (.ref a1)] [(.ref a1)])) _
    refine st2 _ ?_
    show Steps p.tables e below (T2.setTop (mkF m 4 #[.val (.ref a1)] [])) _
    exact X2.returnOut hx Bd.returns (hb hby d2_4) hr
  · show Q2 Z a1 h0 n0 _ T2.heap _
    rw [e2]
    exact ⟨rfl, N0, rfl⟩
theorem pn_1 : plainName "com/example/ledgerstream/ledgerstream/model/GroupConfig" = true := by first | (simp [plainName, overriddenIn]; done) | decide +kernel
theorem ef_1 (m : MethodId) (x0 : Addr) (x1 : Int32) (x2 : Int32) (x3 : Int32) : entryFrame m #[(.ref x0), (.int x1), (.int x2), (.int x3)] 4 = mkF m 0 #[.val (.ref x0), .val (.int x1), .val (.int x2), .val (.int x3)] [] := by first | (simp [entryFrame, mkF, argsToLocals, Value.category]; done) | rfl
theorem d1_0 : decode prog_105_method_1_code 0 = .ok (.aload_n 0, 1) := by decide +kernel
theorem pd_0 : parseMethodDescriptor "()V" = some ⟨[], none⟩ := by decide +kernel
theorem d1_1 : decode prog_105_method_1_code 1 = .ok (.invokespecial 1, 3) := by decide +kernel
theorem d1_4 : decode prog_105_method_1_code 4 = .ok (.iload_n 1, 1) := by decide +kernel
theorem d1_5 : decode prog_105_method_1_code 5 = .ok (.iconst 1, 1) := by decide +kernel
theorem d1_6 : decode prog_105_method_1_code 6 = .ok (.if_icmp .ge 17, 3) := by decide +kernel
theorem d1_23 : decode prog_105_method_1_code 23 = .ok (.iload_n 2, 1) := by decide +kernel
theorem d1_24 : decode prog_105_method_1_code 24 = .ok (.iload_n 1, 1) := by decide +kernel
theorem d1_25 : decode prog_105_method_1_code 25 = .ok (.if_icmp .ge 18, 3) := by decide +kernel
theorem d1_43 : decode prog_105_method_1_code 43 = .ok (.iload_n 3, 1) := by decide +kernel
theorem d1_44 : decode prog_105_method_1_code 44 = .ok (.ifCond .ge 17, 3) := by decide +kernel
theorem d1_61 : decode prog_105_method_1_code 61 = .ok (.aload_n 0, 1) := by decide +kernel
theorem d1_62 : decode prog_105_method_1_code 62 = .ok (.iload_n 1, 1) := by decide +kernel
theorem d1_63 : decode prog_105_method_1_code 63 = .ok (.putfield 20, 3) := by decide +kernel
theorem d1_66 : decode prog_105_method_1_code 66 = .ok (.aload_n 0, 1) := by decide +kernel
theorem d1_67 : decode prog_105_method_1_code 67 = .ok (.iload_n 2, 1) := by decide +kernel
theorem d1_68 : decode prog_105_method_1_code 68 = .ok (.putfield 26, 3) := by decide +kernel
theorem d1_71 : decode prog_105_method_1_code 71 = .ok (.aload_n 0, 1) := by decide +kernel
theorem d1_72 : decode prog_105_method_1_code 72 = .ok (.iload_n 3, 1) := by decide +kernel
theorem d1_73 : decode prog_105_method_1_code 73 = .ok (.putfield 29, 3) := by decide +kernel
theorem d1_76 : decode prog_105_method_1_code 76 = .ok (.return_, 1) := by decide +kernel
def Q1 (Z : State) (a1 : Addr) (p2 p3 p4 : Int32) (h0 : Heap) (n0 : Nat) (v : Option Value) (h : Heap) (L : List Loc) : Prop := v = none ∧ Fr n0 L ∧ Keep h0 h [a1] ∧ Exa Z h a1 "com/example/ledgerstream/ledgerstream/model/GroupConfig" ∧ Fld Z h a1 "com/example/ledgerstream/ledgerstream/model/GroupConfig" "minSessionTimeoutMs" "I" (.int p2) ∧ Fld Z h a1 "com/example/ledgerstream/ledgerstream/model/GroupConfig" "maxSessionTimeoutMs" "I" (.int p3)
set_option maxRecDepth 65536 in
set_option maxHeartbeats 40000000 in
theorem rm1 (l : Launch) (Z : State) (a0 : Array Value) (hw : ∀ d ∈ tables_1, d.before a0 Z = true) (ws : List Jvm.Cond) (a1 : Addr) (p2 : Int32) (p3 : Int32) (p4 : Int32) (h0 : Heap) (n0 : Nat) (Z0 : n0 ≤ h0.size) (F1 : Fld Z h0 a1 "com/example/ledgerstream/ledgerstream/model/GroupConfig" "minSessionTimeoutMs" "I" (.int 0)) (F2 : Fld Z h0 a1 "com/example/ledgerstream/ledgerstream/model/GroupConfig" "maxSessionTimeoutMs" "I" (.int 0)) (F3 : Fld Z h0 a1 "com/example/ledgerstream/ledgerstream/model/GroupConfig" "initialRebalanceDelayMs" "I" (.int 0)) (E1 : Exa Z h0 a1 "com/example/ledgerstream/ledgerstream/model/GroupConfig") (g1 : n0 ≤ a1) (hq6 : ¬ (p2 < (1 : Int32))) (hq25 : ¬ (p3 < p2)) (hq44 : ¬ (p4 < (0 : Int32))) :
    MetFree l (⟨"com/example/ledgerstream/ledgerstream/model/GroupConfig", "<init>", "(III)V"⟩ : MethodName) (head1 (Jvm.Cond.code (⟨"com/example/ledgerstream/ledgerstream/model/GroupConfig", "<init>", "(III)V"⟩ : MethodName) prog_105_method_1_code 4 none :: ws) ({ frames := 2, cells := 0, slots := 0, locals := 24 } : Room)) (fun a U => a = #[(.ref a1), (.int p2), (.int p3), (.int p4)] ∧ Z.Warmed39 U.vm ∧ U.heap = h0) (fun _ _ _ _ _ => True) (fun _ U o U' => ∃ v L, o = .returned v ∧ Q1 Z a1 p2 p3 p4 h0 n0 v U'.heap L ∧ FrameEnd U o U' L ({ frames := 2, cells := 0, slots := 0, locals := 24 } : Room).cells ({ frames := 2, cells := 0, slots := 0, locals := 24 } : Room).slots) := by
  refine MetFree.of_bodySF (plainFor_of_name pn_1) hisR ?_
  intro p e s m args below meth c s₁ Bd hml0 hP hK
  obtain ⟨rfl, hZ, hh⟩ := hP
  have hx := Bd.exec
  have hby := Bd.bytes
  have hml : c.maxLocals = 4 := hml0
  have hown : s.vm.findClass "com/example/ledgerstream/ledgerstream/model/GroupConfig" = some m.cls := findClass_of_methodNamed Bd.named
  have hnm := (name_of_methodNamed Bd.named Bd.method).1
  have X0 : Stand p l e ({ frames := 2, cells := 0, slots := 0, locals := 24 } : Room) s m #[(.ref a1), (.int p2), (.int p3), (.int p4)] below meth c s₁ [] 0 0 := Stand.of_body Bd
  have e0 : s₁.heap = h0 := by rw [← hh, Bd.state]; rfl
  have N0 := Fr.nil n0
  have pre0 : ∀ t, Steps p.tables e below (s₁.setTop (mkF m 0 #[.val (.ref a1), .val (.int p2), .val (.int p3), .val (.int p4)] [])) t → Steps p.tables e below (s₁.setTop (entryFrame m #[(.ref a1), (.int p2), (.int p3), (.int p4)] 4)) t := fun t k => castTop (ef_1 m a1 p2 p3 p4) k
  have pre1 : ∀ t, Steps p.tables e below (s₁.setTop (mkF m 1 #[.val (.ref a1), .val (.int p2), .val (.int p3), .val (.int p4)] [(.ref a1)])) t → Steps p.tables e below _ t := fun t kt => pre0 t (by
    show Steps p.tables e below (s₁.setTop (mkF m 0 #[.val (.ref a1), .val (.int p2), .val (.int p3), .val (.int p4)] [])) _
    refine XS.aloadN X0.here hx rfl (hb hby d1_0) rfl rfl ?_
    exact kt)
  obtain ⟨_, _, ⟨T2, L2, k2, n2⟩, -, X2, ⟨Lc2, hQ2, l2, y2, z2⟩, st2⟩ := X0.specialBack hx (y := (⟨"java/lang/Record", "<init>", "()V"⟩ : MethodName)) rfl hown (mvT hZ (hw _ (List.mem_of_getElem? (i := 7) rfl))) (mvT hZ (hw _ (List.mem_of_getElem? (i := 8) rfl))) (mvT hZ (hw _ (List.mem_of_getElem? (i := 11) rfl))) (by decide) (backOf (W := 0) (rm2 l Z a0 hw [] a1 h0 n0 Z0) hZ (hw _ (List.mem_of_getElem? (i := 11) rfl)) (hw _ (List.mem_of_getElem? (i := 10) rfl)) (by decide) (by decide)) (g := (mkF m 1 #[.val (.ref a1), .val (.int p2), .val (.int p3), .val (.int p4)] [(.ref a1)])) rfl (by rw [hml]; rfl) (Steps.refl _) (a := a1) (argsL := []) (rest := []) (lenOf pd_0 rfl) rfl (by show 2 * 0 + _ ≤ _; exact Nat.le_of_eq rfl) (hb hby d1_1) (fun _ _ => ⟨rfl, e0, (by decide : 0 + 0 ≤ _), (by decide : 0 + 0 ≤ _)⟩)
  dsimp only [Pt.U, Pt.locs, Pt.cells, Pt.slots] at X2 l2 y2 z2 st2 hQ2
  subst l2 y2 z2
  obtain ⟨rfl, N2q, e2⟩ := hQ2
  have N2 := Fr.app N0 N2q
  have pre3 : ∀ t, Steps p.tables e below (T2.setTop (mkF m 63 #[.val (.ref a1), .val (.int p2), .val (.int p3), .val (.int p4)] [(.int p2), (.ref a1)])) t → Steps p.tables e below _ t := fun t kt => pre1 t (by
    show Steps p.tables e below (s₁.setTop (mkF m 1 #[.val (.ref a1), .val (.int p2), .val (.int p3), .val (.int p4)] [(.ref a1)])) _
    refine st2.trans ?_
    show Steps p.tables e below (T2.setTop (mkF m 4 #[.val (.ref a1), .val (.int p2), .val (.int p3), .val (.int p4)] [])) _
    refine XS.iloadN X2.here hx rfl (hb hby d1_4) rfl ?_
    show Steps p.tables e below (T2.setTop (mkF m 5 #[.val (.ref a1), .val (.int p2), .val (.int p3), .val (.int p4)] [(.int p2)])) _
    refine XS.iconst X2.here hx rfl (hb hby d1_5) ?_
    have hc6 : ¬ (p2 < (1 : Int32)) := hq6
    show Steps p.tables e below (T2.setTop (mkF m 6 #[.val (.ref a1), .val (.int p2), .val (.int p3), .val (.int p4)] [(.int (1 : Int32)), (.int p2)])) _
    refine XS.icmpYes X2.here hx rfl (pc0 := 6) (pc' := 23) rfl (hb hby d1_6) rfl (flt hc6).2.1 (by decide) (by decide) ?_
    show Steps p.tables e below (T2.setTop (mkF m 23 #[.val (.ref a1), .val (.int p2), .val (.int p3), .val (.int p4)] [])) _
    refine XS.iloadN X2.here hx rfl (hb hby d1_23) rfl ?_
    show Steps p.tables e below (T2.setTop (mkF m 24 #[.val (.ref a1), .val (.int p2), .val (.int p3), .val (.int p4)] [(.int p3)])) _
    refine XS.iloadN X2.here hx rfl (hb hby d1_24) rfl ?_
    have hc25 : ¬ (p3 < p2) := hq25
    show Steps p.tables e below (T2.setTop (mkF m 25 #[.val (.ref a1), .val (.int p2), .val (.int p3), .val (.int p4)] [(.int p2), (.int p3)])) _
    refine XS.icmpYes X2.here hx rfl (pc0 := 25) (pc' := 43) rfl (hb hby d1_25) rfl (flt hc25).2.1 (by decide) (by decide) ?_
    show Steps p.tables e below (T2.setTop (mkF m 43 #[.val (.ref a1), .val (.int p2), .val (.int p3), .val (.int p4)] [])) _
    refine XS.iloadN X2.here hx rfl (hb hby d1_43) rfl ?_
    have hc44 : ¬ (p4 < (0 : Int32)) := hq44
    show Steps p.tables e below (T2.setTop (mkF m 44 #[.val (.ref a1), .val (.int p2), .val (.int p3), .val (.int p4)] [(.int p4)])) _
    refine XS.ifYes X2.here hx rfl (pc0 := 44) (pc' := 61) rfl (hb hby d1_44) rfl ((if0 _ _).trans (flt hc44).2.1) (by decide) (by decide) ?_
    show Steps p.tables e below (T2.setTop (mkF m 61 #[.val (.ref a1), .val (.int p2), .val (.int p3), .val (.int p4)] [])) _
    refine XS.aloadN X2.here hx rfl (hb hby d1_61) rfl rfl ?_
    show Steps p.tables e below (T2.setTop (mkF m 62 #[.val (.ref a1), .val (.int p2), .val (.int p3), .val (.int p4)] [(.ref a1)])) _
    refine XS.iloadN X2.here hx rfl (hb hby d1_62) rfl ?_
    exact kt)
  obtain ⟨T4, h4, X4, e4, W4, st4⟩ := putF X2 hx hZ hown (host := "") (Or.inl (hw _ (List.mem_of_getElem? (i := 15) rfl))) Via.refl e2 F1 E1 (Or.inr ⟨(hw _ (List.mem_of_getElem? (i := 16) rfl)), rfl, hnm⟩) (hw _ (List.mem_of_getElem? (i := 2) rfl)) (ty := .int) (by decide) rfl rfl (g := (mkF m 63 #[.val (.ref a1), .val (.int p2), .val (.int p3), .val (.int p4)] [(.int p2), (.ref a1)])) rfl rfl (hb hby d1_63)
  have Fw4 := F1.same W4
  have N4 := Fr.snoc X4 N2 g1
  have Zs4 : n0 ≤ h4.size := Nat.le_trans Z0 (Nat.le_of_eq W4.size.symm)
  have K4 : Keep h0 h4 [a1] := (Keep.refl h0 [a1]).wr W4 (Or.inl (List.mem_of_getElem? (i := 0) rfl))
  have E4 := E1.wr W4
  have F2_4 := (F2.other W4 (Or.inr (slot_ne (Or.inr (hw _ (List.mem_of_getElem? (i := 18) rfl))) (Or.inr (hw _ (List.mem_of_getElem? (i := 16) rfl))) (by decide) (t := .int) (t' := .int) (by decide) (by decide))))
  have F3_4 := (F3.other W4 (Or.inr (slot_ne (Or.inr (hw _ (List.mem_of_getElem? (i := 20) rfl))) (Or.inr (hw _ (List.mem_of_getElem? (i := 16) rfl))) (by decide) (t := .int) (t' := .int) (by decide) (by decide))))
  have pre5 : ∀ t, Steps p.tables e below (T4.setTop (mkF m 68 #[.val (.ref a1), .val (.int p2), .val (.int p3), .val (.int p4)] [(.int p3), (.ref a1)])) t → Steps p.tables e below _ t := fun t kt => pre3 t (by
    show Steps p.tables e below (T2.setTop (mkF m 63 #[.val (.ref a1), .val (.int p2), .val (.int p3), .val (.int p4)] [(.int p2), (.ref a1)])) _
    refine st4 _ ?_
    show Steps p.tables e below (T4.setTop (mkF m 66 #[.val (.ref a1), .val (.int p2), .val (.int p3), .val (.int p4)] [])) _
    refine XS.aloadN X4.here hx rfl (hb hby d1_66) rfl rfl ?_
    show Steps p.tables e below (T4.setTop (mkF m 67 #[.val (.ref a1), .val (.int p2), .val (.int p3), .val (.int p4)] [(.ref a1)])) _
    refine XS.iloadN X4.here hx rfl (hb hby d1_67) rfl ?_
    exact kt)
  obtain ⟨T6, h6, X6, e6, W6, st6⟩ := putF X4 hx hZ hown (host := "") (Or.inl (hw _ (List.mem_of_getElem? (i := 17) rfl))) Via.refl e4 F2_4 E4 (Or.inr ⟨(hw _ (List.mem_of_getElem? (i := 18) rfl)), rfl, hnm⟩) (hw _ (List.mem_of_getElem? (i := 2) rfl)) (ty := .int) (by decide) rfl rfl (g := (mkF m 68 #[.val (.ref a1), .val (.int p2), .val (.int p3), .val (.int p4)] [(.int p3), (.ref a1)])) rfl rfl (hb hby d1_68)
  have Fw6 := F2_4.same W6
  have N6 := Fr.snoc X6 N4 g1
  have Zs6 : n0 ≤ h6.size := Nat.le_trans Zs4 (Nat.le_of_eq W6.size.symm)
  have K6 := K4.wr W6 (Or.inl (List.mem_of_getElem? (i := 0) rfl))
  have E6 := E4.wr W6
  have F1_6 := (Fw4.other W6 (Or.inr (slot_ne (Or.inr (hw _ (List.mem_of_getElem? (i := 16) rfl))) (Or.inr (hw _ (List.mem_of_getElem? (i := 18) rfl))) (by decide) (t := .int) (t' := .int) (by decide) (by decide))))
  have F3_6 := (F3_4.other W6 (Or.inr (slot_ne (Or.inr (hw _ (List.mem_of_getElem? (i := 20) rfl))) (Or.inr (hw _ (List.mem_of_getElem? (i := 18) rfl))) (by decide) (t := .int) (t' := .int) (by decide) (by decide))))
  have pre7 : ∀ t, Steps p.tables e below (T6.setTop (mkF m 73 #[.val (.ref a1), .val (.int p2), .val (.int p3), .val (.int p4)] [(.int p4), (.ref a1)])) t → Steps p.tables e below _ t := fun t kt => pre5 t (by
    show Steps p.tables e below (T4.setTop (mkF m 68 #[.val (.ref a1), .val (.int p2), .val (.int p3), .val (.int p4)] [(.int p3), (.ref a1)])) _
    refine st6 _ ?_
    show Steps p.tables e below (T6.setTop (mkF m 71 #[.val (.ref a1), .val (.int p2), .val (.int p3), .val (.int p4)] [])) _
    refine XS.aloadN X6.here hx rfl (hb hby d1_71) rfl rfl ?_
    show Steps p.tables e below (T6.setTop (mkF m 72 #[.val (.ref a1), .val (.int p2), .val (.int p3), .val (.int p4)] [(.ref a1)])) _
    refine XS.iloadN X6.here hx rfl (hb hby d1_72) rfl ?_
    exact kt)
  obtain ⟨T8, h8, X8, e8, W8, st8⟩ := putF X6 hx hZ hown (host := "") (Or.inl (hw _ (List.mem_of_getElem? (i := 19) rfl))) Via.refl e6 F3_6 E6 (Or.inr ⟨(hw _ (List.mem_of_getElem? (i := 20) rfl)), rfl, hnm⟩) (hw _ (List.mem_of_getElem? (i := 2) rfl)) (ty := .int) (by decide) rfl rfl (g := (mkF m 73 #[.val (.ref a1), .val (.int p2), .val (.int p3), .val (.int p4)] [(.int p4), (.ref a1)])) rfl rfl (hb hby d1_73)
  have Fw8 := F3_6.same W8
  have N8 := Fr.snoc X8 N6 g1
  have Zs8 : n0 ≤ h8.size := Nat.le_trans Zs6 (Nat.le_of_eq W8.size.symm)
  have K8 := K6.wr W8 (Or.inl (List.mem_of_getElem? (i := 0) rfl))
  have E8 := E6.wr W8
  have F1_8 := (F1_6.other W8 (Or.inr (slot_ne (Or.inr (hw _ (List.mem_of_getElem? (i := 16) rfl))) (Or.inr (hw _ (List.mem_of_getElem? (i := 20) rfl))) (by decide) (t := .int) (t' := .int) (by decide) (by decide))))
  have F2_8 := (Fw6.other W8 (Or.inr (slot_ne (Or.inr (hw _ (List.mem_of_getElem? (i := 18) rfl))) (Or.inr (hw _ (List.mem_of_getElem? (i := 20) rfl))) (by decide) (t := .int) (t' := .int) (by decide) (by decide))))
  obtain ⟨fs, hr, hrun, hended, hW, hsame⟩ := X8.leave (v := none) (fun _ => rfl)
  refine ⟨_, _, pre7 _ ?_, hrun, hended, _, _, rfl, ?_, ⟨_, rfl⟩, hW, hsame.mono (by decide) (by decide)⟩
  · show Steps p.tables e below (T6.setTop (mkF m 73 #[.val (.ref a1), .val (.int p2), .val (.int p3), .val (.int p4)] [(.int p4), (.ref a1)])) _
    refine st8 _ ?_
    show Steps p.tables e below (T8.setTop (mkF m 76 #[.val (.ref a1), .val (.int p2), .val (.int p3), .val (.int p4)] [])) _
    exact X8.returnOut hx Bd.returns (hb hby d1_76) hr
  · show Q1 Z a1 p2 p3 p4 h0 n0 _ T8.heap _
    rw [e8]
    exact ⟨rfl, N8, K8, E8, F1_8, F2_8⟩

theorem own_lc_neg (x y : Int64) : lcmpW x y < (0 : Int32) ↔ x.toInt < y.toInt := by
  unfold lcmpW
  by_cases h1 : x > y
  · rw [if_pos h1]
    have h1' : y.toInt < x.toInt := Int64.lt_iff_toInt_lt.mp h1
    constructor
    · intro h; exact absurd h (by decide)
    · intro h; omega
  · rw [if_neg h1]
    have h1' : ¬ y.toInt < x.toInt := fun h => h1 (Int64.lt_iff_toInt_lt.mpr h)
    by_cases h2 : x = y
    · rw [if_pos h2]; subst h2
      constructor
      · intro h; exact absurd h (by decide)
      · intro h; omega
    · rw [if_neg h2]
      have h2' : x.toInt ≠ y.toInt := fun h => h2 (Int64.toInt_inj.mp h)
      constructor
      · intro _; omega
      · intro _; decide
theorem own_neg_msb (x : Int64) : x.toInt < 0 ↔ x.toBitVec.msb = true := by
  rw [BitVec.msb_eq_toInt]; exact decide_eq_true_iff.symm
theorem own_or_neg (x y : Int64) : (x ||| y).toInt < 0 ↔ x.toInt < 0 ∨ y.toInt < 0 := by
  rw [own_neg_msb, own_neg_msb, own_neg_msb, Int64.toBitVec_or, BitVec.msb_or]; simp
theorem own_expect (b : Addr) (t mn mx : Int32) : own_allow b t mn mx = (if (lcmpW ((t.toInt64 - mn.toInt64) ||| (mx.toInt64 - t.toInt64)) (0 : Int64)) < (0 : Int32) then (0 : Int32) else (1 : Int32)) := by
  have e1 := Jvm.Kit.i64_of_i32 t
  have e2 := Jvm.Kit.i64_of_i32 mn
  have e3 := Jvm.Kit.i64_of_i32 mx
  have a1 := t.toInt_lt
  have a2 := t.le_toInt
  have b1 := mn.toInt_lt
  have b2 := mn.le_toInt
  have c1 := mx.toInt_lt
  have c2 := mx.le_toInt
  have e4 := Jvm.Kit.i64_sub (x := t.toInt64) (y := mn.toInt64) (by omega) (by omega)
  have e5 := Jvm.Kit.i64_sub (x := mx.toInt64) (y := t.toInt64) (by omega) (by omega)
  have k0 : (0 : Int64).toInt = 0 := by decide
  unfold own_allow
  simp only [own_lc_neg, k0, own_or_neg]
  simp only [Int32.lt_iff_toInt_lt]
  rw [e4, e5, e1, e2, e3]
  repeat' split
  all_goals first | rfl | (exfalso; omega)
theorem own_min (x : Int32) : 1 ≤ ((1 : Int32) + ((x &&& (2147483647 : Int32)) % (2147483647 : Int32))).toInt := by
  have h := Jvm.Kit.i32_mask x 2147483647 (k := 31) (by decide) (by decide)
  have h2 := Jvm.Kit.i32_rem_nonneg (x := x &&& 2147483647) (y := 2147483647) (by omega)
  have h3 : (2147483647 : Int32).toInt = 2147483647 := by decide
  have h4 : (1 : Int32).toInt = 1 := by decide
  rw [h3] at h2
  have h5 := Jvm.Kit.i32_add (p := 1) (q := (x &&& 2147483647) % 2147483647) (by omega) (by omega)
  omega
theorem own_span {m : Int32} (h : 1 ≤ m.toInt) : (((2147483647 : Int32) - m) + (1 : Int32)).toInt = 2147483648 - m.toInt := by
  have h3 : (2147483647 : Int32).toInt = 2147483647 := by decide
  have h4 : (1 : Int32).toInt = 1 := by decide
  have a := m.toInt_lt
  have h5 := Jvm.Kit.i32_sub (p := 2147483647) (q := m) (by omega) (by omega)
  have h6 := Jvm.Kit.i32_add (p := 2147483647 - m) (q := 1) (by omega) (by omega)
  omega
theorem own_max {m sp x : Int32} (h : 1 ≤ m.toInt) (hs : sp.toInt = 2147483648 - m.toInt) : m.toInt ≤ (m + ((x &&& (2147483647 : Int32)) % sp)).toInt := by
  have a := m.toInt_lt
  have h1 := Jvm.Kit.i32_mask x 2147483647 (k := 31) (by decide) (by decide)
  have h2 := Jvm.Kit.i32_rem_nonneg (x := x &&& 2147483647) (y := sp) (by omega)
  have h3 := Int.emod_nonneg (x &&& 2147483647).toInt (b := sp.toInt) (by omega)
  have h4 := Int.emod_lt_of_pos (x &&& 2147483647).toInt (b := sp.toInt) (by omega)
  have h5 := Jvm.Kit.i32_add (p := m) (q := (x &&& 2147483647) % sp) (by omega) (by omega)
  omega
theorem own_width {m n : Int32} (h : 1 ≤ m.toInt) (h2 : m.toInt ≤ n.toInt) : ¬ ((n - m) + (1 : Int32)) = 0 := by
  have h4 : (1 : Int32).toInt = 1 := by decide
  have a := n.toInt_lt
  have h5 := Jvm.Kit.i32_sub (p := n) (q := m) (by omega) (by omega)
  have h6 := Jvm.Kit.i32_add (p := n - m) (q := 1) (by omega) (by omega)
  intro h
  rw [h] at h6
  have h0 : (0 : Int32).toInt = 0 := by decide
  omega
theorem own_spn {m sp : Int32} (h : sp.toInt = 2147483648 - m.toInt) : ¬ sp = 0 := by
  intro q
  have h1 := m.toInt_lt
  have h0 : (0 : Int32).toInt = 0 := by decide
  rw [q] at h
  omega
theorem own_one {m : Int32} (h : 1 ≤ m.toInt) : ¬ (m < (1 : Int32)) := by
  rw [Int32.lt_iff_toInt_lt]
  have h4 : (1 : Int32).toInt = 1 := by decide
  omega
theorem own_nonneg (x : Int32) : ¬ ((x &&& (2147483647 : Int32)) < (0 : Int32)) := by
  have h1 := Jvm.Kit.i32_mask x 2147483647 (k := 31) (by decide) (by decide)
  rw [Int32.lt_iff_toInt_lt]
  have h0 : (0 : Int32).toInt = 0 := by decide
  omega
theorem pn_0 : plainName "com/example/ledgerstream/ledgerstream/model/GroupConfigAllowsSessionTimeoutPinLaw" = true := by first | (simp [plainName, overriddenIn]; done) | decide +kernel
theorem ef_0 (m : MethodId) (x0 : Int32) (x1 : Int32) (x2 : Int32) (x3 : Int32) (x4 : Int32) : entryFrame m #[(.int x0), (.int x1), (.int x2), (.int x3), (.int x4)] maxLocals = mkF m 0 #[.val (.int x0), .val (.int x1), .val (.int x2), .val (.int x3), .val (.int x4), .unset, .unset, .unset, .unset, .unset, .unset, .unset, .unset, .unset, .unset, .unset, .unset] [] := by first | (simp [entryFrame, mkF, argsToLocals, Value.category, maxLocals]; done) | rfl
theorem pd_1 : parseMethodDescriptor "(III)V" = some ⟨[.int, .int, .int], none⟩ := by decide +kernel
theorem pd_2 : parseMethodDescriptor "(I)Z" = some ⟨[.int], some .boolean⟩ := by decide +kernel
def Q0 (Z : State) (p1 p2 p3 p4 p5 : Int32) (h0 : Heap) (n0 : Nat) (v : Option Value) (h : Heap) (L : List Loc) : Prop := v = some (.int (1 : Int32)) ∧ Fr n0 L
set_option maxRecDepth 65536 in
set_option maxHeartbeats 40000000 in
theorem rm0 (l : Launch) (Z : State) (a0 : Array Value) (hw : ∀ d ∈ tables_1, d.before a0 Z = true) (ws : List Jvm.Cond) (p1 : Int32) (p2 : Int32) (p3 : Int32) (p4 : Int32) (p5 : Int32) (h0 : Heap) (n0 : Nat) (Z0 : n0 ≤ h0.size) :
    MetFree l x (head1 (Jvm.Cond.code x code maxLocals ret :: ws) room_1) (fun a U => a = #[(.int p1), (.int p2), (.int p3), (.int p4), (.int p5)] ∧ Z.Warmed39 U.vm ∧ U.heap = h0) (fun _ _ _ _ _ => True) (fun _ U o U' => ∃ v L, o = .returned v ∧ Q0 Z p1 p2 p3 p4 p5 h0 n0 v U'.heap L ∧ FrameEnd U o U' L room_1.cells room_1.slots) := by
  refine MetFree.of_bodySF (plainFor_of_name pn_0) hisR ?_
  intro p e s m args below meth c s₁ Bd hml0 hP hK
  obtain ⟨rfl, hZ, hh⟩ := hP
  have hx := Bd.exec
  have hby := Bd.bytes
  have hml : c.maxLocals = 17 := hml0
  have hown : s.vm.findClass "com/example/ledgerstream/ledgerstream/model/GroupConfigAllowsSessionTimeoutPinLaw" = some m.cls := findClass_of_methodNamed Bd.named
  have hnm := (name_of_methodNamed Bd.named Bd.method).1
  have X0 : Stand p l e room_1 s m #[(.int p1), (.int p2), (.int p3), (.int p4), (.int p5)] below meth c s₁ [] 0 0 := Stand.of_body Bd
  have e0 : s₁.heap = h0 := by rw [← hh, Bd.state]; rfl
  have N0 := Fr.nil n0
  have pre0 : ∀ t, Steps p.tables e below (s₁.setTop (mkF m 0 #[.val (.int p1), .val (.int p2), .val (.int p3), .val (.int p4), .val (.int p5), .unset, .unset, .unset, .unset, .unset, .unset, .unset, .unset, .unset, .unset, .unset, .unset] [])) t → Steps p.tables e below (s₁.setTop (entryFrame m #[(.int p1), (.int p2), (.int p3), (.int p4), (.int p5)] maxLocals)) t := fun t k => castTop (ef_0 m p1 p2 p3 p4 p5) k
  have pre1 : ∀ t, Steps p.tables e below (s₁.setTop (mkF m 11 #[.val (.int p1), .val (.int p2), .val (.int p3), .val (.int p4), .val (.int p5), .val (.int ((1 : Int32) + ((p1 &&& (2147483647 : Int32)) % (2147483647 : Int32)))), .unset, .unset, .unset, .unset, .unset, .unset, .unset, .unset, .unset, .unset, .unset] [])) t → Steps p.tables e below _ t := fun t kt => pre0 t (by
    show Steps p.tables e below (s₁.setTop (mkF m 0 #[.val (.int p1), .val (.int p2), .val (.int p3), .val (.int p4), .val (.int p5), .unset, .unset, .unset, .unset, .unset, .unset, .unset, .unset, .unset, .unset, .unset, .unset] [])) _
    refine XS.iconst X0.here hx rfl (hb hby at_0) ?_
    show Steps p.tables e below (s₁.setTop (mkF m 1 #[.val (.int p1), .val (.int p2), .val (.int p3), .val (.int p4), .val (.int p5), .unset, .unset, .unset, .unset, .unset, .unset, .unset, .unset, .unset, .unset, .unset, .unset] [(.int (1 : Int32))])) _
    refine XS.iloadN X0.here hx rfl (hb hby at_1) rfl ?_
    show Steps p.tables e below (s₁.setTop (mkF m 2 #[.val (.int p1), .val (.int p2), .val (.int p3), .val (.int p4), .val (.int p5), .unset, .unset, .unset, .unset, .unset, .unset, .unset, .unset, .unset, .unset, .unset, .unset] [(.int p1), (.int (1 : Int32))])) _
    refine X0.ldcInt hx hown (mvT hZ (hw _ (List.mem_of_getElem? (i := 0) rfl))) (g := (mkF m 2 #[.val (.int p1), .val (.int p2), .val (.int p3), .val (.int p4), .val (.int p5), .unset, .unset, .unset, .unset, .unset, .unset, .unset, .unset, .unset, .unset, .unset, .unset] [(.int p1), (.int (1 : Int32))])) rfl (hb hby at_2) _ ?_
    show Steps p.tables e below (s₁.setTop (mkF m 4 #[.val (.int p1), .val (.int p2), .val (.int p3), .val (.int p4), .val (.int p5), .unset, .unset, .unset, .unset, .unset, .unset, .unset, .unset, .unset, .unset, .unset, .unset] [(.int (2147483647 : Int32)), (.int p1), (.int (1 : Int32))])) _
    refine XS.iand X0.here hx rfl (hb hby at_4) rfl ?_
    show Steps p.tables e below (s₁.setTop (mkF m 5 #[.val (.int p1), .val (.int p2), .val (.int p3), .val (.int p4), .val (.int p5), .unset, .unset, .unset, .unset, .unset, .unset, .unset, .unset, .unset, .unset, .unset, .unset] [(.int (p1 &&& (2147483647 : Int32))), (.int (1 : Int32))])) _
    refine X0.ldcInt hx hown (mvT hZ (hw _ (List.mem_of_getElem? (i := 0) rfl))) (g := (mkF m 5 #[.val (.int p1), .val (.int p2), .val (.int p3), .val (.int p4), .val (.int p5), .unset, .unset, .unset, .unset, .unset, .unset, .unset, .unset, .unset, .unset, .unset, .unset] [(.int (p1 &&& (2147483647 : Int32))), (.int (1 : Int32))])) rfl (hb hby at_5) _ ?_
    show Steps p.tables e below (s₁.setTop (mkF m 7 #[.val (.int p1), .val (.int p2), .val (.int p3), .val (.int p4), .val (.int p5), .unset, .unset, .unset, .unset, .unset, .unset, .unset, .unset, .unset, .unset, .unset, .unset] [(.int (2147483647 : Int32)), (.int (p1 &&& (2147483647 : Int32))), (.int (1 : Int32))])) _
    refine iremM X0 hx rfl (hb hby at_7) rfl (by decide) ?_
    show Steps p.tables e below (s₁.setTop (mkF m 8 #[.val (.int p1), .val (.int p2), .val (.int p3), .val (.int p4), .val (.int p5), .unset, .unset, .unset, .unset, .unset, .unset, .unset, .unset, .unset, .unset, .unset, .unset] [(.int ((p1 &&& (2147483647 : Int32)) % (2147483647 : Int32))), (.int (1 : Int32))])) _
    refine XS.iadd X0.here hx rfl (hb hby at_8) rfl ?_
    show Steps p.tables e below (s₁.setTop (mkF m 9 #[.val (.int p1), .val (.int p2), .val (.int p3), .val (.int p4), .val (.int p5), .unset, .unset, .unset, .unset, .unset, .unset, .unset, .unset, .unset, .unset, .unset, .unset] [(.int ((1 : Int32) + ((p1 &&& (2147483647 : Int32)) % (2147483647 : Int32))))])) _
    refine XS.istore X0.here hx rfl (hb hby at_9) rfl (l' := #[.val (.int p1), .val (.int p2), .val (.int p3), .val (.int p4), .val (.int p5), .val (.int ((1 : Int32) + ((p1 &&& (2147483647 : Int32)) % (2147483647 : Int32)))), .unset, .unset, .unset, .unset, .unset, .unset, .unset, .unset, .unset, .unset, .unset]) rfl ?_
    exact kt)
  obtain ⟨mn, hmn⟩ : ∃ z : Int32, z = ((1 : Int32) + ((p1 &&& (2147483647 : Int32)) % (2147483647 : Int32))) := ⟨_, rfl⟩
  rw [← hmn] at pre1
  have hm1 : 1 ≤ mn.toInt := by rw [hmn]; exact own_min _
  have pre2 : ∀ t, Steps p.tables e below (s₁.setTop (mkF m 20 #[.val (.int p1), .val (.int p2), .val (.int p3), .val (.int p4), .val (.int p5), .val (.int mn), .val (.int (((2147483647 : Int32) - mn) + (1 : Int32))), .unset, .unset, .unset, .unset, .unset, .unset, .unset, .unset, .unset, .unset] [])) t → Steps p.tables e below _ t := fun t kt => pre1 t (by
    show Steps p.tables e below (s₁.setTop (mkF m 11 #[.val (.int p1), .val (.int p2), .val (.int p3), .val (.int p4), .val (.int p5), .val (.int mn), .unset, .unset, .unset, .unset, .unset, .unset, .unset, .unset, .unset, .unset, .unset] [])) _
    refine X0.ldcInt hx hown (mvT hZ (hw _ (List.mem_of_getElem? (i := 0) rfl))) (g := (mkF m 11 #[.val (.int p1), .val (.int p2), .val (.int p3), .val (.int p4), .val (.int p5), .val (.int mn), .unset, .unset, .unset, .unset, .unset, .unset, .unset, .unset, .unset, .unset, .unset] [])) rfl (hb hby at_11) _ ?_
    show Steps p.tables e below (s₁.setTop (mkF m 13 #[.val (.int p1), .val (.int p2), .val (.int p3), .val (.int p4), .val (.int p5), .val (.int mn), .unset, .unset, .unset, .unset, .unset, .unset, .unset, .unset, .unset, .unset, .unset] [(.int (2147483647 : Int32))])) _
    refine XS.iload X0.here hx rfl (hb hby at_13) rfl ?_
    show Steps p.tables e below (s₁.setTop (mkF m 15 #[.val (.int p1), .val (.int p2), .val (.int p3), .val (.int p4), .val (.int p5), .val (.int mn), .unset, .unset, .unset, .unset, .unset, .unset, .unset, .unset, .unset, .unset, .unset] [(.int mn), (.int (2147483647 : Int32))])) _
    refine XS.isub X0.here hx rfl (hb hby at_15) rfl ?_
    show Steps p.tables e below (s₁.setTop (mkF m 16 #[.val (.int p1), .val (.int p2), .val (.int p3), .val (.int p4), .val (.int p5), .val (.int mn), .unset, .unset, .unset, .unset, .unset, .unset, .unset, .unset, .unset, .unset, .unset] [(.int ((2147483647 : Int32) - mn))])) _
    refine XS.iconst X0.here hx rfl (hb hby at_16) ?_
    show Steps p.tables e below (s₁.setTop (mkF m 17 #[.val (.int p1), .val (.int p2), .val (.int p3), .val (.int p4), .val (.int p5), .val (.int mn), .unset, .unset, .unset, .unset, .unset, .unset, .unset, .unset, .unset, .unset, .unset] [(.int (1 : Int32)), (.int ((2147483647 : Int32) - mn))])) _
    refine XS.iadd X0.here hx rfl (hb hby at_17) rfl ?_
    show Steps p.tables e below (s₁.setTop (mkF m 18 #[.val (.int p1), .val (.int p2), .val (.int p3), .val (.int p4), .val (.int p5), .val (.int mn), .unset, .unset, .unset, .unset, .unset, .unset, .unset, .unset, .unset, .unset, .unset] [(.int (((2147483647 : Int32) - mn) + (1 : Int32)))])) _
    refine XS.istore X0.here hx rfl (hb hby at_18) rfl (l' := #[.val (.int p1), .val (.int p2), .val (.int p3), .val (.int p4), .val (.int p5), .val (.int mn), .val (.int (((2147483647 : Int32) - mn) + (1 : Int32))), .unset, .unset, .unset, .unset, .unset, .unset, .unset, .unset, .unset, .unset]) rfl ?_
    exact kt)
  obtain ⟨sp, hsp⟩ : ∃ z : Int32, z = (((2147483647 : Int32) - mn) + (1 : Int32)) := ⟨_, rfl⟩
  rw [← hsp] at pre2
  have hsp1 : sp.toInt = 2147483648 - mn.toInt := by rw [hsp]; exact own_span hm1
  have hspn : ¬ sp = 0 := own_spn hsp1
  have pre3 : ∀ t, Steps p.tables e below (s₁.setTop (mkF m 32 #[.val (.int p1), .val (.int p2), .val (.int p3), .val (.int p4), .val (.int p5), .val (.int mn), .val (.int sp), .val (.int (mn + ((p2 &&& (2147483647 : Int32)) % sp))), .unset, .unset, .unset, .unset, .unset, .unset, .unset, .unset, .unset] [])) t → Steps p.tables e below _ t := fun t kt => pre2 t (by
    show Steps p.tables e below (s₁.setTop (mkF m 20 #[.val (.int p1), .val (.int p2), .val (.int p3), .val (.int p4), .val (.int p5), .val (.int mn), .val (.int sp), .unset, .unset, .unset, .unset, .unset, .unset, .unset, .unset, .unset, .unset] [])) _
    refine XS.iload X0.here hx rfl (hb hby at_20) rfl ?_
    show Steps p.tables e below (s₁.setTop (mkF m 22 #[.val (.int p1), .val (.int p2), .val (.int p3), .val (.int p4), .val (.int p5), .val (.int mn), .val (.int sp), .unset, .unset, .unset, .unset, .unset, .unset, .unset, .unset, .unset, .unset] [(.int mn)])) _
    refine XS.iloadN X0.here hx rfl (hb hby at_22) rfl ?_
    show Steps p.tables e below (s₁.setTop (mkF m 23 #[.val (.int p1), .val (.int p2), .val (.int p3), .val (.int p4), .val (.int p5), .val (.int mn), .val (.int sp), .unset, .unset, .unset, .unset, .unset, .unset, .unset, .unset, .unset, .unset] [(.int p2), (.int mn)])) _
    refine X0.ldcInt hx hown (mvT hZ (hw _ (List.mem_of_getElem? (i := 0) rfl))) (g := (mkF m 23 #[.val (.int p1), .val (.int p2), .val (.int p3), .val (.int p4), .val (.int p5), .val (.int mn), .val (.int sp), .unset, .unset, .unset, .unset, .unset, .unset, .unset, .unset, .unset, .unset] [(.int p2), (.int mn)])) rfl (hb hby at_23) _ ?_
    show Steps p.tables e below (s₁.setTop (mkF m 25 #[.val (.int p1), .val (.int p2), .val (.int p3), .val (.int p4), .val (.int p5), .val (.int mn), .val (.int sp), .unset, .unset, .unset, .unset, .unset, .unset, .unset, .unset, .unset, .unset] [(.int (2147483647 : Int32)), (.int p2), (.int mn)])) _
    refine XS.iand X0.here hx rfl (hb hby at_25) rfl ?_
    show Steps p.tables e below (s₁.setTop (mkF m 26 #[.val (.int p1), .val (.int p2), .val (.int p3), .val (.int p4), .val (.int p5), .val (.int mn), .val (.int sp), .unset, .unset, .unset, .unset, .unset, .unset, .unset, .unset, .unset, .unset] [(.int (p2 &&& (2147483647 : Int32))), (.int mn)])) _
    refine XS.iload X0.here hx rfl (hb hby at_26) rfl ?_
    show Steps p.tables e below (s₁.setTop (mkF m 28 #[.val (.int p1), .val (.int p2), .val (.int p3), .val (.int p4), .val (.int p5), .val (.int mn), .val (.int sp), .unset, .unset, .unset, .unset, .unset, .unset, .unset, .unset, .unset, .unset] [(.int sp), (.int (p2 &&& (2147483647 : Int32))), (.int mn)])) _
    refine iremM X0 hx rfl (hb hby at_28) rfl hspn ?_
    show Steps p.tables e below (s₁.setTop (mkF m 29 #[.val (.int p1), .val (.int p2), .val (.int p3), .val (.int p4), .val (.int p5), .val (.int mn), .val (.int sp), .unset, .unset, .unset, .unset, .unset, .unset, .unset, .unset, .unset, .unset] [(.int ((p2 &&& (2147483647 : Int32)) % sp)), (.int mn)])) _
    refine XS.iadd X0.here hx rfl (hb hby at_29) rfl ?_
    show Steps p.tables e below (s₁.setTop (mkF m 30 #[.val (.int p1), .val (.int p2), .val (.int p3), .val (.int p4), .val (.int p5), .val (.int mn), .val (.int sp), .unset, .unset, .unset, .unset, .unset, .unset, .unset, .unset, .unset, .unset] [(.int (mn + ((p2 &&& (2147483647 : Int32)) % sp)))])) _
    refine XS.istore X0.here hx rfl (hb hby at_30) rfl (l' := #[.val (.int p1), .val (.int p2), .val (.int p3), .val (.int p4), .val (.int p5), .val (.int mn), .val (.int sp), .val (.int (mn + ((p2 &&& (2147483647 : Int32)) % sp))), .unset, .unset, .unset, .unset, .unset, .unset, .unset, .unset, .unset]) rfl ?_
    exact kt)
  obtain ⟨mx, hmx⟩ : ∃ z : Int32, z = (mn + ((p2 &&& (2147483647 : Int32)) % sp)) := ⟨_, rfl⟩
  rw [← hmx] at pre3
  have hm2 : mn.toInt ≤ mx.toInt := by rw [hmx]; exact own_max hm1 hsp1
  have hwd := own_width hm1 hm2
  have pre4 : ∀ t, Steps p.tables e below (s₁.setTop (mkF m 38 #[.val (.int p1), .val (.int p2), .val (.int p3), .val (.int p4), .val (.int p5), .val (.int mn), .val (.int sp), .val (.int mx), .val (.int (p3 &&& (2147483647 : Int32))), .unset, .unset, .unset, .unset, .unset, .unset, .unset, .unset] [])) t → Steps p.tables e below _ t := fun t kt => pre3 t (by
    show Steps p.tables e below (s₁.setTop (mkF m 32 #[.val (.int p1), .val (.int p2), .val (.int p3), .val (.int p4), .val (.int p5), .val (.int mn), .val (.int sp), .val (.int mx), .unset, .unset, .unset, .unset, .unset, .unset, .unset, .unset, .unset] [])) _
    refine XS.iloadN X0.here hx rfl (hb hby at_32) rfl ?_
    show Steps p.tables e below (s₁.setTop (mkF m 33 #[.val (.int p1), .val (.int p2), .val (.int p3), .val (.int p4), .val (.int p5), .val (.int mn), .val (.int sp), .val (.int mx), .unset, .unset, .unset, .unset, .unset, .unset, .unset, .unset, .unset] [(.int p3)])) _
    refine X0.ldcInt hx hown (mvT hZ (hw _ (List.mem_of_getElem? (i := 0) rfl))) (g := (mkF m 33 #[.val (.int p1), .val (.int p2), .val (.int p3), .val (.int p4), .val (.int p5), .val (.int mn), .val (.int sp), .val (.int mx), .unset, .unset, .unset, .unset, .unset, .unset, .unset, .unset, .unset] [(.int p3)])) rfl (hb hby at_33) _ ?_
    show Steps p.tables e below (s₁.setTop (mkF m 35 #[.val (.int p1), .val (.int p2), .val (.int p3), .val (.int p4), .val (.int p5), .val (.int mn), .val (.int sp), .val (.int mx), .unset, .unset, .unset, .unset, .unset, .unset, .unset, .unset, .unset] [(.int (2147483647 : Int32)), (.int p3)])) _
    refine XS.iand X0.here hx rfl (hb hby at_35) rfl ?_
    show Steps p.tables e below (s₁.setTop (mkF m 36 #[.val (.int p1), .val (.int p2), .val (.int p3), .val (.int p4), .val (.int p5), .val (.int mn), .val (.int sp), .val (.int mx), .unset, .unset, .unset, .unset, .unset, .unset, .unset, .unset, .unset] [(.int (p3 &&& (2147483647 : Int32)))])) _
    refine XS.istore X0.here hx rfl (hb hby at_36) rfl (l' := #[.val (.int p1), .val (.int p2), .val (.int p3), .val (.int p4), .val (.int p5), .val (.int mn), .val (.int sp), .val (.int mx), .val (.int (p3 &&& (2147483647 : Int32))), .unset, .unset, .unset, .unset, .unset, .unset, .unset, .unset]) rfl ?_
    exact kt)
  obtain ⟨dl, hdl⟩ : ∃ z : Int32, z = (p3 &&& (2147483647 : Int32)) := ⟨_, rfl⟩
  rw [← hdl] at pre4
  have hd0 : ¬ (dl < (0 : Int32)) := by rw [hdl]; exact own_nonneg _
  obtain ⟨T5, h5, X5, e5, E5, A5, D5, -, st5⟩ := newO X0 hx hZ hown (hw _ (List.mem_of_getElem? (i := 1) rfl)) (hw _ (List.mem_of_getElem? (i := 2) rfl)) (hw _ (List.mem_of_getElem? (i := 3) rfl)) e0 (g := (mkF m 38 #[.val (.int p1), .val (.int p2), .val (.int p3), .val (.int p4), .val (.int p5), .val (.int mn), .val (.int sp), .val (.int mx), .val (.int dl), .unset, .unset, .unset, .unset, .unset, .unset, .unset, .unset] [])) rfl (hb hby at_38) (by decide) (by decide)
  obtain ⟨b5, gb5⟩ : ∃ z, z = h0.size := ⟨_, rfl⟩
  rw [← gb5] at A5 D5 st5
  have g_b5 : n0 ≤ b5 := Nat.le_trans Z0 (Nat.le_of_eq gb5.symm)
  have Zs5 : n0 ≤ h5.size := Nat.le_trans Z0 E5.1
  have sz_b5 : h0.size ≤ b5 := Nat.le_trans (Keep.refl h0 []).1 (Nat.le_of_eq gb5.symm)
  have Kp5 : Keep h0 h5 [] := (Keep.refl h0 []).ext E5
  have F1 : Fld Z h5 b5 "com/example/ledgerstream/ledgerstream/model/GroupConfig" "minSessionTimeoutMs" "I" (.int 0) := D5 (Or.inr (hw _ (List.mem_of_getElem? (i := 16) rfl))) (ty := .int) (by decide)
  have F2 : Fld Z h5 b5 "com/example/ledgerstream/ledgerstream/model/GroupConfig" "maxSessionTimeoutMs" "I" (.int 0) := D5 (Or.inr (hw _ (List.mem_of_getElem? (i := 18) rfl))) (ty := .int) (by decide)
  have F3 : Fld Z h5 b5 "com/example/ledgerstream/ledgerstream/model/GroupConfig" "initialRebalanceDelayMs" "I" (.int 0) := D5 (Or.inr (hw _ (List.mem_of_getElem? (i := 20) rfl))) (ty := .int) (by decide)
  have c1 : ¬ (mn < (1 : Int32)) := own_one hm1
  have c2 : ¬ (mx < mn) := by rw [Int32.lt_iff_toInt_lt]; omega
  have pre6 : ∀ t, Steps p.tables e below (T5.setTop (mkF m 48 #[.val (.int p1), .val (.int p2), .val (.int p3), .val (.int p4), .val (.int p5), .val (.int mn), .val (.int sp), .val (.int mx), .val (.int dl), .unset, .unset, .unset, .unset, .unset, .unset, .unset, .unset] [(.int dl), (.int mx), (.int mn), (.ref b5), (.ref b5)])) t → Steps p.tables e below _ t := fun t kt => pre4 t (by
    show Steps p.tables e below (s₁.setTop (mkF m 38 #[.val (.int p1), .val (.int p2), .val (.int p3), .val (.int p4), .val (.int p5), .val (.int mn), .val (.int sp), .val (.int mx), .val (.int dl), .unset, .unset, .unset, .unset, .unset, .unset, .unset, .unset] [])) _
    refine st5 _ ?_
    show Steps p.tables e below (T5.setTop (mkF m 41 #[.val (.int p1), .val (.int p2), .val (.int p3), .val (.int p4), .val (.int p5), .val (.int mn), .val (.int sp), .val (.int mx), .val (.int dl), .unset, .unset, .unset, .unset, .unset, .unset, .unset, .unset] [(.ref b5)])) _
    refine XS.dup X5.here hx rfl (hb hby at_41) rfl rfl ?_
    show Steps p.tables e below (T5.setTop (mkF m 42 #[.val (.int p1), .val (.int p2), .val (.int p3), .val (.int p4), .val (.int p5), .val (.int mn), .val (.int sp), .val (.int mx), .val (.int dl), .unset, .unset, .unset, .unset, .unset, .unset, .unset, .unset] [(.ref b5), (.ref b5)])) _
    refine XS.iload X5.here hx rfl (hb hby at_42) rfl ?_
    show Steps p.tables e below (T5.setTop (mkF m 44 #[.val (.int p1), .val (.int p2), .val (.int p3), .val (.int p4), .val (.int p5), .val (.int mn), .val (.int sp), .val (.int mx), .val (.int dl), .unset, .unset, .unset, .unset, .unset, .unset, .unset, .unset] [(.int mn), (.ref b5), (.ref b5)])) _
    refine XS.iload X5.here hx rfl (hb hby at_44) rfl ?_
    show Steps p.tables e below (T5.setTop (mkF m 46 #[.val (.int p1), .val (.int p2), .val (.int p3), .val (.int p4), .val (.int p5), .val (.int mn), .val (.int sp), .val (.int mx), .val (.int dl), .unset, .unset, .unset, .unset, .unset, .unset, .unset, .unset] [(.int mx), (.int mn), (.ref b5), (.ref b5)])) _
    refine XS.iload X5.here hx rfl (hb hby at_46) rfl ?_
    exact kt)
  obtain ⟨_, _, ⟨T7, L7, k7, n7⟩, -, X7, ⟨Lc7, hQ7, l7, y7, z7⟩, st7⟩ := X5.specialBack hx (y := (⟨"com/example/ledgerstream/ledgerstream/model/GroupConfig", "<init>", "(III)V"⟩ : MethodName)) rfl hown (mvT hZ (hw _ (List.mem_of_getElem? (i := 4) rfl))) (mvT hZ (hw _ (List.mem_of_getElem? (i := 5) rfl))) (mvT hZ (hw _ (List.mem_of_getElem? (i := 6) rfl))) (by decide) (backOf (W := 1) (rm1 l Z a0 hw [] b5 mn mx dl h5 n0 Zs5 F1 F2 F3 A5 g_b5 c1 c2 hd0) hZ (hw _ (List.mem_of_getElem? (i := 6) rfl)) (hw _ (List.mem_of_getElem? (i := 3) rfl)) (by decide) (by decide)) (g := (mkF m 48 #[.val (.int p1), .val (.int p2), .val (.int p3), .val (.int p4), .val (.int p5), .val (.int mn), .val (.int sp), .val (.int mx), .val (.int dl), .unset, .unset, .unset, .unset, .unset, .unset, .unset, .unset] [(.int dl), (.int mx), (.int mn), (.ref b5), (.ref b5)])) rfl (by rw [hml]; rfl) (Steps.refl _) (a := b5) (argsL := [(.int mn), (.int mx), (.int dl)]) (rest := [(.ref b5)]) (lenOf pd_1 rfl) rfl (by show 2 * 0 + _ ≤ _; exact Nat.le_of_eq rfl) (hb hby at_48) (fun _ _ => ⟨rfl, e5, (by decide : 1 + 0 ≤ _), (by decide : 3 + 0 ≤ _)⟩)
  dsimp only [Pt.U, Pt.locs, Pt.cells, Pt.slots] at X7 l7 y7 z7 st7 hQ7
  subst l7 y7 z7
  obtain ⟨rfl, N7q, Kc, Ec, G1, G2⟩ := hQ7
  have N7 := Fr.app N0 N7q
  have Zc : n0 ≤ T7.heap.size := Nat.le_trans Zs5 Kc.1
  have pre8 : ∀ t, Steps p.tables e below (T7.setTop (mkF m 66 #[.val (.int p1), .val (.int p2), .val (.int p3), .val (.int p4), .val (.int p5), .val (.int mn), .val (.int sp), .val (.int mx), .val (.int dl), .val (.ref b5), .val (.int (p4 &&& (7 : Int32))), .val (.int p5), .unset, .unset, .unset, .unset, .unset] [(.int (1 : Int32)), (.int (p4 &&& (7 : Int32)))])) t → Steps p.tables e below _ t := fun t kt => pre6 t (by
    show Steps p.tables e below (T5.setTop (mkF m 48 #[.val (.int p1), .val (.int p2), .val (.int p3), .val (.int p4), .val (.int p5), .val (.int mn), .val (.int sp), .val (.int mx), .val (.int dl), .unset, .unset, .unset, .unset, .unset, .unset, .unset, .unset] [(.int dl), (.int mx), (.int mn), (.ref b5), (.ref b5)])) _
    refine st7.trans ?_
    show Steps p.tables e below (T7.setTop (mkF m 51 #[.val (.int p1), .val (.int p2), .val (.int p3), .val (.int p4), .val (.int p5), .val (.int mn), .val (.int sp), .val (.int mx), .val (.int dl), .unset, .unset, .unset, .unset, .unset, .unset, .unset, .unset] [(.ref b5)])) _
    refine XS.astore X7.here hx rfl (hb hby at_51) rfl rfl (l' := #[.val (.int p1), .val (.int p2), .val (.int p3), .val (.int p4), .val (.int p5), .val (.int mn), .val (.int sp), .val (.int mx), .val (.int dl), .val (.ref b5), .unset, .unset, .unset, .unset, .unset, .unset, .unset]) rfl ?_
    show Steps p.tables e below (T7.setTop (mkF m 53 #[.val (.int p1), .val (.int p2), .val (.int p3), .val (.int p4), .val (.int p5), .val (.int mn), .val (.int sp), .val (.int mx), .val (.int dl), .val (.ref b5), .unset, .unset, .unset, .unset, .unset, .unset, .unset] [])) _
    refine XS.iloadN X7.here hx rfl (hb hby at_53) rfl ?_
    show Steps p.tables e below (T7.setTop (mkF m 54 #[.val (.int p1), .val (.int p2), .val (.int p3), .val (.int p4), .val (.int p5), .val (.int mn), .val (.int sp), .val (.int mx), .val (.int dl), .val (.ref b5), .unset, .unset, .unset, .unset, .unset, .unset, .unset] [(.int p4)])) _
    refine XS.bipush X7.here hx rfl (hb hby at_54) ?_
    show Steps p.tables e below (T7.setTop (mkF m 56 #[.val (.int p1), .val (.int p2), .val (.int p3), .val (.int p4), .val (.int p5), .val (.int mn), .val (.int sp), .val (.int mx), .val (.int dl), .val (.ref b5), .unset, .unset, .unset, .unset, .unset, .unset, .unset] [(.int (7 : Int32)), (.int p4)])) _
    refine XS.iand X7.here hx rfl (hb hby at_56) rfl ?_
    show Steps p.tables e below (T7.setTop (mkF m 57 #[.val (.int p1), .val (.int p2), .val (.int p3), .val (.int p4), .val (.int p5), .val (.int mn), .val (.int sp), .val (.int mx), .val (.int dl), .val (.ref b5), .unset, .unset, .unset, .unset, .unset, .unset, .unset] [(.int (p4 &&& (7 : Int32)))])) _
    refine XS.istore X7.here hx rfl (hb hby at_57) rfl (l' := #[.val (.int p1), .val (.int p2), .val (.int p3), .val (.int p4), .val (.int p5), .val (.int mn), .val (.int sp), .val (.int mx), .val (.int dl), .val (.ref b5), .val (.int (p4 &&& (7 : Int32))), .unset, .unset, .unset, .unset, .unset, .unset]) rfl ?_
    show Steps p.tables e below (T7.setTop (mkF m 59 #[.val (.int p1), .val (.int p2), .val (.int p3), .val (.int p4), .val (.int p5), .val (.int mn), .val (.int sp), .val (.int mx), .val (.int dl), .val (.ref b5), .val (.int (p4 &&& (7 : Int32))), .unset, .unset, .unset, .unset, .unset, .unset] [])) _
    refine XS.iload X7.here hx rfl (hb hby at_59) rfl ?_
    show Steps p.tables e below (T7.setTop (mkF m 61 #[.val (.int p1), .val (.int p2), .val (.int p3), .val (.int p4), .val (.int p5), .val (.int mn), .val (.int sp), .val (.int mx), .val (.int dl), .val (.ref b5), .val (.int (p4 &&& (7 : Int32))), .unset, .unset, .unset, .unset, .unset, .unset] [(.int p5)])) _
    refine XS.istore X7.here hx rfl (hb hby at_61) rfl (l' := #[.val (.int p1), .val (.int p2), .val (.int p3), .val (.int p4), .val (.int p5), .val (.int mn), .val (.int sp), .val (.int mx), .val (.int dl), .val (.ref b5), .val (.int (p4 &&& (7 : Int32))), .val (.int p5), .unset, .unset, .unset, .unset, .unset]) rfl ?_
    show Steps p.tables e below (T7.setTop (mkF m 63 #[.val (.int p1), .val (.int p2), .val (.int p3), .val (.int p4), .val (.int p5), .val (.int mn), .val (.int sp), .val (.int mx), .val (.int dl), .val (.ref b5), .val (.int (p4 &&& (7 : Int32))), .val (.int p5), .unset, .unset, .unset, .unset, .unset] [])) _
    refine XS.iload X7.here hx rfl (hb hby at_63) rfl ?_
    show Steps p.tables e below (T7.setTop (mkF m 65 #[.val (.int p1), .val (.int p2), .val (.int p3), .val (.int p4), .val (.int p5), .val (.int mn), .val (.int sp), .val (.int mx), .val (.int dl), .val (.ref b5), .val (.int (p4 &&& (7 : Int32))), .val (.int p5), .unset, .unset, .unset, .unset, .unset] [(.int (p4 &&& (7 : Int32)))])) _
    refine XS.iconst X7.here hx rfl (hb hby at_65) ?_
    exact kt)
  have pre9 : ∀ t, Steps p.tables e below (T7.setTop (mkF m 143 #[.val (.int p1), .val (.int p2), .val (.int p3), .val (.int p4), .val (.int p5), .val (.int mn), .val (.int sp), .val (.int mx), .val (.int dl), .val (.ref b5), .val (.int (p4 &&& (7 : Int32))), .val (.int (if (p4 &&& (7 : Int32)) = (1 : Int32) then mn else (if (p4 &&& (7 : Int32)) = (2 : Int32) then (mn - (1 : Int32)) else (if (p4 &&& (7 : Int32)) = (3 : Int32) then mx else (if (p4 &&& (7 : Int32)) = (4 : Int32) then (mx + (1 : Int32)) else (if (p4 &&& (7 : Int32)) = (5 : Int32) then (mn + ((p5 &&& (2147483647 : Int32)) % ((mx - mn) + (1 : Int32)))) else p5)))))), .unset, .unset, .unset, .unset, .unset] [])) t → Steps p.tables e below (s₁.setTop (entryFrame m #[(.int p1), (.int p2), (.int p3), (.int p4), (.int p5)] maxLocals)) t := fun t kt => by
    refine pre8 t ?_
    by_cases hd66 : (p4 &&& (7 : Int32)) = (1 : Int32)
    · simp only [if_pos hd66] at kt
      show Steps p.tables e below (T7.setTop (mkF m 66 #[.val (.int p1), .val (.int p2), .val (.int p3), .val (.int p4), .val (.int p5), .val (.int mn), .val (.int sp), .val (.int mx), .val (.int dl), .val (.ref b5), .val (.int (p4 &&& (7 : Int32))), .val (.int p5), .unset, .unset, .unset, .unset, .unset] [(.int (1 : Int32)), (.int (p4 &&& (7 : Int32)))])) _
      refine XS.icmpNo X7.here hx rfl (hb hby at_66) rfl (teq hd66).2 ?_
      show Steps p.tables e below (T7.setTop (mkF m 69 #[.val (.int p1), .val (.int p2), .val (.int p3), .val (.int p4), .val (.int p5), .val (.int mn), .val (.int sp), .val (.int mx), .val (.int dl), .val (.ref b5), .val (.int (p4 &&& (7 : Int32))), .val (.int p5), .unset, .unset, .unset, .unset, .unset] [])) _
      refine XS.iload X7.here hx rfl (hb hby at_69) rfl ?_
      show Steps p.tables e below (T7.setTop (mkF m 71 #[.val (.int p1), .val (.int p2), .val (.int p3), .val (.int p4), .val (.int p5), .val (.int mn), .val (.int sp), .val (.int mx), .val (.int dl), .val (.ref b5), .val (.int (p4 &&& (7 : Int32))), .val (.int p5), .unset, .unset, .unset, .unset, .unset] [(.int mn)])) _
      refine XS.istore X7.here hx rfl (hb hby at_71) rfl (l' := #[.val (.int p1), .val (.int p2), .val (.int p3), .val (.int p4), .val (.int p5), .val (.int mn), .val (.int sp), .val (.int mx), .val (.int dl), .val (.ref b5), .val (.int (p4 &&& (7 : Int32))), .val (.int mn), .unset, .unset, .unset, .unset, .unset]) rfl ?_
      show Steps p.tables e below (T7.setTop (mkF m 73 #[.val (.int p1), .val (.int p2), .val (.int p3), .val (.int p4), .val (.int p5), .val (.int mn), .val (.int sp), .val (.int mx), .val (.int dl), .val (.ref b5), .val (.int (p4 &&& (7 : Int32))), .val (.int mn), .unset, .unset, .unset, .unset, .unset] [])) _
      refine XS.goto X7.here hx rfl (pc0 := 73) (pc' := 143) rfl (hb hby at_73) (by decide) (by decide) ?_
      exact kt
    · by_cases hd79 : (p4 &&& (7 : Int32)) = (2 : Int32)
      · simp only [if_neg hd66, if_pos hd79] at kt
        show Steps p.tables e below (T7.setTop (mkF m 66 #[.val (.int p1), .val (.int p2), .val (.int p3), .val (.int p4), .val (.int p5), .val (.int mn), .val (.int sp), .val (.int mx), .val (.int dl), .val (.ref b5), .val (.int (p4 &&& (7 : Int32))), .val (.int p5), .unset, .unset, .unset, .unset, .unset] [(.int (1 : Int32)), (.int (p4 &&& (7 : Int32)))])) _
        refine XS.icmpYes X7.here hx rfl (pc0 := 66) (pc' := 76) rfl (hb hby at_66) rfl (feq hd66).2 (by decide) (by decide) ?_
        show Steps p.tables e below (T7.setTop (mkF m 76 #[.val (.int p1), .val (.int p2), .val (.int p3), .val (.int p4), .val (.int p5), .val (.int mn), .val (.int sp), .val (.int mx), .val (.int dl), .val (.ref b5), .val (.int (p4 &&& (7 : Int32))), .val (.int p5), .unset, .unset, .unset, .unset, .unset] [])) _
        refine XS.iload X7.here hx rfl (hb hby at_76) rfl ?_
        show Steps p.tables e below (T7.setTop (mkF m 78 #[.val (.int p1), .val (.int p2), .val (.int p3), .val (.int p4), .val (.int p5), .val (.int mn), .val (.int sp), .val (.int mx), .val (.int dl), .val (.ref b5), .val (.int (p4 &&& (7 : Int32))), .val (.int p5), .unset, .unset, .unset, .unset, .unset] [(.int (p4 &&& (7 : Int32)))])) _
        refine XS.iconst X7.here hx rfl (hb hby at_78) ?_
        show Steps p.tables e below (T7.setTop (mkF m 79 #[.val (.int p1), .val (.int p2), .val (.int p3), .val (.int p4), .val (.int p5), .val (.int mn), .val (.int sp), .val (.int mx), .val (.int dl), .val (.ref b5), .val (.int (p4 &&& (7 : Int32))), .val (.int p5), .unset, .unset, .unset, .unset, .unset] [(.int (2 : Int32)), (.int (p4 &&& (7 : Int32)))])) _
        refine XS.icmpNo X7.here hx rfl (hb hby at_79) rfl (teq hd79).2 ?_
        show Steps p.tables e below (T7.setTop (mkF m 82 #[.val (.int p1), .val (.int p2), .val (.int p3), .val (.int p4), .val (.int p5), .val (.int mn), .val (.int sp), .val (.int mx), .val (.int dl), .val (.ref b5), .val (.int (p4 &&& (7 : Int32))), .val (.int p5), .unset, .unset, .unset, .unset, .unset] [])) _
        refine XS.iload X7.here hx rfl (hb hby at_82) rfl ?_
        show Steps p.tables e below (T7.setTop (mkF m 84 #[.val (.int p1), .val (.int p2), .val (.int p3), .val (.int p4), .val (.int p5), .val (.int mn), .val (.int sp), .val (.int mx), .val (.int dl), .val (.ref b5), .val (.int (p4 &&& (7 : Int32))), .val (.int p5), .unset, .unset, .unset, .unset, .unset] [(.int mn)])) _
        refine XS.iconst X7.here hx rfl (hb hby at_84) ?_
        show Steps p.tables e below (T7.setTop (mkF m 85 #[.val (.int p1), .val (.int p2), .val (.int p3), .val (.int p4), .val (.int p5), .val (.int mn), .val (.int sp), .val (.int mx), .val (.int dl), .val (.ref b5), .val (.int (p4 &&& (7 : Int32))), .val (.int p5), .unset, .unset, .unset, .unset, .unset] [(.int (1 : Int32)), (.int mn)])) _
        refine XS.isub X7.here hx rfl (hb hby at_85) rfl ?_
        show Steps p.tables e below (T7.setTop (mkF m 86 #[.val (.int p1), .val (.int p2), .val (.int p3), .val (.int p4), .val (.int p5), .val (.int mn), .val (.int sp), .val (.int mx), .val (.int dl), .val (.ref b5), .val (.int (p4 &&& (7 : Int32))), .val (.int p5), .unset, .unset, .unset, .unset, .unset] [(.int (mn - (1 : Int32)))])) _
        refine XS.istore X7.here hx rfl (hb hby at_86) rfl (l' := #[.val (.int p1), .val (.int p2), .val (.int p3), .val (.int p4), .val (.int p5), .val (.int mn), .val (.int sp), .val (.int mx), .val (.int dl), .val (.ref b5), .val (.int (p4 &&& (7 : Int32))), .val (.int (mn - (1 : Int32))), .unset, .unset, .unset, .unset, .unset]) rfl ?_
        show Steps p.tables e below (T7.setTop (mkF m 88 #[.val (.int p1), .val (.int p2), .val (.int p3), .val (.int p4), .val (.int p5), .val (.int mn), .val (.int sp), .val (.int mx), .val (.int dl), .val (.ref b5), .val (.int (p4 &&& (7 : Int32))), .val (.int (mn - (1 : Int32))), .unset, .unset, .unset, .unset, .unset] [])) _
        refine XS.goto X7.here hx rfl (pc0 := 88) (pc' := 143) rfl (hb hby at_88) (by decide) (by decide) ?_
        exact kt
      · by_cases hd94 : (p4 &&& (7 : Int32)) = (3 : Int32)
        · simp only [if_neg hd66, if_neg hd79, if_pos hd94] at kt
          show Steps p.tables e below (T7.setTop (mkF m 66 #[.val (.int p1), .val (.int p2), .val (.int p3), .val (.int p4), .val (.int p5), .val (.int mn), .val (.int sp), .val (.int mx), .val (.int dl), .val (.ref b5), .val (.int (p4 &&& (7 : Int32))), .val (.int p5), .unset, .unset, .unset, .unset, .unset] [(.int (1 : Int32)), (.int (p4 &&& (7 : Int32)))])) _
          refine XS.icmpYes X7.here hx rfl (pc0 := 66) (pc' := 76) rfl (hb hby at_66) rfl (feq hd66).2 (by decide) (by decide) ?_
          show Steps p.tables e below (T7.setTop (mkF m 76 #[.val (.int p1), .val (.int p2), .val (.int p3), .val (.int p4), .val (.int p5), .val (.int mn), .val (.int sp), .val (.int mx), .val (.int dl), .val (.ref b5), .val (.int (p4 &&& (7 : Int32))), .val (.int p5), .unset, .unset, .unset, .unset, .unset] [])) _
          refine XS.iload X7.here hx rfl (hb hby at_76) rfl ?_
          show Steps p.tables e below (T7.setTop (mkF m 78 #[.val (.int p1), .val (.int p2), .val (.int p3), .val (.int p4), .val (.int p5), .val (.int mn), .val (.int sp), .val (.int mx), .val (.int dl), .val (.ref b5), .val (.int (p4 &&& (7 : Int32))), .val (.int p5), .unset, .unset, .unset, .unset, .unset] [(.int (p4 &&& (7 : Int32)))])) _
          refine XS.iconst X7.here hx rfl (hb hby at_78) ?_
          show Steps p.tables e below (T7.setTop (mkF m 79 #[.val (.int p1), .val (.int p2), .val (.int p3), .val (.int p4), .val (.int p5), .val (.int mn), .val (.int sp), .val (.int mx), .val (.int dl), .val (.ref b5), .val (.int (p4 &&& (7 : Int32))), .val (.int p5), .unset, .unset, .unset, .unset, .unset] [(.int (2 : Int32)), (.int (p4 &&& (7 : Int32)))])) _
          refine XS.icmpYes X7.here hx rfl (pc0 := 79) (pc' := 91) rfl (hb hby at_79) rfl (feq hd79).2 (by decide) (by decide) ?_
          show Steps p.tables e below (T7.setTop (mkF m 91 #[.val (.int p1), .val (.int p2), .val (.int p3), .val (.int p4), .val (.int p5), .val (.int mn), .val (.int sp), .val (.int mx), .val (.int dl), .val (.ref b5), .val (.int (p4 &&& (7 : Int32))), .val (.int p5), .unset, .unset, .unset, .unset, .unset] [])) _
          refine XS.iload X7.here hx rfl (hb hby at_91) rfl ?_
          show Steps p.tables e below (T7.setTop (mkF m 93 #[.val (.int p1), .val (.int p2), .val (.int p3), .val (.int p4), .val (.int p5), .val (.int mn), .val (.int sp), .val (.int mx), .val (.int dl), .val (.ref b5), .val (.int (p4 &&& (7 : Int32))), .val (.int p5), .unset, .unset, .unset, .unset, .unset] [(.int (p4 &&& (7 : Int32)))])) _
          refine XS.iconst X7.here hx rfl (hb hby at_93) ?_
          show Steps p.tables e below (T7.setTop (mkF m 94 #[.val (.int p1), .val (.int p2), .val (.int p3), .val (.int p4), .val (.int p5), .val (.int mn), .val (.int sp), .val (.int mx), .val (.int dl), .val (.ref b5), .val (.int (p4 &&& (7 : Int32))), .val (.int p5), .unset, .unset, .unset, .unset, .unset] [(.int (3 : Int32)), (.int (p4 &&& (7 : Int32)))])) _
          refine XS.icmpNo X7.here hx rfl (hb hby at_94) rfl (teq hd94).2 ?_
          show Steps p.tables e below (T7.setTop (mkF m 97 #[.val (.int p1), .val (.int p2), .val (.int p3), .val (.int p4), .val (.int p5), .val (.int mn), .val (.int sp), .val (.int mx), .val (.int dl), .val (.ref b5), .val (.int (p4 &&& (7 : Int32))), .val (.int p5), .unset, .unset, .unset, .unset, .unset] [])) _
          refine XS.iload X7.here hx rfl (hb hby at_97) rfl ?_
          show Steps p.tables e below (T7.setTop (mkF m 99 #[.val (.int p1), .val (.int p2), .val (.int p3), .val (.int p4), .val (.int p5), .val (.int mn), .val (.int sp), .val (.int mx), .val (.int dl), .val (.ref b5), .val (.int (p4 &&& (7 : Int32))), .val (.int p5), .unset, .unset, .unset, .unset, .unset] [(.int mx)])) _
          refine XS.istore X7.here hx rfl (hb hby at_99) rfl (l' := #[.val (.int p1), .val (.int p2), .val (.int p3), .val (.int p4), .val (.int p5), .val (.int mn), .val (.int sp), .val (.int mx), .val (.int dl), .val (.ref b5), .val (.int (p4 &&& (7 : Int32))), .val (.int mx), .unset, .unset, .unset, .unset, .unset]) rfl ?_
          show Steps p.tables e below (T7.setTop (mkF m 101 #[.val (.int p1), .val (.int p2), .val (.int p3), .val (.int p4), .val (.int p5), .val (.int mn), .val (.int sp), .val (.int mx), .val (.int dl), .val (.ref b5), .val (.int (p4 &&& (7 : Int32))), .val (.int mx), .unset, .unset, .unset, .unset, .unset] [])) _
          refine XS.goto X7.here hx rfl (pc0 := 101) (pc' := 143) rfl (hb hby at_101) (by decide) (by decide) ?_
          exact kt
        · by_cases hd107 : (p4 &&& (7 : Int32)) = (4 : Int32)
          · simp only [if_neg hd66, if_neg hd79, if_neg hd94, if_pos hd107] at kt
            show Steps p.tables e below (T7.setTop (mkF m 66 #[.val (.int p1), .val (.int p2), .val (.int p3), .val (.int p4), .val (.int p5), .val (.int mn), .val (.int sp), .val (.int mx), .val (.int dl), .val (.ref b5), .val (.int (p4 &&& (7 : Int32))), .val (.int p5), .unset, .unset, .unset, .unset, .unset] [(.int (1 : Int32)), (.int (p4 &&& (7 : Int32)))])) _
            refine XS.icmpYes X7.here hx rfl (pc0 := 66) (pc' := 76) rfl (hb hby at_66) rfl (feq hd66).2 (by decide) (by decide) ?_
            show Steps p.tables e below (T7.setTop (mkF m 76 #[.val (.int p1), .val (.int p2), .val (.int p3), .val (.int p4), .val (.int p5), .val (.int mn), .val (.int sp), .val (.int mx), .val (.int dl), .val (.ref b5), .val (.int (p4 &&& (7 : Int32))), .val (.int p5), .unset, .unset, .unset, .unset, .unset] [])) _
            refine XS.iload X7.here hx rfl (hb hby at_76) rfl ?_
            show Steps p.tables e below (T7.setTop (mkF m 78 #[.val (.int p1), .val (.int p2), .val (.int p3), .val (.int p4), .val (.int p5), .val (.int mn), .val (.int sp), .val (.int mx), .val (.int dl), .val (.ref b5), .val (.int (p4 &&& (7 : Int32))), .val (.int p5), .unset, .unset, .unset, .unset, .unset] [(.int (p4 &&& (7 : Int32)))])) _
            refine XS.iconst X7.here hx rfl (hb hby at_78) ?_
            show Steps p.tables e below (T7.setTop (mkF m 79 #[.val (.int p1), .val (.int p2), .val (.int p3), .val (.int p4), .val (.int p5), .val (.int mn), .val (.int sp), .val (.int mx), .val (.int dl), .val (.ref b5), .val (.int (p4 &&& (7 : Int32))), .val (.int p5), .unset, .unset, .unset, .unset, .unset] [(.int (2 : Int32)), (.int (p4 &&& (7 : Int32)))])) _
            refine XS.icmpYes X7.here hx rfl (pc0 := 79) (pc' := 91) rfl (hb hby at_79) rfl (feq hd79).2 (by decide) (by decide) ?_
            show Steps p.tables e below (T7.setTop (mkF m 91 #[.val (.int p1), .val (.int p2), .val (.int p3), .val (.int p4), .val (.int p5), .val (.int mn), .val (.int sp), .val (.int mx), .val (.int dl), .val (.ref b5), .val (.int (p4 &&& (7 : Int32))), .val (.int p5), .unset, .unset, .unset, .unset, .unset] [])) _
            refine XS.iload X7.here hx rfl (hb hby at_91) rfl ?_
            show Steps p.tables e below (T7.setTop (mkF m 93 #[.val (.int p1), .val (.int p2), .val (.int p3), .val (.int p4), .val (.int p5), .val (.int mn), .val (.int sp), .val (.int mx), .val (.int dl), .val (.ref b5), .val (.int (p4 &&& (7 : Int32))), .val (.int p5), .unset, .unset, .unset, .unset, .unset] [(.int (p4 &&& (7 : Int32)))])) _
            refine XS.iconst X7.here hx rfl (hb hby at_93) ?_
            show Steps p.tables e below (T7.setTop (mkF m 94 #[.val (.int p1), .val (.int p2), .val (.int p3), .val (.int p4), .val (.int p5), .val (.int mn), .val (.int sp), .val (.int mx), .val (.int dl), .val (.ref b5), .val (.int (p4 &&& (7 : Int32))), .val (.int p5), .unset, .unset, .unset, .unset, .unset] [(.int (3 : Int32)), (.int (p4 &&& (7 : Int32)))])) _
            refine XS.icmpYes X7.here hx rfl (pc0 := 94) (pc' := 104) rfl (hb hby at_94) rfl (feq hd94).2 (by decide) (by decide) ?_
            show Steps p.tables e below (T7.setTop (mkF m 104 #[.val (.int p1), .val (.int p2), .val (.int p3), .val (.int p4), .val (.int p5), .val (.int mn), .val (.int sp), .val (.int mx), .val (.int dl), .val (.ref b5), .val (.int (p4 &&& (7 : Int32))), .val (.int p5), .unset, .unset, .unset, .unset, .unset] [])) _
            refine XS.iload X7.here hx rfl (hb hby at_104) rfl ?_
            show Steps p.tables e below (T7.setTop (mkF m 106 #[.val (.int p1), .val (.int p2), .val (.int p3), .val (.int p4), .val (.int p5), .val (.int mn), .val (.int sp), .val (.int mx), .val (.int dl), .val (.ref b5), .val (.int (p4 &&& (7 : Int32))), .val (.int p5), .unset, .unset, .unset, .unset, .unset] [(.int (p4 &&& (7 : Int32)))])) _
            refine XS.iconst X7.here hx rfl (hb hby at_106) ?_
            show Steps p.tables e below (T7.setTop (mkF m 107 #[.val (.int p1), .val (.int p2), .val (.int p3), .val (.int p4), .val (.int p5), .val (.int mn), .val (.int sp), .val (.int mx), .val (.int dl), .val (.ref b5), .val (.int (p4 &&& (7 : Int32))), .val (.int p5), .unset, .unset, .unset, .unset, .unset] [(.int (4 : Int32)), (.int (p4 &&& (7 : Int32)))])) _
            refine XS.icmpNo X7.here hx rfl (hb hby at_107) rfl (teq hd107).2 ?_
            show Steps p.tables e below (T7.setTop (mkF m 110 #[.val (.int p1), .val (.int p2), .val (.int p3), .val (.int p4), .val (.int p5), .val (.int mn), .val (.int sp), .val (.int mx), .val (.int dl), .val (.ref b5), .val (.int (p4 &&& (7 : Int32))), .val (.int p5), .unset, .unset, .unset, .unset, .unset] [])) _
            refine XS.iload X7.here hx rfl (hb hby at_110) rfl ?_
            show Steps p.tables e below (T7.setTop (mkF m 112 #[.val (.int p1), .val (.int p2), .val (.int p3), .val (.int p4), .val (.int p5), .val (.int mn), .val (.int sp), .val (.int mx), .val (.int dl), .val (.ref b5), .val (.int (p4 &&& (7 : Int32))), .val (.int p5), .unset, .unset, .unset, .unset, .unset] [(.int mx)])) _
            refine XS.iconst X7.here hx rfl (hb hby at_112) ?_
            show Steps p.tables e below (T7.setTop (mkF m 113 #[.val (.int p1), .val (.int p2), .val (.int p3), .val (.int p4), .val (.int p5), .val (.int mn), .val (.int sp), .val (.int mx), .val (.int dl), .val (.ref b5), .val (.int (p4 &&& (7 : Int32))), .val (.int p5), .unset, .unset, .unset, .unset, .unset] [(.int (1 : Int32)), (.int mx)])) _
            refine XS.iadd X7.here hx rfl (hb hby at_113) rfl ?_
            show Steps p.tables e below (T7.setTop (mkF m 114 #[.val (.int p1), .val (.int p2), .val (.int p3), .val (.int p4), .val (.int p5), .val (.int mn), .val (.int sp), .val (.int mx), .val (.int dl), .val (.ref b5), .val (.int (p4 &&& (7 : Int32))), .val (.int p5), .unset, .unset, .unset, .unset, .unset] [(.int (mx + (1 : Int32)))])) _
            refine XS.istore X7.here hx rfl (hb hby at_114) rfl (l' := #[.val (.int p1), .val (.int p2), .val (.int p3), .val (.int p4), .val (.int p5), .val (.int mn), .val (.int sp), .val (.int mx), .val (.int dl), .val (.ref b5), .val (.int (p4 &&& (7 : Int32))), .val (.int (mx + (1 : Int32))), .unset, .unset, .unset, .unset, .unset]) rfl ?_
            show Steps p.tables e below (T7.setTop (mkF m 116 #[.val (.int p1), .val (.int p2), .val (.int p3), .val (.int p4), .val (.int p5), .val (.int mn), .val (.int sp), .val (.int mx), .val (.int dl), .val (.ref b5), .val (.int (p4 &&& (7 : Int32))), .val (.int (mx + (1 : Int32))), .unset, .unset, .unset, .unset, .unset] [])) _
            refine XS.goto X7.here hx rfl (pc0 := 116) (pc' := 143) rfl (hb hby at_116) (by decide) (by decide) ?_
            exact kt
          · by_cases hd122 : (p4 &&& (7 : Int32)) = (5 : Int32)
            · simp only [if_neg hd66, if_neg hd79, if_neg hd94, if_neg hd107, if_pos hd122] at kt
              show Steps p.tables e below (T7.setTop (mkF m 66 #[.val (.int p1), .val (.int p2), .val (.int p3), .val (.int p4), .val (.int p5), .val (.int mn), .val (.int sp), .val (.int mx), .val (.int dl), .val (.ref b5), .val (.int (p4 &&& (7 : Int32))), .val (.int p5), .unset, .unset, .unset, .unset, .unset] [(.int (1 : Int32)), (.int (p4 &&& (7 : Int32)))])) _
              refine XS.icmpYes X7.here hx rfl (pc0 := 66) (pc' := 76) rfl (hb hby at_66) rfl (feq hd66).2 (by decide) (by decide) ?_
              show Steps p.tables e below (T7.setTop (mkF m 76 #[.val (.int p1), .val (.int p2), .val (.int p3), .val (.int p4), .val (.int p5), .val (.int mn), .val (.int sp), .val (.int mx), .val (.int dl), .val (.ref b5), .val (.int (p4 &&& (7 : Int32))), .val (.int p5), .unset, .unset, .unset, .unset, .unset] [])) _
              refine XS.iload X7.here hx rfl (hb hby at_76) rfl ?_
              show Steps p.tables e below (T7.setTop (mkF m 78 #[.val (.int p1), .val (.int p2), .val (.int p3), .val (.int p4), .val (.int p5), .val (.int mn), .val (.int sp), .val (.int mx), .val (.int dl), .val (.ref b5), .val (.int (p4 &&& (7 : Int32))), .val (.int p5), .unset, .unset, .unset, .unset, .unset] [(.int (p4 &&& (7 : Int32)))])) _
              refine XS.iconst X7.here hx rfl (hb hby at_78) ?_
              show Steps p.tables e below (T7.setTop (mkF m 79 #[.val (.int p1), .val (.int p2), .val (.int p3), .val (.int p4), .val (.int p5), .val (.int mn), .val (.int sp), .val (.int mx), .val (.int dl), .val (.ref b5), .val (.int (p4 &&& (7 : Int32))), .val (.int p5), .unset, .unset, .unset, .unset, .unset] [(.int (2 : Int32)), (.int (p4 &&& (7 : Int32)))])) _
              refine XS.icmpYes X7.here hx rfl (pc0 := 79) (pc' := 91) rfl (hb hby at_79) rfl (feq hd79).2 (by decide) (by decide) ?_
              show Steps p.tables e below (T7.setTop (mkF m 91 #[.val (.int p1), .val (.int p2), .val (.int p3), .val (.int p4), .val (.int p5), .val (.int mn), .val (.int sp), .val (.int mx), .val (.int dl), .val (.ref b5), .val (.int (p4 &&& (7 : Int32))), .val (.int p5), .unset, .unset, .unset, .unset, .unset] [])) _
              refine XS.iload X7.here hx rfl (hb hby at_91) rfl ?_
              show Steps p.tables e below (T7.setTop (mkF m 93 #[.val (.int p1), .val (.int p2), .val (.int p3), .val (.int p4), .val (.int p5), .val (.int mn), .val (.int sp), .val (.int mx), .val (.int dl), .val (.ref b5), .val (.int (p4 &&& (7 : Int32))), .val (.int p5), .unset, .unset, .unset, .unset, .unset] [(.int (p4 &&& (7 : Int32)))])) _
              refine XS.iconst X7.here hx rfl (hb hby at_93) ?_
              show Steps p.tables e below (T7.setTop (mkF m 94 #[.val (.int p1), .val (.int p2), .val (.int p3), .val (.int p4), .val (.int p5), .val (.int mn), .val (.int sp), .val (.int mx), .val (.int dl), .val (.ref b5), .val (.int (p4 &&& (7 : Int32))), .val (.int p5), .unset, .unset, .unset, .unset, .unset] [(.int (3 : Int32)), (.int (p4 &&& (7 : Int32)))])) _
              refine XS.icmpYes X7.here hx rfl (pc0 := 94) (pc' := 104) rfl (hb hby at_94) rfl (feq hd94).2 (by decide) (by decide) ?_
              show Steps p.tables e below (T7.setTop (mkF m 104 #[.val (.int p1), .val (.int p2), .val (.int p3), .val (.int p4), .val (.int p5), .val (.int mn), .val (.int sp), .val (.int mx), .val (.int dl), .val (.ref b5), .val (.int (p4 &&& (7 : Int32))), .val (.int p5), .unset, .unset, .unset, .unset, .unset] [])) _
              refine XS.iload X7.here hx rfl (hb hby at_104) rfl ?_
              show Steps p.tables e below (T7.setTop (mkF m 106 #[.val (.int p1), .val (.int p2), .val (.int p3), .val (.int p4), .val (.int p5), .val (.int mn), .val (.int sp), .val (.int mx), .val (.int dl), .val (.ref b5), .val (.int (p4 &&& (7 : Int32))), .val (.int p5), .unset, .unset, .unset, .unset, .unset] [(.int (p4 &&& (7 : Int32)))])) _
              refine XS.iconst X7.here hx rfl (hb hby at_106) ?_
              show Steps p.tables e below (T7.setTop (mkF m 107 #[.val (.int p1), .val (.int p2), .val (.int p3), .val (.int p4), .val (.int p5), .val (.int mn), .val (.int sp), .val (.int mx), .val (.int dl), .val (.ref b5), .val (.int (p4 &&& (7 : Int32))), .val (.int p5), .unset, .unset, .unset, .unset, .unset] [(.int (4 : Int32)), (.int (p4 &&& (7 : Int32)))])) _
              refine XS.icmpYes X7.here hx rfl (pc0 := 107) (pc' := 119) rfl (hb hby at_107) rfl (feq hd107).2 (by decide) (by decide) ?_
              show Steps p.tables e below (T7.setTop (mkF m 119 #[.val (.int p1), .val (.int p2), .val (.int p3), .val (.int p4), .val (.int p5), .val (.int mn), .val (.int sp), .val (.int mx), .val (.int dl), .val (.ref b5), .val (.int (p4 &&& (7 : Int32))), .val (.int p5), .unset, .unset, .unset, .unset, .unset] [])) _
              refine XS.iload X7.here hx rfl (hb hby at_119) rfl ?_
              show Steps p.tables e below (T7.setTop (mkF m 121 #[.val (.int p1), .val (.int p2), .val (.int p3), .val (.int p4), .val (.int p5), .val (.int mn), .val (.int sp), .val (.int mx), .val (.int dl), .val (.ref b5), .val (.int (p4 &&& (7 : Int32))), .val (.int p5), .unset, .unset, .unset, .unset, .unset] [(.int (p4 &&& (7 : Int32)))])) _
              refine XS.iconst X7.here hx rfl (hb hby at_121) ?_
              show Steps p.tables e below (T7.setTop (mkF m 122 #[.val (.int p1), .val (.int p2), .val (.int p3), .val (.int p4), .val (.int p5), .val (.int mn), .val (.int sp), .val (.int mx), .val (.int dl), .val (.ref b5), .val (.int (p4 &&& (7 : Int32))), .val (.int p5), .unset, .unset, .unset, .unset, .unset] [(.int (5 : Int32)), (.int (p4 &&& (7 : Int32)))])) _
              refine XS.icmpNo X7.here hx rfl (hb hby at_122) rfl (teq hd122).2 ?_
              show Steps p.tables e below (T7.setTop (mkF m 125 #[.val (.int p1), .val (.int p2), .val (.int p3), .val (.int p4), .val (.int p5), .val (.int mn), .val (.int sp), .val (.int mx), .val (.int dl), .val (.ref b5), .val (.int (p4 &&& (7 : Int32))), .val (.int p5), .unset, .unset, .unset, .unset, .unset] [])) _
              refine XS.iload X7.here hx rfl (hb hby at_125) rfl ?_
              show Steps p.tables e below (T7.setTop (mkF m 127 #[.val (.int p1), .val (.int p2), .val (.int p3), .val (.int p4), .val (.int p5), .val (.int mn), .val (.int sp), .val (.int mx), .val (.int dl), .val (.ref b5), .val (.int (p4 &&& (7 : Int32))), .val (.int p5), .unset, .unset, .unset, .unset, .unset] [(.int mn)])) _
              refine XS.iload X7.here hx rfl (hb hby at_127) rfl ?_
              show Steps p.tables e below (T7.setTop (mkF m 129 #[.val (.int p1), .val (.int p2), .val (.int p3), .val (.int p4), .val (.int p5), .val (.int mn), .val (.int sp), .val (.int mx), .val (.int dl), .val (.ref b5), .val (.int (p4 &&& (7 : Int32))), .val (.int p5), .unset, .unset, .unset, .unset, .unset] [(.int p5), (.int mn)])) _
              refine X7.ldcInt hx hown (mvT hZ (hw _ (List.mem_of_getElem? (i := 0) rfl))) (g := (mkF m 129 #[.val (.int p1), .val (.int p2), .val (.int p3), .val (.int p4), .val (.int p5), .val (.int mn), .val (.int sp), .val (.int mx), .val (.int dl), .val (.ref b5), .val (.int (p4 &&& (7 : Int32))), .val (.int p5), .unset, .unset, .unset, .unset, .unset] [(.int p5), (.int mn)])) rfl (hb hby at_129) _ ?_
              show Steps p.tables e below (T7.setTop (mkF m 131 #[.val (.int p1), .val (.int p2), .val (.int p3), .val (.int p4), .val (.int p5), .val (.int mn), .val (.int sp), .val (.int mx), .val (.int dl), .val (.ref b5), .val (.int (p4 &&& (7 : Int32))), .val (.int p5), .unset, .unset, .unset, .unset, .unset] [(.int (2147483647 : Int32)), (.int p5), (.int mn)])) _
              refine XS.iand X7.here hx rfl (hb hby at_131) rfl ?_
              show Steps p.tables e below (T7.setTop (mkF m 132 #[.val (.int p1), .val (.int p2), .val (.int p3), .val (.int p4), .val (.int p5), .val (.int mn), .val (.int sp), .val (.int mx), .val (.int dl), .val (.ref b5), .val (.int (p4 &&& (7 : Int32))), .val (.int p5), .unset, .unset, .unset, .unset, .unset] [(.int (p5 &&& (2147483647 : Int32))), (.int mn)])) _
              refine XS.iload X7.here hx rfl (hb hby at_132) rfl ?_
              show Steps p.tables e below (T7.setTop (mkF m 134 #[.val (.int p1), .val (.int p2), .val (.int p3), .val (.int p4), .val (.int p5), .val (.int mn), .val (.int sp), .val (.int mx), .val (.int dl), .val (.ref b5), .val (.int (p4 &&& (7 : Int32))), .val (.int p5), .unset, .unset, .unset, .unset, .unset] [(.int mx), (.int (p5 &&& (2147483647 : Int32))), (.int mn)])) _
              refine XS.iload X7.here hx rfl (hb hby at_134) rfl ?_
              show Steps p.tables e below (T7.setTop (mkF m 136 #[.val (.int p1), .val (.int p2), .val (.int p3), .val (.int p4), .val (.int p5), .val (.int mn), .val (.int sp), .val (.int mx), .val (.int dl), .val (.ref b5), .val (.int (p4 &&& (7 : Int32))), .val (.int p5), .unset, .unset, .unset, .unset, .unset] [(.int mn), (.int mx), (.int (p5 &&& (2147483647 : Int32))), (.int mn)])) _
              refine XS.isub X7.here hx rfl (hb hby at_136) rfl ?_
              show Steps p.tables e below (T7.setTop (mkF m 137 #[.val (.int p1), .val (.int p2), .val (.int p3), .val (.int p4), .val (.int p5), .val (.int mn), .val (.int sp), .val (.int mx), .val (.int dl), .val (.ref b5), .val (.int (p4 &&& (7 : Int32))), .val (.int p5), .unset, .unset, .unset, .unset, .unset] [(.int (mx - mn)), (.int (p5 &&& (2147483647 : Int32))), (.int mn)])) _
              refine XS.iconst X7.here hx rfl (hb hby at_137) ?_
              show Steps p.tables e below (T7.setTop (mkF m 138 #[.val (.int p1), .val (.int p2), .val (.int p3), .val (.int p4), .val (.int p5), .val (.int mn), .val (.int sp), .val (.int mx), .val (.int dl), .val (.ref b5), .val (.int (p4 &&& (7 : Int32))), .val (.int p5), .unset, .unset, .unset, .unset, .unset] [(.int (1 : Int32)), (.int (mx - mn)), (.int (p5 &&& (2147483647 : Int32))), (.int mn)])) _
              refine XS.iadd X7.here hx rfl (hb hby at_138) rfl ?_
              show Steps p.tables e below (T7.setTop (mkF m 139 #[.val (.int p1), .val (.int p2), .val (.int p3), .val (.int p4), .val (.int p5), .val (.int mn), .val (.int sp), .val (.int mx), .val (.int dl), .val (.ref b5), .val (.int (p4 &&& (7 : Int32))), .val (.int p5), .unset, .unset, .unset, .unset, .unset] [(.int ((mx - mn) + (1 : Int32))), (.int (p5 &&& (2147483647 : Int32))), (.int mn)])) _
              refine iremM X7 hx rfl (hb hby at_139) rfl hwd ?_
              show Steps p.tables e below (T7.setTop (mkF m 140 #[.val (.int p1), .val (.int p2), .val (.int p3), .val (.int p4), .val (.int p5), .val (.int mn), .val (.int sp), .val (.int mx), .val (.int dl), .val (.ref b5), .val (.int (p4 &&& (7 : Int32))), .val (.int p5), .unset, .unset, .unset, .unset, .unset] [(.int ((p5 &&& (2147483647 : Int32)) % ((mx - mn) + (1 : Int32)))), (.int mn)])) _
              refine XS.iadd X7.here hx rfl (hb hby at_140) rfl ?_
              show Steps p.tables e below (T7.setTop (mkF m 141 #[.val (.int p1), .val (.int p2), .val (.int p3), .val (.int p4), .val (.int p5), .val (.int mn), .val (.int sp), .val (.int mx), .val (.int dl), .val (.ref b5), .val (.int (p4 &&& (7 : Int32))), .val (.int p5), .unset, .unset, .unset, .unset, .unset] [(.int (mn + ((p5 &&& (2147483647 : Int32)) % ((mx - mn) + (1 : Int32)))))])) _
              refine XS.istore X7.here hx rfl (hb hby at_141) rfl (l' := #[.val (.int p1), .val (.int p2), .val (.int p3), .val (.int p4), .val (.int p5), .val (.int mn), .val (.int sp), .val (.int mx), .val (.int dl), .val (.ref b5), .val (.int (p4 &&& (7 : Int32))), .val (.int (mn + ((p5 &&& (2147483647 : Int32)) % ((mx - mn) + (1 : Int32))))), .unset, .unset, .unset, .unset, .unset]) rfl ?_
              exact kt
            · simp only [if_neg hd66, if_neg hd79, if_neg hd94, if_neg hd107, if_neg hd122] at kt
              show Steps p.tables e below (T7.setTop (mkF m 66 #[.val (.int p1), .val (.int p2), .val (.int p3), .val (.int p4), .val (.int p5), .val (.int mn), .val (.int sp), .val (.int mx), .val (.int dl), .val (.ref b5), .val (.int (p4 &&& (7 : Int32))), .val (.int p5), .unset, .unset, .unset, .unset, .unset] [(.int (1 : Int32)), (.int (p4 &&& (7 : Int32)))])) _
              refine XS.icmpYes X7.here hx rfl (pc0 := 66) (pc' := 76) rfl (hb hby at_66) rfl (feq hd66).2 (by decide) (by decide) ?_
              show Steps p.tables e below (T7.setTop (mkF m 76 #[.val (.int p1), .val (.int p2), .val (.int p3), .val (.int p4), .val (.int p5), .val (.int mn), .val (.int sp), .val (.int mx), .val (.int dl), .val (.ref b5), .val (.int (p4 &&& (7 : Int32))), .val (.int p5), .unset, .unset, .unset, .unset, .unset] [])) _
              refine XS.iload X7.here hx rfl (hb hby at_76) rfl ?_
              show Steps p.tables e below (T7.setTop (mkF m 78 #[.val (.int p1), .val (.int p2), .val (.int p3), .val (.int p4), .val (.int p5), .val (.int mn), .val (.int sp), .val (.int mx), .val (.int dl), .val (.ref b5), .val (.int (p4 &&& (7 : Int32))), .val (.int p5), .unset, .unset, .unset, .unset, .unset] [(.int (p4 &&& (7 : Int32)))])) _
              refine XS.iconst X7.here hx rfl (hb hby at_78) ?_
              show Steps p.tables e below (T7.setTop (mkF m 79 #[.val (.int p1), .val (.int p2), .val (.int p3), .val (.int p4), .val (.int p5), .val (.int mn), .val (.int sp), .val (.int mx), .val (.int dl), .val (.ref b5), .val (.int (p4 &&& (7 : Int32))), .val (.int p5), .unset, .unset, .unset, .unset, .unset] [(.int (2 : Int32)), (.int (p4 &&& (7 : Int32)))])) _
              refine XS.icmpYes X7.here hx rfl (pc0 := 79) (pc' := 91) rfl (hb hby at_79) rfl (feq hd79).2 (by decide) (by decide) ?_
              show Steps p.tables e below (T7.setTop (mkF m 91 #[.val (.int p1), .val (.int p2), .val (.int p3), .val (.int p4), .val (.int p5), .val (.int mn), .val (.int sp), .val (.int mx), .val (.int dl), .val (.ref b5), .val (.int (p4 &&& (7 : Int32))), .val (.int p5), .unset, .unset, .unset, .unset, .unset] [])) _
              refine XS.iload X7.here hx rfl (hb hby at_91) rfl ?_
              show Steps p.tables e below (T7.setTop (mkF m 93 #[.val (.int p1), .val (.int p2), .val (.int p3), .val (.int p4), .val (.int p5), .val (.int mn), .val (.int sp), .val (.int mx), .val (.int dl), .val (.ref b5), .val (.int (p4 &&& (7 : Int32))), .val (.int p5), .unset, .unset, .unset, .unset, .unset] [(.int (p4 &&& (7 : Int32)))])) _
              refine XS.iconst X7.here hx rfl (hb hby at_93) ?_
              show Steps p.tables e below (T7.setTop (mkF m 94 #[.val (.int p1), .val (.int p2), .val (.int p3), .val (.int p4), .val (.int p5), .val (.int mn), .val (.int sp), .val (.int mx), .val (.int dl), .val (.ref b5), .val (.int (p4 &&& (7 : Int32))), .val (.int p5), .unset, .unset, .unset, .unset, .unset] [(.int (3 : Int32)), (.int (p4 &&& (7 : Int32)))])) _
              refine XS.icmpYes X7.here hx rfl (pc0 := 94) (pc' := 104) rfl (hb hby at_94) rfl (feq hd94).2 (by decide) (by decide) ?_
              show Steps p.tables e below (T7.setTop (mkF m 104 #[.val (.int p1), .val (.int p2), .val (.int p3), .val (.int p4), .val (.int p5), .val (.int mn), .val (.int sp), .val (.int mx), .val (.int dl), .val (.ref b5), .val (.int (p4 &&& (7 : Int32))), .val (.int p5), .unset, .unset, .unset, .unset, .unset] [])) _
              refine XS.iload X7.here hx rfl (hb hby at_104) rfl ?_
              show Steps p.tables e below (T7.setTop (mkF m 106 #[.val (.int p1), .val (.int p2), .val (.int p3), .val (.int p4), .val (.int p5), .val (.int mn), .val (.int sp), .val (.int mx), .val (.int dl), .val (.ref b5), .val (.int (p4 &&& (7 : Int32))), .val (.int p5), .unset, .unset, .unset, .unset, .unset] [(.int (p4 &&& (7 : Int32)))])) _
              refine XS.iconst X7.here hx rfl (hb hby at_106) ?_
              show Steps p.tables e below (T7.setTop (mkF m 107 #[.val (.int p1), .val (.int p2), .val (.int p3), .val (.int p4), .val (.int p5), .val (.int mn), .val (.int sp), .val (.int mx), .val (.int dl), .val (.ref b5), .val (.int (p4 &&& (7 : Int32))), .val (.int p5), .unset, .unset, .unset, .unset, .unset] [(.int (4 : Int32)), (.int (p4 &&& (7 : Int32)))])) _
              refine XS.icmpYes X7.here hx rfl (pc0 := 107) (pc' := 119) rfl (hb hby at_107) rfl (feq hd107).2 (by decide) (by decide) ?_
              show Steps p.tables e below (T7.setTop (mkF m 119 #[.val (.int p1), .val (.int p2), .val (.int p3), .val (.int p4), .val (.int p5), .val (.int mn), .val (.int sp), .val (.int mx), .val (.int dl), .val (.ref b5), .val (.int (p4 &&& (7 : Int32))), .val (.int p5), .unset, .unset, .unset, .unset, .unset] [])) _
              refine XS.iload X7.here hx rfl (hb hby at_119) rfl ?_
              show Steps p.tables e below (T7.setTop (mkF m 121 #[.val (.int p1), .val (.int p2), .val (.int p3), .val (.int p4), .val (.int p5), .val (.int mn), .val (.int sp), .val (.int mx), .val (.int dl), .val (.ref b5), .val (.int (p4 &&& (7 : Int32))), .val (.int p5), .unset, .unset, .unset, .unset, .unset] [(.int (p4 &&& (7 : Int32)))])) _
              refine XS.iconst X7.here hx rfl (hb hby at_121) ?_
              show Steps p.tables e below (T7.setTop (mkF m 122 #[.val (.int p1), .val (.int p2), .val (.int p3), .val (.int p4), .val (.int p5), .val (.int mn), .val (.int sp), .val (.int mx), .val (.int dl), .val (.ref b5), .val (.int (p4 &&& (7 : Int32))), .val (.int p5), .unset, .unset, .unset, .unset, .unset] [(.int (5 : Int32)), (.int (p4 &&& (7 : Int32)))])) _
              refine XS.icmpYes X7.here hx rfl (pc0 := 122) (pc' := 143) rfl (hb hby at_122) rfl (feq hd122).2 (by decide) (by decide) ?_
              exact kt
  obtain ⟨tt, htt⟩ : ∃ z : Int32, z = (if (p4 &&& (7 : Int32)) = (1 : Int32) then mn else (if (p4 &&& (7 : Int32)) = (2 : Int32) then (mn - (1 : Int32)) else (if (p4 &&& (7 : Int32)) = (3 : Int32) then mx else (if (p4 &&& (7 : Int32)) = (4 : Int32) then (mx + (1 : Int32)) else (if (p4 &&& (7 : Int32)) = (5 : Int32) then (mn + ((p5 &&& (2147483647 : Int32)) % ((mx - mn) + (1 : Int32)))) else p5))))) := ⟨_, rfl⟩
  rw [← htt] at pre9
  have pre10 : ∀ t, Steps p.tables e below (T7.setTop (mkF m 168 #[.val (.int p1), .val (.int p2), .val (.int p3), .val (.int p4), .val (.int p5), .val (.int mn), .val (.int sp), .val (.int mx), .val (.int dl), .val (.ref b5), .val (.int (p4 &&& (7 : Int32))), .val (.int tt), .val (.long ((tt.toInt64) - (mn.toInt64))), .second, .val (.long ((mx.toInt64) - (tt.toInt64))), .second, .unset] [(.int (lcmpW (((tt.toInt64) - (mn.toInt64)) ||| ((mx.toInt64) - (tt.toInt64))) (0 : Int64)))])) t → Steps p.tables e below _ t := fun t kt => pre9 t (by
    show Steps p.tables e below (T7.setTop (mkF m 143 #[.val (.int p1), .val (.int p2), .val (.int p3), .val (.int p4), .val (.int p5), .val (.int mn), .val (.int sp), .val (.int mx), .val (.int dl), .val (.ref b5), .val (.int (p4 &&& (7 : Int32))), .val (.int tt), .unset, .unset, .unset, .unset, .unset] [])) _
    refine XS.iload X7.here hx rfl (hb hby at_143) rfl ?_
    show Steps p.tables e below (T7.setTop (mkF m 145 #[.val (.int p1), .val (.int p2), .val (.int p3), .val (.int p4), .val (.int p5), .val (.int mn), .val (.int sp), .val (.int mx), .val (.int dl), .val (.ref b5), .val (.int (p4 &&& (7 : Int32))), .val (.int tt), .unset, .unset, .unset, .unset, .unset] [(.int tt)])) _
    refine XS.i2l X7.here hx rfl (hb hby at_145) rfl ?_
    show Steps p.tables e below (T7.setTop (mkF m 146 #[.val (.int p1), .val (.int p2), .val (.int p3), .val (.int p4), .val (.int p5), .val (.int mn), .val (.int sp), .val (.int mx), .val (.int dl), .val (.ref b5), .val (.int (p4 &&& (7 : Int32))), .val (.int tt), .unset, .unset, .unset, .unset, .unset] [(.long (tt.toInt64))])) _
    refine XS.iload X7.here hx rfl (hb hby at_146) rfl ?_
    show Steps p.tables e below (T7.setTop (mkF m 148 #[.val (.int p1), .val (.int p2), .val (.int p3), .val (.int p4), .val (.int p5), .val (.int mn), .val (.int sp), .val (.int mx), .val (.int dl), .val (.ref b5), .val (.int (p4 &&& (7 : Int32))), .val (.int tt), .unset, .unset, .unset, .unset, .unset] [(.int mn), (.long (tt.toInt64))])) _
    refine XS.i2l X7.here hx rfl (hb hby at_148) rfl ?_
    show Steps p.tables e below (T7.setTop (mkF m 149 #[.val (.int p1), .val (.int p2), .val (.int p3), .val (.int p4), .val (.int p5), .val (.int mn), .val (.int sp), .val (.int mx), .val (.int dl), .val (.ref b5), .val (.int (p4 &&& (7 : Int32))), .val (.int tt), .unset, .unset, .unset, .unset, .unset] [(.long (mn.toInt64)), (.long (tt.toInt64))])) _
    refine XS.lsub X7.here hx rfl (hb hby at_149) rfl ?_
    show Steps p.tables e below (T7.setTop (mkF m 150 #[.val (.int p1), .val (.int p2), .val (.int p3), .val (.int p4), .val (.int p5), .val (.int mn), .val (.int sp), .val (.int mx), .val (.int dl), .val (.ref b5), .val (.int (p4 &&& (7 : Int32))), .val (.int tt), .unset, .unset, .unset, .unset, .unset] [(.long ((tt.toInt64) - (mn.toInt64)))])) _
    refine XS.lstore X7.here hx rfl (hb hby at_150) rfl (l' := #[.val (.int p1), .val (.int p2), .val (.int p3), .val (.int p4), .val (.int p5), .val (.int mn), .val (.int sp), .val (.int mx), .val (.int dl), .val (.ref b5), .val (.int (p4 &&& (7 : Int32))), .val (.int tt), .val (.long ((tt.toInt64) - (mn.toInt64))), .second, .unset, .unset, .unset]) rfl ?_
    show Steps p.tables e below (T7.setTop (mkF m 152 #[.val (.int p1), .val (.int p2), .val (.int p3), .val (.int p4), .val (.int p5), .val (.int mn), .val (.int sp), .val (.int mx), .val (.int dl), .val (.ref b5), .val (.int (p4 &&& (7 : Int32))), .val (.int tt), .val (.long ((tt.toInt64) - (mn.toInt64))), .second, .unset, .unset, .unset] [])) _
    refine XS.iload X7.here hx rfl (hb hby at_152) rfl ?_
    show Steps p.tables e below (T7.setTop (mkF m 154 #[.val (.int p1), .val (.int p2), .val (.int p3), .val (.int p4), .val (.int p5), .val (.int mn), .val (.int sp), .val (.int mx), .val (.int dl), .val (.ref b5), .val (.int (p4 &&& (7 : Int32))), .val (.int tt), .val (.long ((tt.toInt64) - (mn.toInt64))), .second, .unset, .unset, .unset] [(.int mx)])) _
    refine XS.i2l X7.here hx rfl (hb hby at_154) rfl ?_
    show Steps p.tables e below (T7.setTop (mkF m 155 #[.val (.int p1), .val (.int p2), .val (.int p3), .val (.int p4), .val (.int p5), .val (.int mn), .val (.int sp), .val (.int mx), .val (.int dl), .val (.ref b5), .val (.int (p4 &&& (7 : Int32))), .val (.int tt), .val (.long ((tt.toInt64) - (mn.toInt64))), .second, .unset, .unset, .unset] [(.long (mx.toInt64))])) _
    refine XS.iload X7.here hx rfl (hb hby at_155) rfl ?_
    show Steps p.tables e below (T7.setTop (mkF m 157 #[.val (.int p1), .val (.int p2), .val (.int p3), .val (.int p4), .val (.int p5), .val (.int mn), .val (.int sp), .val (.int mx), .val (.int dl), .val (.ref b5), .val (.int (p4 &&& (7 : Int32))), .val (.int tt), .val (.long ((tt.toInt64) - (mn.toInt64))), .second, .unset, .unset, .unset] [(.int tt), (.long (mx.toInt64))])) _
    refine XS.i2l X7.here hx rfl (hb hby at_157) rfl ?_
    show Steps p.tables e below (T7.setTop (mkF m 158 #[.val (.int p1), .val (.int p2), .val (.int p3), .val (.int p4), .val (.int p5), .val (.int mn), .val (.int sp), .val (.int mx), .val (.int dl), .val (.ref b5), .val (.int (p4 &&& (7 : Int32))), .val (.int tt), .val (.long ((tt.toInt64) - (mn.toInt64))), .second, .unset, .unset, .unset] [(.long (tt.toInt64)), (.long (mx.toInt64))])) _
    refine XS.lsub X7.here hx rfl (hb hby at_158) rfl ?_
    show Steps p.tables e below (T7.setTop (mkF m 159 #[.val (.int p1), .val (.int p2), .val (.int p3), .val (.int p4), .val (.int p5), .val (.int mn), .val (.int sp), .val (.int mx), .val (.int dl), .val (.ref b5), .val (.int (p4 &&& (7 : Int32))), .val (.int tt), .val (.long ((tt.toInt64) - (mn.toInt64))), .second, .unset, .unset, .unset] [(.long ((mx.toInt64) - (tt.toInt64)))])) _
    refine XS.lstore X7.here hx rfl (hb hby at_159) rfl (l' := #[.val (.int p1), .val (.int p2), .val (.int p3), .val (.int p4), .val (.int p5), .val (.int mn), .val (.int sp), .val (.int mx), .val (.int dl), .val (.ref b5), .val (.int (p4 &&& (7 : Int32))), .val (.int tt), .val (.long ((tt.toInt64) - (mn.toInt64))), .second, .val (.long ((mx.toInt64) - (tt.toInt64))), .second, .unset]) rfl ?_
    show Steps p.tables e below (T7.setTop (mkF m 161 #[.val (.int p1), .val (.int p2), .val (.int p3), .val (.int p4), .val (.int p5), .val (.int mn), .val (.int sp), .val (.int mx), .val (.int dl), .val (.ref b5), .val (.int (p4 &&& (7 : Int32))), .val (.int tt), .val (.long ((tt.toInt64) - (mn.toInt64))), .second, .val (.long ((mx.toInt64) - (tt.toInt64))), .second, .unset] [])) _
    refine XS.lload X7.here hx rfl (hb hby at_161) rfl ?_
    show Steps p.tables e below (T7.setTop (mkF m 163 #[.val (.int p1), .val (.int p2), .val (.int p3), .val (.int p4), .val (.int p5), .val (.int mn), .val (.int sp), .val (.int mx), .val (.int dl), .val (.ref b5), .val (.int (p4 &&& (7 : Int32))), .val (.int tt), .val (.long ((tt.toInt64) - (mn.toInt64))), .second, .val (.long ((mx.toInt64) - (tt.toInt64))), .second, .unset] [(.long ((tt.toInt64) - (mn.toInt64)))])) _
    refine XS.lload X7.here hx rfl (hb hby at_163) rfl ?_
    show Steps p.tables e below (T7.setTop (mkF m 165 #[.val (.int p1), .val (.int p2), .val (.int p3), .val (.int p4), .val (.int p5), .val (.int mn), .val (.int sp), .val (.int mx), .val (.int dl), .val (.ref b5), .val (.int (p4 &&& (7 : Int32))), .val (.int tt), .val (.long ((tt.toInt64) - (mn.toInt64))), .second, .val (.long ((mx.toInt64) - (tt.toInt64))), .second, .unset] [(.long ((mx.toInt64) - (tt.toInt64))), (.long ((tt.toInt64) - (mn.toInt64)))])) _
    refine XS.lor X7.here hx rfl (hb hby at_165) rfl ?_
    show Steps p.tables e below (T7.setTop (mkF m 166 #[.val (.int p1), .val (.int p2), .val (.int p3), .val (.int p4), .val (.int p5), .val (.int mn), .val (.int sp), .val (.int mx), .val (.int dl), .val (.ref b5), .val (.int (p4 &&& (7 : Int32))), .val (.int tt), .val (.long ((tt.toInt64) - (mn.toInt64))), .second, .val (.long ((mx.toInt64) - (tt.toInt64))), .second, .unset] [(.long (((tt.toInt64) - (mn.toInt64)) ||| ((mx.toInt64) - (tt.toInt64))))])) _
    refine XS.lconst X7.here hx rfl (hb hby at_166) ?_
    show Steps p.tables e below (T7.setTop (mkF m 167 #[.val (.int p1), .val (.int p2), .val (.int p3), .val (.int p4), .val (.int p5), .val (.int mn), .val (.int sp), .val (.int mx), .val (.int dl), .val (.ref b5), .val (.int (p4 &&& (7 : Int32))), .val (.int tt), .val (.long ((tt.toInt64) - (mn.toInt64))), .second, .val (.long ((mx.toInt64) - (tt.toInt64))), .second, .unset] [(.long (0 : Int64)), (.long (((tt.toInt64) - (mn.toInt64)) ||| ((mx.toInt64) - (tt.toInt64))))])) _
    refine XS.lcmp X7.here hx rfl (hb hby at_167) rfl ?_
    exact kt)
  have pre11 : ∀ t, Steps p.tables e below (T7.setTop (mkF m 176 #[.val (.int p1), .val (.int p2), .val (.int p3), .val (.int p4), .val (.int p5), .val (.int mn), .val (.int sp), .val (.int mx), .val (.int dl), .val (.ref b5), .val (.int (p4 &&& (7 : Int32))), .val (.int tt), .val (.long ((tt.toInt64) - (mn.toInt64))), .second, .val (.long ((mx.toInt64) - (tt.toInt64))), .second, .unset] [(.int (if (lcmpW (((tt.toInt64) - (mn.toInt64)) ||| ((mx.toInt64) - (tt.toInt64))) (0 : Int64)) < (0 : Int32) then (0 : Int32) else (1 : Int32)))])) t → Steps p.tables e below (s₁.setTop (entryFrame m #[(.int p1), (.int p2), (.int p3), (.int p4), (.int p5)] maxLocals)) t := fun t kt => by
    refine pre10 t ?_
    by_cases hd168 : (lcmpW (((tt.toInt64) - (mn.toInt64)) ||| ((mx.toInt64) - (tt.toInt64))) (0 : Int64)) < (0 : Int32)
    · simp only [if_pos hd168] at kt
      show Steps p.tables e below (T7.setTop (mkF m 168 #[.val (.int p1), .val (.int p2), .val (.int p3), .val (.int p4), .val (.int p5), .val (.int mn), .val (.int sp), .val (.int mx), .val (.int dl), .val (.ref b5), .val (.int (p4 &&& (7 : Int32))), .val (.int tt), .val (.long ((tt.toInt64) - (mn.toInt64))), .second, .val (.long ((mx.toInt64) - (tt.toInt64))), .second, .unset] [(.int (lcmpW (((tt.toInt64) - (mn.toInt64)) ||| ((mx.toInt64) - (tt.toInt64))) (0 : Int64)))])) _
      refine XS.ifYes X7.here hx rfl (pc0 := 168) (pc' := 175) rfl (hb hby at_168) rfl ((if0 _ _).trans (tlt hd168).1) (by decide) (by decide) ?_
      show Steps p.tables e below (T7.setTop (mkF m 175 #[.val (.int p1), .val (.int p2), .val (.int p3), .val (.int p4), .val (.int p5), .val (.int mn), .val (.int sp), .val (.int mx), .val (.int dl), .val (.ref b5), .val (.int (p4 &&& (7 : Int32))), .val (.int tt), .val (.long ((tt.toInt64) - (mn.toInt64))), .second, .val (.long ((mx.toInt64) - (tt.toInt64))), .second, .unset] [])) _
      refine XS.iconst X7.here hx rfl (hb hby at_175) ?_
      exact kt
    · simp only [if_neg hd168] at kt
      show Steps p.tables e below (T7.setTop (mkF m 168 #[.val (.int p1), .val (.int p2), .val (.int p3), .val (.int p4), .val (.int p5), .val (.int mn), .val (.int sp), .val (.int mx), .val (.int dl), .val (.ref b5), .val (.int (p4 &&& (7 : Int32))), .val (.int tt), .val (.long ((tt.toInt64) - (mn.toInt64))), .second, .val (.long ((mx.toInt64) - (tt.toInt64))), .second, .unset] [(.int (lcmpW (((tt.toInt64) - (mn.toInt64)) ||| ((mx.toInt64) - (tt.toInt64))) (0 : Int64)))])) _
      refine XS.ifNo X7.here hx rfl (hb hby at_168) rfl ((if0 _ _).trans (flt hd168).1) ?_
      show Steps p.tables e below (T7.setTop (mkF m 171 #[.val (.int p1), .val (.int p2), .val (.int p3), .val (.int p4), .val (.int p5), .val (.int mn), .val (.int sp), .val (.int mx), .val (.int dl), .val (.ref b5), .val (.int (p4 &&& (7 : Int32))), .val (.int tt), .val (.long ((tt.toInt64) - (mn.toInt64))), .second, .val (.long ((mx.toInt64) - (tt.toInt64))), .second, .unset] [])) _
      refine XS.iconst X7.here hx rfl (hb hby at_171) ?_
      show Steps p.tables e below (T7.setTop (mkF m 172 #[.val (.int p1), .val (.int p2), .val (.int p3), .val (.int p4), .val (.int p5), .val (.int mn), .val (.int sp), .val (.int mx), .val (.int dl), .val (.ref b5), .val (.int (p4 &&& (7 : Int32))), .val (.int tt), .val (.long ((tt.toInt64) - (mn.toInt64))), .second, .val (.long ((mx.toInt64) - (tt.toInt64))), .second, .unset] [(.int (1 : Int32))])) _
      refine XS.goto X7.here hx rfl (pc0 := 172) (pc' := 176) rfl (hb hby at_172) (by decide) (by decide) ?_
      exact kt
  have pre12 : ∀ t, Steps p.tables e below (T7.setTop (mkF m 182 #[.val (.int p1), .val (.int p2), .val (.int p3), .val (.int p4), .val (.int p5), .val (.int mn), .val (.int sp), .val (.int mx), .val (.int dl), .val (.ref b5), .val (.int (p4 &&& (7 : Int32))), .val (.int tt), .val (.long ((tt.toInt64) - (mn.toInt64))), .second, .val (.long ((mx.toInt64) - (tt.toInt64))), .second, .val (.int (if (lcmpW (((tt.toInt64) - (mn.toInt64)) ||| ((mx.toInt64) - (tt.toInt64))) (0 : Int64)) < (0 : Int32) then (0 : Int32) else (1 : Int32)))] [(.int tt), (.ref b5)])) t → Steps p.tables e below _ t := fun t kt => pre11 t (by
    show Steps p.tables e below (T7.setTop (mkF m 176 #[.val (.int p1), .val (.int p2), .val (.int p3), .val (.int p4), .val (.int p5), .val (.int mn), .val (.int sp), .val (.int mx), .val (.int dl), .val (.ref b5), .val (.int (p4 &&& (7 : Int32))), .val (.int tt), .val (.long ((tt.toInt64) - (mn.toInt64))), .second, .val (.long ((mx.toInt64) - (tt.toInt64))), .second, .unset] [(.int (if (lcmpW (((tt.toInt64) - (mn.toInt64)) ||| ((mx.toInt64) - (tt.toInt64))) (0 : Int64)) < (0 : Int32) then (0 : Int32) else (1 : Int32)))])) _
    refine XS.istore X7.here hx rfl (hb hby at_176) rfl (l' := #[.val (.int p1), .val (.int p2), .val (.int p3), .val (.int p4), .val (.int p5), .val (.int mn), .val (.int sp), .val (.int mx), .val (.int dl), .val (.ref b5), .val (.int (p4 &&& (7 : Int32))), .val (.int tt), .val (.long ((tt.toInt64) - (mn.toInt64))), .second, .val (.long ((mx.toInt64) - (tt.toInt64))), .second, .val (.int (if (lcmpW (((tt.toInt64) - (mn.toInt64)) ||| ((mx.toInt64) - (tt.toInt64))) (0 : Int64)) < (0 : Int32) then (0 : Int32) else (1 : Int32)))]) rfl ?_
    show Steps p.tables e below (T7.setTop (mkF m 178 #[.val (.int p1), .val (.int p2), .val (.int p3), .val (.int p4), .val (.int p5), .val (.int mn), .val (.int sp), .val (.int mx), .val (.int dl), .val (.ref b5), .val (.int (p4 &&& (7 : Int32))), .val (.int tt), .val (.long ((tt.toInt64) - (mn.toInt64))), .second, .val (.long ((mx.toInt64) - (tt.toInt64))), .second, .val (.int (if (lcmpW (((tt.toInt64) - (mn.toInt64)) ||| ((mx.toInt64) - (tt.toInt64))) (0 : Int64)) < (0 : Int32) then (0 : Int32) else (1 : Int32)))] [])) _
    refine XS.aload X7.here hx rfl (hb hby at_178) rfl rfl ?_
    show Steps p.tables e below (T7.setTop (mkF m 180 #[.val (.int p1), .val (.int p2), .val (.int p3), .val (.int p4), .val (.int p5), .val (.int mn), .val (.int sp), .val (.int mx), .val (.int dl), .val (.ref b5), .val (.int (p4 &&& (7 : Int32))), .val (.int tt), .val (.long ((tt.toInt64) - (mn.toInt64))), .second, .val (.long ((mx.toInt64) - (tt.toInt64))), .second, .val (.int (if (lcmpW (((tt.toInt64) - (mn.toInt64)) ||| ((mx.toInt64) - (tt.toInt64))) (0 : Int64)) < (0 : Int32) then (0 : Int32) else (1 : Int32)))] [(.ref b5)])) _
    refine XS.iload X7.here hx rfl (hb hby at_180) rfl ?_
    exact kt)
  obtain ⟨cq13, kq13, q13a, q13b, q13c⟩ := isOf hZ rfl Ec
  obtain ⟨_, _, ⟨T13, L13, k13, n13⟩, -, X13, ⟨Lc13, hQ13, l13, y13, z13⟩, st13⟩ := X7.virtualBack hx (y := (⟨"com/example/ledgerstream/ledgerstream/model/GroupConfig", "allowsSessionTimeout", "(I)Z"⟩ : MethodName)) (z := (⟨"com/example/ledgerstream/ledgerstream/model/GroupConfig", "allowsSessionTimeout", "(I)Z"⟩ : MethodName)) hown (mvT hZ (hw _ (List.mem_of_getElem? (i := 21) rfl))) (mvT hZ (hw _ (List.mem_of_getElem? (i := 22) rfl))) (notFace_of_selects (args := #[]) (mvT hZ (hw _ (List.mem_of_getElem? (i := 24) rfl)))) (mvT hZ (hw _ (List.mem_of_getElem? (i := 24) rfl))) (mvT hZ (hw _ (List.mem_of_getElem? (i := 23) rfl))) (by decide) (backOf (W := 0) (rm4 l Z a0 hw [] b5 tt mn mx T7.heap n0 Zc G1 G2) hZ (hw _ (List.mem_of_getElem? (i := 25) rfl)) (hw _ (List.mem_of_getElem? (i := 3) rfl)) (by decide) (by decide)) q13a q13c (g := (mkF m 182 #[.val (.int p1), .val (.int p2), .val (.int p3), .val (.int p4), .val (.int p5), .val (.int mn), .val (.int sp), .val (.int mx), .val (.int dl), .val (.ref b5), .val (.int (p4 &&& (7 : Int32))), .val (.int tt), .val (.long ((tt.toInt64) - (mn.toInt64))), .second, .val (.long ((mx.toInt64) - (tt.toInt64))), .second, .val (.int (if (lcmpW (((tt.toInt64) - (mn.toInt64)) ||| ((mx.toInt64) - (tt.toInt64))) (0 : Int64)) < (0 : Int32) then (0 : Int32) else (1 : Int32)))] [(.int tt), (.ref b5)])) rfl (by rw [hml]; rfl) (Steps.refl _) (argsL := [(.int tt)]) (rest := []) (lenOf pd_2 rfl) rfl (by show 2 * 0 + _ ≤ _; exact Nat.le_of_eq rfl) (hb hby at_182) (fun _ _ => ⟨rfl, rfl, (by decide : 1 + 0 ≤ _), (by decide : 3 + 0 ≤ _)⟩)
  dsimp only [Pt.U, Pt.locs, Pt.cells, Pt.slots] at X13 l13 y13 z13 st13 hQ13
  subst l13 y13 z13
  obtain ⟨rfl, N13q, e13⟩ := hQ13
  have N13 := Fr.app N7 N13q
  obtain ⟨fs, hr, hrun, hended, hW, hsame⟩ := X13.leave (v := some (.int (1 : Int32))) (fun h => by rw [Bd.returns] at h; cases h)
  refine ⟨_, _, pre12 _ ?_, hrun, hended, _, _, rfl, ?_, ⟨_, rfl⟩, hW, hsame.mono (by decide) (by decide)⟩
  · show Steps p.tables e below (T7.setTop (mkF m 182 #[.val (.int p1), .val (.int p2), .val (.int p3), .val (.int p4), .val (.int p5), .val (.int mn), .val (.int sp), .val (.int mx), .val (.int dl), .val (.ref b5), .val (.int (p4 &&& (7 : Int32))), .val (.int tt), .val (.long ((tt.toInt64) - (mn.toInt64))), .second, .val (.long ((mx.toInt64) - (tt.toInt64))), .second, .val (.int (if (lcmpW (((tt.toInt64) - (mn.toInt64)) ||| ((mx.toInt64) - (tt.toInt64))) (0 : Int64)) < (0 : Int32) then (0 : Int32) else (1 : Int32)))] [(.int tt), (.ref b5)])) _
    refine st13.trans ?_
    show Steps p.tables e below (T13.setTop (mkF m 185 #[.val (.int p1), .val (.int p2), .val (.int p3), .val (.int p4), .val (.int p5), .val (.int mn), .val (.int sp), .val (.int mx), .val (.int dl), .val (.ref b5), .val (.int (p4 &&& (7 : Int32))), .val (.int tt), .val (.long ((tt.toInt64) - (mn.toInt64))), .second, .val (.long ((mx.toInt64) - (tt.toInt64))), .second, .val (.int (if (lcmpW (((tt.toInt64) - (mn.toInt64)) ||| ((mx.toInt64) - (tt.toInt64))) (0 : Int64)) < (0 : Int32) then (0 : Int32) else (1 : Int32)))] [(.int (own_allow b5 tt mn mx))])) _
    refine XS.iload X13.here hx rfl (hb hby at_185) rfl ?_
    have hc187 : (own_allow b5 tt mn mx) = (if (lcmpW (((tt.toInt64) - (mn.toInt64)) ||| ((mx.toInt64) - (tt.toInt64))) (0 : Int64)) < (0 : Int32) then (0 : Int32) else (1 : Int32)) := own_expect _ _ _ _
    show Steps p.tables e below (T13.setTop (mkF m 187 #[.val (.int p1), .val (.int p2), .val (.int p3), .val (.int p4), .val (.int p5), .val (.int mn), .val (.int sp), .val (.int mx), .val (.int dl), .val (.ref b5), .val (.int (p4 &&& (7 : Int32))), .val (.int tt), .val (.long ((tt.toInt64) - (mn.toInt64))), .second, .val (.long ((mx.toInt64) - (tt.toInt64))), .second, .val (.int (if (lcmpW (((tt.toInt64) - (mn.toInt64)) ||| ((mx.toInt64) - (tt.toInt64))) (0 : Int64)) < (0 : Int32) then (0 : Int32) else (1 : Int32)))] [(.int (if (lcmpW (((tt.toInt64) - (mn.toInt64)) ||| ((mx.toInt64) - (tt.toInt64))) (0 : Int64)) < (0 : Int32) then (0 : Int32) else (1 : Int32))), (.int (own_allow b5 tt mn mx))])) _
    refine XS.icmpNo X13.here hx rfl (hb hby at_187) rfl (teq hc187).2 ?_
    show Steps p.tables e below (T13.setTop (mkF m 190 #[.val (.int p1), .val (.int p2), .val (.int p3), .val (.int p4), .val (.int p5), .val (.int mn), .val (.int sp), .val (.int mx), .val (.int dl), .val (.ref b5), .val (.int (p4 &&& (7 : Int32))), .val (.int tt), .val (.long ((tt.toInt64) - (mn.toInt64))), .second, .val (.long ((mx.toInt64) - (tt.toInt64))), .second, .val (.int (if (lcmpW (((tt.toInt64) - (mn.toInt64)) ||| ((mx.toInt64) - (tt.toInt64))) (0 : Int64)) < (0 : Int32) then (0 : Int32) else (1 : Int32)))] [])) _
    refine XS.iconst X13.here hx rfl (hb hby at_190) ?_
    show Steps p.tables e below (T13.setTop (mkF m 191 #[.val (.int p1), .val (.int p2), .val (.int p3), .val (.int p4), .val (.int p5), .val (.int mn), .val (.int sp), .val (.int mx), .val (.int dl), .val (.ref b5), .val (.int (p4 &&& (7 : Int32))), .val (.int tt), .val (.long ((tt.toInt64) - (mn.toInt64))), .second, .val (.long ((mx.toInt64) - (tt.toInt64))), .second, .val (.int (if (lcmpW (((tt.toInt64) - (mn.toInt64)) ||| ((mx.toInt64) - (tt.toInt64))) (0 : Int64)) < (0 : Int32) then (0 : Int32) else (1 : Int32)))] [(.int (1 : Int32))])) _
    refine XS.goto X13.here hx rfl (pc0 := 191) (pc' := 195) rfl (hb hby at_191) (by decide) (by decide) ?_
    show Steps p.tables e below (T13.setTop (mkF m 195 #[.val (.int p1), .val (.int p2), .val (.int p3), .val (.int p4), .val (.int p5), .val (.int mn), .val (.int sp), .val (.int mx), .val (.int dl), .val (.ref b5), .val (.int (p4 &&& (7 : Int32))), .val (.int tt), .val (.long ((tt.toInt64) - (mn.toInt64))), .second, .val (.long ((mx.toInt64) - (tt.toInt64))), .second, .val (.int (if (lcmpW (((tt.toInt64) - (mn.toInt64)) ||| ((mx.toInt64) - (tt.toInt64))) (0 : Int64)) < (0 : Int32) then (0 : Int32) else (1 : Int32)))] [(.int (1 : Int32))])) _
    exact retN X13 hx (t := .boolean) Bd.returns (by simp) (hb hby at_195) hr
  · exact ⟨rfl, N13⟩
set_option maxRecDepth 65536 in
set_option maxHeartbeats 40000000 in
theorem comes_1 {Post : Tables → Env → Array Value → State → Outcome → State → Prop} (hpost : ∀ tb e args s v u, (limb_1_1.after args s (.returned v) u = true ∧ limb_1_2.after args s (.returned v) u = true ∧ True) → FrameEnd s (.returned v) u (Jvm.fieldLocs frame_1_writes args s ++ Jvm.arrayLocs frame_1_arrays args s ++ Jvm.staticLocs frame_1_statics s) 16 128 → Post tb e args s (.returned v) u) :
    ArmFor flags0 classFile x code maxLocals ret World_1 tables_1 room_1 Calls_1 rest_1 Pre_1 Post := by
  intro l hfl _ _ p e ha hc hk s m args below hf hA hF happ hP
  obtain ⟨hcalls, hrest, hpre⟩ := hP
  obtain ⟨-, -, -, hnamed, -, -, -, hat⟩ := (Spec.applies_iff hf).mp happ
  obtain ⟨hg, hn⟩ := and_e (Cond.before_iff.mp (show (Jvm.Cond.and given_1 narrow_1).before args s = true from hpre))
  obtain ⟨gc, gr0⟩ := and_e hg
  obtain ⟨ga0, gr1⟩ := and_e gr0
  obtain ⟨ga1, gr2⟩ := and_e gr1
  obtain ⟨ga2, gr3⟩ := and_e gr2
  obtain ⟨ga3, gr4⟩ := and_e gr3
  obtain ⟨w0, w1, w2, w3, w4, rfl⟩ : ∃ w0 w1 w2 w3 w4 : Value, args = #[w0, w1, w2, w3, w4] := by
    have hs : args.size = 5 := by simpa [Cond.value, given_1] using gc
    obtain ⟨L⟩ := args
    match L, hs with
    | [w0, w1, w2, w3, w4], _ => exact ⟨w0, w1, w2, w3, w4, rfl⟩
  have hw := fun d (hd : d ∈ tables_1) => atoms_spec (ws := Jvm.Cond.code x code maxLocals ret :: tables_1) hat d (List.mem_cons_of_mem _ hd)
  have hfit : Fit s := fun {y c} hc i hi => by
    obtain ⟨ha, rfl⟩ := Array.getElem?_eq_some_iff.mp hc
    have q := List.all_eq_true.mp ((Array.all_eq_true_iff_forall_mem.mp hF) _ (Array.getElem_mem ha)) i (List.mem_range.mpr hi)
    simpa [Array.getElem?_eq_getElem hi] using q
  obtain ⟨i0, ei0⟩ := is_v ga0
  obtain rfl : w0 = (.int i0) := Option.some.inj ei0
  obtain ⟨i1, ei1⟩ := is_v ga1
  obtain rfl : w1 = (.int i1) := Option.some.inj ei1
  obtain ⟨i2, ei2⟩ := is_v ga2
  obtain rfl : w2 = (.int i2) := Option.some.inj ei2
  obtain ⟨i3, ei3⟩ := is_v ga3
  obtain rfl : w3 = (.int i3) := Option.some.inj ei3
  obtain ⟨i4, ei4⟩ := is_v gr4
  obtain rfl : w4 = (.int i4) := Option.some.inj ei4
  obtain ⟨n, o, h1, h2, h3, _, L, rfl, ⟨rfl, N⟩, hq⟩ := rm0 l s _ hw tables_1 i0 i1 i2 i3 i4 s.heap s.heap.size (Nat.le_refl _) p e ha hc hk s m _ below hf ((Spec.applies_iff_loose hf).mp happ).1 ⟨rfl, State.Warmed39.refl s, rfl⟩ trivial
  refine ⟨n, _, h1, h2, h3, hpost _ _ _ _ _ _ ⟨Cond.after_iff.mpr rfl, Cond.after_iff.mpr (eq_i res_at (Term.int_eval (1)) rfl), trivial⟩ ⟨hq.1, hq.2.1, (hq.2.2.sift fun y hy => Or.inr (N y hy)).mono (by decide) (by decide)⟩⟩
theorem main_1_1 : Claimed_1_1 := comes_1 fun _ _ _ _ _ _ h hF => ⟨h.1, hF⟩
theorem main_1_2 : Claimed_1_2 := comes_1 fun _ _ _ _ _ _ h hF => ⟨h.2.1, hF⟩
end Jvm.Pilot.@@N@@
namespace Jvm.Pilot.@@N@@
open Jvm Jvm.ClassFile Sem Op Lib Jvm.Free Jvm.Stand Jvm.Pilot.@@N@@.Jvm.D
/-! MADE BY PROGRAM (witnessworld.py) out of the Statement's table words and the real class files: 10 classes; the members and pool entries that the words name. The judged class is class 1, her method 1. -/
namespace start1
open Jvm.ClassFile
def u (s : String) : CpInfo := .utf8 (stringToUtf16 s)
/-- a pool by its gaps: so many unusable entries, then the entry; so many at the end -/
def gap : Nat → List CpInfo → List CpInfo
  | 0, r => r
  | n + 1, r => .unusable :: gap n r
def poolList (es : List (Nat × CpInfo)) (last : Nat) : List CpInfo := es.foldr (fun e r => gap e.1 (e.2 :: r)) (gap last [])
def pool (es : List (Nat × CpInfo)) (last : Nat) : Array CpInfo := ⟨poolList es last⟩
def fileOf (pool : Array CpInfo) (this : Nat) (attrs : Array Attribute := #[]) (ms : Array MethodInfo := #[]) (fl : Nat := 33) (sup : Nat := 0) (ifs : Array Nat := #[]) (fds : Array FieldInfo := #[]) : ClassFile where
  minorVersion := 0
  majorVersion := 65
  constantPool := pool
  accessFlags := fl
  thisClass := this
  superClass := sup
  interfaces := ifs
  fields := fds
  methods := ms
  attributes := attrs
def plain (name : String) (sup : Option ClassId) : Class where
  name := name
  kind := .ordinary
  loader := none
  accessFlags := 33
  super := sup
  interfaces := #[]
  cf := none
  fields := #[]
  methods := #[]
  instanceTypes := #[]
  staticTypes := #[]
  resolved := #[]
  callSites := []
  init := .initialized
  statics := none
  mirror := none

def pool0 : Array CpInfo := pool [(5, u "<init>"), (0, u "()V"), (1, .class_ 10), (1, u "java/lang/Object")] 113

def k0c0 : Code := { maxStack := 0, maxLocals := 1, code := object_method_1_code, exceptionTable := #[], attributes := #[] }
def k0m0 : Method := { name := "<init>", desc := "()V", sig := { parameters := [], returnType := none }, accessFlags := 1, code := some k0c0 }
/-- java/lang/Object -/
def k0 : Class := { plain "java/lang/Object" none with
  accessFlags := 33
  interfaces := #[]
  cf := some (fileOf pool0 8 #[] #[{ accessFlags := 1, nameIndex := 5, descriptorIndex := 6, attributes := #[] }] 33 0 #[] #[])
  fields := #[]
  methods := #[k0m0]
  instanceTypes := #[]
  staticTypes := #[]
  resolved := Array.replicate 124 none
  statics := none }

def pool1 : Array CpInfo := pool [(2, .class_ 4), (1, u "java/lang/Object"), (0, u "<init>"), (0, u "()V"), (0, .integer 2147483647), (2, .class_ 11), (0, u "com/example/ledgerstream/ledgerstream/model/GroupConfig"), (0, .methodref 10 13), (0, .nameAndType 5 14), (0, u "(III)V"), (0, .methodref 10 16), (0, .nameAndType 17 18), (0, u "allowsSessionTimeout"), (0, u "(I)Z"), (0, .class_ 20), (0, u "com/example/ledgerstream/ledgerstream/model/GroupConfigAllowsSessionTimeoutPinLaw"), (2, u "law"), (0, u "(IIIII)Z")] 3

def k1m0 : Method := { name := "<init>", desc := "()V", sig := { parameters := [], returnType := none }, accessFlags := 1, code := none }
def k1c1 : Code := { maxStack := 5, maxLocals := 17, code := code, exceptionTable := #[], attributes := #[] }
def k1m1 : Method := { name := "law", desc := "(IIIII)Z", sig := { parameters := [.int, .int, .int, .int, .int], returnType := some .boolean }, accessFlags := 9, code := some k1c1 }
/-- com/example/ledgerstream/ledgerstream/model/GroupConfigAllowsSessionTimeoutPinLaw -/
def k1 : Class := { plain "com/example/ledgerstream/ledgerstream/model/GroupConfigAllowsSessionTimeoutPinLaw" (some 0) with
  accessFlags := 49
  interfaces := #[]
  cf := some (fileOf pool1 19 #[] #[{ accessFlags := 1, nameIndex := 5, descriptorIndex := 6, attributes := #[] }, { accessFlags := 9, nameIndex := 23, descriptorIndex := 24, attributes := #[] }] 49 2 #[] #[])
  fields := #[]
  methods := #[k1m0, k1m1]
  instanceTypes := #[]
  staticTypes := #[]
  resolved := Array.replicate 28 none
  statics := none }

def pool2 : Array CpInfo := pool [(1, .methodref 2 3), (0, .class_ 4), (0, .nameAndType 5 6), (0, u "java/lang/Object"), (0, u "<init>"), (0, u "()V"), (0, .class_ 8), (0, u "java/lang/Record")] 13

def k2c0 : Code := { maxStack := 1, maxLocals := 1, code := jdk_30_method_1_code, exceptionTable := #[], attributes := #[] }
def k2m0 : Method := { name := "<init>", desc := "()V", sig := { parameters := [], returnType := none }, accessFlags := 4, code := some k2c0 }
/-- java/lang/Record -/
def k2 : Class := { plain "java/lang/Record" (some 0) with
  accessFlags := 1057
  interfaces := #[]
  cf := some (fileOf pool2 7 #[] #[{ accessFlags := 4, nameIndex := 5, descriptorIndex := 6, attributes := #[] }] 1057 2 #[] #[])
  fields := #[]
  methods := #[k2m0]
  instanceTypes := #[]
  staticTypes := #[]
  resolved := Array.replicate 22 none
  statics := none }

def pool3 : Array CpInfo := pool [(1, .methodref 2 3), (0, .class_ 4), (0, .nameAndType 5 6), (0, u "java/lang/Record"), (0, u "<init>"), (0, u "()V"), (13, .fieldref 21 22), (0, .class_ 23), (0, .nameAndType 24 25), (0, u "com/example/ledgerstream/ledgerstream/model/GroupConfig"), (0, u "minSessionTimeoutMs"), (0, u "I"), (0, .fieldref 21 27), (0, .nameAndType 28 25), (0, u "maxSessionTimeoutMs"), (0, .fieldref 21 30), (0, .nameAndType 31 25), (0, u "initialRebalanceDelayMs"), (15, u "(III)V"), (2, u "DEFAULT"), (0, u "Lcom/example/ledgerstream/ledgerstream/model/GroupConfig;"), (0, u "DEFAULT_MIN_SESSION_TIMEOUT_MS"), (2, u "DEFAULT_MAX_SESSION_TIMEOUT_MS"), (0, u "DEFAULT_INITIAL_REBALANCE_DELAY_MS"), (5, u "allowsSessionTimeout"), (0, u "(I)Z")] 38

def k3c0 : Code := { maxStack := 4, maxLocals := 4, code := prog_105_method_1_code, exceptionTable := #[], attributes := #[] }
def k3m0 : Method := { name := "<init>", desc := "(III)V", sig := { parameters := [.int, .int, .int], returnType := none }, accessFlags := 1, code := some k3c0 }
def k3c1 : Code := { maxStack := 2, maxLocals := 2, code := prog_105_method_2_code, exceptionTable := #[], attributes := #[] }
def k3m1 : Method := { name := "allowsSessionTimeout", desc := "(I)Z", sig := { parameters := [.int], returnType := some .boolean }, accessFlags := 1, code := some k3c1 }
/-- com/example/ledgerstream/ledgerstream/model/GroupConfig -/
def k3 : Class := { plain "com/example/ledgerstream/ledgerstream/model/GroupConfig" (some 2) with
  accessFlags := 49
  interfaces := #[]
  cf := some (fileOf pool3 21 #[] #[{ accessFlags := 1, nameIndex := 5, descriptorIndex := 47, attributes := #[] }, { accessFlags := 1, nameIndex := 62, descriptorIndex := 63, attributes := #[] }] 49 2 #[] #[{ accessFlags := 18, nameIndex := 24, descriptorIndex := 25, attributes := #[] }, { accessFlags := 18, nameIndex := 28, descriptorIndex := 25, attributes := #[] }, { accessFlags := 18, nameIndex := 31, descriptorIndex := 25, attributes := #[] }, { accessFlags := 25, nameIndex := 52, descriptorIndex := 25, attributes := #[] }, { accessFlags := 25, nameIndex := 55, descriptorIndex := 25, attributes := #[] }, { accessFlags := 25, nameIndex := 56, descriptorIndex := 25, attributes := #[] }, { accessFlags := 25, nameIndex := 50, descriptorIndex := 51, attributes := #[] }])
  fields := #[{ name := "minSessionTimeoutMs", type := .int, accessFlags := 18, slot := 0, constantValue := 0 }, { name := "maxSessionTimeoutMs", type := .int, accessFlags := 18, slot := 1, constantValue := 0 }, { name := "initialRebalanceDelayMs", type := .int, accessFlags := 18, slot := 2, constantValue := 0 }, { name := "DEFAULT_MIN_SESSION_TIMEOUT_MS", type := .int, accessFlags := 25, slot := 0, constantValue := 0 }, { name := "DEFAULT_MAX_SESSION_TIMEOUT_MS", type := .int, accessFlags := 25, slot := 1, constantValue := 0 }, { name := "DEFAULT_INITIAL_REBALANCE_DELAY_MS", type := .int, accessFlags := 25, slot := 2, constantValue := 0 }, { name := "DEFAULT", type := (.object "com/example/ledgerstream/ledgerstream/model/GroupConfig"), accessFlags := 25, slot := 3, constantValue := 0 }]
  methods := #[k3m0, k3m1]
  instanceTypes := #[.int, .int, .int]
  staticTypes := #[.int, .int, .int, (.object "com/example/ledgerstream/ledgerstream/model/GroupConfig")]
  resolved := Array.replicate 102 none
  statics := none }

def pool4 : Array CpInfo := pool [(1, u "java/lang/Cloneable"), (0, .class_ 1), (0, u "java/lang/Object"), (0, .class_ 3)] 3

/-- java/lang/Cloneable -/
def k4 : Class := { plain "java/lang/Cloneable" (some 0) with
  accessFlags := 1537
  interfaces := #[]
  cf := some (fileOf pool4 2 #[] #[] 1537 4 #[] #[])
  fields := #[]
  methods := #[]
  instanceTypes := #[]
  staticTypes := #[]
  resolved := Array.replicate 8 none
  statics := none }

def pool5 : Array CpInfo := pool [(1, u "java/io/Serializable"), (0, .class_ 1), (0, u "java/lang/Object"), (0, .class_ 3)] 3

/-- java/io/Serializable -/
def k5 : Class := { plain "java/io/Serializable" (some 0) with
  accessFlags := 1537
  interfaces := #[]
  cf := some (fileOf pool5 2 #[] #[] 1537 4 #[] #[])
  fields := #[]
  methods := #[]
  instanceTypes := #[]
  staticTypes := #[]
  resolved := Array.replicate 8 none
  statics := none }

/-- the primitive byte -/
def k6 : Class := { plain "byte" none with kind := .primitive 'B', accessFlags := 0x411 }
/-- [B -/
def k7 : Class := { plain "[B" (some 0) with kind := .array 6 .byte, interfaces := #[4, 5], accessFlags := 1041 }

/-- the primitive int -/
def k8 : Class := { plain "int" none with kind := .primitive 'I', accessFlags := 0x411 }
/-- [I -/
def k9 : Class := { plain "[I" (some 0) with kind := .array 8 .int, interfaces := #[4, 5], accessFlags := 1041 }

def heap : Heap := #[]
def classes : Array Class := #[k0, k1, k2, k3, k4, k5, k6, k7, k8, k9]
def interned : List (Array UInt16 × Addr) := []
def slotsUsed : Nat := 0
def theMethod : MethodId := ⟨1, 1⟩
def args0 : Array Value := #[.int 5, .int 300, .int 7, .int 3, .int 9]
def aboutOver (below : List Frame) : State where
  vm := { classes := classes, interned := interned.toArray }
  heap := heap
  slotsUsed := slotsUsed
  threads := #[{ frames := .invoking theMethod args0 :: below }]
def below0 : List Frame := [.native { method := ⟨0, 0⟩, args := #[] }]
def about1 : State := aboutOver below0
def p0 : Program := .bare "" "" ""
def e0 : Env := launch0.env 0 0 0
theorem w_frames : about1.frames = Frame.invoking theMethod args0 :: below0 := rfl
set_option maxRecDepth 65536 in
theorem w_args : argsFit about1.vm theMethod args0 = true := by decide +kernel
set_option maxRecDepth 65536 in
theorem w_heap : heapFits about1 = true := by decide +kernel
set_option maxRecDepth 65536 in
theorem w_runnable : about1.curStatus? = some .runnable := by decide +kernel
set_option maxRecDepth 65536 in
theorem w_alone : about1.alone = true := by decide +kernel
set_option maxRecDepth 65536 in
theorem w_named : about1.methodNamed? x = some theMethod := by decide +kernel
set_option maxRecDepth 65536 in
theorem w_hears : about1.hears theMethod below0 = true := by decide +kernel
set_option maxRecDepth 65536 in
theorem w_ripe : about1.ripe theMethod args0 below0 = true := by decide +kernel
theorem w_running : about1.status = .running := rfl
set_option maxRecDepth 65536 in
theorem w_room : about1.hasRoom e0.platform room_1 = true :=
  launch0.hasRoom_least _ room_1 (by decide +kernel) (by decide +kernel) (by decide +kernel) (by decide +kernel) (by decide +kernel) (by decide +kernel)
theorem allAtoms_all (ts : List Jvm.Cond) (a : Array Jvm.Value) (st : Jvm.State) : (allAtoms ts).before a st = ts.all (fun c => c.before a st) := by
  induction ts with
  | nil => rfl
  | cons c t ih =>
    show (Jvm.Cond.and c (allAtoms t)).before a st = _
    rw [Jvm.Cond.before_and, ih, List.all_cons]
def words1 : List Jvm.Cond := Jvm.Cond.code x code maxLocals ret :: tables_1
/-- a 'code' word, met by the world's own term for the bytes: nothing is compared byte by byte -/
theorem code_word {y : MethodName} {bytes : ByteArray} {mx : Nat} {rt : Option FieldType} {a : Array Value} {s : State} {m : MethodId} {meth : Method} {c : Code} (h1 : s.methodNamed? y = some m) (h2 : s.vm.method? m = some meth) (h3 : meth.code = some c) (h4 : c.code = bytes)
    (h5 : (c.maxLocals == mx && c.exceptionTable.isEmpty && decide (c.maxStack ≤ mostOperands) && decide (meth.sig.returnType = rt) && !meth.locks && decide (parseMethodDescriptor y.desc = some meth.sig)) = true) : (Jvm.Cond.code y bytes mx rt).before a s = true := by
  simp only [Bool.and_eq_true, beq_iff_eq, Bool.not_eq_true', decide_eq_true_eq] at h5
  obtain ⟨⟨⟨⟨⟨g1, g2⟩, g3⟩, g4⟩, g5⟩, g6⟩ := h5
  simp [Cond.before, Cond.holds, Cond.value, h1, h2, h3, h4, g1, g2, g3, g4, g5, g6]
def isCode : Jvm.Cond → Bool
  | .code _ _ _ _ => true
  | _ => false
theorem all_split {L : List Jvm.Cond} {P : Jvm.Cond → Bool} (h1 : L.all (fun c => isCode c || P c) = true) (h2 : ∀ c ∈ L.filter isCode, P c = true) : L.all P = true := by
  refine List.all_eq_true.mpr fun c hc => ?_
  have h := List.all_eq_true.mp h1 c hc
  rcases Bool.eq_false_or_eq_true (isCode c) with hi | hi
  · exact h2 c (List.mem_filter.mpr ⟨hc, hi⟩)
  · simpa [hi] using h
set_option maxRecDepth 65536 in
theorem w_c0 : (Jvm.Cond.code x code maxLocals ret).before args0 about1 = true := code_word (m := ⟨1, 1⟩) (meth := k1m1) (c := k1c1) (by decide +kernel) rfl rfl rfl (by decide +kernel)
set_option maxRecDepth 65536 in
theorem w_c1 : (Jvm.Cond.code ({ cls := "com/example/ledgerstream/ledgerstream/model/GroupConfig", name := "<init>", desc := "(III)V" } : Jvm.MethodName) prog_105_method_1_code (4 : Nat) (Option.none : Option Jvm.ClassFile.FieldType)).before args0 about1 = true := code_word (m := ⟨3, 0⟩) (meth := k3m0) (c := k3c0) (by decide +kernel) rfl rfl rfl (by decide +kernel)
set_option maxRecDepth 65536 in
theorem w_c2 : (Jvm.Cond.code ({ cls := "java/lang/Record", name := "<init>", desc := "()V" } : Jvm.MethodName) jdk_30_method_1_code (1 : Nat) (Option.none : Option Jvm.ClassFile.FieldType)).before args0 about1 = true := code_word (m := ⟨2, 0⟩) (meth := k2m0) (c := k2c0) (by decide +kernel) rfl rfl rfl (by decide +kernel)
set_option maxRecDepth 65536 in
theorem w_c3 : (Jvm.Cond.code ({ cls := "java/lang/Object", name := "<init>", desc := "()V" } : Jvm.MethodName) object_method_1_code (1 : Nat) (Option.none : Option Jvm.ClassFile.FieldType)).before args0 about1 = true := code_word (m := ⟨0, 0⟩) (meth := k0m0) (c := k0c0) (by decide +kernel) rfl rfl rfl (by decide +kernel)
set_option maxRecDepth 65536 in
theorem w_c4 : (Jvm.Cond.code ({ cls := "com/example/ledgerstream/ledgerstream/model/GroupConfig", name := "allowsSessionTimeout", desc := "(I)Z" } : Jvm.MethodName) prog_105_method_2_code (2 : Nat) (Option.some Jvm.ClassFile.FieldType.boolean)).before args0 about1 = true := code_word (m := ⟨3, 1⟩) (meth := k3m1) (c := k3c1) (by decide +kernel) rfl rfl rfl (by decide +kernel)
def codes1 : List Jvm.Cond := [Jvm.Cond.code x code maxLocals ret, Jvm.Cond.code ({ cls := "com/example/ledgerstream/ledgerstream/model/GroupConfig", name := "<init>", desc := "(III)V" } : Jvm.MethodName) prog_105_method_1_code (4 : Nat) (Option.none : Option Jvm.ClassFile.FieldType), Jvm.Cond.code ({ cls := "java/lang/Record", name := "<init>", desc := "()V" } : Jvm.MethodName) jdk_30_method_1_code (1 : Nat) (Option.none : Option Jvm.ClassFile.FieldType), Jvm.Cond.code ({ cls := "java/lang/Object", name := "<init>", desc := "()V" } : Jvm.MethodName) object_method_1_code (1 : Nat) (Option.none : Option Jvm.ClassFile.FieldType), Jvm.Cond.code ({ cls := "com/example/ledgerstream/ledgerstream/model/GroupConfig", name := "allowsSessionTimeout", desc := "(I)Z" } : Jvm.MethodName) prog_105_method_2_code (2 : Nat) (Option.some Jvm.ClassFile.FieldType.boolean)]
set_option maxRecDepth 65536 in
theorem codes_eq : words1.filter isCode = codes1 := rfl
theorem w_codes : ∀ c ∈ words1.filter isCode, c.before args0 about1 = true := by
  rw [codes_eq]
  intro c hc
  simp only [codes1, List.mem_cons, List.not_mem_nil, or_false] at hc
  rcases hc with rfl | rfl | rfl | rfl | rfl
  · exact w_c0
  · exact w_c1
  · exact w_c2
  · exact w_c3
  · exact w_c4
set_option maxRecDepth 65536 in
theorem w_t1 : (words1.take 24).all (fun c => isCode c || c.before args0 about1) = true := by decide +kernel
set_option maxRecDepth 65536 in
theorem w_t2 : (words1.drop 24).all (fun c => isCode c || c.before args0 about1) = true := by decide +kernel
theorem w_tables : (allAtoms (Jvm.Cond.code x code maxLocals ret :: tables_1)).before args0 about1 = true := by
  rw [allAtoms_all]
  show words1.all (fun c => c.before args0 about1) = true
  refine all_split ?_ w_codes
  rw [← List.take_append_drop 24 words1, List.all_append, w_t1, w_t2]
  rfl
set_option maxRecDepth 65536 in
theorem w_case : (Jvm.Cond.and given_1 narrow_1).before args0 about1 = true := by decide +kernel
theorem w_applies : (headSpec (Jvm.Cond.code x code maxLocals ret :: tables_1) room_1).applies x e0.platform about1 = true :=
  (Spec.applies_iff w_frames).mpr ⟨w_running, w_runnable, w_alone, w_named, w_hears, w_ripe, w_room, w_tables⟩
theorem atStart : AtStart classFile x code maxLocals ret World_1 tables_1 room_1 Calls_1 rest_1 Pre_1 launch0 p0 e0 about1 theMethod args0 below0 :=
  ⟨lists_1, trivial, launch0.admits_env _ _ _, launch0.least_env, fairChoices_fair.cas, fairChoices_fair.clock, w_frames, w_args, w_heap, w_applies, trivial, trivial, w_case⟩
end start1
theorem witness_1 : WitnessClaimed_1 := ⟨start1.p0, start1.e0, start1.about1, start1.theMethod, start1.args0, start1.below0, start1.atStart⟩
end Jvm.Pilot.@@N@@
