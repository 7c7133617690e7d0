import JvmDerived
import JvmDerived.Pilot.@@N@@Statement
import JvmDerived.Pilot.@@N@@Code
set_option linter.unusedVariables false
set_option linter.unusedSimpArgs false
@@BLOCK:NumsL.lean.txt@@
namespace Jvm.RoadKit
open Sem ClassFile Op Lib Jvm.Stand Jvm.Free Jvm.LawKit
section New
variable {p : Program} {l : Launch} {e : Env} {R : Room} {s : State} {m : MethodId} {args : Array Value} {below : List Frame} {meth : Method} {c : Code} {T : State} {locs : List Loc} {cells slots : Nat}
theorem retI (X : Stand p l e R s m args below meth c T locs cells slots) (hx : p.tables.exec = Jvm.exec) {pc : Nat} {Ls : Array Slot} {z : Int32} {rest : List Value} (hret : meth.sig.returnType = some .int) (hd : decode c.code pc = .ok (.ireturn, 1)) {fs : List Frame}
    (hl : ∀ (f : JFrame) (acts : List Action), f.method = m → f.locked = none → f.entered = [] → (doReturn e (T.setTop f) acts (some (.int z))).1 = T.setFrames fs) : Steps p.tables e below (T.setTop (mkF m pc Ls (.int z :: rest))) (T.setFrames fs) := by
  have hm' : T.vm.method? m = some meth := X.method'
  have hn : narrow .int (.int z) = .int z := rfl
  show Steps p.tables e below (T.setTop { method := m, pc := pc, locals := Ls, stack := _ :: rest, locked := none }) _
  jvm_step X.here [X.here.top, hx, hd, hm', hret, hn]
  first | (intro acts; rw [hl _ acts rfl rfl rfl]) | rw [hl _ _ rfl rfl rfl]
  exact Steps.refl _
end New
end Jvm.RoadKit
namespace Jvm.Pilot.@@N@@
open Jvm Jvm.ClassFile Sem Op Lib Jvm.Free Jvm.Stand Jvm.LawKit Jvm.RoadKit Bundle Jvm.Pilot.@@N@@.Jvm.D
theorem pn_1 : plainName "com/example/recital/recital/check/InForceAndPinLaw" = true := by first | (simp [plainName, overriddenIn]; done) | decide +kernel
theorem ef_1 (m : MethodId) (x0 : Int32) : entryFrame m #[(.int x0)] 2 = mkF m 0 #[.val (.int x0), .unset] [] := by first | (simp [entryFrame, mkF, argsToLocals, Value.category]; done) | rfl
theorem d1_0 : decode method_3_code 0 = .ok (.iload_n 0, 1) := by decide +kernel
theorem d1_1 : decode method_3_code 1 = .ok (.ifCond .ne 10, 3) := by decide +kernel
theorem d1_4 : decode method_3_code 4 = .ok (.getstatic 26, 3) := by decide +kernel
theorem d1_7 : decode method_3_code 7 = .ok (.astore_n 1, 1) := by decide +kernel
theorem d1_8 : decode method_3_code 8 = .ok (.goto 19, 3) := by decide +kernel
theorem d1_27 : decode method_3_code 27 = .ok (.aload_n 1, 1) := by decide +kernel
theorem d1_28 : decode method_3_code 28 = .ok (.areturn, 1) := by decide +kernel
theorem d1_11 : decode method_3_code 11 = .ok (.iload_n 0, 1) := by decide +kernel
theorem d1_12 : decode method_3_code 12 = .ok (.iconst 1, 1) := by decide +kernel
theorem d1_13 : decode method_3_code 13 = .ok (.if_icmp .ne 10, 3) := by decide +kernel
theorem d1_16 : decode method_3_code 16 = .ok (.getstatic 30, 3) := by decide +kernel
theorem d1_19 : decode method_3_code 19 = .ok (.astore_n 1, 1) := by decide +kernel
theorem d1_20 : decode method_3_code 20 = .ok (.goto 7, 3) := by decide +kernel
theorem d1_23 : decode method_3_code 23 = .ok (.getstatic 33, 3) := by decide +kernel
theorem d1_26 : decode method_3_code 26 = .ok (.astore_n 1, 1) := by decide +kernel
def own_pick (p1 : Int32) (aN : Addr) (aU : Addr) (aY : Addr) : Addr := if p1 = (0 : Int32) then (aN) else (if p1 = (1 : Int32) then (aU) else (aY))
def Q1 (Z : State) (p1 : Int32) (aN : Addr) (aU : Addr) (aY : Addr) (h0 : Heap) (n0 : Nat) (v : Option Value) (h : Heap) (L : List Loc) : Prop := v = some (.ref (own_pick p1 aN aU aY)) ∧ Fr n0 L ∧ h = h0
set_option maxRecDepth 65536 in
set_option maxHeartbeats 40000000 in
theorem rm1 (l : Launch) (Z : State) (a0 : Array Value) (hw : ∀ d ∈ tables_1, d.before a0 Z = true) (ws : List Jvm.Cond) (p1 : Int32) (aN : Addr) (aU : Addr) (aY : Addr) (h0 : Heap) (n0 : Nat) (Z0 : n0 ≤ h0.size) (SN : Sta Z h0 "com/example/recital/recital/check/InForce" "NO" "Lcom/example/recital/recital/check/InForce;" (.ref aN)) (SU : Sta Z h0 "com/example/recital/recital/check/InForce" "UNKNOWN" "Lcom/example/recital/recital/check/InForce;" (.ref aU)) (SY : Sta Z h0 "com/example/recital/recital/check/InForce" "YES" "Lcom/example/recital/recital/check/InForce;" (.ref aY)) :
    MetFree l (⟨"com/example/recital/recital/check/InForceAndPinLaw", "pick", "(I)Lcom/example/recital/recital/check/InForce;"⟩ : MethodName) (head1 (Jvm.Cond.code (⟨"com/example/recital/recital/check/InForceAndPinLaw", "pick", "(I)Lcom/example/recital/recital/check/InForce;"⟩ : MethodName) method_3_code 2 (some (.object "com/example/recital/recital/check/InForce")) :: ws) ({ frames := 0, cells := 0, slots := 0, locals := 0 } : Room)) (fun a U => a = #[(.int p1)] ∧ Z.Warmed39 U.vm ∧ U.heap = h0) (fun _ _ _ _ _ => True) (fun _ U o U' => ∃ v L, o = .returned v ∧ Q1 Z p1 aN aU aY h0 n0 v U'.heap L ∧ FrameEnd U o U' L ({ frames := 0, cells := 0, slots := 0, locals := 0 } : Room).cells ({ frames := 0, cells := 0, slots := 0, locals := 0 } : Room).slots) := by
  refine MetFree.of_bodySF (plainFor_of_name pn_1) hisR ?_
  intro p e s m args below meth c s₁ Bd hml0 hP hK
  obtain ⟨rfl, hZ, hh⟩ := hP
  have hx := Bd.exec
  have hby := Bd.bytes
  have hml : c.maxLocals = 2 := hml0
  have hown : s.vm.findClass "com/example/recital/recital/check/InForceAndPinLaw" = some m.cls := findClass_of_methodNamed Bd.named
  have hnm := (name_of_methodNamed Bd.named Bd.method).1
  have X0 : Stand p l e ({ frames := 0, cells := 0, slots := 0, locals := 0 } : Room) s m #[(.int p1)] below meth c s₁ [] 0 0 := Stand.of_body Bd
  have e0 : s₁.heap = h0 := by rw [← hh, Bd.state]; rfl
  have N0 := Fr.nil n0
  have pre0 : ∀ t, Steps p.tables e below (s₁.setTop (mkF m 0 #[.val (.int p1), .unset] [])) t → Steps p.tables e below (s₁.setTop (entryFrame m #[(.int p1)] 2)) t := fun t k => castTop (ef_1 m p1) k
  have pre1 : ∀ t, Steps p.tables e below (s₁.setTop (mkF m 1 #[.val (.int p1), .unset] [(.int p1)])) t → Steps p.tables e below _ t := fun t kt => pre0 t (by
    show Steps p.tables e below (s₁.setTop (mkF m 0 #[.val (.int p1), .unset] [])) _
    refine XS.iloadN X0.here hx rfl (hb hby d1_0) rfl ?_
    exact kt)
  by_cases hc1 : p1 = (0 : Int32)
  · have pre2 : ∀ t, Steps p.tables e below (s₁.setTop (mkF m 4 #[.val (.int p1), .unset] [])) t → Steps p.tables e below _ t := fun t kt => pre1 t (by
      show Steps p.tables e below (s₁.setTop (mkF m 1 #[.val (.int p1), .unset] [(.int p1)])) _
      refine XS.ifNo X0.here hx rfl (hb hby d1_1) rfl ((if0 _ _).trans (teq hc1).2) ?_
      exact kt)
    obtain ⟨T3, X3, e3, st3⟩ := getS X0 hx hZ hown (hw _ (List.mem_of_getElem? (i := 5) rfl)) Via.refl e0 SN (g := (mkF m 4 #[.val (.int p1), .unset] [])) rfl (hb hby d1_4) (host := "")
    obtain ⟨fs, hr, hrun, hended, hW, hsame⟩ := X3.leave (v := some (.ref aN)) (fun h => by rw [Bd.returns] at h; cases h)
    refine ⟨_, _, pre2 _ ?_, hrun, hended, _, _, rfl, ?_, ⟨_, rfl⟩, hW, hsame.mono (by decide) (by decide)⟩
    · show Steps p.tables e below (s₁.setTop (mkF m 4 #[.val (.int p1), .unset] [])) _
      refine st3 _ ?_
      show Steps p.tables e below (T3.setTop (mkF m 7 #[.val (.int p1), .unset] [(.ref aN)])) _
      refine XS.astoreN X3.here hx rfl (hb hby d1_7) rfl rfl (l' := #[.val (.int p1), .val (.ref aN)]) rfl ?_
      show Steps p.tables e below (T3.setTop (mkF m 8 #[.val (.int p1), .val (.ref aN)] [])) _
      refine XS.goto X3.here hx rfl (pc0 := 8) (pc' := 27) rfl (hb hby d1_8) (by decide) (by decide) ?_
      show Steps p.tables e below (T3.setTop (mkF m 27 #[.val (.int p1), .val (.ref aN)] [])) _
      refine XS.aloadN X3.here hx rfl (hb hby d1_27) rfl rfl ?_
      show Steps p.tables e below (T3.setTop (mkF m 28 #[.val (.int p1), .val (.ref aN)] [(.ref aN)])) _
      jvm_step X3.here [X3.here.top, hx, (hb hby d1_28), X3.method', Bd.returns, Value.isRef, FieldType.isReference]
      first | (intro acts; rw [hr _ acts rfl rfl rfl]) | rw [hr _ _ rfl rfl rfl]
      exact Steps.refl _
    · show Q1 Z p1 aN aU aY h0 n0 _ T3.heap _
      rw [e3]
      exact ⟨by simp only [own_pick, if_pos hc1], N0, rfl⟩
  · have pre4 : ∀ t, Steps p.tables e below (s₁.setTop (mkF m 13 #[.val (.int p1), .unset] [(.int (1 : Int32)), (.int p1)])) t → Steps p.tables e below _ t := fun t kt => pre1 t (by
      show Steps p.tables e below (s₁.setTop (mkF m 1 #[.val (.int p1), .unset] [(.int p1)])) _
      refine XS.ifYes X0.here hx rfl (pc0 := 1) (pc' := 11) rfl (hb hby d1_1) rfl ((if0 _ _).trans (feq hc1).2) (by decide) (by decide) ?_
      show Steps p.tables e below (s₁.setTop (mkF m 11 #[.val (.int p1), .unset] [])) _
      refine XS.iloadN X0.here hx rfl (hb hby d1_11) rfl ?_
      show Steps p.tables e below (s₁.setTop (mkF m 12 #[.val (.int p1), .unset] [(.int p1)])) _
      refine XS.iconst X0.here hx rfl (hb hby d1_12) ?_
      exact kt)
    by_cases hc13 : p1 = (1 : Int32)
    · have pre5 : ∀ t, Steps p.tables e below (s₁.setTop (mkF m 16 #[.val (.int p1), .unset] [])) t → Steps p.tables e below _ t := fun t kt => pre4 t (by
        show Steps p.tables e below (s₁.setTop (mkF m 13 #[.val (.int p1), .unset] [(.int (1 : Int32)), (.int p1)])) _
        refine XS.icmpNo X0.here hx rfl (hb hby d1_13) rfl (teq hc13).2 ?_
        exact kt)
      obtain ⟨T6, X6, e6, st6⟩ := getS X0 hx hZ hown (hw _ (List.mem_of_getElem? (i := 20) rfl)) Via.refl e0 SU (g := (mkF m 16 #[.val (.int p1), .unset] [])) rfl (hb hby d1_16) (host := "")
      obtain ⟨fs, hr, hrun, hended, hW, hsame⟩ := X6.leave (v := some (.ref aU)) (fun h => by rw [Bd.returns] at h; cases h)
      refine ⟨_, _, pre5 _ ?_, hrun, hended, _, _, rfl, ?_, ⟨_, rfl⟩, hW, hsame.mono (by decide) (by decide)⟩
      · show Steps p.tables e below (s₁.setTop (mkF m 16 #[.val (.int p1), .unset] [])) _
        refine st6 _ ?_
        show Steps p.tables e below (T6.setTop (mkF m 19 #[.val (.int p1), .unset] [(.ref aU)])) _
        refine XS.astoreN X6.here hx rfl (hb hby d1_19) rfl rfl (l' := #[.val (.int p1), .val (.ref aU)]) rfl ?_
        show Steps p.tables e below (T6.setTop (mkF m 20 #[.val (.int p1), .val (.ref aU)] [])) _
        refine XS.goto X6.here hx rfl (pc0 := 20) (pc' := 27) rfl (hb hby d1_20) (by decide) (by decide) ?_
        show Steps p.tables e below (T6.setTop (mkF m 27 #[.val (.int p1), .val (.ref aU)] [])) _
        refine XS.aloadN X6.here hx rfl (hb hby d1_27) rfl rfl ?_
        show Steps p.tables e below (T6.setTop (mkF m 28 #[.val (.int p1), .val (.ref aU)] [(.ref aU)])) _
        jvm_step X6.here [X6.here.top, hx, (hb hby d1_28), X6.method', Bd.returns, Value.isRef, FieldType.isReference]
        first | (intro acts; rw [hr _ acts rfl rfl rfl]) | rw [hr _ _ rfl rfl rfl]
        exact Steps.refl _
      · show Q1 Z p1 aN aU aY h0 n0 _ T6.heap _
        rw [e6]
        exact ⟨by simp only [own_pick, if_neg hc1, if_pos hc13], N0, rfl⟩
    · have pre7 : ∀ t, Steps p.tables e below (s₁.setTop (mkF m 23 #[.val (.int p1), .unset] [])) t → Steps p.tables e below _ t := fun t kt => pre4 t (by
        show Steps p.tables e below (s₁.setTop (mkF m 13 #[.val (.int p1), .unset] [(.int (1 : Int32)), (.int p1)])) _
        refine XS.icmpYes X0.here hx rfl (pc0 := 13) (pc' := 23) rfl (hb hby d1_13) rfl (feq hc13).2 (by decide) (by decide) ?_
        exact kt)
      obtain ⟨T8, X8, e8, st8⟩ := getS X0 hx hZ hown (hw _ (List.mem_of_getElem? (i := 18) rfl)) Via.refl e0 SY (g := (mkF m 23 #[.val (.int p1), .unset] [])) rfl (hb hby d1_23) (host := "")
      obtain ⟨fs, hr, hrun, hended, hW, hsame⟩ := X8.leave (v := some (.ref aY)) (fun h => by rw [Bd.returns] at h; cases h)
      refine ⟨_, _, pre7 _ ?_, hrun, hended, _, _, rfl, ?_, ⟨_, rfl⟩, hW, hsame.mono (by decide) (by decide)⟩
      · show Steps p.tables e below (s₁.setTop (mkF m 23 #[.val (.int p1), .unset] [])) _
        refine st8 _ ?_
        show Steps p.tables e below (T8.setTop (mkF m 26 #[.val (.int p1), .unset] [(.ref aY)])) _
        refine XS.astoreN X8.here hx rfl (hb hby d1_26) rfl rfl (l' := #[.val (.int p1), .val (.ref aY)]) rfl ?_
        show Steps p.tables e below (T8.setTop (mkF m 27 #[.val (.int p1), .val (.ref aY)] [])) _
        refine XS.aloadN X8.here hx rfl (hb hby d1_27) rfl rfl ?_
        show Steps p.tables e below (T8.setTop (mkF m 28 #[.val (.int p1), .val (.ref aY)] [(.ref aY)])) _
        jvm_step X8.here [X8.here.top, hx, (hb hby d1_28), X8.method', Bd.returns, Value.isRef, FieldType.isReference]
        first | (intro acts; rw [hr _ acts rfl rfl rfl]) | rw [hr _ _ rfl rfl rfl]
        exact Steps.refl _
      · show Q1 Z p1 aN aU aY h0 n0 _ T8.heap _
        rw [e8]
        exact ⟨by simp only [own_pick, if_neg hc1, if_neg hc13], N0, rfl⟩
theorem pn_2 : plainName "com/example/recital/recital/check/InForce" = true := by first | (simp [plainName, overriddenIn]; done) | decide +kernel
theorem ef_2 (m : MethodId) (x0 : Addr) (x1 : Addr) : entryFrame m #[(.ref x0), (.ref x1)] 3 = mkF m 0 #[.val (.ref x0), .val (.ref x1), .unset] [] := by first | (simp [entryFrame, mkF, argsToLocals, Value.category]; done) | rfl
theorem d2_0 : decode prog_16_method_6_code 0 = .ok (.aload_n 0, 1) := by decide +kernel
theorem d2_1 : decode prog_16_method_6_code 1 = .ok (.getstatic 7, 3) := by decide +kernel
theorem d2_4 : decode prog_16_method_6_code 4 = .ok (.if_acmp .eq 10, 3) := by decide +kernel
theorem d2_14 : decode prog_16_method_6_code 14 = .ok (.getstatic 7, 3) := by decide +kernel
theorem d2_17 : decode prog_16_method_6_code 17 = .ok (.astore_n 2, 1) := by decide +kernel
theorem d2_18 : decode prog_16_method_6_code 18 = .ok (.goto 28, 3) := by decide +kernel
theorem d2_46 : decode prog_16_method_6_code 46 = .ok (.aload_n 2, 1) := by decide +kernel
theorem d2_47 : decode prog_16_method_6_code 47 = .ok (.areturn, 1) := by decide +kernel
theorem d2_7 : decode prog_16_method_6_code 7 = .ok (.aload_n 1, 1) := by decide +kernel
theorem d2_8 : decode prog_16_method_6_code 8 = .ok (.getstatic 7, 3) := by decide +kernel
theorem d2_11 : decode prog_16_method_6_code 11 = .ok (.if_acmp .ne 10, 3) := by decide +kernel
theorem d2_21 : decode prog_16_method_6_code 21 = .ok (.aload_n 0, 1) := by decide +kernel
theorem d2_22 : decode prog_16_method_6_code 22 = .ok (.getstatic 10, 3) := by decide +kernel
theorem d2_25 : decode prog_16_method_6_code 25 = .ok (.if_acmp .eq 10, 3) := by decide +kernel
theorem d2_35 : decode prog_16_method_6_code 35 = .ok (.getstatic 10, 3) := by decide +kernel
theorem d2_38 : decode prog_16_method_6_code 38 = .ok (.astore_n 2, 1) := by decide +kernel
theorem d2_39 : decode prog_16_method_6_code 39 = .ok (.goto 7, 3) := by decide +kernel
theorem d2_28 : decode prog_16_method_6_code 28 = .ok (.aload_n 1, 1) := by decide +kernel
theorem d2_29 : decode prog_16_method_6_code 29 = .ok (.getstatic 10, 3) := by decide +kernel
theorem d2_32 : decode prog_16_method_6_code 32 = .ok (.if_acmp .ne 10, 3) := by decide +kernel
theorem d2_42 : decode prog_16_method_6_code 42 = .ok (.getstatic 3, 3) := by decide +kernel
theorem d2_45 : decode prog_16_method_6_code 45 = .ok (.astore_n 2, 1) := by decide +kernel
def own_and (a1 : Addr) (a2 : Addr) (aN : Addr) (aU : Addr) (aY : Addr) : Addr := if a1 = aN then (aN) else (if a2 = aN then (aN) else (if a1 = aU then (aU) else (if a2 = aU then (aU) else (aY))))
def Q2 (Z : State) (a1 : Addr) (a2 : Addr) (aN : Addr) (aU : Addr) (aY : Addr) (h0 : Heap) (n0 : Nat) (v : Option Value) (h : Heap) (L : List Loc) : Prop := v = some (.ref (own_and a1 a2 aN aU aY)) ∧ Fr n0 L ∧ h = h0
set_option maxRecDepth 65536 in
set_option maxHeartbeats 40000000 in
theorem rm2 (l : Launch) (Z : State) (a0 : Array Value) (hw : ∀ d ∈ tables_1, d.before a0 Z = true) (ws : List Jvm.Cond) (a1 : Addr) (a2 : Addr) (aN : Addr) (aU : Addr) (aY : Addr) (h0 : Heap) (n0 : Nat) (Z0 : n0 ≤ h0.size) (SN : Sta Z h0 "com/example/recital/recital/check/InForce" "NO" "Lcom/example/recital/recital/check/InForce;" (.ref aN)) (SU : Sta Z h0 "com/example/recital/recital/check/InForce" "UNKNOWN" "Lcom/example/recital/recital/check/InForce;" (.ref aU)) (SY : Sta Z h0 "com/example/recital/recital/check/InForce" "YES" "Lcom/example/recital/recital/check/InForce;" (.ref aY)) :
    MetFree l (⟨"com/example/recital/recital/check/InForce", "and", "(Lcom/example/recital/recital/check/InForce;)Lcom/example/recital/recital/check/InForce;"⟩ : MethodName) (head1 (Jvm.Cond.code (⟨"com/example/recital/recital/check/InForce", "and", "(Lcom/example/recital/recital/check/InForce;)Lcom/example/recital/recital/check/InForce;"⟩ : MethodName) prog_16_method_6_code 3 (some (.object "com/example/recital/recital/check/InForce")) :: ws) ({ frames := 0, cells := 0, slots := 0, locals := 0 } : Room)) (fun a U => a = #[(.ref a1), (.ref a2)] ∧ Z.Warmed39 U.vm ∧ U.heap = h0) (fun _ _ _ _ _ => True) (fun _ U o U' => ∃ v L, o = .returned v ∧ Q2 Z a1 a2 aN aU aY h0 n0 v U'.heap L ∧ FrameEnd U o U' L ({ frames := 0, cells := 0, slots := 0, locals := 0 } : Room).cells ({ frames := 0, cells := 0, slots := 0, locals := 0 } : Room).slots) := by
  refine MetFree.of_bodySF (plainFor_of_name pn_2) hisR ?_
  intro p e s m args below meth c s₁ Bd hml0 hP hK
  obtain ⟨rfl, hZ, hh⟩ := hP
  have hx := Bd.exec
  have hby := Bd.bytes
  have hml : c.maxLocals = 3 := hml0
  have hown : s.vm.findClass "com/example/recital/recital/check/InForce" = some m.cls := findClass_of_methodNamed Bd.named
  have hnm := (name_of_methodNamed Bd.named Bd.method).1
  have X0 : Stand p l e ({ frames := 0, cells := 0, slots := 0, locals := 0 } : Room) s m #[(.ref a1), (.ref a2)] below meth c s₁ [] 0 0 := Stand.of_body Bd
  have e0 : s₁.heap = h0 := by rw [← hh, Bd.state]; rfl
  have N0 := Fr.nil n0
  have pre0 : ∀ t, Steps p.tables e below (s₁.setTop (mkF m 0 #[.val (.ref a1), .val (.ref a2), .unset] [])) t → Steps p.tables e below (s₁.setTop (entryFrame m #[(.ref a1), (.ref a2)] 3)) t := fun t k => castTop (ef_2 m a1 a2) k
  have pre1 : ∀ t, Steps p.tables e below (s₁.setTop (mkF m 1 #[.val (.ref a1), .val (.ref a2), .unset] [(.ref a1)])) t → Steps p.tables e below _ t := fun t kt => pre0 t (by
    show Steps p.tables e below (s₁.setTop (mkF m 0 #[.val (.ref a1), .val (.ref a2), .unset] [])) _
    refine XS.aloadN X0.here hx rfl (hb hby d2_0) rfl rfl ?_
    exact kt)
  obtain ⟨T2, X2, e2, st2⟩ := getS X0 hx hZ hown (hw _ (List.mem_of_getElem? (i := 13) rfl)) Via.refl e0 SN (g := (mkF m 1 #[.val (.ref a1), .val (.ref a2), .unset] [(.ref a1)])) rfl (hb hby d2_1) (host := "")
  have pre3 : ∀ t, Steps p.tables e below (T2.setTop (mkF m 4 #[.val (.ref a1), .val (.ref a2), .unset] [(.ref aN), (.ref a1)])) t → Steps p.tables e below _ t := fun t kt => pre1 t (by
    show Steps p.tables e below (s₁.setTop (mkF m 1 #[.val (.ref a1), .val (.ref a2), .unset] [(.ref a1)])) _
    refine st2 _ ?_
    exact kt)
  by_cases hc4 : a1 = aN
  · have pre4 : ∀ t, Steps p.tables e below (T2.setTop (mkF m 14 #[.val (.ref a1), .val (.ref a2), .unset] [])) t → Steps p.tables e below _ t := fun t kt => pre3 t (by
      show Steps p.tables e below (T2.setTop (mkF m 4 #[.val (.ref a1), .val (.ref a2), .unset] [(.ref aN), (.ref a1)])) _
      refine Jvm.RoadKit.acmp (g := (mkF m 4 #[.val (.ref a1), .val (.ref a2), .unset] [(.ref aN), (.ref a1)])) X2 hx rfl rfl rfl (pc0 := 4) (pc' := 14) (same := true) rfl (hb hby d2_4) rfl (decide_eq_true (congrArg Value.ref hc4)) (by decide) (by decide) ?_
      exact kt)
    obtain ⟨T5, X5, e5, st5⟩ := getS X2 hx hZ hown (hw _ (List.mem_of_getElem? (i := 13) rfl)) Via.refl e2 SN (g := (mkF m 14 #[.val (.ref a1), .val (.ref a2), .unset] [])) rfl (hb hby d2_14) (host := "")
    obtain ⟨fs, hr, hrun, hended, hW, hsame⟩ := X5.leave (v := some (.ref aN)) (fun h => by rw [Bd.returns] at h; cases h)
    refine ⟨_, _, pre4 _ ?_, hrun, hended, _, _, rfl, ?_, ⟨_, rfl⟩, hW, hsame.mono (by decide) (by decide)⟩
    · show Steps p.tables e below (T2.setTop (mkF m 14 #[.val (.ref a1), .val (.ref a2), .unset] [])) _
      refine st5 _ ?_
      show Steps p.tables e below (T5.setTop (mkF m 17 #[.val (.ref a1), .val (.ref a2), .unset] [(.ref aN)])) _
      refine XS.astoreN X5.here hx rfl (hb hby d2_17) rfl rfl (l' := #[.val (.ref a1), .val (.ref a2), .val (.ref aN)]) rfl ?_
      show Steps p.tables e below (T5.setTop (mkF m 18 #[.val (.ref a1), .val (.ref a2), .val (.ref aN)] [])) _
      refine XS.goto X5.here hx rfl (pc0 := 18) (pc' := 46) rfl (hb hby d2_18) (by decide) (by decide) ?_
      show Steps p.tables e below (T5.setTop (mkF m 46 #[.val (.ref a1), .val (.ref a2), .val (.ref aN)] [])) _
      refine XS.aloadN X5.here hx rfl (hb hby d2_46) rfl rfl ?_
      show Steps p.tables e below (T5.setTop (mkF m 47 #[.val (.ref a1), .val (.ref a2), .val (.ref aN)] [(.ref aN)])) _
      jvm_step X5.here [X5.here.top, hx, (hb hby d2_47), X5.method', Bd.returns, Value.isRef, FieldType.isReference]
      first | (intro acts; rw [hr _ acts rfl rfl rfl]) | rw [hr _ _ rfl rfl rfl]
      exact Steps.refl _
    · show Q2 Z a1 a2 aN aU aY h0 n0 _ T5.heap _
      rw [e5]
      exact ⟨by simp only [own_and, if_pos hc4], N0, rfl⟩
  · have pre6 : ∀ t, Steps p.tables e below (T2.setTop (mkF m 8 #[.val (.ref a1), .val (.ref a2), .unset] [(.ref a2)])) t → Steps p.tables e below _ t := fun t kt => pre3 t (by
      show Steps p.tables e below (T2.setTop (mkF m 4 #[.val (.ref a1), .val (.ref a2), .unset] [(.ref aN), (.ref a1)])) _
      refine Jvm.RoadKit.acmp (g := (mkF m 4 #[.val (.ref a1), .val (.ref a2), .unset] [(.ref aN), (.ref a1)])) X2 hx rfl rfl rfl (pc0 := 4) (pc' := 7) (same := false) rfl (hb hby d2_4) rfl (decide_eq_false fun q => hc4 (Value.ref.inj q)) (by decide) (by decide) ?_
      show Steps p.tables e below (T2.setTop (mkF m 7 #[.val (.ref a1), .val (.ref a2), .unset] [])) _
      refine XS.aloadN X2.here hx rfl (hb hby d2_7) rfl rfl ?_
      exact kt)
    obtain ⟨T7, X7, e7, st7⟩ := getS X2 hx hZ hown (hw _ (List.mem_of_getElem? (i := 13) rfl)) Via.refl e2 SN (g := (mkF m 8 #[.val (.ref a1), .val (.ref a2), .unset] [(.ref a2)])) rfl (hb hby d2_8) (host := "")
    have pre8 : ∀ t, Steps p.tables e below (T7.setTop (mkF m 11 #[.val (.ref a1), .val (.ref a2), .unset] [(.ref aN), (.ref a2)])) t → Steps p.tables e below _ t := fun t kt => pre6 t (by
      show Steps p.tables e below (T2.setTop (mkF m 8 #[.val (.ref a1), .val (.ref a2), .unset] [(.ref a2)])) _
      refine st7 _ ?_
      exact kt)
    by_cases hc11 : a2 = aN
    · have pre9 : ∀ t, Steps p.tables e below (T7.setTop (mkF m 14 #[.val (.ref a1), .val (.ref a2), .unset] [])) t → Steps p.tables e below _ t := fun t kt => pre8 t (by
        show Steps p.tables e below (T7.setTop (mkF m 11 #[.val (.ref a1), .val (.ref a2), .unset] [(.ref aN), (.ref a2)])) _
        refine Jvm.RoadKit.acmp (g := (mkF m 11 #[.val (.ref a1), .val (.ref a2), .unset] [(.ref aN), (.ref a2)])) X7 hx rfl rfl rfl (pc0 := 11) (pc' := 14) (same := true) rfl (hb hby d2_11) rfl (decide_eq_true (congrArg Value.ref hc11)) (by decide) (by decide) ?_
        exact kt)
      obtain ⟨T10, X10, e10, st10⟩ := getS X7 hx hZ hown (hw _ (List.mem_of_getElem? (i := 13) rfl)) Via.refl e7 SN (g := (mkF m 14 #[.val (.ref a1), .val (.ref a2), .unset] [])) rfl (hb hby d2_14) (host := "")
      obtain ⟨fs, hr, hrun, hended, hW, hsame⟩ := X10.leave (v := some (.ref aN)) (fun h => by rw [Bd.returns] at h; cases h)
      refine ⟨_, _, pre9 _ ?_, hrun, hended, _, _, rfl, ?_, ⟨_, rfl⟩, hW, hsame.mono (by decide) (by decide)⟩
      · show Steps p.tables e below (T7.setTop (mkF m 14 #[.val (.ref a1), .val (.ref a2), .unset] [])) _
        refine st10 _ ?_
        show Steps p.tables e below (T10.setTop (mkF m 17 #[.val (.ref a1), .val (.ref a2), .unset] [(.ref aN)])) _
        refine XS.astoreN X10.here hx rfl (hb hby d2_17) rfl rfl (l' := #[.val (.ref a1), .val (.ref a2), .val (.ref aN)]) rfl ?_
        show Steps p.tables e below (T10.setTop (mkF m 18 #[.val (.ref a1), .val (.ref a2), .val (.ref aN)] [])) _
        refine XS.goto X10.here hx rfl (pc0 := 18) (pc' := 46) rfl (hb hby d2_18) (by decide) (by decide) ?_
        show Steps p.tables e below (T10.setTop (mkF m 46 #[.val (.ref a1), .val (.ref a2), .val (.ref aN)] [])) _
        refine XS.aloadN X10.here hx rfl (hb hby d2_46) rfl rfl ?_
        show Steps p.tables e below (T10.setTop (mkF m 47 #[.val (.ref a1), .val (.ref a2), .val (.ref aN)] [(.ref aN)])) _
        jvm_step X10.here [X10.here.top, hx, (hb hby d2_47), X10.method', Bd.returns, Value.isRef, FieldType.isReference]
        first | (intro acts; rw [hr _ acts rfl rfl rfl]) | rw [hr _ _ rfl rfl rfl]
        exact Steps.refl _
      · show Q2 Z a1 a2 aN aU aY h0 n0 _ T10.heap _
        rw [e10]
        exact ⟨by simp only [own_and, if_neg hc4, if_pos hc11], N0, rfl⟩
    · have pre11 : ∀ t, Steps p.tables e below (T7.setTop (mkF m 22 #[.val (.ref a1), .val (.ref a2), .unset] [(.ref a1)])) t → Steps p.tables e below _ t := fun t kt => pre8 t (by
        show Steps p.tables e below (T7.setTop (mkF m 11 #[.val (.ref a1), .val (.ref a2), .unset] [(.ref aN), (.ref a2)])) _
        refine Jvm.RoadKit.acmp (g := (mkF m 11 #[.val (.ref a1), .val (.ref a2), .unset] [(.ref aN), (.ref a2)])) X7 hx rfl rfl rfl (pc0 := 11) (pc' := 21) (same := false) rfl (hb hby d2_11) rfl (decide_eq_false fun q => hc11 (Value.ref.inj q)) (by decide) (by decide) ?_
        show Steps p.tables e below (T7.setTop (mkF m 21 #[.val (.ref a1), .val (.ref a2), .unset] [])) _
        refine XS.aloadN X7.here hx rfl (hb hby d2_21) rfl rfl ?_
        exact kt)
      obtain ⟨T12, X12, e12, st12⟩ := getS X7 hx hZ hown (hw _ (List.mem_of_getElem? (i := 22) rfl)) Via.refl e7 SU (g := (mkF m 22 #[.val (.ref a1), .val (.ref a2), .unset] [(.ref a1)])) rfl (hb hby d2_22) (host := "")
      have pre13 : ∀ t, Steps p.tables e below (T12.setTop (mkF m 25 #[.val (.ref a1), .val (.ref a2), .unset] [(.ref aU), (.ref a1)])) t → Steps p.tables e below _ t := fun t kt => pre11 t (by
        show Steps p.tables e below (T7.setTop (mkF m 22 #[.val (.ref a1), .val (.ref a2), .unset] [(.ref a1)])) _
        refine st12 _ ?_
        exact kt)
      by_cases hc25 : a1 = aU
      · have pre14 : ∀ t, Steps p.tables e below (T12.setTop (mkF m 35 #[.val (.ref a1), .val (.ref a2), .unset] [])) t → Steps p.tables e below _ t := fun t kt => pre13 t (by
          show Steps p.tables e below (T12.setTop (mkF m 25 #[.val (.ref a1), .val (.ref a2), .unset] [(.ref aU), (.ref a1)])) _
          refine Jvm.RoadKit.acmp (g := (mkF m 25 #[.val (.ref a1), .val (.ref a2), .unset] [(.ref aU), (.ref a1)])) X12 hx rfl rfl rfl (pc0 := 25) (pc' := 35) (same := true) rfl (hb hby d2_25) rfl (decide_eq_true (congrArg Value.ref hc25)) (by decide) (by decide) ?_
          exact kt)
        obtain ⟨T15, X15, e15, st15⟩ := getS X12 hx hZ hown (hw _ (List.mem_of_getElem? (i := 22) rfl)) Via.refl e12 SU (g := (mkF m 35 #[.val (.ref a1), .val (.ref a2), .unset] [])) rfl (hb hby d2_35) (host := "")
        obtain ⟨fs, hr, hrun, hended, hW, hsame⟩ := X15.leave (v := some (.ref aU)) (fun h => by rw [Bd.returns] at h; cases h)
        refine ⟨_, _, pre14 _ ?_, hrun, hended, _, _, rfl, ?_, ⟨_, rfl⟩, hW, hsame.mono (by decide) (by decide)⟩
        · show Steps p.tables e below (T12.setTop (mkF m 35 #[.val (.ref a1), .val (.ref a2), .unset] [])) _
          refine st15 _ ?_
          show Steps p.tables e below (T15.setTop (mkF m 38 #[.val (.ref a1), .val (.ref a2), .unset] [(.ref aU)])) _
          refine XS.astoreN X15.here hx rfl (hb hby d2_38) rfl rfl (l' := #[.val (.ref a1), .val (.ref a2), .val (.ref aU)]) rfl ?_
          show Steps p.tables e below (T15.setTop (mkF m 39 #[.val (.ref a1), .val (.ref a2), .val (.ref aU)] [])) _
          refine XS.goto X15.here hx rfl (pc0 := 39) (pc' := 46) rfl (hb hby d2_39) (by decide) (by decide) ?_
          show Steps p.tables e below (T15.setTop (mkF m 46 #[.val (.ref a1), .val (.ref a2), .val (.ref aU)] [])) _
          refine XS.aloadN X15.here hx rfl (hb hby d2_46) rfl rfl ?_
          show Steps p.tables e below (T15.setTop (mkF m 47 #[.val (.ref a1), .val (.ref a2), .val (.ref aU)] [(.ref aU)])) _
          jvm_step X15.here [X15.here.top, hx, (hb hby d2_47), X15.method', Bd.returns, Value.isRef, FieldType.isReference]
          first | (intro acts; rw [hr _ acts rfl rfl rfl]) | rw [hr _ _ rfl rfl rfl]
          exact Steps.refl _
        · show Q2 Z a1 a2 aN aU aY h0 n0 _ T15.heap _
          rw [e15]
          exact ⟨by simp only [own_and, if_neg hc4, if_neg hc11, if_pos hc25], N0, rfl⟩
      · have pre16 : ∀ t, Steps p.tables e below (T12.setTop (mkF m 29 #[.val (.ref a1), .val (.ref a2), .unset] [(.ref a2)])) t → Steps p.tables e below _ t := fun t kt => pre13 t (by
          show Steps p.tables e below (T12.setTop (mkF m 25 #[.val (.ref a1), .val (.ref a2), .unset] [(.ref aU), (.ref a1)])) _
          refine Jvm.RoadKit.acmp (g := (mkF m 25 #[.val (.ref a1), .val (.ref a2), .unset] [(.ref aU), (.ref a1)])) X12 hx rfl rfl rfl (pc0 := 25) (pc' := 28) (same := false) rfl (hb hby d2_25) rfl (decide_eq_false fun q => hc25 (Value.ref.inj q)) (by decide) (by decide) ?_
          show Steps p.tables e below (T12.setTop (mkF m 28 #[.val (.ref a1), .val (.ref a2), .unset] [])) _
          refine XS.aloadN X12.here hx rfl (hb hby d2_28) rfl rfl ?_
          exact kt)
        obtain ⟨T17, X17, e17, st17⟩ := getS X12 hx hZ hown (hw _ (List.mem_of_getElem? (i := 22) rfl)) Via.refl e12 SU (g := (mkF m 29 #[.val (.ref a1), .val (.ref a2), .unset] [(.ref a2)])) rfl (hb hby d2_29) (host := "")
        have pre18 : ∀ t, Steps p.tables e below (T17.setTop (mkF m 32 #[.val (.ref a1), .val (.ref a2), .unset] [(.ref aU), (.ref a2)])) t → Steps p.tables e below _ t := fun t kt => pre16 t (by
          show Steps p.tables e below (T12.setTop (mkF m 29 #[.val (.ref a1), .val (.ref a2), .unset] [(.ref a2)])) _
          refine st17 _ ?_
          exact kt)
        by_cases hc32 : a2 = aU
        · have pre19 : ∀ t, Steps p.tables e below (T17.setTop (mkF m 35 #[.val (.ref a1), .val (.ref a2), .unset] [])) t → Steps p.tables e below _ t := fun t kt => pre18 t (by
            show Steps p.tables e below (T17.setTop (mkF m 32 #[.val (.ref a1), .val (.ref a2), .unset] [(.ref aU), (.ref a2)])) _
            refine Jvm.RoadKit.acmp (g := (mkF m 32 #[.val (.ref a1), .val (.ref a2), .unset] [(.ref aU), (.ref a2)])) X17 hx rfl rfl rfl (pc0 := 32) (pc' := 35) (same := true) rfl (hb hby d2_32) rfl (decide_eq_true (congrArg Value.ref hc32)) (by decide) (by decide) ?_
            exact kt)
          obtain ⟨T20, X20, e20, st20⟩ := getS X17 hx hZ hown (hw _ (List.mem_of_getElem? (i := 22) rfl)) Via.refl e17 SU (g := (mkF m 35 #[.val (.ref a1), .val (.ref a2), .unset] [])) rfl (hb hby d2_35) (host := "")
          obtain ⟨fs, hr, hrun, hended, hW, hsame⟩ := X20.leave (v := some (.ref aU)) (fun h => by rw [Bd.returns] at h; cases h)
          refine ⟨_, _, pre19 _ ?_, hrun, hended, _, _, rfl, ?_, ⟨_, rfl⟩, hW, hsame.mono (by decide) (by decide)⟩
          · show Steps p.tables e below (T17.setTop (mkF m 35 #[.val (.ref a1), .val (.ref a2), .unset] [])) _
            refine st20 _ ?_
            show Steps p.tables e below (T20.setTop (mkF m 38 #[.val (.ref a1), .val (.ref a2), .unset] [(.ref aU)])) _
            refine XS.astoreN X20.here hx rfl (hb hby d2_38) rfl rfl (l' := #[.val (.ref a1), .val (.ref a2), .val (.ref aU)]) rfl ?_
            show Steps p.tables e below (T20.setTop (mkF m 39 #[.val (.ref a1), .val (.ref a2), .val (.ref aU)] [])) _
            refine XS.goto X20.here hx rfl (pc0 := 39) (pc' := 46) rfl (hb hby d2_39) (by decide) (by decide) ?_
            show Steps p.tables e below (T20.setTop (mkF m 46 #[.val (.ref a1), .val (.ref a2), .val (.ref aU)] [])) _
            refine XS.aloadN X20.here hx rfl (hb hby d2_46) rfl rfl ?_
            show Steps p.tables e below (T20.setTop (mkF m 47 #[.val (.ref a1), .val (.ref a2), .val (.ref aU)] [(.ref aU)])) _
            jvm_step X20.here [X20.here.top, hx, (hb hby d2_47), X20.method', Bd.returns, Value.isRef, FieldType.isReference]
            first | (intro acts; rw [hr _ acts rfl rfl rfl]) | rw [hr _ _ rfl rfl rfl]
            exact Steps.refl _
          · show Q2 Z a1 a2 aN aU aY h0 n0 _ T20.heap _
            rw [e20]
            exact ⟨by simp only [own_and, if_neg hc4, if_neg hc11, if_neg hc25, if_pos hc32], N0, rfl⟩
        · have pre21 : ∀ t, Steps p.tables e below (T17.setTop (mkF m 42 #[.val (.ref a1), .val (.ref a2), .unset] [])) t → Steps p.tables e below _ t := fun t kt => pre18 t (by
            show Steps p.tables e below (T17.setTop (mkF m 32 #[.val (.ref a1), .val (.ref a2), .unset] [(.ref aU), (.ref a2)])) _
            refine Jvm.RoadKit.acmp (g := (mkF m 32 #[.val (.ref a1), .val (.ref a2), .unset] [(.ref aU), (.ref a2)])) X17 hx rfl rfl rfl (pc0 := 32) (pc' := 42) (same := false) rfl (hb hby d2_32) rfl (decide_eq_false fun q => hc32 (Value.ref.inj q)) (by decide) (by decide) ?_
            exact kt)
          obtain ⟨T22, X22, e22, st22⟩ := getS X17 hx hZ hown (hw _ (List.mem_of_getElem? (i := 23) rfl)) Via.refl e17 SY (g := (mkF m 42 #[.val (.ref a1), .val (.ref a2), .unset] [])) rfl (hb hby d2_42) (host := "")
          obtain ⟨fs, hr, hrun, hended, hW, hsame⟩ := X22.leave (v := some (.ref aY)) (fun h => by rw [Bd.returns] at h; cases h)
          refine ⟨_, _, pre21 _ ?_, hrun, hended, _, _, rfl, ?_, ⟨_, rfl⟩, hW, hsame.mono (by decide) (by decide)⟩
          · show Steps p.tables e below (T17.setTop (mkF m 42 #[.val (.ref a1), .val (.ref a2), .unset] [])) _
            refine st22 _ ?_
            show Steps p.tables e below (T22.setTop (mkF m 45 #[.val (.ref a1), .val (.ref a2), .unset] [(.ref aY)])) _
            refine XS.astoreN X22.here hx rfl (hb hby d2_45) rfl rfl (l' := #[.val (.ref a1), .val (.ref a2), .val (.ref aY)]) rfl ?_
            show Steps p.tables e below (T22.setTop (mkF m 46 #[.val (.ref a1), .val (.ref a2), .val (.ref aY)] [])) _
            refine XS.aloadN X22.here hx rfl (hb hby d2_46) rfl rfl ?_
            show Steps p.tables e below (T22.setTop (mkF m 47 #[.val (.ref a1), .val (.ref a2), .val (.ref aY)] [(.ref aY)])) _
            jvm_step X22.here [X22.here.top, hx, (hb hby d2_47), X22.method', Bd.returns, Value.isRef, FieldType.isReference]
            first | (intro acts; rw [hr _ acts rfl rfl rfl]) | rw [hr _ _ rfl rfl rfl]
            exact Steps.refl _
          · show Q2 Z a1 a2 aN aU aY h0 n0 _ T22.heap _
            rw [e22]
            exact ⟨by simp only [own_and, if_neg hc4, if_neg hc11, if_neg hc25, if_neg hc32], N0, rfl⟩
theorem ef_3 (m : MethodId) (x0 : Int32) (x1 : Int32) : entryFrame m #[(.int x0), (.int x1)] 2 = mkF m 0 #[.val (.int x0), .val (.int x1)] [] := by first | (simp [entryFrame, mkF, argsToLocals, Value.category]; done) | rfl
theorem d3_0 : decode jdk_29_method_69_code 0 = .ok (.iload_n 0, 1) := by decide +kernel
theorem d3_1 : decode jdk_29_method_69_code 1 = .ok (.iload_n 1, 1) := by decide +kernel
theorem d3_2 : decode jdk_29_method_69_code 2 = .ok (.if_icmp .gt 7, 3) := by decide +kernel
theorem d3_9 : decode jdk_29_method_69_code 9 = .ok (.iload_n 1, 1) := by decide +kernel
theorem d3_10 : decode jdk_29_method_69_code 10 = .ok (.ireturn, 1) := by decide +kernel
theorem d3_5 : decode jdk_29_method_69_code 5 = .ok (.iload_n 0, 1) := by decide +kernel
theorem d3_6 : decode jdk_29_method_69_code 6 = .ok (.goto 4, 3) := by decide +kernel
def own_min (p1 : Int32) (p2 : Int32) : Int32 := if p2 < p1 then (p2) else (p1)
def Q3 (Z : State) (p1 : Int32) (p2 : Int32) (h0 : Heap) (n0 : Nat) (v : Option Value) (h : Heap) (L : List Loc) : Prop := v = some (.int (own_min p1 p2)) ∧ Fr n0 L ∧ h = h0
set_option maxRecDepth 65536 in
set_option maxHeartbeats 40000000 in
theorem rm3 (l : Launch) (Z : State) (a0 : Array Value) (hw : ∀ d ∈ tables_1, d.before a0 Z = true) (ws : List Jvm.Cond) (p1 : Int32) (p2 : Int32) (h0 : Heap) (n0 : Nat) (Z0 : n0 ≤ h0.size) :
    MetFree l (⟨"java/lang/Math", "min", "(II)I"⟩ : MethodName) (head1 (Jvm.Cond.code (⟨"java/lang/Math", "min", "(II)I"⟩ : MethodName) jdk_29_method_69_code 2 (some .int) :: ws) ({ frames := 0, cells := 0, slots := 0, locals := 0 } : Room)) (fun a U => a = #[(.int p1), (.int p2)] ∧ Z.Warmed39 U.vm ∧ U.heap = h0) (fun _ _ _ _ _ => True) (fun _ U o U' => ∃ v L, o = .returned v ∧ Q3 Z p1 p2 h0 n0 v U'.heap L ∧ FrameEnd U o U' L ({ frames := 0, cells := 0, slots := 0, locals := 0 } : Room).cells ({ frames := 0, cells := 0, slots := 0, locals := 0 } : Room).slots) := by
  refine MetFree.of_bodySF (Jvm.Free.JP.mathPlain rfl (by decide +kernel)) hisR ?_
  intro p e s m args below meth c s₁ Bd hml0 hP hK
  obtain ⟨rfl, hZ, hh⟩ := hP
  have hx := Bd.exec
  have hby := Bd.bytes
  have hml : c.maxLocals = 2 := hml0
  have hown : s.vm.findClass "java/lang/Math" = some m.cls := findClass_of_methodNamed Bd.named
  have hnm := (name_of_methodNamed Bd.named Bd.method).1
  have X0 : Stand p l e ({ frames := 0, cells := 0, slots := 0, locals := 0 } : Room) s m #[(.int p1), (.int p2)] below meth c s₁ [] 0 0 := Stand.of_body Bd
  have e0 : s₁.heap = h0 := by rw [← hh, Bd.state]; rfl
  have N0 := Fr.nil n0
  have pre0 : ∀ t, Steps p.tables e below (s₁.setTop (mkF m 0 #[.val (.int p1), .val (.int p2)] [])) t → Steps p.tables e below (s₁.setTop (entryFrame m #[(.int p1), (.int p2)] 2)) t := fun t k => castTop (ef_3 m p1 p2) k
  have pre1 : ∀ t, Steps p.tables e below (s₁.setTop (mkF m 2 #[.val (.int p1), .val (.int p2)] [(.int p2), (.int p1)])) t → Steps p.tables e below _ t := fun t kt => pre0 t (by
    show Steps p.tables e below (s₁.setTop (mkF m 0 #[.val (.int p1), .val (.int p2)] [])) _
    refine XS.iloadN X0.here hx rfl (hb hby d3_0) rfl ?_
    show Steps p.tables e below (s₁.setTop (mkF m 1 #[.val (.int p1), .val (.int p2)] [(.int p1)])) _
    refine XS.iloadN X0.here hx rfl (hb hby d3_1) rfl ?_
    exact kt)
  by_cases hc2 : p2 < p1
  · obtain ⟨fs, hr, hrun, hended, hW, hsame⟩ := X0.leave (v := some (.int p2)) (fun h => by rw [Bd.returns] at h; cases h)
    refine ⟨_, _, pre1 _ ?_, hrun, hended, _, _, rfl, ?_, ⟨_, rfl⟩, hW, hsame.mono (by decide) (by decide)⟩
    · show Steps p.tables e below (s₁.setTop (mkF m 2 #[.val (.int p1), .val (.int p2)] [(.int p2), (.int p1)])) _
      refine XS.icmpYes X0.here hx rfl (pc0 := 2) (pc' := 9) rfl (hb hby d3_2) rfl (tlt hc2).2.2.1 (by decide) (by decide) ?_
      show Steps p.tables e below (s₁.setTop (mkF m 9 #[.val (.int p1), .val (.int p2)] [])) _
      refine XS.iloadN X0.here hx rfl (hb hby d3_9) rfl ?_
      show Steps p.tables e below (s₁.setTop (mkF m 10 #[.val (.int p1), .val (.int p2)] [(.int p2)])) _
      exact retI X0 hx Bd.returns (hb hby d3_10) hr
    · show Q3 Z p1 p2 h0 n0 _ s₁.heap _
      rw [e0]
      exact ⟨by simp only [own_min, if_pos hc2], N0, rfl⟩
  · obtain ⟨fs, hr, hrun, hended, hW, hsame⟩ := X0.leave (v := some (.int p1)) (fun h => by rw [Bd.returns] at h; cases h)
    refine ⟨_, _, pre1 _ ?_, hrun, hended, _, _, rfl, ?_, ⟨_, rfl⟩, hW, hsame.mono (by decide) (by decide)⟩
    · show Steps p.tables e below (s₁.setTop (mkF m 2 #[.val (.int p1), .val (.int p2)] [(.int p2), (.int p1)])) _
      refine XS.icmpNo X0.here hx rfl (hb hby d3_2) rfl (flt hc2).2.2.1 ?_
      show Steps p.tables e below (s₁.setTop (mkF m 5 #[.val (.int p1), .val (.int p2)] [])) _
      refine XS.iloadN X0.here hx rfl (hb hby d3_5) rfl ?_
      show Steps p.tables e below (s₁.setTop (mkF m 6 #[.val (.int p1), .val (.int p2)] [(.int p1)])) _
      refine XS.goto X0.here hx rfl (pc0 := 6) (pc' := 10) rfl (hb hby d3_6) (by decide) (by decide) ?_
      show Steps p.tables e below (s₁.setTop (mkF m 10 #[.val (.int p1), .val (.int p2)] [(.int p1)])) _
      exact retI X0 hx Bd.returns (hb hby d3_10) hr
    · show Q3 Z p1 p2 h0 n0 _ s₁.heap _
      rw [e0]
      exact ⟨by simp only [own_min, if_neg hc2], N0, rfl⟩
theorem pn_0 : plainName "com/example/recital/recital/check/InForceAndPinLaw" = true := by first | (simp [plainName, overriddenIn]; done) | decide +kernel
theorem ef_0 (m : MethodId) (x0 : Int32) (x1 : Int32) : entryFrame m #[(.int x0), (.int x1)] maxLocals = mkF m 0 #[.val (.int x0), .val (.int x1), .unset, .unset, .unset, .unset, .unset] [] := by first | (simp [entryFrame, mkF, argsToLocals, Value.category, maxLocals]; done) | rfl
theorem pd_0 : parseMethodDescriptor "(I)Lcom/example/recital/recital/check/InForce;" = some ⟨[.int], some (.object "com/example/recital/recital/check/InForce")⟩ := by decide +kernel
theorem pd_1 : parseMethodDescriptor "(Lcom/example/recital/recital/check/InForce;)Lcom/example/recital/recital/check/InForce;" = some ⟨[(.object "com/example/recital/recital/check/InForce")], some (.object "com/example/recital/recital/check/InForce")⟩ := by decide +kernel
theorem pd_2 : parseMethodDescriptor "(II)I" = some ⟨[.int, .int], some .int⟩ := by decide +kernel
def own_f0 (p1 : Int32) (p2 : Int32) (aN : Addr) (aU : Addr) (aY : Addr) : Int32 := if (own_and (own_pick ((p1 &&& (2147483647 : Int32)) % (3 : Int32)) aN aU aY) (own_pick ((p2 &&& (2147483647 : Int32)) % (3 : Int32)) aN aU aY) aN aU aY) = (own_pick (own_min ((p1 &&& (2147483647 : Int32)) % (3 : Int32)) ((p2 &&& (2147483647 : Int32)) % (3 : Int32))) aN aU aY) then ((1 : Int32)) else ((0 : Int32))
def Q0 (Z : State) (p1 : Int32) (p2 : Int32) (aN : Addr) (aU : Addr) (aY : Addr) (h0 : Heap) (n0 : Nat) (v : Option Value) (h : Heap) (L : List Loc) : Prop := v = some (.int (own_f0 p1 p2 aN aU aY)) ∧ Fr n0 L ∧ h = h0
set_option maxRecDepth 65536 in
set_option maxHeartbeats 40000000 in
theorem rm0 (l : Launch) (Z : State) (a0 : Array Value) (hw : ∀ d ∈ tables_1, d.before a0 Z = true) (ws : List Jvm.Cond) (p1 : Int32) (p2 : Int32) (aN : Addr) (aU : Addr) (aY : Addr) (h0 : Heap) (n0 : Nat) (Z0 : n0 ≤ h0.size) (SN : Sta Z h0 "com/example/recital/recital/check/InForce" "NO" "Lcom/example/recital/recital/check/InForce;" (.ref aN)) (SU : Sta Z h0 "com/example/recital/recital/check/InForce" "UNKNOWN" "Lcom/example/recital/recital/check/InForce;" (.ref aU)) (SY : Sta Z h0 "com/example/recital/recital/check/InForce" "YES" "Lcom/example/recital/recital/check/InForce;" (.ref aY)) (EN : Exa Z h0 aN "com/example/recital/recital/check/InForce") (EU : Exa Z h0 aU "com/example/recital/recital/check/InForce") (EY : Exa Z h0 aY "com/example/recital/recital/check/InForce") :
    MetFree l x (head1 (Jvm.Cond.code x code maxLocals ret :: ws) room_1) (fun a U => a = #[(.int p1), (.int p2)] ∧ Z.Warmed39 U.vm ∧ U.heap = h0) (fun _ _ _ _ _ => True) (fun _ U o U' => ∃ v L, o = .returned v ∧ Q0 Z p1 p2 aN aU aY h0 n0 v U'.heap L ∧ FrameEnd U o U' L room_1.cells room_1.slots) := by
  refine MetFree.of_bodySF (plainFor_of_name pn_0) hisR ?_
  intro p e s m args below meth c s₁ Bd hml0 hP hK
  obtain ⟨rfl, hZ, hh⟩ := hP
  have hx := Bd.exec
  have hby := Bd.bytes
  have hml : c.maxLocals = 7 := hml0
  have hown : s.vm.findClass "com/example/recital/recital/check/InForceAndPinLaw" = some m.cls := findClass_of_methodNamed Bd.named
  have hnm := (name_of_methodNamed Bd.named Bd.method).1
  have X0 : Stand p l e room_1 s m #[(.int p1), (.int p2)] below meth c s₁ [] 0 0 := Stand.of_body Bd
  have e0 : s₁.heap = h0 := by rw [← hh, Bd.state]; rfl
  have N0 := Fr.nil n0
  have pre0 : ∀ t, Steps p.tables e below (s₁.setTop (mkF m 0 #[.val (.int p1), .val (.int p2), .unset, .unset, .unset, .unset, .unset] [])) t → Steps p.tables e below (s₁.setTop (entryFrame m #[(.int p1), (.int p2)] maxLocals)) t := fun t k => castTop (ef_0 m p1 p2) k
  have pre1 : ∀ t, Steps p.tables e below (s₁.setTop (mkF m 15 #[.val (.int p1), .val (.int p2), .val (.int ((p1 &&& (2147483647 : Int32)) % (3 : Int32))), .val (.int ((p2 &&& (2147483647 : Int32)) % (3 : Int32))), .unset, .unset, .unset] [(.int ((p1 &&& (2147483647 : Int32)) % (3 : Int32)))])) t → Steps p.tables e below _ t := fun t kt => pre0 t (by
    show Steps p.tables e below (s₁.setTop (mkF m 0 #[.val (.int p1), .val (.int p2), .unset, .unset, .unset, .unset, .unset] [])) _
    refine XS.iloadN X0.here hx rfl (hb hby at_0) rfl ?_
    show Steps p.tables e below (s₁.setTop (mkF m 1 #[.val (.int p1), .val (.int p2), .unset, .unset, .unset, .unset, .unset] [(.int p1)])) _
    refine X0.ldcInt hx hown (mvT hZ (hw _ (List.mem_of_getElem? (i := 0) rfl))) (g := (mkF m 1 #[.val (.int p1), .val (.int p2), .unset, .unset, .unset, .unset, .unset] [(.int p1)])) rfl (hb hby at_1) _ ?_
    show Steps p.tables e below (s₁.setTop (mkF m 3 #[.val (.int p1), .val (.int p2), .unset, .unset, .unset, .unset, .unset] [(.int (2147483647 : Int32)), (.int p1)])) _
    refine XS.iand X0.here hx rfl (hb hby at_3) rfl ?_
    show Steps p.tables e below (s₁.setTop (mkF m 4 #[.val (.int p1), .val (.int p2), .unset, .unset, .unset, .unset, .unset] [(.int (p1 &&& (2147483647 : Int32)))])) _
    refine XS.iconst X0.here hx rfl (hb hby at_4) ?_
    show Steps p.tables e below (s₁.setTop (mkF m 5 #[.val (.int p1), .val (.int p2), .unset, .unset, .unset, .unset, .unset] [(.int (3 : Int32)), (.int (p1 &&& (2147483647 : Int32)))])) _
    refine iremM X0 hx rfl (hb hby at_5) rfl (by decide) ?_
    show Steps p.tables e below (s₁.setTop (mkF m 6 #[.val (.int p1), .val (.int p2), .unset, .unset, .unset, .unset, .unset] [(.int ((p1 &&& (2147483647 : Int32)) % (3 : Int32)))])) _
    refine XS.istoreN X0.here hx rfl (hb hby at_6) rfl (l' := #[.val (.int p1), .val (.int p2), .val (.int ((p1 &&& (2147483647 : Int32)) % (3 : Int32))), .unset, .unset, .unset, .unset]) rfl ?_
    show Steps p.tables e below (s₁.setTop (mkF m 7 #[.val (.int p1), .val (.int p2), .val (.int ((p1 &&& (2147483647 : Int32)) % (3 : Int32))), .unset, .unset, .unset, .unset] [])) _
    refine XS.iloadN X0.here hx rfl (hb hby at_7) rfl ?_
    show Steps p.tables e below (s₁.setTop (mkF m 8 #[.val (.int p1), .val (.int p2), .val (.int ((p1 &&& (2147483647 : Int32)) % (3 : Int32))), .unset, .unset, .unset, .unset] [(.int p2)])) _
    refine X0.ldcInt hx hown (mvT hZ (hw _ (List.mem_of_getElem? (i := 0) rfl))) (g := (mkF m 8 #[.val (.int p1), .val (.int p2), .val (.int ((p1 &&& (2147483647 : Int32)) % (3 : Int32))), .unset, .unset, .unset, .unset] [(.int p2)])) rfl (hb hby at_8) _ ?_
    show Steps p.tables e below (s₁.setTop (mkF m 10 #[.val (.int p1), .val (.int p2), .val (.int ((p1 &&& (2147483647 : Int32)) % (3 : Int32))), .unset, .unset, .unset, .unset] [(.int (2147483647 : Int32)), (.int p2)])) _
    refine XS.iand X0.here hx rfl (hb hby at_10) rfl ?_
    show Steps p.tables e below (s₁.setTop (mkF m 11 #[.val (.int p1), .val (.int p2), .val (.int ((p1 &&& (2147483647 : Int32)) % (3 : Int32))), .unset, .unset, .unset, .unset] [(.int (p2 &&& (2147483647 : Int32)))])) _
    refine XS.iconst X0.here hx rfl (hb hby at_11) ?_
    show Steps p.tables e below (s₁.setTop (mkF m 12 #[.val (.int p1), .val (.int p2), .val (.int ((p1 &&& (2147483647 : Int32)) % (3 : Int32))), .unset, .unset, .unset, .unset] [(.int (3 : Int32)), (.int (p2 &&& (2147483647 : Int32)))])) _
    refine iremM X0 hx rfl (hb hby at_12) rfl (by decide) ?_
    show Steps p.tables e below (s₁.setTop (mkF m 13 #[.val (.int p1), .val (.int p2), .val (.int ((p1 &&& (2147483647 : Int32)) % (3 : Int32))), .unset, .unset, .unset, .unset] [(.int ((p2 &&& (2147483647 : Int32)) % (3 : Int32)))])) _
    refine XS.istoreN X0.here hx rfl (hb hby at_13) rfl (l' := #[.val (.int p1), .val (.int p2), .val (.int ((p1 &&& (2147483647 : Int32)) % (3 : Int32))), .val (.int ((p2 &&& (2147483647 : Int32)) % (3 : Int32))), .unset, .unset, .unset]) rfl ?_
    show Steps p.tables e below (s₁.setTop (mkF m 14 #[.val (.int p1), .val (.int p2), .val (.int ((p1 &&& (2147483647 : Int32)) % (3 : Int32))), .val (.int ((p2 &&& (2147483647 : Int32)) % (3 : Int32))), .unset, .unset, .unset] [])) _
    refine XS.iloadN X0.here hx rfl (hb hby at_14) rfl ?_
    exact kt)
  obtain ⟨_, _, ⟨T2, L2, k2, n2⟩, -, X2, ⟨Lc2, hQ2, l2, y2, z2⟩, st2⟩ := Jvm.LawKit.callS X0 hx (y := (⟨"com/example/recital/recital/check/InForceAndPinLaw", "pick", "(I)Lcom/example/recital/recital/check/InForce;"⟩ : MethodName)) hown (mvT hZ (hw _ (List.mem_of_getElem? (i := 1) rfl))) (mvT hZ (hw _ (List.mem_of_getElem? (i := 2) rfl))) (mvT hZ (hw _ (List.mem_of_getElem? (i := 3) rfl))) (mvT hZ (hw _ (List.mem_of_getElem? (i := 4) rfl))) (by decide) (backOf (W := 0) (rm1 l Z a0 hw [] ((p1 &&& (2147483647 : Int32)) % (3 : Int32)) aN aU aY h0 n0 Z0 SN SU SY) hZ (hw _ (List.mem_of_getElem? (i := 4) rfl)) (hw _ (List.mem_of_getElem? (i := 3) rfl)) (by decide) (by decide)) (g := (mkF m 15 #[.val (.int p1), .val (.int p2), .val (.int ((p1 &&& (2147483647 : Int32)) % (3 : Int32))), .val (.int ((p2 &&& (2147483647 : Int32)) % (3 : Int32))), .unset, .unset, .unset] [(.int ((p1 &&& (2147483647 : Int32)) % (3 : Int32)))])) rfl (by rw [hml]; rfl) (argsL := [(.int ((p1 &&& (2147483647 : Int32)) % (3 : Int32)))]) (rest := []) (lenOf pd_0 rfl) rfl (by show 2 * 0 + _ ≤ _; exact Nat.le_of_eq rfl) (hb hby at_15) (fun _ _ => ⟨rfl, e0, (by decide : 0 + 0 ≤ _), (by decide : 0 + 0 ≤ _)⟩)
  dsimp only [Pt.U, Pt.locs, Pt.cells, Pt.slots] at X2 l2 y2 z2 st2 hQ2
  subst l2 y2 z2
  obtain ⟨rfl, N2q, e2⟩ := hQ2
  have N2 := Fr.app N0 N2q
  have pre3 : ∀ t, Steps p.tables e below (T2.setTop (mkF m 21 #[.val (.int p1), .val (.int p2), .val (.int ((p1 &&& (2147483647 : Int32)) % (3 : Int32))), .val (.int ((p2 &&& (2147483647 : Int32)) % (3 : Int32))), .val (.ref (own_pick ((p1 &&& (2147483647 : Int32)) % (3 : Int32)) aN aU aY)), .unset, .unset] [(.int ((p2 &&& (2147483647 : Int32)) % (3 : Int32)))])) t → Steps p.tables e below _ t := fun t kt => pre1 t (by
    show Steps p.tables e below (s₁.setTop (mkF m 15 #[.val (.int p1), .val (.int p2), .val (.int ((p1 &&& (2147483647 : Int32)) % (3 : Int32))), .val (.int ((p2 &&& (2147483647 : Int32)) % (3 : Int32))), .unset, .unset, .unset] [(.int ((p1 &&& (2147483647 : Int32)) % (3 : Int32)))])) _
    refine st2 _ ?_
    show Steps p.tables e below (T2.setTop (mkF m 18 #[.val (.int p1), .val (.int p2), .val (.int ((p1 &&& (2147483647 : Int32)) % (3 : Int32))), .val (.int ((p2 &&& (2147483647 : Int32)) % (3 : Int32))), .unset, .unset, .unset] [(.ref (own_pick ((p1 &&& (2147483647 : Int32)) % (3 : Int32)) aN aU aY))])) _
    refine XS.astore X2.here hx rfl (hb hby at_18) rfl rfl (l' := #[.val (.int p1), .val (.int p2), .val (.int ((p1 &&& (2147483647 : Int32)) % (3 : Int32))), .val (.int ((p2 &&& (2147483647 : Int32)) % (3 : Int32))), .val (.ref (own_pick ((p1 &&& (2147483647 : Int32)) % (3 : Int32)) aN aU aY)), .unset, .unset]) rfl ?_
    show Steps p.tables e below (T2.setTop (mkF m 20 #[.val (.int p1), .val (.int p2), .val (.int ((p1 &&& (2147483647 : Int32)) % (3 : Int32))), .val (.int ((p2 &&& (2147483647 : Int32)) % (3 : Int32))), .val (.ref (own_pick ((p1 &&& (2147483647 : Int32)) % (3 : Int32)) aN aU aY)), .unset, .unset] [])) _
    refine XS.iloadN X2.here hx rfl (hb hby at_20) rfl ?_
    exact kt)
  obtain ⟨_, _, ⟨T4, L4, k4, n4⟩, -, X4, ⟨Lc4, hQ4, l4, y4, z4⟩, st4⟩ := Jvm.LawKit.callS X2 hx (y := (⟨"com/example/recital/recital/check/InForceAndPinLaw", "pick", "(I)Lcom/example/recital/recital/check/InForce;"⟩ : MethodName)) hown (mvT hZ (hw _ (List.mem_of_getElem? (i := 1) rfl))) (mvT hZ (hw _ (List.mem_of_getElem? (i := 2) rfl))) (mvT hZ (hw _ (List.mem_of_getElem? (i := 3) rfl))) (mvT hZ (hw _ (List.mem_of_getElem? (i := 4) rfl))) (by decide) (backOf (W := 0) (rm1 l Z a0 hw [] ((p2 &&& (2147483647 : Int32)) % (3 : Int32)) aN aU aY h0 n0 Z0 SN SU SY) hZ (hw _ (List.mem_of_getElem? (i := 4) rfl)) (hw _ (List.mem_of_getElem? (i := 3) rfl)) (by decide) (by decide)) (g := (mkF m 21 #[.val (.int p1), .val (.int p2), .val (.int ((p1 &&& (2147483647 : Int32)) % (3 : Int32))), .val (.int ((p2 &&& (2147483647 : Int32)) % (3 : Int32))), .val (.ref (own_pick ((p1 &&& (2147483647 : Int32)) % (3 : Int32)) aN aU aY)), .unset, .unset] [(.int ((p2 &&& (2147483647 : Int32)) % (3 : Int32)))])) rfl (by rw [hml]; rfl) (argsL := [(.int ((p2 &&& (2147483647 : Int32)) % (3 : Int32)))]) (rest := []) (lenOf pd_0 rfl) rfl (by show 2 * 0 + _ ≤ _; exact Nat.le_of_eq rfl) (hb hby at_21) (fun _ _ => ⟨rfl, e2, (by decide : 0 + 0 ≤ _), (by decide : 0 + 0 ≤ _)⟩)
  dsimp only [Pt.U, Pt.locs, Pt.cells, Pt.slots] at X4 l4 y4 z4 st4 hQ4
  subst l4 y4 z4
  obtain ⟨rfl, N4q, e4⟩ := hQ4
  have N4 := Fr.app N2 N4q
  have Eo : Exa Z h0 (own_pick ((p1 &&& (2147483647 : Int32)) % (3 : Int32)) aN aU aY) "com/example/recital/recital/check/InForce" := by unfold own_pick; split <;> (try split) <;> assumption
  have pre5 : ∀ t, Steps p.tables e below (T4.setTop (mkF m 30 #[.val (.int p1), .val (.int p2), .val (.int ((p1 &&& (2147483647 : Int32)) % (3 : Int32))), .val (.int ((p2 &&& (2147483647 : Int32)) % (3 : Int32))), .val (.ref (own_pick ((p1 &&& (2147483647 : Int32)) % (3 : Int32)) aN aU aY)), .val (.ref (own_pick ((p2 &&& (2147483647 : Int32)) % (3 : Int32)) aN aU aY)), .unset] [(.ref (own_pick ((p2 &&& (2147483647 : Int32)) % (3 : Int32)) aN aU aY)), (.ref (own_pick ((p1 &&& (2147483647 : Int32)) % (3 : Int32)) aN aU aY))])) t → Steps p.tables e below _ t := fun t kt => pre3 t (by
    show Steps p.tables e below (T2.setTop (mkF m 21 #[.val (.int p1), .val (.int p2), .val (.int ((p1 &&& (2147483647 : Int32)) % (3 : Int32))), .val (.int ((p2 &&& (2147483647 : Int32)) % (3 : Int32))), .val (.ref (own_pick ((p1 &&& (2147483647 : Int32)) % (3 : Int32)) aN aU aY)), .unset, .unset] [(.int ((p2 &&& (2147483647 : Int32)) % (3 : Int32)))])) _
    refine st4 _ ?_
    show Steps p.tables e below (T4.setTop (mkF m 24 #[.val (.int p1), .val (.int p2), .val (.int ((p1 &&& (2147483647 : Int32)) % (3 : Int32))), .val (.int ((p2 &&& (2147483647 : Int32)) % (3 : Int32))), .val (.ref (own_pick ((p1 &&& (2147483647 : Int32)) % (3 : Int32)) aN aU aY)), .unset, .unset] [(.ref (own_pick ((p2 &&& (2147483647 : Int32)) % (3 : Int32)) aN aU aY))])) _
    refine XS.astore X4.here hx rfl (hb hby at_24) rfl rfl (l' := #[.val (.int p1), .val (.int p2), .val (.int ((p1 &&& (2147483647 : Int32)) % (3 : Int32))), .val (.int ((p2 &&& (2147483647 : Int32)) % (3 : Int32))), .val (.ref (own_pick ((p1 &&& (2147483647 : Int32)) % (3 : Int32)) aN aU aY)), .val (.ref (own_pick ((p2 &&& (2147483647 : Int32)) % (3 : Int32)) aN aU aY)), .unset]) rfl ?_
    show Steps p.tables e below (T4.setTop (mkF m 26 #[.val (.int p1), .val (.int p2), .val (.int ((p1 &&& (2147483647 : Int32)) % (3 : Int32))), .val (.int ((p2 &&& (2147483647 : Int32)) % (3 : Int32))), .val (.ref (own_pick ((p1 &&& (2147483647 : Int32)) % (3 : Int32)) aN aU aY)), .val (.ref (own_pick ((p2 &&& (2147483647 : Int32)) % (3 : Int32)) aN aU aY)), .unset] [])) _
    refine XS.aload X4.here hx rfl (hb hby at_26) rfl rfl ?_
    show Steps p.tables e below (T4.setTop (mkF m 28 #[.val (.int p1), .val (.int p2), .val (.int ((p1 &&& (2147483647 : Int32)) % (3 : Int32))), .val (.int ((p2 &&& (2147483647 : Int32)) % (3 : Int32))), .val (.ref (own_pick ((p1 &&& (2147483647 : Int32)) % (3 : Int32)) aN aU aY)), .val (.ref (own_pick ((p2 &&& (2147483647 : Int32)) % (3 : Int32)) aN aU aY)), .unset] [(.ref (own_pick ((p1 &&& (2147483647 : Int32)) % (3 : Int32)) aN aU aY))])) _
    refine XS.aload X4.here hx rfl (hb hby at_28) rfl rfl ?_
    exact kt)
  obtain ⟨cq6, kq6, q6a, q6b, q6c⟩ := isOf hZ e4 Eo
  obtain ⟨_, _, ⟨T6, L6, k6, n6⟩, -, X6, ⟨Lc6, hQ6, l6, y6, z6⟩, st6⟩ := X4.virtualBack hx (y := (⟨"com/example/recital/recital/check/InForce", "and", "(Lcom/example/recital/recital/check/InForce;)Lcom/example/recital/recital/check/InForce;"⟩ : MethodName)) (z := (⟨"com/example/recital/recital/check/InForce", "and", "(Lcom/example/recital/recital/check/InForce;)Lcom/example/recital/recital/check/InForce;"⟩ : MethodName)) hown (mvT hZ (hw _ (List.mem_of_getElem? (i := 8) rfl))) (mvT hZ (hw _ (List.mem_of_getElem? (i := 9) rfl))) (notFace_of_selects (args := #[]) (mvT hZ (hw _ (List.mem_of_getElem? (i := 11) rfl)))) (mvT hZ (hw _ (List.mem_of_getElem? (i := 11) rfl))) (mvT hZ (hw _ (List.mem_of_getElem? (i := 10) rfl))) (by decide) (backOf (W := 0) (rm2 l Z a0 hw [] (own_pick ((p1 &&& (2147483647 : Int32)) % (3 : Int32)) aN aU aY) (own_pick ((p2 &&& (2147483647 : Int32)) % (3 : Int32)) aN aU aY) aN aU aY h0 n0 Z0 SN SU SY) hZ (hw _ (List.mem_of_getElem? (i := 12) rfl)) (hw _ (List.mem_of_getElem? (i := 6) rfl)) (by decide) (by decide)) q6a q6c (g := (mkF m 30 #[.val (.int p1), .val (.int p2), .val (.int ((p1 &&& (2147483647 : Int32)) % (3 : Int32))), .val (.int ((p2 &&& (2147483647 : Int32)) % (3 : Int32))), .val (.ref (own_pick ((p1 &&& (2147483647 : Int32)) % (3 : Int32)) aN aU aY)), .val (.ref (own_pick ((p2 &&& (2147483647 : Int32)) % (3 : Int32)) aN aU aY)), .unset] [(.ref (own_pick ((p2 &&& (2147483647 : Int32)) % (3 : Int32)) aN aU aY)), (.ref (own_pick ((p1 &&& (2147483647 : Int32)) % (3 : Int32)) aN aU aY))])) rfl (by rw [hml]; rfl) (Steps.refl _) (argsL := [(.ref (own_pick ((p2 &&& (2147483647 : Int32)) % (3 : Int32)) aN aU aY))]) (rest := []) (lenOf pd_1 rfl) rfl (by show 2 * 0 + _ ≤ _; exact Nat.le_of_eq rfl) (hb hby at_30) (fun _ _ => ⟨rfl, e4, (by decide : 0 + 0 ≤ _), (by decide : 0 + 0 ≤ _)⟩)
  dsimp only [Pt.U, Pt.locs, Pt.cells, Pt.slots] at X6 l6 y6 z6 st6 hQ6
  subst l6 y6 z6
  obtain ⟨rfl, N6q, e6⟩ := hQ6
  have N6 := Fr.app N4 N6q
  have pre7 : ∀ t, Steps p.tables e below (T6.setTop (mkF m 39 #[.val (.int p1), .val (.int p2), .val (.int ((p1 &&& (2147483647 : Int32)) % (3 : Int32))), .val (.int ((p2 &&& (2147483647 : Int32)) % (3 : Int32))), .val (.ref (own_pick ((p1 &&& (2147483647 : Int32)) % (3 : Int32)) aN aU aY)), .val (.ref (own_pick ((p2 &&& (2147483647 : Int32)) % (3 : Int32)) aN aU aY)), .val (.ref (own_and (own_pick ((p1 &&& (2147483647 : Int32)) % (3 : Int32)) aN aU aY) (own_pick ((p2 &&& (2147483647 : Int32)) % (3 : Int32)) aN aU aY) aN aU aY))] [(.int ((p2 &&& (2147483647 : Int32)) % (3 : Int32))), (.int ((p1 &&& (2147483647 : Int32)) % (3 : Int32))), (.ref (own_and (own_pick ((p1 &&& (2147483647 : Int32)) % (3 : Int32)) aN aU aY) (own_pick ((p2 &&& (2147483647 : Int32)) % (3 : Int32)) aN aU aY) aN aU aY))])) t → Steps p.tables e below _ t := fun t kt => pre5 t (by
    show Steps p.tables e below (T4.setTop (mkF m 30 #[.val (.int p1), .val (.int p2), .val (.int ((p1 &&& (2147483647 : Int32)) % (3 : Int32))), .val (.int ((p2 &&& (2147483647 : Int32)) % (3 : Int32))), .val (.ref (own_pick ((p1 &&& (2147483647 : Int32)) % (3 : Int32)) aN aU aY)), .val (.ref (own_pick ((p2 &&& (2147483647 : Int32)) % (3 : Int32)) aN aU aY)), .unset] [(.ref (own_pick ((p2 &&& (2147483647 : Int32)) % (3 : Int32)) aN aU aY)), (.ref (own_pick ((p1 &&& (2147483647 : Int32)) % (3 : Int32)) aN aU aY))])) _
    refine st6.trans ?_
    show Steps p.tables e below (T6.setTop (mkF m 33 #[.val (.int p1), .val (.int p2), .val (.int ((p1 &&& (2147483647 : Int32)) % (3 : Int32))), .val (.int ((p2 &&& (2147483647 : Int32)) % (3 : Int32))), .val (.ref (own_pick ((p1 &&& (2147483647 : Int32)) % (3 : Int32)) aN aU aY)), .val (.ref (own_pick ((p2 &&& (2147483647 : Int32)) % (3 : Int32)) aN aU aY)), .unset] [(.ref (own_and (own_pick ((p1 &&& (2147483647 : Int32)) % (3 : Int32)) aN aU aY) (own_pick ((p2 &&& (2147483647 : Int32)) % (3 : Int32)) aN aU aY) aN aU aY))])) _
    refine XS.astore X6.here hx rfl (hb hby at_33) rfl rfl (l' := #[.val (.int p1), .val (.int p2), .val (.int ((p1 &&& (2147483647 : Int32)) % (3 : Int32))), .val (.int ((p2 &&& (2147483647 : Int32)) % (3 : Int32))), .val (.ref (own_pick ((p1 &&& (2147483647 : Int32)) % (3 : Int32)) aN aU aY)), .val (.ref (own_pick ((p2 &&& (2147483647 : Int32)) % (3 : Int32)) aN aU aY)), .val (.ref (own_and (own_pick ((p1 &&& (2147483647 : Int32)) % (3 : Int32)) aN aU aY) (own_pick ((p2 &&& (2147483647 : Int32)) % (3 : Int32)) aN aU aY) aN aU aY))]) rfl ?_
    show Steps p.tables e below (T6.setTop (mkF m 35 #[.val (.int p1), .val (.int p2), .val (.int ((p1 &&& (2147483647 : Int32)) % (3 : Int32))), .val (.int ((p2 &&& (2147483647 : Int32)) % (3 : Int32))), .val (.ref (own_pick ((p1 &&& (2147483647 : Int32)) % (3 : Int32)) aN aU aY)), .val (.ref (own_pick ((p2 &&& (2147483647 : Int32)) % (3 : Int32)) aN aU aY)), .val (.ref (own_and (own_pick ((p1 &&& (2147483647 : Int32)) % (3 : Int32)) aN aU aY) (own_pick ((p2 &&& (2147483647 : Int32)) % (3 : Int32)) aN aU aY) aN aU aY))] [])) _
    refine XS.aload X6.here hx rfl (hb hby at_35) rfl rfl ?_
    show Steps p.tables e below (T6.setTop (mkF m 37 #[.val (.int p1), .val (.int p2), .val (.int ((p1 &&& (2147483647 : Int32)) % (3 : Int32))), .val (.int ((p2 &&& (2147483647 : Int32)) % (3 : Int32))), .val (.ref (own_pick ((p1 &&& (2147483647 : Int32)) % (3 : Int32)) aN aU aY)), .val (.ref (own_pick ((p2 &&& (2147483647 : Int32)) % (3 : Int32)) aN aU aY)), .val (.ref (own_and (own_pick ((p1 &&& (2147483647 : Int32)) % (3 : Int32)) aN aU aY) (own_pick ((p2 &&& (2147483647 : Int32)) % (3 : Int32)) aN aU aY) aN aU aY))] [(.ref (own_and (own_pick ((p1 &&& (2147483647 : Int32)) % (3 : Int32)) aN aU aY) (own_pick ((p2 &&& (2147483647 : Int32)) % (3 : Int32)) aN aU aY) aN aU aY))])) _
    refine XS.iloadN X6.here hx rfl (hb hby at_37) rfl ?_
    show Steps p.tables e below (T6.setTop (mkF m 38 #[.val (.int p1), .val (.int p2), .val (.int ((p1 &&& (2147483647 : Int32)) % (3 : Int32))), .val (.int ((p2 &&& (2147483647 : Int32)) % (3 : Int32))), .val (.ref (own_pick ((p1 &&& (2147483647 : Int32)) % (3 : Int32)) aN aU aY)), .val (.ref (own_pick ((p2 &&& (2147483647 : Int32)) % (3 : Int32)) aN aU aY)), .val (.ref (own_and (own_pick ((p1 &&& (2147483647 : Int32)) % (3 : Int32)) aN aU aY) (own_pick ((p2 &&& (2147483647 : Int32)) % (3 : Int32)) aN aU aY) aN aU aY))] [(.int ((p1 &&& (2147483647 : Int32)) % (3 : Int32))), (.ref (own_and (own_pick ((p1 &&& (2147483647 : Int32)) % (3 : Int32)) aN aU aY) (own_pick ((p2 &&& (2147483647 : Int32)) % (3 : Int32)) aN aU aY) aN aU aY))])) _
    refine XS.iloadN X6.here hx rfl (hb hby at_38) rfl ?_
    exact kt)
  obtain ⟨_, _, ⟨T8, L8, k8, n8⟩, -, X8, ⟨Lc8, hQ8, l8, y8, z8⟩, st8⟩ := Jvm.LawKit.callS X6 hx (y := (⟨"java/lang/Math", "min", "(II)I"⟩ : MethodName)) hown (mvT hZ (hw _ (List.mem_of_getElem? (i := 14) rfl))) (mvT hZ (hw _ (List.mem_of_getElem? (i := 15) rfl))) (mvT hZ (hw _ (List.mem_of_getElem? (i := 16) rfl))) (mvT hZ (hw _ (List.mem_of_getElem? (i := 17) rfl))) (by decide) (backOf (W := 1) (rm3 l Z a0 hw [] ((p1 &&& (2147483647 : Int32)) % (3 : Int32)) ((p2 &&& (2147483647 : Int32)) % (3 : Int32)) h0 n0 Z0) hZ (hw _ (List.mem_of_getElem? (i := 17) rfl)) (hw _ (List.mem_of_getElem? (i := 16) rfl)) (by decide) (by decide)) (g := (mkF m 39 #[.val (.int p1), .val (.int p2), .val (.int ((p1 &&& (2147483647 : Int32)) % (3 : Int32))), .val (.int ((p2 &&& (2147483647 : Int32)) % (3 : Int32))), .val (.ref (own_pick ((p1 &&& (2147483647 : Int32)) % (3 : Int32)) aN aU aY)), .val (.ref (own_pick ((p2 &&& (2147483647 : Int32)) % (3 : Int32)) aN aU aY)), .val (.ref (own_and (own_pick ((p1 &&& (2147483647 : Int32)) % (3 : Int32)) aN aU aY) (own_pick ((p2 &&& (2147483647 : Int32)) % (3 : Int32)) aN aU aY) aN aU aY))] [(.int ((p2 &&& (2147483647 : Int32)) % (3 : Int32))), (.int ((p1 &&& (2147483647 : Int32)) % (3 : Int32))), (.ref (own_and (own_pick ((p1 &&& (2147483647 : Int32)) % (3 : Int32)) aN aU aY) (own_pick ((p2 &&& (2147483647 : Int32)) % (3 : Int32)) aN aU aY) aN aU aY))])) rfl (by rw [hml]; rfl) (argsL := [(.int ((p1 &&& (2147483647 : Int32)) % (3 : Int32))), (.int ((p2 &&& (2147483647 : Int32)) % (3 : Int32)))]) (rest := [(.ref (own_and (own_pick ((p1 &&& (2147483647 : Int32)) % (3 : Int32)) aN aU aY) (own_pick ((p2 &&& (2147483647 : Int32)) % (3 : Int32)) aN aU aY) aN aU aY))]) (lenOf pd_2 rfl) rfl (by show 2 * 0 + _ ≤ _; exact Nat.le_of_eq rfl) (hb hby at_39) (fun _ _ => ⟨rfl, e6, (by decide : 0 + 0 ≤ _), (by decide : 0 + 0 ≤ _)⟩)
  dsimp only [Pt.U, Pt.locs, Pt.cells, Pt.slots] at X8 l8 y8 z8 st8 hQ8
  subst l8 y8 z8
  obtain ⟨rfl, N8q, e8⟩ := hQ8
  have N8 := Fr.app N6 N8q
  have pre9 : ∀ t, Steps p.tables e below (T8.setTop (mkF m 42 #[.val (.int p1), .val (.int p2), .val (.int ((p1 &&& (2147483647 : Int32)) % (3 : Int32))), .val (.int ((p2 &&& (2147483647 : Int32)) % (3 : Int32))), .val (.ref (own_pick ((p1 &&& (2147483647 : Int32)) % (3 : Int32)) aN aU aY)), .val (.ref (own_pick ((p2 &&& (2147483647 : Int32)) % (3 : Int32)) aN aU aY)), .val (.ref (own_and (own_pick ((p1 &&& (2147483647 : Int32)) % (3 : Int32)) aN aU aY) (own_pick ((p2 &&& (2147483647 : Int32)) % (3 : Int32)) aN aU aY) aN aU aY))] [(.int (own_min ((p1 &&& (2147483647 : Int32)) % (3 : Int32)) ((p2 &&& (2147483647 : Int32)) % (3 : Int32)))), (.ref (own_and (own_pick ((p1 &&& (2147483647 : Int32)) % (3 : Int32)) aN aU aY) (own_pick ((p2 &&& (2147483647 : Int32)) % (3 : Int32)) aN aU aY) aN aU aY))])) t → Steps p.tables e below _ t := fun t kt => pre7 t (by
    show Steps p.tables e below (T6.setTop (mkF m 39 #[.val (.int p1), .val (.int p2), .val (.int ((p1 &&& (2147483647 : Int32)) % (3 : Int32))), .val (.int ((p2 &&& (2147483647 : Int32)) % (3 : Int32))), .val (.ref (own_pick ((p1 &&& (2147483647 : Int32)) % (3 : Int32)) aN aU aY)), .val (.ref (own_pick ((p2 &&& (2147483647 : Int32)) % (3 : Int32)) aN aU aY)), .val (.ref (own_and (own_pick ((p1 &&& (2147483647 : Int32)) % (3 : Int32)) aN aU aY) (own_pick ((p2 &&& (2147483647 : Int32)) % (3 : Int32)) aN aU aY) aN aU aY))] [(.int ((p2 &&& (2147483647 : Int32)) % (3 : Int32))), (.int ((p1 &&& (2147483647 : Int32)) % (3 : Int32))), (.ref (own_and (own_pick ((p1 &&& (2147483647 : Int32)) % (3 : Int32)) aN aU aY) (own_pick ((p2 &&& (2147483647 : Int32)) % (3 : Int32)) aN aU aY) aN aU aY))])) _
    refine st8 _ ?_
    exact kt)
  obtain ⟨_, _, ⟨T10, L10, k10, n10⟩, -, X10, ⟨Lc10, hQ10, l10, y10, z10⟩, st10⟩ := Jvm.LawKit.callS X8 hx (y := (⟨"com/example/recital/recital/check/InForceAndPinLaw", "pick", "(I)Lcom/example/recital/recital/check/InForce;"⟩ : MethodName)) hown (mvT hZ (hw _ (List.mem_of_getElem? (i := 1) rfl))) (mvT hZ (hw _ (List.mem_of_getElem? (i := 2) rfl))) (mvT hZ (hw _ (List.mem_of_getElem? (i := 3) rfl))) (mvT hZ (hw _ (List.mem_of_getElem? (i := 4) rfl))) (by decide) (backOf (W := 1) (rm1 l Z a0 hw [] (own_min ((p1 &&& (2147483647 : Int32)) % (3 : Int32)) ((p2 &&& (2147483647 : Int32)) % (3 : Int32))) aN aU aY h0 n0 Z0 SN SU SY) hZ (hw _ (List.mem_of_getElem? (i := 4) rfl)) (hw _ (List.mem_of_getElem? (i := 3) rfl)) (by decide) (by decide)) (g := (mkF m 42 #[.val (.int p1), .val (.int p2), .val (.int ((p1 &&& (2147483647 : Int32)) % (3 : Int32))), .val (.int ((p2 &&& (2147483647 : Int32)) % (3 : Int32))), .val (.ref (own_pick ((p1 &&& (2147483647 : Int32)) % (3 : Int32)) aN aU aY)), .val (.ref (own_pick ((p2 &&& (2147483647 : Int32)) % (3 : Int32)) aN aU aY)), .val (.ref (own_and (own_pick ((p1 &&& (2147483647 : Int32)) % (3 : Int32)) aN aU aY) (own_pick ((p2 &&& (2147483647 : Int32)) % (3 : Int32)) aN aU aY) aN aU aY))] [(.int (own_min ((p1 &&& (2147483647 : Int32)) % (3 : Int32)) ((p2 &&& (2147483647 : Int32)) % (3 : Int32)))), (.ref (own_and (own_pick ((p1 &&& (2147483647 : Int32)) % (3 : Int32)) aN aU aY) (own_pick ((p2 &&& (2147483647 : Int32)) % (3 : Int32)) aN aU aY) aN aU aY))])) rfl (by rw [hml]; rfl) (argsL := [(.int (own_min ((p1 &&& (2147483647 : Int32)) % (3 : Int32)) ((p2 &&& (2147483647 : Int32)) % (3 : Int32))))]) (rest := [(.ref (own_and (own_pick ((p1 &&& (2147483647 : Int32)) % (3 : Int32)) aN aU aY) (own_pick ((p2 &&& (2147483647 : Int32)) % (3 : Int32)) aN aU aY) aN aU aY))]) (lenOf pd_0 rfl) rfl (by show 2 * 0 + _ ≤ _; exact Nat.le_of_eq rfl) (hb hby at_42) (fun _ _ => ⟨rfl, e8, (by decide : 0 + 0 ≤ _), (by decide : 0 + 0 ≤ _)⟩)
  dsimp only [Pt.U, Pt.locs, Pt.cells, Pt.slots] at X10 l10 y10 z10 st10 hQ10
  subst l10 y10 z10
  obtain ⟨rfl, N10q, e10⟩ := hQ10
  have N10 := Fr.app N8 N10q
  have pre11 : ∀ t, Steps p.tables e below (T10.setTop (mkF m 45 #[.val (.int p1), .val (.int p2), .val (.int ((p1 &&& (2147483647 : Int32)) % (3 : Int32))), .val (.int ((p2 &&& (2147483647 : Int32)) % (3 : Int32))), .val (.ref (own_pick ((p1 &&& (2147483647 : Int32)) % (3 : Int32)) aN aU aY)), .val (.ref (own_pick ((p2 &&& (2147483647 : Int32)) % (3 : Int32)) aN aU aY)), .val (.ref (own_and (own_pick ((p1 &&& (2147483647 : Int32)) % (3 : Int32)) aN aU aY) (own_pick ((p2 &&& (2147483647 : Int32)) % (3 : Int32)) aN aU aY) aN aU aY))] [(.ref (own_pick (own_min ((p1 &&& (2147483647 : Int32)) % (3 : Int32)) ((p2 &&& (2147483647 : Int32)) % (3 : Int32))) aN aU aY)), (.ref (own_and (own_pick ((p1 &&& (2147483647 : Int32)) % (3 : Int32)) aN aU aY) (own_pick ((p2 &&& (2147483647 : Int32)) % (3 : Int32)) aN aU aY) aN aU aY))])) t → Steps p.tables e below _ t := fun t kt => pre9 t (by
    show Steps p.tables e below (T8.setTop (mkF m 42 #[.val (.int p1), .val (.int p2), .val (.int ((p1 &&& (2147483647 : Int32)) % (3 : Int32))), .val (.int ((p2 &&& (2147483647 : Int32)) % (3 : Int32))), .val (.ref (own_pick ((p1 &&& (2147483647 : Int32)) % (3 : Int32)) aN aU aY)), .val (.ref (own_pick ((p2 &&& (2147483647 : Int32)) % (3 : Int32)) aN aU aY)), .val (.ref (own_and (own_pick ((p1 &&& (2147483647 : Int32)) % (3 : Int32)) aN aU aY) (own_pick ((p2 &&& (2147483647 : Int32)) % (3 : Int32)) aN aU aY) aN aU aY))] [(.int (own_min ((p1 &&& (2147483647 : Int32)) % (3 : Int32)) ((p2 &&& (2147483647 : Int32)) % (3 : Int32)))), (.ref (own_and (own_pick ((p1 &&& (2147483647 : Int32)) % (3 : Int32)) aN aU aY) (own_pick ((p2 &&& (2147483647 : Int32)) % (3 : Int32)) aN aU aY) aN aU aY))])) _
    refine st10 _ ?_
    exact kt)
  by_cases hc45 : (own_and (own_pick ((p1 &&& (2147483647 : Int32)) % (3 : Int32)) aN aU aY) (own_pick ((p2 &&& (2147483647 : Int32)) % (3 : Int32)) aN aU aY) aN aU aY) = (own_pick (own_min ((p1 &&& (2147483647 : Int32)) % (3 : Int32)) ((p2 &&& (2147483647 : Int32)) % (3 : Int32))) aN aU aY)
  · obtain ⟨fs, hr, hrun, hended, hW, hsame⟩ := X10.leave (v := some (.int (1 : Int32))) (fun h => by rw [Bd.returns] at h; cases h)
    refine ⟨_, _, pre11 _ ?_, hrun, hended, _, _, rfl, ?_, ⟨_, rfl⟩, hW, hsame.mono (by decide) (by decide)⟩
    · show Steps p.tables e below (T10.setTop (mkF m 45 #[.val (.int p1), .val (.int p2), .val (.int ((p1 &&& (2147483647 : Int32)) % (3 : Int32))), .val (.int ((p2 &&& (2147483647 : Int32)) % (3 : Int32))), .val (.ref (own_pick ((p1 &&& (2147483647 : Int32)) % (3 : Int32)) aN aU aY)), .val (.ref (own_pick ((p2 &&& (2147483647 : Int32)) % (3 : Int32)) aN aU aY)), .val (.ref (own_and (own_pick ((p1 &&& (2147483647 : Int32)) % (3 : Int32)) aN aU aY) (own_pick ((p2 &&& (2147483647 : Int32)) % (3 : Int32)) aN aU aY) aN aU aY))] [(.ref (own_pick (own_min ((p1 &&& (2147483647 : Int32)) % (3 : Int32)) ((p2 &&& (2147483647 : Int32)) % (3 : Int32))) aN aU aY)), (.ref (own_and (own_pick ((p1 &&& (2147483647 : Int32)) % (3 : Int32)) aN aU aY) (own_pick ((p2 &&& (2147483647 : Int32)) % (3 : Int32)) aN aU aY) aN aU aY))])) _
      refine Jvm.RoadKit.acmp (g := (mkF m 45 #[.val (.int p1), .val (.int p2), .val (.int ((p1 &&& (2147483647 : Int32)) % (3 : Int32))), .val (.int ((p2 &&& (2147483647 : Int32)) % (3 : Int32))), .val (.ref (own_pick ((p1 &&& (2147483647 : Int32)) % (3 : Int32)) aN aU aY)), .val (.ref (own_pick ((p2 &&& (2147483647 : Int32)) % (3 : Int32)) aN aU aY)), .val (.ref (own_and (own_pick ((p1 &&& (2147483647 : Int32)) % (3 : Int32)) aN aU aY) (own_pick ((p2 &&& (2147483647 : Int32)) % (3 : Int32)) aN aU aY) aN aU aY))] [(.ref (own_pick (own_min ((p1 &&& (2147483647 : Int32)) % (3 : Int32)) ((p2 &&& (2147483647 : Int32)) % (3 : Int32))) aN aU aY)), (.ref (own_and (own_pick ((p1 &&& (2147483647 : Int32)) % (3 : Int32)) aN aU aY) (own_pick ((p2 &&& (2147483647 : Int32)) % (3 : Int32)) aN aU aY) aN aU aY))])) X10 hx rfl rfl rfl (pc0 := 45) (pc' := 48) (same := true) rfl (hb hby at_45) rfl (decide_eq_true (congrArg Value.ref hc45)) (by decide) (by decide) ?_
      show Steps p.tables e below (T10.setTop (mkF m 48 #[.val (.int p1), .val (.int p2), .val (.int ((p1 &&& (2147483647 : Int32)) % (3 : Int32))), .val (.int ((p2 &&& (2147483647 : Int32)) % (3 : Int32))), .val (.ref (own_pick ((p1 &&& (2147483647 : Int32)) % (3 : Int32)) aN aU aY)), .val (.ref (own_pick ((p2 &&& (2147483647 : Int32)) % (3 : Int32)) aN aU aY)), .val (.ref (own_and (own_pick ((p1 &&& (2147483647 : Int32)) % (3 : Int32)) aN aU aY) (own_pick ((p2 &&& (2147483647 : Int32)) % (3 : Int32)) aN aU aY) aN aU aY))] [])) _
      refine XS.iconst X10.here hx rfl (hb hby at_48) ?_
      show Steps p.tables e below (T10.setTop (mkF m 49 #[.val (.int p1), .val (.int p2), .val (.int ((p1 &&& (2147483647 : Int32)) % (3 : Int32))), .val (.int ((p2 &&& (2147483647 : Int32)) % (3 : Int32))), .val (.ref (own_pick ((p1 &&& (2147483647 : Int32)) % (3 : Int32)) aN aU aY)), .val (.ref (own_pick ((p2 &&& (2147483647 : Int32)) % (3 : Int32)) aN aU aY)), .val (.ref (own_and (own_pick ((p1 &&& (2147483647 : Int32)) % (3 : Int32)) aN aU aY) (own_pick ((p2 &&& (2147483647 : Int32)) % (3 : Int32)) aN aU aY) aN aU aY))] [(.int (1 : Int32))])) _
      refine XS.goto X10.here hx rfl (pc0 := 49) (pc' := 53) rfl (hb hby at_49) (by decide) (by decide) ?_
      show Steps p.tables e below (T10.setTop (mkF m 53 #[.val (.int p1), .val (.int p2), .val (.int ((p1 &&& (2147483647 : Int32)) % (3 : Int32))), .val (.int ((p2 &&& (2147483647 : Int32)) % (3 : Int32))), .val (.ref (own_pick ((p1 &&& (2147483647 : Int32)) % (3 : Int32)) aN aU aY)), .val (.ref (own_pick ((p2 &&& (2147483647 : Int32)) % (3 : Int32)) aN aU aY)), .val (.ref (own_and (own_pick ((p1 &&& (2147483647 : Int32)) % (3 : Int32)) aN aU aY) (own_pick ((p2 &&& (2147483647 : Int32)) % (3 : Int32)) aN aU aY) aN aU aY))] [(.int (1 : Int32))])) _
      exact retN X10 hx (t := .boolean) Bd.returns (by simp) (hb hby at_53) hr
    · show Q0 Z p1 p2 aN aU aY h0 n0 _ T10.heap _
      rw [e10]
      exact ⟨by simp only [own_f0, if_pos hc45], N10, rfl⟩
  · obtain ⟨fs, hr, hrun, hended, hW, hsame⟩ := X10.leave (v := some (.int (0 : Int32))) (fun h => by rw [Bd.returns] at h; cases h)
    refine ⟨_, _, pre11 _ ?_, hrun, hended, _, _, rfl, ?_, ⟨_, rfl⟩, hW, hsame.mono (by decide) (by decide)⟩
    · show Steps p.tables e below (T10.setTop (mkF m 45 #[.val (.int p1), .val (.int p2), .val (.int ((p1 &&& (2147483647 : Int32)) % (3 : Int32))), .val (.int ((p2 &&& (2147483647 : Int32)) % (3 : Int32))), .val (.ref (own_pick ((p1 &&& (2147483647 : Int32)) % (3 : Int32)) aN aU aY)), .val (.ref (own_pick ((p2 &&& (2147483647 : Int32)) % (3 : Int32)) aN aU aY)), .val (.ref (own_and (own_pick ((p1 &&& (2147483647 : Int32)) % (3 : Int32)) aN aU aY) (own_pick ((p2 &&& (2147483647 : Int32)) % (3 : Int32)) aN aU aY) aN aU aY))] [(.ref (own_pick (own_min ((p1 &&& (2147483647 : Int32)) % (3 : Int32)) ((p2 &&& (2147483647 : Int32)) % (3 : Int32))) aN aU aY)), (.ref (own_and (own_pick ((p1 &&& (2147483647 : Int32)) % (3 : Int32)) aN aU aY) (own_pick ((p2 &&& (2147483647 : Int32)) % (3 : Int32)) aN aU aY) aN aU aY))])) _
      refine Jvm.RoadKit.acmp (g := (mkF m 45 #[.val (.int p1), .val (.int p2), .val (.int ((p1 &&& (2147483647 : Int32)) % (3 : Int32))), .val (.int ((p2 &&& (2147483647 : Int32)) % (3 : Int32))), .val (.ref (own_pick ((p1 &&& (2147483647 : Int32)) % (3 : Int32)) aN aU aY)), .val (.ref (own_pick ((p2 &&& (2147483647 : Int32)) % (3 : Int32)) aN aU aY)), .val (.ref (own_and (own_pick ((p1 &&& (2147483647 : Int32)) % (3 : Int32)) aN aU aY) (own_pick ((p2 &&& (2147483647 : Int32)) % (3 : Int32)) aN aU aY) aN aU aY))] [(.ref (own_pick (own_min ((p1 &&& (2147483647 : Int32)) % (3 : Int32)) ((p2 &&& (2147483647 : Int32)) % (3 : Int32))) aN aU aY)), (.ref (own_and (own_pick ((p1 &&& (2147483647 : Int32)) % (3 : Int32)) aN aU aY) (own_pick ((p2 &&& (2147483647 : Int32)) % (3 : Int32)) aN aU aY) aN aU aY))])) X10 hx rfl rfl rfl (pc0 := 45) (pc' := 52) (same := false) rfl (hb hby at_45) rfl (decide_eq_false fun q => hc45 (Value.ref.inj q)) (by decide) (by decide) ?_
      show Steps p.tables e below (T10.setTop (mkF m 52 #[.val (.int p1), .val (.int p2), .val (.int ((p1 &&& (2147483647 : Int32)) % (3 : Int32))), .val (.int ((p2 &&& (2147483647 : Int32)) % (3 : Int32))), .val (.ref (own_pick ((p1 &&& (2147483647 : Int32)) % (3 : Int32)) aN aU aY)), .val (.ref (own_pick ((p2 &&& (2147483647 : Int32)) % (3 : Int32)) aN aU aY)), .val (.ref (own_and (own_pick ((p1 &&& (2147483647 : Int32)) % (3 : Int32)) aN aU aY) (own_pick ((p2 &&& (2147483647 : Int32)) % (3 : Int32)) aN aU aY) aN aU aY))] [])) _
      refine XS.iconst X10.here hx rfl (hb hby at_52) ?_
      show Steps p.tables e below (T10.setTop (mkF m 53 #[.val (.int p1), .val (.int p2), .val (.int ((p1 &&& (2147483647 : Int32)) % (3 : Int32))), .val (.int ((p2 &&& (2147483647 : Int32)) % (3 : Int32))), .val (.ref (own_pick ((p1 &&& (2147483647 : Int32)) % (3 : Int32)) aN aU aY)), .val (.ref (own_pick ((p2 &&& (2147483647 : Int32)) % (3 : Int32)) aN aU aY)), .val (.ref (own_and (own_pick ((p1 &&& (2147483647 : Int32)) % (3 : Int32)) aN aU aY) (own_pick ((p2 &&& (2147483647 : Int32)) % (3 : Int32)) aN aU aY) aN aU aY))] [(.int (0 : Int32))])) _
      exact retN X10 hx (t := .boolean) Bd.returns (by simp) (hb hby at_53) hr
    · show Q0 Z p1 p2 aN aU aY h0 n0 _ T10.heap _
      rw [e10]
      exact ⟨by simp only [own_f0, if_neg hc45], N10, rfl⟩

theorem own_three (x : Int32) : (x &&& (2147483647 : Int32)) % (3 : Int32) = 0 ∨ (x &&& (2147483647 : Int32)) % (3 : Int32) = 1 ∨ (x &&& (2147483647 : Int32)) % (3 : Int32) = 2 := by
  have h := Jvm.Kit.i32_mask x 2147483647 (k := 31) (by decide) (by decide)
  have h2 := Jvm.Kit.i32_rem_nonneg (x := x &&& 2147483647) (y := 3) (by omega)
  have h3 : (3 : Int32).toInt = 3 := by decide
  rw [h3] at h2
  have k0 : (0 : Int32).toInt = 0 := by decide
  have k1 : (1 : Int32).toInt = 1 := by decide
  have k2 : (2 : Int32).toInt = 2 := by decide
  rw [← Int32.toInt_inj, ← Int32.toInt_inj, ← Int32.toInt_inj, k0, k1, k2]
  omega
theorem own_law (a b : Int32) (n u y : Addr) (h1 : n ≠ u) (h2 : n ≠ y) (h3 : u ≠ y) : own_f0 a b n u y = 1 := by
  unfold own_f0
  have ha := own_three a
  have hb := own_three b
  generalize (a &&& (2147483647 : Int32)) % (3 : Int32) = i at *
  generalize (b &&& (2147483647 : Int32)) % (3 : Int32) = j at *
  rcases ha with rfl | rfl | rfl <;> rcases hb with rfl | rfl | rfl <;> simp [own_pick, own_and, own_min, h1, h2, h3, h1.symm, h2.symm, h3.symm]
theorem own_static {args : Array Value} {s : State} {f C D : String} (h : (Jvm.Cond.exactly (Jvm.Term.static C f D) C).value args s none s [] = some true) : ∃ a, (Jvm.Term.static C f D).eval args s none [] s = some (.ref a) := by
  obtain ⟨a', c', cell, k, e1, -⟩ := Cond.exactly_spec (Cond.before_iff.mpr h)
  exact ⟨a', e1⟩
theorem own_ord {args : Array Value} {s : State} {t : Term} {a : Addr} {C f D : String} {k : Int32} (e : t.eval args s none [] s = some (.ref a)) (h : (Jvm.Cond.eq (Jvm.Term.field t C f D) (Jvm.Term.int k)).value args s none s [] = some true) : s.fieldOf? a C f D = some (.int k) := by
  obtain ⟨v, h1, h2⟩ := Cond.eq_worth h
  have h3 : v = .int k := (Option.some.inj h2).symm
  subst h3
  have h4 : (Jvm.Term.field t C f D).eval args s none [] s = s.fieldOf? a C f D := by simp only [Term.eval, e, Option.bind_eq_bind, Option.bind_some]
  rw [← h4]; exact h1
set_option maxRecDepth 65536 in
set_option maxHeartbeats 40000000 in
theorem comes_1 {Post : Tables → Env → Array Value → State → Outcome → State → Prop} (hpost : ∀ tb e args s v u, (limb_1_1.after args s (.returned v) u = true ∧ limb_1_2.after args s (.returned v) u = true ∧ True) → FrameEnd s (.returned v) u (Jvm.fieldLocs frame_1_writes args s ++ Jvm.arrayLocs frame_1_arrays args s ++ Jvm.staticLocs frame_1_statics s) 0 0 → Post tb e args s (.returned v) u) :
    ArmFor flags0 classFile x code maxLocals ret World_1 tables_1 room_1 Calls_1 rest_1 Pre_1 Post := by
  intro l hfl _ _ p e ha hc hk s m args below hf hA hF happ hP
  obtain ⟨hcalls, hrest, hpre⟩ := hP
  obtain ⟨-, -, -, hnamed, -, -, -, hat⟩ := (Spec.applies_iff hf).mp happ
  obtain ⟨hg, hn⟩ := and_e (Cond.before_iff.mp (show (Jvm.Cond.and given_1 narrow_1).before args s = true from hpre))
  obtain ⟨gc, gr0⟩ := and_e hg
  obtain ⟨ga0, gr1⟩ := and_e gr0
  obtain ⟨w0, w1, rfl⟩ : ∃ w0 w1 : Value, args = #[w0, w1] := by
    have hs : args.size = 2 := by simpa [Cond.value, given_1] using gc
    obtain ⟨L⟩ := args
    match L, hs with
    | [w0, w1], _ => exact ⟨w0, w1, rfl⟩
  have hw := fun d (hd : d ∈ tables_1) => atoms_spec (ws := Jvm.Cond.code x code maxLocals ret :: tables_1) hat d (List.mem_cons_of_mem _ hd)
  have hfit : Fit s := fun {y c} hc i hi => by
    obtain ⟨ha, rfl⟩ := Array.getElem?_eq_some_iff.mp hc
    have q := List.all_eq_true.mp ((Array.all_eq_true_iff_forall_mem.mp hF) _ (Array.getElem_mem ha)) i (List.mem_range.mpr hi)
    simpa [Array.getElem?_eq_getElem hi] using q
  obtain ⟨i0, ei0⟩ := is_v ga0
  obtain rfl : w0 = (.int i0) := Option.some.inj ei0
  obtain ⟨i1, ei1⟩ := is_v gr1
  obtain rfl : w1 = (.int i1) := Option.some.inj ei1
  obtain ⟨nN, hn1⟩ := and_e hn
  obtain ⟨nY, hn2⟩ := and_e hn1
  obtain ⟨nU, hn3⟩ := and_e hn2
  obtain ⟨oY, hn4⟩ := and_e hn3
  obtain ⟨oN, oU⟩ := and_e hn4
  obtain ⟨aN, eN⟩ := own_static nN
  obtain ⟨aY, eY⟩ := own_static nY
  obtain ⟨aU, eU⟩ := own_static nU
  have fN := own_ord eN oN
  have fY := own_ord eY oY
  have fU := own_ord eU oU
  have d1 : aN ≠ aU := fun h => by rw [h, fU] at fN; exact absurd fN (by decide)
  have d2 : aN ≠ aY := fun h => by rw [h, fY] at fN; exact absurd fN (by decide)
  have d3 : aU ≠ aY := fun h => by rw [h, fY] at fU; exact absurd fU (by decide)
  have SN := Sta.start eN (Or.inr ⟨(hw _ (List.mem_of_getElem? (i := 6) rfl)), (hw _ (List.mem_of_getElem? (i := 7) rfl))⟩)
  have SU := Sta.start eU (Or.inr ⟨(hw _ (List.mem_of_getElem? (i := 6) rfl)), (hw _ (List.mem_of_getElem? (i := 21) rfl))⟩)
  have SY := Sta.start eY (Or.inr ⟨(hw _ (List.mem_of_getElem? (i := 6) rfl)), (hw _ (List.mem_of_getElem? (i := 19) rfl))⟩)
  have EN := Exa.start eN nN
  have EU := Exa.start eU nU
  have EY := Exa.start eY nY
  obtain ⟨n, o, h1, h2, h3, _, L, rfl, ⟨ev, N, -⟩, hq⟩ := rm0 l s _ hw tables_1 i0 i1 aN aU aY s.heap s.heap.size (Nat.le_refl _) SN SU SY EN EU EY p e ha hc hk s m _ below hf ((Spec.applies_iff_loose hf).mp happ).1 ⟨rfl, State.Warmed39.refl s, rfl⟩ trivial
  rw [own_law i0 i1 aN aU aY d1 d2 d3] at ev
  subst ev
  refine ⟨n, _, h1, h2, h3, hpost _ _ _ _ _ _ ⟨Cond.after_iff.mpr rfl, Cond.after_iff.mpr (eq_i res_at (Term.int_eval (1)) rfl), trivial⟩ ⟨hq.1, hq.2.1, (hq.2.2.sift fun y hy => Or.inr (N y hy)).mono (by decide) (by decide)⟩⟩
theorem main_1_1 : Claimed_1_1 := comes_1 fun _ _ _ _ _ _ h hF => ⟨h.1, hF⟩
theorem main_1_2 : Claimed_1_2 := comes_1 fun _ _ _ _ _ _ h hF => ⟨h.2.1, hF⟩
end Jvm.Pilot.@@N@@
namespace Jvm.Pilot.@@N@@
open Jvm Jvm.ClassFile Sem Op Lib Jvm.Free Jvm.Stand Jvm.Pilot.@@N@@.Jvm.D
/-! MADE BY PROGRAM (witnessworld.py) out of the Statement's table words and the real class files: 13 classes; the members and pool entries that the words name. The judged class is class 1, her method 1. -/
namespace start1
open Jvm.ClassFile
def u (s : String) : CpInfo := .utf8 (stringToUtf16 s)
/-- a pool by its gaps: so many unusable entries, then the entry; so many at the end -/
def gap : Nat → List CpInfo → List CpInfo
  | 0, r => r
  | n + 1, r => .unusable :: gap n r
def poolList (es : List (Nat × CpInfo)) (last : Nat) : List CpInfo := es.foldr (fun e r => gap e.1 (e.2 :: r)) (gap last [])
def pool (es : List (Nat × CpInfo)) (last : Nat) : Array CpInfo := ⟨poolList es last⟩
def fileOf (pool : Array CpInfo) (this : Nat) (attrs : Array Attribute := #[]) (ms : Array MethodInfo := #[]) (fl : Nat := 33) (sup : Nat := 0) (ifs : Array Nat := #[]) (fds : Array FieldInfo := #[]) : ClassFile where
  minorVersion := 0
  majorVersion := 65
  constantPool := pool
  accessFlags := fl
  thisClass := this
  superClass := sup
  interfaces := ifs
  fields := fds
  methods := ms
  attributes := attrs
def plain (name : String) (sup : Option ClassId) : Class where
  name := name
  kind := .ordinary
  loader := none
  accessFlags := 33
  super := sup
  interfaces := #[]
  cf := none
  fields := #[]
  methods := #[]
  instanceTypes := #[]
  staticTypes := #[]
  resolved := #[]
  callSites := []
  init := .initialized
  statics := none
  mirror := none

def pool0 : Array CpInfo := pool [(5, u "<init>"), (0, u "()V"), (1, .class_ 10), (1, u "java/lang/Object")] 113

def k0m0 : Method := { name := "<init>", desc := "()V", sig := { parameters := [], returnType := none }, accessFlags := 1, code := none }
/-- java/lang/Object -/
def k0 : Class := { plain "java/lang/Object" none with
  accessFlags := 33
  interfaces := #[]
  cf := some (fileOf pool0 8 #[] #[{ accessFlags := 1, nameIndex := 5, descriptorIndex := 6, attributes := #[] }] 33 0 #[] #[])
  fields := #[]
  methods := #[k0m0]
  instanceTypes := #[]
  staticTypes := #[]
  resolved := Array.replicate 124 none
  statics := none }

def pool1 : Array CpInfo := pool [(2, .class_ 4), (1, u "java/lang/Object"), (0, u "<init>"), (0, u "()V"), (0, .integer 2147483647), (0, .methodref 9 10), (0, .class_ 11), (0, .nameAndType 12 13), (0, u "com/example/recital/recital/check/InForceAndPinLaw"), (0, u "pick"), (0, u "(I)Lcom/example/recital/recital/check/InForce;"), (0, .methodref 15 16), (0, .class_ 17), (0, .nameAndType 18 19), (0, u "com/example/recital/recital/check/InForce"), (0, u "and"), (0, u "(Lcom/example/recital/recital/check/InForce;)Lcom/example/recital/recital/check/InForce;"), (0, .methodref 21 22), (0, .class_ 23), (0, .nameAndType 24 25), (0, u "java/lang/Math"), (0, u "min"), (0, u "(II)I"), (0, .fieldref 15 27), (0, .nameAndType 28 29), (0, u "NO"), (0, u "Lcom/example/recital/recital/check/InForce;"), (0, .fieldref 15 31), (0, .nameAndType 32 29), (0, u "UNKNOWN"), (0, .fieldref 15 34), (0, .nameAndType 35 29), (0, u "YES"), (2, u "law"), (0, u "(II)Z")] 3

def k1m0 : Method := { name := "<init>", desc := "()V", sig := { parameters := [], returnType := none }, accessFlags := 1, code := none }
def k1c1 : Code := { maxStack := 3, maxLocals := 7, code := code, exceptionTable := #[], attributes := #[] }
def k1m1 : Method := { name := "law", desc := "(II)Z", sig := { parameters := [.int, .int], returnType := some .boolean }, accessFlags := 9, code := some k1c1 }
def k1c2 : Code := { maxStack := 2, maxLocals := 2, code := method_3_code, exceptionTable := #[], attributes := #[] }
def k1m2 : Method := { name := "pick", desc := "(I)Lcom/example/recital/recital/check/InForce;", sig := { parameters := [.int], returnType := some (.object "com/example/recital/recital/check/InForce") }, accessFlags := 10, code := some k1c2 }
/-- com/example/recital/recital/check/InForceAndPinLaw -/
def k1 : Class := { plain "com/example/recital/recital/check/InForceAndPinLaw" (some 0) with
  accessFlags := 49
  interfaces := #[]
  cf := some (fileOf pool1 9 #[] #[{ accessFlags := 1, nameIndex := 5, descriptorIndex := 6, attributes := #[] }, { accessFlags := 9, nameIndex := 38, descriptorIndex := 39, attributes := #[] }, { accessFlags := 10, nameIndex := 12, descriptorIndex := 13, attributes := #[] }] 49 2 #[] #[])
  fields := #[]
  methods := #[k1m0, k1m1, k1m2]
  instanceTypes := #[]
  staticTypes := #[]
  resolved := Array.replicate 43 none
  statics := none }

def pool2 : Array CpInfo := pool [(1, .class_ 2), (0, u "java/lang/constant/Constable"), (0, .class_ 4), (0, u "java/lang/Object")] 6

/-- java/lang/constant/Constable -/
def k2 : Class := { plain "java/lang/constant/Constable" (some 0) with
  accessFlags := 1537
  interfaces := #[]
  cf := some (fileOf pool2 1 #[] #[] 1537 3 #[] #[])
  fields := #[]
  methods := #[]
  instanceTypes := #[]
  staticTypes := #[]
  resolved := Array.replicate 11 none
  statics := none }

def pool3 : Array CpInfo := pool [(1, .class_ 2), (0, u "java/lang/Comparable"), (0, .class_ 4), (0, u "java/lang/Object")] 7

/-- java/lang/Comparable -/
def k3 : Class := { plain "java/lang/Comparable" (some 0) with
  accessFlags := 1537
  interfaces := #[]
  cf := some (fileOf pool3 1 #[] #[] 1537 3 #[] #[])
  fields := #[]
  methods := #[]
  instanceTypes := #[]
  staticTypes := #[]
  resolved := Array.replicate 12 none
  statics := none }

def pool4 : Array CpInfo := pool [(1, .class_ 2), (0, u "java/io/Serializable"), (0, .class_ 4), (0, u "java/lang/Object")] 2

/-- java/io/Serializable -/
def k4 : Class := { plain "java/io/Serializable" (some 0) with
  accessFlags := 1537
  interfaces := #[]
  cf := some (fileOf pool4 1 #[] #[] 1537 3 #[] #[])
  fields := #[]
  methods := #[]
  instanceTypes := #[]
  staticTypes := #[]
  resolved := Array.replicate 7 none
  statics := none }

def pool5 : Array CpInfo := pool [(2, .class_ 4), (1, u "java/lang/Enum"), (0, u "name"), (0, u "Ljava/lang/String;"), (2, u "ordinal"), (0, u "I"), (1, .class_ 14), (1, u "java/lang/Object"), (4, u "hash"), (86, .class_ 108), (1, u "java/lang/Enum$EnumDesc"), (2, .class_ 112), (0, u "java/lang/constant/Constable"), (0, .class_ 114), (0, u "java/lang/Comparable"), (0, .class_ 116), (0, u "java/io/Serializable")] 87

/-- java/lang/Enum -/
def k5 : Class := { plain "java/lang/Enum" (some 0) with
  accessFlags := 1057
  interfaces := #[2, 3, 4]
  cf := some (fileOf pool5 2 #[.nestMembers #[106]] #[] 1057 12 #[111, 113, 115] #[{ accessFlags := 18, nameIndex := 5, descriptorIndex := 6, attributes := #[] }, { accessFlags := 18, nameIndex := 9, descriptorIndex := 10, attributes := #[] }, { accessFlags := 2, nameIndex := 19, descriptorIndex := 10, attributes := #[] }])
  fields := #[{ name := "name", type := (.object "java/lang/String"), accessFlags := 18, slot := 0, constantValue := 0 }, { name := "ordinal", type := .int, accessFlags := 18, slot := 1, constantValue := 0 }, { name := "hash", type := .int, accessFlags := 2, slot := 2, constantValue := 0 }]
  methods := #[]
  instanceTypes := #[(.object "java/lang/String"), .int, .int]
  staticTypes := #[]
  resolved := Array.replicate 204 none
  statics := none }

def pool6 : Array CpInfo := pool [(1, .class_ 2), (0, u "com/example/recital/recital/check/InForce"), (0, .fieldref 1 4), (0, .nameAndType 5 6), (0, u "YES"), (0, u "Lcom/example/recital/recital/check/InForce;"), (0, .fieldref 1 8), (0, .nameAndType 9 6), (0, u "NO"), (0, .fieldref 1 11), (0, .nameAndType 12 6), (0, u "UNKNOWN"), (2, u "$VALUES"), (0, u "[Lcom/example/recital/recital/check/InForce;"), (6, .class_ 25), (1, u "java/lang/Enum"), (40, u "and"), (0, u "(Lcom/example/recital/recital/check/InForce;)Lcom/example/recital/recital/check/InForce;")] 72

def k6c0 : Code := { maxStack := 2, maxLocals := 3, code := prog_16_method_6_code, exceptionTable := #[], attributes := #[] }
def k6m0 : Method := { name := "and", desc := "(Lcom/example/recital/recital/check/InForce;)Lcom/example/recital/recital/check/InForce;", sig := { parameters := [(.object "com/example/recital/recital/check/InForce")], returnType := some (.object "com/example/recital/recital/check/InForce") }, accessFlags := 0, code := some k6c0 }
/-- com/example/recital/recital/check/InForce -/
def k6 : Class := { plain "com/example/recital/recital/check/InForce" (some 5) with
  accessFlags := 16432
  interfaces := #[]
  cf := some (fileOf pool6 1 #[] #[{ accessFlags := 0, nameIndex := 66, descriptorIndex := 67, attributes := #[] }] 16432 23 #[] #[{ accessFlags := 16409, nameIndex := 5, descriptorIndex := 6, attributes := #[] }, { accessFlags := 16409, nameIndex := 9, descriptorIndex := 6, attributes := #[] }, { accessFlags := 16409, nameIndex := 12, descriptorIndex := 6, attributes := #[] }, { accessFlags := 4122, nameIndex := 15, descriptorIndex := 16, attributes := #[] }])
  fields := #[{ name := "YES", type := (.object "com/example/recital/recital/check/InForce"), accessFlags := 16409, slot := 0, constantValue := 0 }, { name := "NO", type := (.object "com/example/recital/recital/check/InForce"), accessFlags := 16409, slot := 1, constantValue := 0 }, { name := "UNKNOWN", type := (.object "com/example/recital/recital/check/InForce"), accessFlags := 16409, slot := 2, constantValue := 0 }, { name := "$VALUES", type := (.array (.object "com/example/recital/recital/check/InForce")), accessFlags := 4122, slot := 3, constantValue := 0 }]
  methods := #[k6m0]
  instanceTypes := #[(.object "java/lang/String"), .int, .int]
  staticTypes := #[(.object "com/example/recital/recital/check/InForce"), (.object "com/example/recital/recital/check/InForce"), (.object "com/example/recital/recital/check/InForce"), (.array (.object "com/example/recital/recital/check/InForce"))]
  resolved := Array.replicate 140 none
  statics := some 0 }

def pool7 : Array CpInfo := pool [(1, .class_ 2), (0, u "java/lang/Math"), (1, .class_ 6), (1, u "java/lang/Object"), (0, u "<init>"), (0, u "()V"), (89, .class_ 100), (1, u "java/lang/Math$RandomNumberGeneratorHolder"), (71, u "negativeZeroFloatBits"), (0, u "J"), (2, u "negativeZeroDoubleBits"), (24, u "min"), (43, u "$assertionsDisabled"), (0, u "Z"), (88, u "(II)I"), (2, u "twoToTheDoubleScaleDown"), (0, u "D"), (4, u "twoToTheDoubleScaleUp"), (9, u "E"), (3, u "PI"), (2, u "TAU"), (2, u "DEGREES_TO_RADIANS"), (0, u "RADIANS_TO_DEGREES")] 94

def k7m0 : Method := { name := "<init>", desc := "()V", sig := { parameters := [], returnType := none }, accessFlags := 2, code := none }
def k7c1 : Code := { maxStack := 2, maxLocals := 2, code := jdk_29_method_69_code, exceptionTable := #[], attributes := #[] }
def k7m1 : Method := { name := "min", desc := "(II)I", sig := { parameters := [.int, .int], returnType := some .int }, accessFlags := 9, code := some k7c1 }
/-- java/lang/Math -/
def k7 : Class := { plain "java/lang/Math" (some 0) with
  accessFlags := 49
  interfaces := #[]
  cf := some (fileOf pool7 1 #[.nestMembers #[98]] #[{ accessFlags := 2, nameIndex := 7, descriptorIndex := 8, attributes := #[] }, { accessFlags := 9, nameIndex := 201, descriptorIndex := 335, attributes := #[] }] 49 4 #[] #[{ accessFlags := 25, nameIndex := 354, descriptorIndex := 339, attributes := #[] }, { accessFlags := 25, nameIndex := 358, descriptorIndex := 339, attributes := #[] }, { accessFlags := 25, nameIndex := 361, descriptorIndex := 339, attributes := #[] }, { accessFlags := 26, nameIndex := 364, descriptorIndex := 339, attributes := #[] }, { accessFlags := 26, nameIndex := 365, descriptorIndex := 339, attributes := #[] }, { accessFlags := 26, nameIndex := 172, descriptorIndex := 173, attributes := #[] }, { accessFlags := 26, nameIndex := 176, descriptorIndex := 173, attributes := #[] }, { accessFlags := 8, nameIndex := 344, descriptorIndex := 339, attributes := #[] }, { accessFlags := 8, nameIndex := 338, descriptorIndex := 339, attributes := #[] }, { accessFlags := 4120, nameIndex := 245, descriptorIndex := 246, attributes := #[] }])
  fields := #[{ name := "E", type := .double, accessFlags := 25, slot := 0, constantValue := 0 }, { name := "PI", type := .double, accessFlags := 25, slot := 1, constantValue := 0 }, { name := "TAU", type := .double, accessFlags := 25, slot := 2, constantValue := 0 }, { name := "DEGREES_TO_RADIANS", type := .double, accessFlags := 26, slot := 3, constantValue := 0 }, { name := "RADIANS_TO_DEGREES", type := .double, accessFlags := 26, slot := 4, constantValue := 0 }, { name := "negativeZeroFloatBits", type := .long, accessFlags := 26, slot := 5, constantValue := 0 }, { name := "negativeZeroDoubleBits", type := .long, accessFlags := 26, slot := 6, constantValue := 0 }, { name := "twoToTheDoubleScaleUp", type := .double, accessFlags := 8, slot := 7, constantValue := 0 }, { name := "twoToTheDoubleScaleDown", type := .double, accessFlags := 8, slot := 8, constantValue := 0 }, { name := "$assertionsDisabled", type := .boolean, accessFlags := 4120, slot := 9, constantValue := 0 }]
  methods := #[k7m0, k7m1]
  instanceTypes := #[]
  staticTypes := #[.double, .double, .double, .double, .double, .long, .long, .double, .double, .boolean]
  resolved := Array.replicate 460 none
  statics := none }

def pool8 : Array CpInfo := pool [(1, u "java/lang/Cloneable"), (0, .class_ 1), (0, u "java/lang/Object"), (0, .class_ 3)] 3

/-- java/lang/Cloneable -/
def k8 : Class := { plain "java/lang/Cloneable" (some 0) with
  accessFlags := 1537
  interfaces := #[]
  cf := some (fileOf pool8 2 #[] #[] 1537 4 #[] #[])
  fields := #[]
  methods := #[]
  instanceTypes := #[]
  staticTypes := #[]
  resolved := Array.replicate 8 none
  statics := none }

/-- the primitive byte -/
def k9 : Class := { plain "byte" none with kind := .primitive 'B', accessFlags := 0x411 }
/-- [B -/
def k10 : Class := { plain "[B" (some 0) with kind := .array 9 .byte, interfaces := #[8, 4], accessFlags := 1041 }

/-- the primitive int -/
def k11 : Class := { plain "int" none with kind := .primitive 'I', accessFlags := 0x411 }
/-- [I -/
def k12 : Class := { plain "[I" (some 0) with kind := .array 11 .int, interfaces := #[8, 4], accessFlags := 1041 }

def heap : Heap := #[{ cls := 6, slots := #[.ref 1, .ref 2, .ref 3, .null], vm := .statics 6 },
  { cls := 6, slots := #[.null, .int 0, .int 0], vm := .none },
  { cls := 6, slots := #[.null, .int 1, .int 0], vm := .none },
  { cls := 6, slots := #[.null, .int 2, .int 0], vm := .none }]
def classes : Array Class := #[k0, k1, k2, k3, k4, k5, k6, k7, k8, k9, k10, k11, k12]
def interned : List (Array UInt16 × Addr) := []
def slotsUsed : Nat := 13
def theMethod : MethodId := ⟨1, 1⟩
def args0 : Array Value := #[.int 5, .int 3]
def aboutOver (below : List Frame) : State where
  vm := { classes := classes, interned := interned.toArray }
  heap := heap
  slotsUsed := slotsUsed
  threads := #[{ frames := .invoking theMethod args0 :: below }]
def below0 : List Frame := [.native { method := ⟨0, 0⟩, args := #[] }]
def about1 : State := aboutOver below0
def p0 : Program := .bare "" "" ""
def e0 : Env := launch0.env 0 0 0
theorem w_frames : about1.frames = Frame.invoking theMethod args0 :: below0 := rfl
set_option maxRecDepth 65536 in
theorem w_args : argsFit about1.vm theMethod args0 = true := by decide +kernel
set_option maxRecDepth 65536 in
theorem w_heap : heapFits about1 = true := by decide +kernel
set_option maxRecDepth 65536 in
theorem w_runnable : about1.curStatus? = some .runnable := by decide +kernel
set_option maxRecDepth 65536 in
theorem w_alone : about1.alone = true := by decide +kernel
set_option maxRecDepth 65536 in
theorem w_named : about1.methodNamed? x = some theMethod := by decide +kernel
set_option maxRecDepth 65536 in
theorem w_hears : about1.hears theMethod below0 = true := by decide +kernel
set_option maxRecDepth 65536 in
theorem w_ripe : about1.ripe theMethod args0 below0 = true := by decide +kernel
theorem w_running : about1.status = .running := rfl
set_option maxRecDepth 65536 in
theorem w_room : about1.hasRoom e0.platform room_1 = true :=
  launch0.hasRoom_least _ room_1 (by decide +kernel) (by decide +kernel) (by decide +kernel) (by decide +kernel) (by decide +kernel) (by decide +kernel)
theorem allAtoms_all (ts : List Jvm.Cond) (a : Array Jvm.Value) (st : Jvm.State) : (allAtoms ts).before a st = ts.all (fun c => c.before a st) := by
  induction ts with
  | nil => rfl
  | cons c t ih =>
    show (Jvm.Cond.and c (allAtoms t)).before a st = _
    rw [Jvm.Cond.before_and, ih, List.all_cons]
def words1 : List Jvm.Cond := Jvm.Cond.code x code maxLocals ret :: tables_1
/-- a 'code' word, met by the world's own term for the bytes: nothing is compared byte by byte -/
theorem code_word {y : MethodName} {bytes : ByteArray} {mx : Nat} {rt : Option FieldType} {a : Array Value} {s : State} {m : MethodId} {meth : Method} {c : Code} (h1 : s.methodNamed? y = some m) (h2 : s.vm.method? m = some meth) (h3 : meth.code = some c) (h4 : c.code = bytes)
    (h5 : (c.maxLocals == mx && c.exceptionTable.isEmpty && decide (c.maxStack ≤ mostOperands) && decide (meth.sig.returnType = rt) && !meth.locks && decide (parseMethodDescriptor y.desc = some meth.sig)) = true) : (Jvm.Cond.code y bytes mx rt).before a s = true := by
  simp only [Bool.and_eq_true, beq_iff_eq, Bool.not_eq_true', decide_eq_true_eq] at h5
  obtain ⟨⟨⟨⟨⟨g1, g2⟩, g3⟩, g4⟩, g5⟩, g6⟩ := h5
  simp [Cond.before, Cond.holds, Cond.value, h1, h2, h3, h4, g1, g2, g3, g4, g5, g6]
def isCode : Jvm.Cond → Bool
  | .code _ _ _ _ => true
  | _ => false
theorem all_split {L : List Jvm.Cond} {P : Jvm.Cond → Bool} (h1 : L.all (fun c => isCode c || P c) = true) (h2 : ∀ c ∈ L.filter isCode, P c = true) : L.all P = true := by
  refine List.all_eq_true.mpr fun c hc => ?_
  have h := List.all_eq_true.mp h1 c hc
  rcases Bool.eq_false_or_eq_true (isCode c) with hi | hi
  · exact h2 c (List.mem_filter.mpr ⟨hc, hi⟩)
  · simpa [hi] using h
set_option maxRecDepth 65536 in
theorem w_c0 : (Jvm.Cond.code x code maxLocals ret).before args0 about1 = true := code_word (m := ⟨1, 1⟩) (meth := k1m1) (c := k1c1) (by decide +kernel) rfl rfl rfl (by decide +kernel)
set_option maxRecDepth 65536 in
theorem w_c1 : (Jvm.Cond.code ({ cls := "com/example/recital/recital/check/InForceAndPinLaw", name := "pick", desc := "(I)Lcom/example/recital/recital/check/InForce;" } : Jvm.MethodName) method_3_code (2 : Nat) (Option.some (Jvm.ClassFile.FieldType.object "com/example/recital/recital/check/InForce"))).before args0 about1 = true := code_word (m := ⟨1, 2⟩) (meth := k1m2) (c := k1c2) (by decide +kernel) rfl rfl rfl (by decide +kernel)
set_option maxRecDepth 65536 in
theorem w_c2 : (Jvm.Cond.code ({ cls := "com/example/recital/recital/check/InForce", name := "and", desc := "(Lcom/example/recital/recital/check/InForce;)Lcom/example/recital/recital/check/InForce;" } : Jvm.MethodName) prog_16_method_6_code (3 : Nat) (Option.some (Jvm.ClassFile.FieldType.object "com/example/recital/recital/check/InForce"))).before args0 about1 = true := code_word (m := ⟨6, 0⟩) (meth := k6m0) (c := k6c0) (by decide +kernel) rfl rfl rfl (by decide +kernel)
set_option maxRecDepth 65536 in
theorem w_c3 : (Jvm.Cond.code ({ cls := "java/lang/Math", name := "min", desc := "(II)I" } : Jvm.MethodName) jdk_29_method_69_code (2 : Nat) (Option.some Jvm.ClassFile.FieldType.int)).before args0 about1 = true := code_word (m := ⟨7, 1⟩) (meth := k7m1) (c := k7c1) (by decide +kernel) rfl rfl rfl (by decide +kernel)
def codes1 : List Jvm.Cond := [Jvm.Cond.code x code maxLocals ret, Jvm.Cond.code ({ cls := "com/example/recital/recital/check/InForceAndPinLaw", name := "pick", desc := "(I)Lcom/example/recital/recital/check/InForce;" } : Jvm.MethodName) method_3_code (2 : Nat) (Option.some (Jvm.ClassFile.FieldType.object "com/example/recital/recital/check/InForce")), Jvm.Cond.code ({ cls := "com/example/recital/recital/check/InForce", name := "and", desc := "(Lcom/example/recital/recital/check/InForce;)Lcom/example/recital/recital/check/InForce;" } : Jvm.MethodName) prog_16_method_6_code (3 : Nat) (Option.some (Jvm.ClassFile.FieldType.object "com/example/recital/recital/check/InForce")), Jvm.Cond.code ({ cls := "java/lang/Math", name := "min", desc := "(II)I" } : Jvm.MethodName) jdk_29_method_69_code (2 : Nat) (Option.some Jvm.ClassFile.FieldType.int)]
set_option maxRecDepth 65536 in
theorem codes_eq : words1.filter isCode = codes1 := rfl
theorem w_codes : ∀ c ∈ words1.filter isCode, c.before args0 about1 = true := by
  rw [codes_eq]
  intro c hc
  simp only [codes1, List.mem_cons, List.not_mem_nil, or_false] at hc
  rcases hc with rfl | rfl | rfl | rfl
  · exact w_c0
  · exact w_c1
  · exact w_c2
  · exact w_c3
set_option maxRecDepth 65536 in
theorem w_t1 : (words1.take 24).all (fun c => isCode c || c.before args0 about1) = true := by decide +kernel
set_option maxRecDepth 65536 in
theorem w_t2 : (words1.drop 24).all (fun c => isCode c || c.before args0 about1) = true := by decide +kernel
theorem w_tables : (allAtoms (Jvm.Cond.code x code maxLocals ret :: tables_1)).before args0 about1 = true := by
  rw [allAtoms_all]
  show words1.all (fun c => c.before args0 about1) = true
  refine all_split ?_ w_codes
  rw [← List.take_append_drop 24 words1, List.all_append, w_t1, w_t2]
  rfl
set_option maxRecDepth 65536 in
theorem w_case : (Jvm.Cond.and given_1 narrow_1).before args0 about1 = true := by decide +kernel
theorem w_applies : (headSpec (Jvm.Cond.code x code maxLocals ret :: tables_1) room_1).applies x e0.platform about1 = true :=
  (Spec.applies_iff w_frames).mpr ⟨w_running, w_runnable, w_alone, w_named, w_hears, w_ripe, w_room, w_tables⟩
theorem atStart : AtStart classFile x code maxLocals ret World_1 tables_1 room_1 Calls_1 rest_1 Pre_1 launch0 p0 e0 about1 theMethod args0 below0 :=
  ⟨lists_1, trivial, launch0.admits_env _ _ _, launch0.least_env, fairChoices_fair.cas, fairChoices_fair.clock, w_frames, w_args, w_heap, w_applies, trivial, trivial, w_case⟩
end start1
theorem witness_1 : WitnessClaimed_1 := ⟨start1.p0, start1.e0, start1.about1, start1.theMethod, start1.args0, start1.below0, start1.atStart⟩
end Jvm.Pilot.@@N@@
