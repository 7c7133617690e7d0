import JvmDerived
import JvmDerived.Pilot.@@N@@Statement
import JvmDerived.Pilot.@@N@@Code
set_option linter.unusedVariables false
set_option linter.unusedSimpArgs false
namespace Jvm.RoadKit
open Sem ClassFile Op Lib Jvm.Stand Jvm.Free Jvm.LawKit
section New
variable {p : Program} {l : Launch} {e : Env} {R : Room} {s : State} {m : MethodId} {args : Array Value} {below : List Frame} {meth : Method} {c : Code} {T : State} {locs : List Loc} {cells slots : Nat}
theorem retI (X : Stand p l e R s m args below meth c T locs cells slots) (hx : p.tables.exec = Jvm.exec) {pc : Nat} {Ls : Array Slot} {z : Int32} {rest : List Value} (hret : meth.sig.returnType = some .int) (hd : decode c.code pc = .ok (.ireturn, 1)) {fs : List Frame}
    (hl : ∀ (f : JFrame) (acts : List Action), f.method = m → f.locked = none → f.entered = [] → (doReturn e (T.setTop f) acts (some (.int z))).1 = T.setFrames fs) : Steps p.tables e below (T.setTop (mkF m pc Ls (.int z :: rest))) (T.setFrames fs) := by
  have hm' : T.vm.method? m = some meth := X.method'
  have hn : narrow .int (.int z) = .int z := rfl
  show Steps p.tables e below (T.setTop { method := m, pc := pc, locals := Ls, stack := _ :: rest, locked := none }) _
  jvm_step X.here [X.here.top, hx, hd, hm', hret, hn]
  first | (intro acts; rw [hl _ acts rfl rfl rfl]) | rw [hl _ _ rfl rfl rfl]
  exact Steps.refl _
end New
end Jvm.RoadKit
namespace Jvm.Pilot.@@N@@
open Jvm Jvm.ClassFile Sem Op Lib Jvm.Free Jvm.Stand Jvm.LawKit Jvm.RoadKit Bundle Jvm.Pilot.@@N@@.Jvm.D
theorem pn_1 : plainName "com/example/recital/recital/read/PlainText" = true := by first | (simp [plainName, overriddenIn]; done) | decide +kernel
theorem ef_1 (m : MethodId) (x0 : Int32) : entryFrame m #[(.int x0)] 1 = mkF m 0 #[.val (.int x0)] [] := by first | (simp [entryFrame, mkF, argsToLocals, Value.category]; done) | rfl
theorem d1_0 : decode prog_103_method_21_code 0 = .ok (.iload_n 0, 1) := by decide +kernel
theorem d1_1 : decode prog_103_method_21_code 1 = .ok (.tableswitch 53 8216 8223 #[47, 47, 47, 47, 50, 50, 50, 50], 47) := by decide +kernel
theorem d1_54 : decode prog_103_method_21_code 54 = .ok (.iload_n 0, 1) := by decide +kernel
theorem d1_55 : decode prog_103_method_21_code 55 = .ok (.ireturn, 1) := by decide +kernel
theorem d1_48 : decode prog_103_method_21_code 48 = .ok (.bipush 39, 2) := by decide +kernel
theorem d1_50 : decode prog_103_method_21_code 50 = .ok (.ireturn, 1) := by decide +kernel
theorem d1_51 : decode prog_103_method_21_code 51 = .ok (.bipush 34, 2) := by decide +kernel
theorem d1_53 : decode prog_103_method_21_code 53 = .ok (.ireturn, 1) := by decide +kernel
def own_f1 (p1 : Int32) : Int32 := if p1.toInt < 8216 ∨ p1.toInt > 8223 then ((nar .char p1)) else (if p1.toInt ≤ 8219 then ((39 : Int32)) else ((34 : Int32)))
def Q1 (Z : State) (p1 : Int32) (h0 : Heap) (n0 : Nat) (v : Option Value) (h : Heap) (L : List Loc) : Prop := v = some (.int (own_f1 p1)) ∧ Fr n0 L ∧ h = h0
set_option maxRecDepth 65536 in
set_option maxHeartbeats 40000000 in
theorem rm1 (l : Launch) (Z : State) (a0 : Array Value) (hw : ∀ d ∈ tables_1, d.before a0 Z = true) (ws : List Jvm.Cond) (p1 : Int32) (h0 : Heap) (n0 : Nat) (Z0 : n0 ≤ h0.size) :
    MetFree l (⟨"com/example/recital/recital/read/PlainText", "ascii", "(C)C"⟩ : MethodName) (head1 (Jvm.Cond.code (⟨"com/example/recital/recital/read/PlainText", "ascii", "(C)C"⟩ : MethodName) prog_103_method_21_code 1 (some .char) :: ws) ({ frames := 0, cells := 0, slots := 0, locals := 0 } : Room)) (fun a U => a = #[(.int p1)] ∧ Z.Warmed39 U.vm ∧ U.heap = h0) (fun _ _ _ _ _ => True) (fun _ U o U' => ∃ v L, o = .returned v ∧ Q1 Z p1 h0 n0 v U'.heap L ∧ FrameEnd U o U' L ({ frames := 0, cells := 0, slots := 0, locals := 0 } : Room).cells ({ frames := 0, cells := 0, slots := 0, locals := 0 } : Room).slots) := by
  refine MetFree.of_bodySF (plainFor_of_name pn_1) hisR ?_
  intro p e s m args below meth c s₁ Bd hml0 hP hK
  obtain ⟨rfl, hZ, hh⟩ := hP
  have hx := Bd.exec
  have hby := Bd.bytes
  have hml : c.maxLocals = 1 := hml0
  have hown : s.vm.findClass "com/example/recital/recital/read/PlainText" = some m.cls := findClass_of_methodNamed Bd.named
  have hnm := (name_of_methodNamed Bd.named Bd.method).1
  have X0 : Stand p l e ({ frames := 0, cells := 0, slots := 0, locals := 0 } : Room) s m #[(.int p1)] below meth c s₁ [] 0 0 := Stand.of_body Bd
  have e0 : s₁.heap = h0 := by rw [← hh, Bd.state]; rfl
  have N0 := Fr.nil n0
  have pre0 : ∀ t, Steps p.tables e below (s₁.setTop (mkF m 0 #[.val (.int p1)] [])) t → Steps p.tables e below (s₁.setTop (entryFrame m #[(.int p1)] 1)) t := fun t k => castTop (ef_1 m p1) k
  have pre1 : ∀ t, Steps p.tables e below (s₁.setTop (mkF m 1 #[.val (.int p1)] [(.int p1)])) t → Steps p.tables e below _ t := fun t kt => pre0 t (by
    show Steps p.tables e below (s₁.setTop (mkF m 0 #[.val (.int p1)] [])) _
    refine XS.iloadN X0.here hx rfl (hb hby d1_0) rfl ?_
    exact kt)
  by_cases hs1 : p1.toInt < 8216 ∨ p1.toInt > 8223
  · obtain ⟨fs, hr, hrun, hended, hW, hsame⟩ := X0.leave (v := some (.int (nar .char p1))) (fun h => by rw [Bd.returns] at h; cases h)
    refine ⟨_, _, pre1 _ ?_, hrun, hended, _, _, rfl, ?_, ⟨_, rfl⟩, hW, hsame.mono (by decide) (by decide)⟩
    · show Steps p.tables e below (s₁.setTop (mkF m 1 #[.val (.int p1)] [(.int p1)])) _
      refine XS.tswOut X0.here hx rfl (pc0 := 1) (pc' := 54) rfl (hb hby d1_1) rfl hs1 (by decide) (by decide) ?_
      show Steps p.tables e below (s₁.setTop (mkF m 54 #[.val (.int p1)] [])) _
      refine XS.iloadN X0.here hx rfl (hb hby d1_54) rfl ?_
      show Steps p.tables e below (s₁.setTop (mkF m 55 #[.val (.int p1)] [(.int p1)])) _
      exact retN X0 hx (t := .char) Bd.returns (by simp) (hb hby d1_55) hr
    · show Q1 Z p1 h0 n0 _ s₁.heap _
      rw [e0]
      exact ⟨by simp only [own_f1, if_pos hs1], N0, rfl⟩
  · by_cases hs2 : p1.toInt ≤ 8219
    · have ho : (#[47, 47, 47, 47, 50, 50, 50, 50] : Array Int)[(p1.toInt - 8216).toNat]? = some 47 := by
        have hk : (p1.toInt - 8216).toNat = 0 ∨ (p1.toInt - 8216).toNat = 1 ∨ (p1.toInt - 8216).toNat = 2 ∨ (p1.toInt - 8216).toNat = 3 := by omega
        rcases hk with h | h | h | h <;> rw [h] <;> rfl
      obtain ⟨fs, hr, hrun, hended, hW, hsame⟩ := X0.leave (v := some (.int (39 : Int32))) (fun h => by rw [Bd.returns] at h; cases h)
      refine ⟨_, _, pre1 _ ?_, hrun, hended, _, _, rfl, ?_, ⟨_, rfl⟩, hW, hsame.mono (by decide) (by decide)⟩
      · show Steps p.tables e below (s₁.setTop (mkF m 1 #[.val (.int p1)] [(.int p1)])) _
        refine XS.tswIn X0.here hx rfl (pc0 := 1) (pc' := 48) rfl (hb hby d1_1) rfl hs1 ho (by decide) (by decide) ?_
        show Steps p.tables e below (s₁.setTop (mkF m 48 #[.val (.int p1)] [])) _
        refine XS.bipush X0.here hx rfl (hb hby d1_48) ?_
        show Steps p.tables e below (s₁.setTop (mkF m 50 #[.val (.int p1)] [(.int (39 : Int32))])) _
        exact retN X0 hx (t := .char) Bd.returns (by simp) (hb hby d1_50) hr
      · show Q1 Z p1 h0 n0 _ s₁.heap _
        rw [e0]
        exact ⟨by simp only [own_f1, if_neg hs1, if_pos hs2], N0, rfl⟩
    · have ho : (#[47, 47, 47, 47, 50, 50, 50, 50] : Array Int)[(p1.toInt - 8216).toNat]? = some 50 := by
        have hk : (p1.toInt - 8216).toNat = 4 ∨ (p1.toInt - 8216).toNat = 5 ∨ (p1.toInt - 8216).toNat = 6 ∨ (p1.toInt - 8216).toNat = 7 := by omega
        rcases hk with h | h | h | h <;> rw [h] <;> rfl
      obtain ⟨fs, hr, hrun, hended, hW, hsame⟩ := X0.leave (v := some (.int (34 : Int32))) (fun h => by rw [Bd.returns] at h; cases h)
      refine ⟨_, _, pre1 _ ?_, hrun, hended, _, _, rfl, ?_, ⟨_, rfl⟩, hW, hsame.mono (by decide) (by decide)⟩
      · show Steps p.tables e below (s₁.setTop (mkF m 1 #[.val (.int p1)] [(.int p1)])) _
        refine XS.tswIn X0.here hx rfl (pc0 := 1) (pc' := 51) rfl (hb hby d1_1) rfl hs1 ho (by decide) (by decide) ?_
        show Steps p.tables e below (s₁.setTop (mkF m 51 #[.val (.int p1)] [])) _
        refine XS.bipush X0.here hx rfl (hb hby d1_51) ?_
        show Steps p.tables e below (s₁.setTop (mkF m 53 #[.val (.int p1)] [(.int (34 : Int32))])) _
        exact retN X0 hx (t := .char) Bd.returns (by simp) (hb hby d1_53) hr
      · show Q1 Z p1 h0 n0 _ s₁.heap _
        rw [e0]
        exact ⟨by simp only [own_f1, if_neg hs1, if_neg hs2], N0, rfl⟩
theorem pn_2 : plainName "com/example/recital/recital/read/PlainTextAsciiPinLaw" = true := by first | (simp [plainName, overriddenIn]; done) | decide +kernel
theorem ef_2 (m : MethodId) (x0 : Int32) : entryFrame m #[(.int x0)] 2 = mkF m 0 #[.val (.int x0), .unset] [] := by first | (simp [entryFrame, mkF, argsToLocals, Value.category]; done) | rfl
theorem d2_0 : decode method_2_code 0 = .ok (.iload_n 0, 1) := by decide +kernel
theorem d2_1 : decode method_2_code 1 = .ok (.istore_n 1, 1) := by decide +kernel
theorem d2_2 : decode method_2_code 2 = .ok (.iload_n 1, 1) := by decide +kernel
theorem d2_3 : decode method_2_code 3 = .ok (.sipush 8216, 3) := by decide +kernel
theorem d2_6 : decode method_2_code 6 = .ok (.if_icmp .lt 13, 3) := by decide +kernel
theorem d2_19 : decode method_2_code 19 = .ok (.iload_n 1, 1) := by decide +kernel
theorem d2_20 : decode method_2_code 20 = .ok (.sipush 8220, 3) := by decide +kernel
theorem d2_23 : decode method_2_code 23 = .ok (.if_icmp .lt 13, 3) := by decide +kernel
theorem d2_36 : decode method_2_code 36 = .ok (.iload_n 0, 1) := by decide +kernel
theorem d2_37 : decode method_2_code 37 = .ok (.ireturn, 1) := by decide +kernel
theorem d2_26 : decode method_2_code 26 = .ok (.iload_n 1, 1) := by decide +kernel
theorem d2_27 : decode method_2_code 27 = .ok (.sipush 8223, 3) := by decide +kernel
theorem d2_30 : decode method_2_code 30 = .ok (.if_icmp .gt 6, 3) := by decide +kernel
theorem d2_33 : decode method_2_code 33 = .ok (.bipush 34, 2) := by decide +kernel
theorem d2_35 : decode method_2_code 35 = .ok (.ireturn, 1) := by decide +kernel
theorem d2_9 : decode method_2_code 9 = .ok (.iload_n 1, 1) := by decide +kernel
theorem d2_10 : decode method_2_code 10 = .ok (.sipush 8219, 3) := by decide +kernel
theorem d2_13 : decode method_2_code 13 = .ok (.if_icmp .gt 6, 3) := by decide +kernel
theorem d2_16 : decode method_2_code 16 = .ok (.bipush 39, 2) := by decide +kernel
theorem d2_18 : decode method_2_code 18 = .ok (.ireturn, 1) := by decide +kernel
def own_f2 (p1 : Int32) : Int32 := if p1 < (8216 : Int32) then (if p1 < (8220 : Int32) then ((nar .char p1)) else (if (8223 : Int32) < p1 then ((nar .char p1)) else ((34 : Int32)))) else (if (8219 : Int32) < p1 then (if p1 < (8220 : Int32) then ((nar .char p1)) else (if (8223 : Int32) < p1 then ((nar .char p1)) else ((34 : Int32)))) else ((39 : Int32)))
def Q2 (Z : State) (p1 : Int32) (h0 : Heap) (n0 : Nat) (v : Option Value) (h : Heap) (L : List Loc) : Prop := v = some (.int (own_f2 p1)) ∧ Fr n0 L ∧ h = h0
set_option maxRecDepth 65536 in
set_option maxHeartbeats 40000000 in
theorem rm2 (l : Launch) (Z : State) (a0 : Array Value) (hw : ∀ d ∈ tables_1, d.before a0 Z = true) (ws : List Jvm.Cond) (p1 : Int32) (h0 : Heap) (n0 : Nat) (Z0 : n0 ≤ h0.size) :
    MetFree l (⟨"com/example/recital/recital/read/PlainTextAsciiPinLaw", "expected", "(C)C"⟩ : MethodName) (head1 (Jvm.Cond.code (⟨"com/example/recital/recital/read/PlainTextAsciiPinLaw", "expected", "(C)C"⟩ : MethodName) method_2_code 2 (some .char) :: ws) ({ frames := 0, cells := 0, slots := 0, locals := 0 } : Room)) (fun a U => a = #[(.int p1)] ∧ Z.Warmed39 U.vm ∧ U.heap = h0) (fun _ _ _ _ _ => True) (fun _ U o U' => ∃ v L, o = .returned v ∧ Q2 Z p1 h0 n0 v U'.heap L ∧ FrameEnd U o U' L ({ frames := 0, cells := 0, slots := 0, locals := 0 } : Room).cells ({ frames := 0, cells := 0, slots := 0, locals := 0 } : Room).slots) := by
  refine MetFree.of_bodySF (plainFor_of_name pn_2) hisR ?_
  intro p e s m args below meth c s₁ Bd hml0 hP hK
  obtain ⟨rfl, hZ, hh⟩ := hP
  have hx := Bd.exec
  have hby := Bd.bytes
  have hml : c.maxLocals = 2 := hml0
  have hown : s.vm.findClass "com/example/recital/recital/read/PlainTextAsciiPinLaw" = some m.cls := findClass_of_methodNamed Bd.named
  have hnm := (name_of_methodNamed Bd.named Bd.method).1
  have X0 : Stand p l e ({ frames := 0, cells := 0, slots := 0, locals := 0 } : Room) s m #[(.int p1)] below meth c s₁ [] 0 0 := Stand.of_body Bd
  have e0 : s₁.heap = h0 := by rw [← hh, Bd.state]; rfl
  have N0 := Fr.nil n0
  have pre0 : ∀ t, Steps p.tables e below (s₁.setTop (mkF m 0 #[.val (.int p1), .unset] [])) t → Steps p.tables e below (s₁.setTop (entryFrame m #[(.int p1)] 2)) t := fun t k => castTop (ef_2 m p1) k
  have pre1 : ∀ t, Steps p.tables e below (s₁.setTop (mkF m 6 #[.val (.int p1), .val (.int p1)] [(.int (8216 : Int32)), (.int p1)])) t → Steps p.tables e below _ t := fun t kt => pre0 t (by
    show Steps p.tables e below (s₁.setTop (mkF m 0 #[.val (.int p1), .unset] [])) _
    refine XS.iloadN X0.here hx rfl (hb hby d2_0) rfl ?_
    show Steps p.tables e below (s₁.setTop (mkF m 1 #[.val (.int p1), .unset] [(.int p1)])) _
    refine XS.istoreN X0.here hx rfl (hb hby d2_1) rfl (l' := #[.val (.int p1), .val (.int p1)]) rfl ?_
    show Steps p.tables e below (s₁.setTop (mkF m 2 #[.val (.int p1), .val (.int p1)] [])) _
    refine XS.iloadN X0.here hx rfl (hb hby d2_2) rfl ?_
    show Steps p.tables e below (s₁.setTop (mkF m 3 #[.val (.int p1), .val (.int p1)] [(.int p1)])) _
    refine XS.sipush X0.here hx rfl (hb hby d2_3) ?_
    exact kt)
  by_cases hc6 : p1 < (8216 : Int32)
  · have pre2 : ∀ t, Steps p.tables e below (s₁.setTop (mkF m 23 #[.val (.int p1), .val (.int p1)] [(.int (8220 : Int32)), (.int p1)])) t → Steps p.tables e below _ t := fun t kt => pre1 t (by
      show Steps p.tables e below (s₁.setTop (mkF m 6 #[.val (.int p1), .val (.int p1)] [(.int (8216 : Int32)), (.int p1)])) _
      refine XS.icmpYes X0.here hx rfl (pc0 := 6) (pc' := 19) rfl (hb hby d2_6) rfl (tlt hc6).1 (by decide) (by decide) ?_
      show Steps p.tables e below (s₁.setTop (mkF m 19 #[.val (.int p1), .val (.int p1)] [])) _
      refine XS.iloadN X0.here hx rfl (hb hby d2_19) rfl ?_
      show Steps p.tables e below (s₁.setTop (mkF m 20 #[.val (.int p1), .val (.int p1)] [(.int p1)])) _
      refine XS.sipush X0.here hx rfl (hb hby d2_20) ?_
      exact kt)
    by_cases hc23 : p1 < (8220 : Int32)
    · obtain ⟨fs, hr, hrun, hended, hW, hsame⟩ := X0.leave (v := some (.int (nar .char p1))) (fun h => by rw [Bd.returns] at h; cases h)
      refine ⟨_, _, pre2 _ ?_, hrun, hended, _, _, rfl, ?_, ⟨_, rfl⟩, hW, hsame.mono (by decide) (by decide)⟩
      · show Steps p.tables e below (s₁.setTop (mkF m 23 #[.val (.int p1), .val (.int p1)] [(.int (8220 : Int32)), (.int p1)])) _
        refine XS.icmpYes X0.here hx rfl (pc0 := 23) (pc' := 36) rfl (hb hby d2_23) rfl (tlt hc23).1 (by decide) (by decide) ?_
        show Steps p.tables e below (s₁.setTop (mkF m 36 #[.val (.int p1), .val (.int p1)] [])) _
        refine XS.iloadN X0.here hx rfl (hb hby d2_36) rfl ?_
        show Steps p.tables e below (s₁.setTop (mkF m 37 #[.val (.int p1), .val (.int p1)] [(.int p1)])) _
        exact retN X0 hx (t := .char) Bd.returns (by simp) (hb hby d2_37) hr
      · show Q2 Z p1 h0 n0 _ s₁.heap _
        rw [e0]
        exact ⟨by simp only [own_f2, if_pos hc6, if_pos hc23], N0, rfl⟩
    · have pre3 : ∀ t, Steps p.tables e below (s₁.setTop (mkF m 30 #[.val (.int p1), .val (.int p1)] [(.int (8223 : Int32)), (.int p1)])) t → Steps p.tables e below _ t := fun t kt => pre2 t (by
        show Steps p.tables e below (s₁.setTop (mkF m 23 #[.val (.int p1), .val (.int p1)] [(.int (8220 : Int32)), (.int p1)])) _
        refine XS.icmpNo X0.here hx rfl (hb hby d2_23) rfl (flt hc23).1 ?_
        show Steps p.tables e below (s₁.setTop (mkF m 26 #[.val (.int p1), .val (.int p1)] [])) _
        refine XS.iloadN X0.here hx rfl (hb hby d2_26) rfl ?_
        show Steps p.tables e below (s₁.setTop (mkF m 27 #[.val (.int p1), .val (.int p1)] [(.int p1)])) _
        refine XS.sipush X0.here hx rfl (hb hby d2_27) ?_
        exact kt)
      by_cases hc30 : (8223 : Int32) < p1
      · obtain ⟨fs, hr, hrun, hended, hW, hsame⟩ := X0.leave (v := some (.int (nar .char p1))) (fun h => by rw [Bd.returns] at h; cases h)
        refine ⟨_, _, pre3 _ ?_, hrun, hended, _, _, rfl, ?_, ⟨_, rfl⟩, hW, hsame.mono (by decide) (by decide)⟩
        · show Steps p.tables e below (s₁.setTop (mkF m 30 #[.val (.int p1), .val (.int p1)] [(.int (8223 : Int32)), (.int p1)])) _
          refine XS.icmpYes X0.here hx rfl (pc0 := 30) (pc' := 36) rfl (hb hby d2_30) rfl (tlt hc30).2.2.1 (by decide) (by decide) ?_
          show Steps p.tables e below (s₁.setTop (mkF m 36 #[.val (.int p1), .val (.int p1)] [])) _
          refine XS.iloadN X0.here hx rfl (hb hby d2_36) rfl ?_
          show Steps p.tables e below (s₁.setTop (mkF m 37 #[.val (.int p1), .val (.int p1)] [(.int p1)])) _
          exact retN X0 hx (t := .char) Bd.returns (by simp) (hb hby d2_37) hr
        · show Q2 Z p1 h0 n0 _ s₁.heap _
          rw [e0]
          exact ⟨by simp only [own_f2, if_pos hc6, if_neg hc23, if_pos hc30], N0, rfl⟩
      · obtain ⟨fs, hr, hrun, hended, hW, hsame⟩ := X0.leave (v := some (.int (34 : Int32))) (fun h => by rw [Bd.returns] at h; cases h)
        refine ⟨_, _, pre3 _ ?_, hrun, hended, _, _, rfl, ?_, ⟨_, rfl⟩, hW, hsame.mono (by decide) (by decide)⟩
        · show Steps p.tables e below (s₁.setTop (mkF m 30 #[.val (.int p1), .val (.int p1)] [(.int (8223 : Int32)), (.int p1)])) _
          refine XS.icmpNo X0.here hx rfl (hb hby d2_30) rfl (flt hc30).2.2.1 ?_
          show Steps p.tables e below (s₁.setTop (mkF m 33 #[.val (.int p1), .val (.int p1)] [])) _
          refine XS.bipush X0.here hx rfl (hb hby d2_33) ?_
          show Steps p.tables e below (s₁.setTop (mkF m 35 #[.val (.int p1), .val (.int p1)] [(.int (34 : Int32))])) _
          exact retN X0 hx (t := .char) Bd.returns (by simp) (hb hby d2_35) hr
        · show Q2 Z p1 h0 n0 _ s₁.heap _
          rw [e0]
          exact ⟨by simp only [own_f2, if_pos hc6, if_neg hc23, if_neg hc30], N0, rfl⟩
  · have pre4 : ∀ t, Steps p.tables e below (s₁.setTop (mkF m 13 #[.val (.int p1), .val (.int p1)] [(.int (8219 : Int32)), (.int p1)])) t → Steps p.tables e below _ t := fun t kt => pre1 t (by
      show Steps p.tables e below (s₁.setTop (mkF m 6 #[.val (.int p1), .val (.int p1)] [(.int (8216 : Int32)), (.int p1)])) _
      refine XS.icmpNo X0.here hx rfl (hb hby d2_6) rfl (flt hc6).1 ?_
      show Steps p.tables e below (s₁.setTop (mkF m 9 #[.val (.int p1), .val (.int p1)] [])) _
      refine XS.iloadN X0.here hx rfl (hb hby d2_9) rfl ?_
      show Steps p.tables e below (s₁.setTop (mkF m 10 #[.val (.int p1), .val (.int p1)] [(.int p1)])) _
      refine XS.sipush X0.here hx rfl (hb hby d2_10) ?_
      exact kt)
    by_cases hc13 : (8219 : Int32) < p1
    · have pre5 : ∀ t, Steps p.tables e below (s₁.setTop (mkF m 23 #[.val (.int p1), .val (.int p1)] [(.int (8220 : Int32)), (.int p1)])) t → Steps p.tables e below _ t := fun t kt => pre4 t (by
        show Steps p.tables e below (s₁.setTop (mkF m 13 #[.val (.int p1), .val (.int p1)] [(.int (8219 : Int32)), (.int p1)])) _
        refine XS.icmpYes X0.here hx rfl (pc0 := 13) (pc' := 19) rfl (hb hby d2_13) rfl (tlt hc13).2.2.1 (by decide) (by decide) ?_
        show Steps p.tables e below (s₁.setTop (mkF m 19 #[.val (.int p1), .val (.int p1)] [])) _
        refine XS.iloadN X0.here hx rfl (hb hby d2_19) rfl ?_
        show Steps p.tables e below (s₁.setTop (mkF m 20 #[.val (.int p1), .val (.int p1)] [(.int p1)])) _
        refine XS.sipush X0.here hx rfl (hb hby d2_20) ?_
        exact kt)
      by_cases hc23 : p1 < (8220 : Int32)
      · obtain ⟨fs, hr, hrun, hended, hW, hsame⟩ := X0.leave (v := some (.int (nar .char p1))) (fun h => by rw [Bd.returns] at h; cases h)
        refine ⟨_, _, pre5 _ ?_, hrun, hended, _, _, rfl, ?_, ⟨_, rfl⟩, hW, hsame.mono (by decide) (by decide)⟩
        · show Steps p.tables e below (s₁.setTop (mkF m 23 #[.val (.int p1), .val (.int p1)] [(.int (8220 : Int32)), (.int p1)])) _
          refine XS.icmpYes X0.here hx rfl (pc0 := 23) (pc' := 36) rfl (hb hby d2_23) rfl (tlt hc23).1 (by decide) (by decide) ?_
          show Steps p.tables e below (s₁.setTop (mkF m 36 #[.val (.int p1), .val (.int p1)] [])) _
          refine XS.iloadN X0.here hx rfl (hb hby d2_36) rfl ?_
          show Steps p.tables e below (s₁.setTop (mkF m 37 #[.val (.int p1), .val (.int p1)] [(.int p1)])) _
          exact retN X0 hx (t := .char) Bd.returns (by simp) (hb hby d2_37) hr
        · show Q2 Z p1 h0 n0 _ s₁.heap _
          rw [e0]
          exact ⟨by simp only [own_f2, if_neg hc6, if_pos hc13, if_pos hc23], N0, rfl⟩
      · have pre6 : ∀ t, Steps p.tables e below (s₁.setTop (mkF m 30 #[.val (.int p1), .val (.int p1)] [(.int (8223 : Int32)), (.int p1)])) t → Steps p.tables e below _ t := fun t kt => pre5 t (by
          show Steps p.tables e below (s₁.setTop (mkF m 23 #[.val (.int p1), .val (.int p1)] [(.int (8220 : Int32)), (.int p1)])) _
          refine XS.icmpNo X0.here hx rfl (hb hby d2_23) rfl (flt hc23).1 ?_
          show Steps p.tables e below (s₁.setTop (mkF m 26 #[.val (.int p1), .val (.int p1)] [])) _
          refine XS.iloadN X0.here hx rfl (hb hby d2_26) rfl ?_
          show Steps p.tables e below (s₁.setTop (mkF m 27 #[.val (.int p1), .val (.int p1)] [(.int p1)])) _
          refine XS.sipush X0.here hx rfl (hb hby d2_27) ?_
          exact kt)
        by_cases hc30 : (8223 : Int32) < p1
        · obtain ⟨fs, hr, hrun, hended, hW, hsame⟩ := X0.leave (v := some (.int (nar .char p1))) (fun h => by rw [Bd.returns] at h; cases h)
          refine ⟨_, _, pre6 _ ?_, hrun, hended, _, _, rfl, ?_, ⟨_, rfl⟩, hW, hsame.mono (by decide) (by decide)⟩
          · show Steps p.tables e below (s₁.setTop (mkF m 30 #[.val (.int p1), .val (.int p1)] [(.int (8223 : Int32)), (.int p1)])) _
            refine XS.icmpYes X0.here hx rfl (pc0 := 30) (pc' := 36) rfl (hb hby d2_30) rfl (tlt hc30).2.2.1 (by decide) (by decide) ?_
            show Steps p.tables e below (s₁.setTop (mkF m 36 #[.val (.int p1), .val (.int p1)] [])) _
            refine XS.iloadN X0.here hx rfl (hb hby d2_36) rfl ?_
            show Steps p.tables e below (s₁.setTop (mkF m 37 #[.val (.int p1), .val (.int p1)] [(.int p1)])) _
            exact retN X0 hx (t := .char) Bd.returns (by simp) (hb hby d2_37) hr
          · show Q2 Z p1 h0 n0 _ s₁.heap _
            rw [e0]
            exact ⟨by simp only [own_f2, if_neg hc6, if_pos hc13, if_neg hc23, if_pos hc30], N0, rfl⟩
        · obtain ⟨fs, hr, hrun, hended, hW, hsame⟩ := X0.leave (v := some (.int (34 : Int32))) (fun h => by rw [Bd.returns] at h; cases h)
          refine ⟨_, _, pre6 _ ?_, hrun, hended, _, _, rfl, ?_, ⟨_, rfl⟩, hW, hsame.mono (by decide) (by decide)⟩
          · show Steps p.tables e below (s₁.setTop (mkF m 30 #[.val (.int p1), .val (.int p1)] [(.int (8223 : Int32)), (.int p1)])) _
            refine XS.icmpNo X0.here hx rfl (hb hby d2_30) rfl (flt hc30).2.2.1 ?_
            show Steps p.tables e below (s₁.setTop (mkF m 33 #[.val (.int p1), .val (.int p1)] [])) _
            refine XS.bipush X0.here hx rfl (hb hby d2_33) ?_
            show Steps p.tables e below (s₁.setTop (mkF m 35 #[.val (.int p1), .val (.int p1)] [(.int (34 : Int32))])) _
            exact retN X0 hx (t := .char) Bd.returns (by simp) (hb hby d2_35) hr
          · show Q2 Z p1 h0 n0 _ s₁.heap _
            rw [e0]
            exact ⟨by simp only [own_f2, if_neg hc6, if_pos hc13, if_neg hc23, if_neg hc30], N0, rfl⟩
    · obtain ⟨fs, hr, hrun, hended, hW, hsame⟩ := X0.leave (v := some (.int (39 : Int32))) (fun h => by rw [Bd.returns] at h; cases h)
      refine ⟨_, _, pre4 _ ?_, hrun, hended, _, _, rfl, ?_, ⟨_, rfl⟩, hW, hsame.mono (by decide) (by decide)⟩
      · show Steps p.tables e below (s₁.setTop (mkF m 13 #[.val (.int p1), .val (.int p1)] [(.int (8219 : Int32)), (.int p1)])) _
        refine XS.icmpNo X0.here hx rfl (hb hby d2_13) rfl (flt hc13).2.2.1 ?_
        show Steps p.tables e below (s₁.setTop (mkF m 16 #[.val (.int p1), .val (.int p1)] [])) _
        refine XS.bipush X0.here hx rfl (hb hby d2_16) ?_
        show Steps p.tables e below (s₁.setTop (mkF m 18 #[.val (.int p1), .val (.int p1)] [(.int (39 : Int32))])) _
        exact retN X0 hx (t := .char) Bd.returns (by simp) (hb hby d2_18) hr
      · show Q2 Z p1 h0 n0 _ s₁.heap _
        rw [e0]
        exact ⟨by simp only [own_f2, if_neg hc6, if_neg hc13], N0, rfl⟩
theorem pn_0 : plainName "com/example/recital/recital/read/PlainTextAsciiPinLaw" = true := by first | (simp [plainName, overriddenIn]; done) | decide +kernel
theorem ef_0 (m : MethodId) (x0 : Int32) (x1 : Int32) : entryFrame m #[(.int x0), (.int x1)] maxLocals = mkF m 0 #[.val (.int x0), .val (.int x1), .unset] [] := by first | (simp [entryFrame, mkF, argsToLocals, Value.category, maxLocals]; done) | rfl
theorem pd_0 : parseMethodDescriptor "(C)C" = some ⟨[.char], some .char⟩ := by decide +kernel
def own_f0 (p1 : Int32) (p2 : Int32) : Int32 := if (own_f1 (if (p2 &&& (1 : Int32)) = (0 : Int32) then (p1.toUInt32.toUInt16.toUInt32.toInt32) else (((8208 : Int32) + (p1 &&& (31 : Int32))).toUInt32.toUInt16.toUInt32.toInt32))) = (own_f2 (if (p2 &&& (1 : Int32)) = (0 : Int32) then (p1.toUInt32.toUInt16.toUInt32.toInt32) else (((8208 : Int32) + (p1 &&& (31 : Int32))).toUInt32.toUInt16.toUInt32.toInt32))) then ((1 : Int32)) else ((0 : Int32))
def Q0 (Z : State) (p1 : Int32) (p2 : Int32) (h0 : Heap) (n0 : Nat) (v : Option Value) (h : Heap) (L : List Loc) : Prop := v = some (.int (own_f0 p1 p2)) ∧ Fr n0 L ∧ h = h0
set_option maxRecDepth 65536 in
set_option maxHeartbeats 40000000 in
theorem rm0 (l : Launch) (Z : State) (a0 : Array Value) (hw : ∀ d ∈ tables_1, d.before a0 Z = true) (ws : List Jvm.Cond) (p1 : Int32) (p2 : Int32) (h0 : Heap) (n0 : Nat) (Z0 : n0 ≤ h0.size) :
    MetFree l x (head1 (Jvm.Cond.code x code maxLocals ret :: ws) room_1) (fun a U => a = #[(.int p1), (.int p2)] ∧ Z.Warmed39 U.vm ∧ U.heap = h0) (fun _ _ _ _ _ => True) (fun _ U o U' => ∃ v L, o = .returned v ∧ Q0 Z p1 p2 h0 n0 v U'.heap L ∧ FrameEnd U o U' L room_1.cells room_1.slots) := by
  refine MetFree.of_bodySF (plainFor_of_name pn_0) hisR ?_
  intro p e s m args below meth c s₁ Bd hml0 hP hK
  obtain ⟨rfl, hZ, hh⟩ := hP
  have hx := Bd.exec
  have hby := Bd.bytes
  have hml : c.maxLocals = 3 := hml0
  have hown : s.vm.findClass "com/example/recital/recital/read/PlainTextAsciiPinLaw" = some m.cls := findClass_of_methodNamed Bd.named
  have hnm := (name_of_methodNamed Bd.named Bd.method).1
  have X0 : Stand p l e room_1 s m #[(.int p1), (.int p2)] below meth c s₁ [] 0 0 := Stand.of_body Bd
  have e0 : s₁.heap = h0 := by rw [← hh, Bd.state]; rfl
  have N0 := Fr.nil n0
  have pre0 : ∀ t, Steps p.tables e below (s₁.setTop (mkF m 0 #[.val (.int p1), .val (.int p2), .unset] [])) t → Steps p.tables e below (s₁.setTop (entryFrame m #[(.int p1), (.int p2)] maxLocals)) t := fun t k => castTop (ef_0 m p1 p2) k
  have pre1 : ∀ t, Steps p.tables e below (s₁.setTop (mkF m 3 #[.val (.int p1), .val (.int p2), .unset] [(.int (p2 &&& (1 : Int32)))])) t → Steps p.tables e below _ t := fun t kt => pre0 t (by
    show Steps p.tables e below (s₁.setTop (mkF m 0 #[.val (.int p1), .val (.int p2), .unset] [])) _
    refine XS.iloadN X0.here hx rfl (hb hby at_0) rfl ?_
    show Steps p.tables e below (s₁.setTop (mkF m 1 #[.val (.int p1), .val (.int p2), .unset] [(.int p2)])) _
    refine XS.iconst X0.here hx rfl (hb hby at_1) ?_
    show Steps p.tables e below (s₁.setTop (mkF m 2 #[.val (.int p1), .val (.int p2), .unset] [(.int (1 : Int32)), (.int p2)])) _
    refine XS.iand X0.here hx rfl (hb hby at_2) rfl ?_
    exact kt)
  have pre2 : ∀ t, Steps p.tables e below (s₁.setTop (mkF m 22 #[.val (.int p1), .val (.int p2), .val (.int (if (p2 &&& (1 : Int32)) = (0 : Int32) then (p1.toUInt32.toUInt16.toUInt32.toInt32) else (((8208 : Int32) + (p1 &&& (31 : Int32))).toUInt32.toUInt16.toUInt32.toInt32)))] [])) t → Steps p.tables e below (s₁.setTop (entryFrame m #[(.int p1), (.int p2)] maxLocals)) t := fun t kt => by
    refine pre1 t ?_
    by_cases hd3 : (p2 &&& (1 : Int32)) = (0 : Int32)
    · simp only [if_pos hd3] at kt
      show Steps p.tables e below (s₁.setTop (mkF m 3 #[.val (.int p1), .val (.int p2), .unset] [(.int (p2 &&& (1 : Int32)))])) _
      refine XS.ifYes X0.here hx rfl (pc0 := 3) (pc' := 19) rfl (hb hby at_3) rfl ((if0 _ _).trans (teq hd3).1) (by decide) (by decide) ?_
      show Steps p.tables e below (s₁.setTop (mkF m 19 #[.val (.int p1), .val (.int p2), .unset] [])) _
      refine XS.iloadN X0.here hx rfl (hb hby at_19) rfl ?_
      show Steps p.tables e below (s₁.setTop (mkF m 20 #[.val (.int p1), .val (.int p2), .unset] [(.int p1)])) _
      refine XS.i2c X0.here hx rfl (hb hby at_20) rfl ?_
      show Steps p.tables e below (s₁.setTop (mkF m 21 #[.val (.int p1), .val (.int p2), .unset] [(.int (p1.toUInt32.toUInt16.toUInt32.toInt32))])) _
      refine XS.istoreN X0.here hx rfl (hb hby at_21) rfl (l' := #[.val (.int p1), .val (.int p2), .val (.int (p1.toUInt32.toUInt16.toUInt32.toInt32))]) rfl ?_
      exact kt
    · simp only [if_neg hd3] at kt
      show Steps p.tables e below (s₁.setTop (mkF m 3 #[.val (.int p1), .val (.int p2), .unset] [(.int (p2 &&& (1 : Int32)))])) _
      refine XS.ifNo X0.here hx rfl (hb hby at_3) rfl ((if0 _ _).trans (feq hd3).1) ?_
      show Steps p.tables e below (s₁.setTop (mkF m 6 #[.val (.int p1), .val (.int p2), .unset] [])) _
      refine XS.sipush X0.here hx rfl (hb hby at_6) ?_
      show Steps p.tables e below (s₁.setTop (mkF m 9 #[.val (.int p1), .val (.int p2), .unset] [(.int (8208 : Int32))])) _
      refine XS.iloadN X0.here hx rfl (hb hby at_9) rfl ?_
      show Steps p.tables e below (s₁.setTop (mkF m 10 #[.val (.int p1), .val (.int p2), .unset] [(.int p1), (.int (8208 : Int32))])) _
      refine XS.bipush X0.here hx rfl (hb hby at_10) ?_
      show Steps p.tables e below (s₁.setTop (mkF m 12 #[.val (.int p1), .val (.int p2), .unset] [(.int (31 : Int32)), (.int p1), (.int (8208 : Int32))])) _
      refine XS.iand X0.here hx rfl (hb hby at_12) rfl ?_
      show Steps p.tables e below (s₁.setTop (mkF m 13 #[.val (.int p1), .val (.int p2), .unset] [(.int (p1 &&& (31 : Int32))), (.int (8208 : Int32))])) _
      refine XS.iadd X0.here hx rfl (hb hby at_13) rfl ?_
      show Steps p.tables e below (s₁.setTop (mkF m 14 #[.val (.int p1), .val (.int p2), .unset] [(.int ((8208 : Int32) + (p1 &&& (31 : Int32))))])) _
      refine XS.i2c X0.here hx rfl (hb hby at_14) rfl ?_
      show Steps p.tables e below (s₁.setTop (mkF m 15 #[.val (.int p1), .val (.int p2), .unset] [(.int (((8208 : Int32) + (p1 &&& (31 : Int32))).toUInt32.toUInt16.toUInt32.toInt32))])) _
      refine XS.istoreN X0.here hx rfl (hb hby at_15) rfl (l' := #[.val (.int p1), .val (.int p2), .val (.int (((8208 : Int32) + (p1 &&& (31 : Int32))).toUInt32.toUInt16.toUInt32.toInt32))]) rfl ?_
      show Steps p.tables e below (s₁.setTop (mkF m 16 #[.val (.int p1), .val (.int p2), .val (.int (((8208 : Int32) + (p1 &&& (31 : Int32))).toUInt32.toUInt16.toUInt32.toInt32))] [])) _
      refine XS.goto X0.here hx rfl (pc0 := 16) (pc' := 22) rfl (hb hby at_16) (by decide) (by decide) ?_
      exact kt
  have pre3 : ∀ t, Steps p.tables e below (s₁.setTop (mkF m 23 #[.val (.int p1), .val (.int p2), .val (.int (if (p2 &&& (1 : Int32)) = (0 : Int32) then (p1.toUInt32.toUInt16.toUInt32.toInt32) else (((8208 : Int32) + (p1 &&& (31 : Int32))).toUInt32.toUInt16.toUInt32.toInt32)))] [(.int (if (p2 &&& (1 : Int32)) = (0 : Int32) then (p1.toUInt32.toUInt16.toUInt32.toInt32) else (((8208 : Int32) + (p1 &&& (31 : Int32))).toUInt32.toUInt16.toUInt32.toInt32)))])) t → Steps p.tables e below _ t := fun t kt => pre2 t (by
    show Steps p.tables e below (s₁.setTop (mkF m 22 #[.val (.int p1), .val (.int p2), .val (.int (if (p2 &&& (1 : Int32)) = (0 : Int32) then (p1.toUInt32.toUInt16.toUInt32.toInt32) else (((8208 : Int32) + (p1 &&& (31 : Int32))).toUInt32.toUInt16.toUInt32.toInt32)))] [])) _
    refine XS.iloadN X0.here hx rfl (hb hby at_22) rfl ?_
    exact kt)
  obtain ⟨_, _, ⟨T4, L4, k4, n4⟩, -, X4, ⟨Lc4, hQ4, l4, y4, z4⟩, st4⟩ := Jvm.LawKit.callS X0 hx (y := (⟨"com/example/recital/recital/read/PlainText", "ascii", "(C)C"⟩ : MethodName)) hown (mvT hZ (hw _ (List.mem_of_getElem? (i := 0) rfl))) (mvT hZ (hw _ (List.mem_of_getElem? (i := 1) rfl))) (mvT hZ (hw _ (List.mem_of_getElem? (i := 2) rfl))) (mvT hZ (hw _ (List.mem_of_getElem? (i := 3) rfl))) (by decide) (backOf (W := 0) (rm1 l Z a0 hw [] (if (p2 &&& (1 : Int32)) = (0 : Int32) then (p1.toUInt32.toUInt16.toUInt32.toInt32) else (((8208 : Int32) + (p1 &&& (31 : Int32))).toUInt32.toUInt16.toUInt32.toInt32)) h0 n0 Z0) hZ (hw _ (List.mem_of_getElem? (i := 3) rfl)) (hw _ (List.mem_of_getElem? (i := 2) rfl)) (by decide) (by decide)) (g := (mkF m 23 #[.val (.int p1), .val (.int p2), .val (.int (if (p2 &&& (1 : Int32)) = (0 : Int32) then (p1.toUInt32.toUInt16.toUInt32.toInt32) else (((8208 : Int32) + (p1 &&& (31 : Int32))).toUInt32.toUInt16.toUInt32.toInt32)))] [(.int (if (p2 &&& (1 : Int32)) = (0 : Int32) then (p1.toUInt32.toUInt16.toUInt32.toInt32) else (((8208 : Int32) + (p1 &&& (31 : Int32))).toUInt32.toUInt16.toUInt32.toInt32)))])) rfl (by rw [hml]; rfl) (argsL := [(.int (if (p2 &&& (1 : Int32)) = (0 : Int32) then (p1.toUInt32.toUInt16.toUInt32.toInt32) else (((8208 : Int32) + (p1 &&& (31 : Int32))).toUInt32.toUInt16.toUInt32.toInt32)))]) (rest := []) (lenOf pd_0 rfl) rfl (by show 2 * 0 + _ ≤ _; exact Nat.le_of_eq rfl) (hb hby at_23) (fun _ _ => ⟨rfl, e0, (by decide : 0 + 0 ≤ _), (by decide : 0 + 0 ≤ _)⟩)
  dsimp only [Pt.U, Pt.locs, Pt.cells, Pt.slots] at X4 l4 y4 z4 st4 hQ4
  subst l4 y4 z4
  obtain ⟨rfl, N4q, e4⟩ := hQ4
  have N4 := Fr.app N0 N4q
  have pre5 : ∀ t, Steps p.tables e below (T4.setTop (mkF m 27 #[.val (.int p1), .val (.int p2), .val (.int (if (p2 &&& (1 : Int32)) = (0 : Int32) then (p1.toUInt32.toUInt16.toUInt32.toInt32) else (((8208 : Int32) + (p1 &&& (31 : Int32))).toUInt32.toUInt16.toUInt32.toInt32)))] [(.int (if (p2 &&& (1 : Int32)) = (0 : Int32) then (p1.toUInt32.toUInt16.toUInt32.toInt32) else (((8208 : Int32) + (p1 &&& (31 : Int32))).toUInt32.toUInt16.toUInt32.toInt32))), (.int (own_f1 (if (p2 &&& (1 : Int32)) = (0 : Int32) then (p1.toUInt32.toUInt16.toUInt32.toInt32) else (((8208 : Int32) + (p1 &&& (31 : Int32))).toUInt32.toUInt16.toUInt32.toInt32))))])) t → Steps p.tables e below _ t := fun t kt => pre3 t (by
    show Steps p.tables e below (s₁.setTop (mkF m 23 #[.val (.int p1), .val (.int p2), .val (.int (if (p2 &&& (1 : Int32)) = (0 : Int32) then (p1.toUInt32.toUInt16.toUInt32.toInt32) else (((8208 : Int32) + (p1 &&& (31 : Int32))).toUInt32.toUInt16.toUInt32.toInt32)))] [(.int (if (p2 &&& (1 : Int32)) = (0 : Int32) then (p1.toUInt32.toUInt16.toUInt32.toInt32) else (((8208 : Int32) + (p1 &&& (31 : Int32))).toUInt32.toUInt16.toUInt32.toInt32)))])) _
    refine st4 _ ?_
    show Steps p.tables e below (T4.setTop (mkF m 26 #[.val (.int p1), .val (.int p2), .val (.int (if (p2 &&& (1 : Int32)) = (0 : Int32) then (p1.toUInt32.toUInt16.toUInt32.toInt32) else (((8208 : Int32) + (p1 &&& (31 : Int32))).toUInt32.toUInt16.toUInt32.toInt32)))] [(.int (own_f1 (if (p2 &&& (1 : Int32)) = (0 : Int32) then (p1.toUInt32.toUInt16.toUInt32.toInt32) else (((8208 : Int32) + (p1 &&& (31 : Int32))).toUInt32.toUInt16.toUInt32.toInt32))))])) _
    refine XS.iloadN X4.here hx rfl (hb hby at_26) rfl ?_
    exact kt)
  obtain ⟨_, _, ⟨T6, L6, k6, n6⟩, -, X6, ⟨Lc6, hQ6, l6, y6, z6⟩, st6⟩ := Jvm.LawKit.callS X4 hx (y := (⟨"com/example/recital/recital/read/PlainTextAsciiPinLaw", "expected", "(C)C"⟩ : MethodName)) hown (mvT hZ (hw _ (List.mem_of_getElem? (i := 4) rfl))) (mvT hZ (hw _ (List.mem_of_getElem? (i := 5) rfl))) (mvT hZ (hw _ (List.mem_of_getElem? (i := 6) rfl))) (mvT hZ (hw _ (List.mem_of_getElem? (i := 7) rfl))) (by decide) (backOf (W := 1) (rm2 l Z a0 hw [] (if (p2 &&& (1 : Int32)) = (0 : Int32) then (p1.toUInt32.toUInt16.toUInt32.toInt32) else (((8208 : Int32) + (p1 &&& (31 : Int32))).toUInt32.toUInt16.toUInt32.toInt32)) h0 n0 Z0) hZ (hw _ (List.mem_of_getElem? (i := 7) rfl)) (hw _ (List.mem_of_getElem? (i := 6) rfl)) (by decide) (by decide)) (g := (mkF m 27 #[.val (.int p1), .val (.int p2), .val (.int (if (p2 &&& (1 : Int32)) = (0 : Int32) then (p1.toUInt32.toUInt16.toUInt32.toInt32) else (((8208 : Int32) + (p1 &&& (31 : Int32))).toUInt32.toUInt16.toUInt32.toInt32)))] [(.int (if (p2 &&& (1 : Int32)) = (0 : Int32) then (p1.toUInt32.toUInt16.toUInt32.toInt32) else (((8208 : Int32) + (p1 &&& (31 : Int32))).toUInt32.toUInt16.toUInt32.toInt32))), (.int (own_f1 (if (p2 &&& (1 : Int32)) = (0 : Int32) then (p1.toUInt32.toUInt16.toUInt32.toInt32) else (((8208 : Int32) + (p1 &&& (31 : Int32))).toUInt32.toUInt16.toUInt32.toInt32))))])) rfl (by rw [hml]; rfl) (argsL := [(.int (if (p2 &&& (1 : Int32)) = (0 : Int32) then (p1.toUInt32.toUInt16.toUInt32.toInt32) else (((8208 : Int32) + (p1 &&& (31 : Int32))).toUInt32.toUInt16.toUInt32.toInt32)))]) (rest := [(.int (own_f1 (if (p2 &&& (1 : Int32)) = (0 : Int32) then (p1.toUInt32.toUInt16.toUInt32.toInt32) else (((8208 : Int32) + (p1 &&& (31 : Int32))).toUInt32.toUInt16.toUInt32.toInt32))))]) (lenOf pd_0 rfl) rfl (by show 2 * 0 + _ ≤ _; exact Nat.le_of_eq rfl) (hb hby at_27) (fun _ _ => ⟨rfl, e4, (by decide : 0 + 0 ≤ _), (by decide : 0 + 0 ≤ _)⟩)
  dsimp only [Pt.U, Pt.locs, Pt.cells, Pt.slots] at X6 l6 y6 z6 st6 hQ6
  subst l6 y6 z6
  obtain ⟨rfl, N6q, e6⟩ := hQ6
  have N6 := Fr.app N4 N6q
  have pre7 : ∀ t, Steps p.tables e below (T6.setTop (mkF m 30 #[.val (.int p1), .val (.int p2), .val (.int (if (p2 &&& (1 : Int32)) = (0 : Int32) then (p1.toUInt32.toUInt16.toUInt32.toInt32) else (((8208 : Int32) + (p1 &&& (31 : Int32))).toUInt32.toUInt16.toUInt32.toInt32)))] [(.int (own_f2 (if (p2 &&& (1 : Int32)) = (0 : Int32) then (p1.toUInt32.toUInt16.toUInt32.toInt32) else (((8208 : Int32) + (p1 &&& (31 : Int32))).toUInt32.toUInt16.toUInt32.toInt32)))), (.int (own_f1 (if (p2 &&& (1 : Int32)) = (0 : Int32) then (p1.toUInt32.toUInt16.toUInt32.toInt32) else (((8208 : Int32) + (p1 &&& (31 : Int32))).toUInt32.toUInt16.toUInt32.toInt32))))])) t → Steps p.tables e below _ t := fun t kt => pre5 t (by
    show Steps p.tables e below (T4.setTop (mkF m 27 #[.val (.int p1), .val (.int p2), .val (.int (if (p2 &&& (1 : Int32)) = (0 : Int32) then (p1.toUInt32.toUInt16.toUInt32.toInt32) else (((8208 : Int32) + (p1 &&& (31 : Int32))).toUInt32.toUInt16.toUInt32.toInt32)))] [(.int (if (p2 &&& (1 : Int32)) = (0 : Int32) then (p1.toUInt32.toUInt16.toUInt32.toInt32) else (((8208 : Int32) + (p1 &&& (31 : Int32))).toUInt32.toUInt16.toUInt32.toInt32))), (.int (own_f1 (if (p2 &&& (1 : Int32)) = (0 : Int32) then (p1.toUInt32.toUInt16.toUInt32.toInt32) else (((8208 : Int32) + (p1 &&& (31 : Int32))).toUInt32.toUInt16.toUInt32.toInt32))))])) _
    refine st6 _ ?_
    exact kt)
  by_cases hc30 : (own_f1 (if (p2 &&& (1 : Int32)) = (0 : Int32) then (p1.toUInt32.toUInt16.toUInt32.toInt32) else (((8208 : Int32) + (p1 &&& (31 : Int32))).toUInt32.toUInt16.toUInt32.toInt32))) = (own_f2 (if (p2 &&& (1 : Int32)) = (0 : Int32) then (p1.toUInt32.toUInt16.toUInt32.toInt32) else (((8208 : Int32) + (p1 &&& (31 : Int32))).toUInt32.toUInt16.toUInt32.toInt32)))
  · obtain ⟨fs, hr, hrun, hended, hW, hsame⟩ := X6.leave (v := some (.int (1 : Int32))) (fun h => by rw [Bd.returns] at h; cases h)
    refine ⟨_, _, pre7 _ ?_, hrun, hended, _, _, rfl, ?_, ⟨_, rfl⟩, hW, hsame.mono (by decide) (by decide)⟩
    · show Steps p.tables e below (T6.setTop (mkF m 30 #[.val (.int p1), .val (.int p2), .val (.int (if (p2 &&& (1 : Int32)) = (0 : Int32) then (p1.toUInt32.toUInt16.toUInt32.toInt32) else (((8208 : Int32) + (p1 &&& (31 : Int32))).toUInt32.toUInt16.toUInt32.toInt32)))] [(.int (own_f2 (if (p2 &&& (1 : Int32)) = (0 : Int32) then (p1.toUInt32.toUInt16.toUInt32.toInt32) else (((8208 : Int32) + (p1 &&& (31 : Int32))).toUInt32.toUInt16.toUInt32.toInt32)))), (.int (own_f1 (if (p2 &&& (1 : Int32)) = (0 : Int32) then (p1.toUInt32.toUInt16.toUInt32.toInt32) else (((8208 : Int32) + (p1 &&& (31 : Int32))).toUInt32.toUInt16.toUInt32.toInt32))))])) _
      refine XS.icmpNo X6.here hx rfl (hb hby at_30) rfl (teq hc30).2 ?_
      show Steps p.tables e below (T6.setTop (mkF m 33 #[.val (.int p1), .val (.int p2), .val (.int (if (p2 &&& (1 : Int32)) = (0 : Int32) then (p1.toUInt32.toUInt16.toUInt32.toInt32) else (((8208 : Int32) + (p1 &&& (31 : Int32))).toUInt32.toUInt16.toUInt32.toInt32)))] [])) _
      refine XS.iconst X6.here hx rfl (hb hby at_33) ?_
      show Steps p.tables e below (T6.setTop (mkF m 34 #[.val (.int p1), .val (.int p2), .val (.int (if (p2 &&& (1 : Int32)) = (0 : Int32) then (p1.toUInt32.toUInt16.toUInt32.toInt32) else (((8208 : Int32) + (p1 &&& (31 : Int32))).toUInt32.toUInt16.toUInt32.toInt32)))] [(.int (1 : Int32))])) _
      refine XS.goto X6.here hx rfl (pc0 := 34) (pc' := 38) rfl (hb hby at_34) (by decide) (by decide) ?_
      show Steps p.tables e below (T6.setTop (mkF m 38 #[.val (.int p1), .val (.int p2), .val (.int (if (p2 &&& (1 : Int32)) = (0 : Int32) then (p1.toUInt32.toUInt16.toUInt32.toInt32) else (((8208 : Int32) + (p1 &&& (31 : Int32))).toUInt32.toUInt16.toUInt32.toInt32)))] [(.int (1 : Int32))])) _
      exact retN X6 hx (t := .boolean) Bd.returns (by simp) (hb hby at_38) hr
    · show Q0 Z p1 p2 h0 n0 _ T6.heap _
      rw [e6]
      exact ⟨by simp only [own_f0, if_pos hc30], N6, rfl⟩
  · obtain ⟨fs, hr, hrun, hended, hW, hsame⟩ := X6.leave (v := some (.int (0 : Int32))) (fun h => by rw [Bd.returns] at h; cases h)
    refine ⟨_, _, pre7 _ ?_, hrun, hended, _, _, rfl, ?_, ⟨_, rfl⟩, hW, hsame.mono (by decide) (by decide)⟩
    · show Steps p.tables e below (T6.setTop (mkF m 30 #[.val (.int p1), .val (.int p2), .val (.int (if (p2 &&& (1 : Int32)) = (0 : Int32) then (p1.toUInt32.toUInt16.toUInt32.toInt32) else (((8208 : Int32) + (p1 &&& (31 : Int32))).toUInt32.toUInt16.toUInt32.toInt32)))] [(.int (own_f2 (if (p2 &&& (1 : Int32)) = (0 : Int32) then (p1.toUInt32.toUInt16.toUInt32.toInt32) else (((8208 : Int32) + (p1 &&& (31 : Int32))).toUInt32.toUInt16.toUInt32.toInt32)))), (.int (own_f1 (if (p2 &&& (1 : Int32)) = (0 : Int32) then (p1.toUInt32.toUInt16.toUInt32.toInt32) else (((8208 : Int32) + (p1 &&& (31 : Int32))).toUInt32.toUInt16.toUInt32.toInt32))))])) _
      refine XS.icmpYes X6.here hx rfl (pc0 := 30) (pc' := 37) rfl (hb hby at_30) rfl (feq hc30).2 (by decide) (by decide) ?_
      show Steps p.tables e below (T6.setTop (mkF m 37 #[.val (.int p1), .val (.int p2), .val (.int (if (p2 &&& (1 : Int32)) = (0 : Int32) then (p1.toUInt32.toUInt16.toUInt32.toInt32) else (((8208 : Int32) + (p1 &&& (31 : Int32))).toUInt32.toUInt16.toUInt32.toInt32)))] [])) _
      refine XS.iconst X6.here hx rfl (hb hby at_37) ?_
      show Steps p.tables e below (T6.setTop (mkF m 38 #[.val (.int p1), .val (.int p2), .val (.int (if (p2 &&& (1 : Int32)) = (0 : Int32) then (p1.toUInt32.toUInt16.toUInt32.toInt32) else (((8208 : Int32) + (p1 &&& (31 : Int32))).toUInt32.toUInt16.toUInt32.toInt32)))] [(.int (0 : Int32))])) _
      exact retN X6 hx (t := .boolean) Bd.returns (by simp) (hb hby at_38) hr
    · show Q0 Z p1 p2 h0 n0 _ T6.heap _
      rw [e6]
      exact ⟨by simp only [own_f0, if_neg hc30], N6, rfl⟩

theorem own_same (c : Int32) : own_f1 c = own_f2 c := by
  unfold own_f1 own_f2
  have k1 : (8216 : Int32).toInt = 8216 := by decide
  have k2 : (8219 : Int32).toInt = 8219 := by decide
  have k3 : (8220 : Int32).toInt = 8220 := by decide
  have k4 : (8223 : Int32).toInt = 8223 := by decide
  simp only [Int32.lt_iff_toInt_lt, k1, k2, k3, k4]
  repeat' split
  all_goals first | rfl | omega
theorem own_law (a b : Int32) : own_f0 a b = 1 := by
  unfold own_f0
  rw [if_pos (own_same _)]
set_option maxRecDepth 65536 in
set_option maxHeartbeats 40000000 in
theorem comes_1 {Post : Tables → Env → Array Value → State → Outcome → State → Prop} (hpost : ∀ tb e args s v u, (limb_1_1.after args s (.returned v) u = true ∧ limb_1_2.after args s (.returned v) u = true ∧ True) → FrameEnd s (.returned v) u (Jvm.fieldLocs frame_1_writes args s ++ Jvm.arrayLocs frame_1_arrays args s ++ Jvm.staticLocs frame_1_statics s) 0 0 → Post tb e args s (.returned v) u) :
    ArmFor flags0 classFile x code maxLocals ret World_1 tables_1 room_1 Calls_1 rest_1 Pre_1 Post := by
  intro l hfl _ _ p e ha hc hk s m args below hf hA hF happ hP
  obtain ⟨hcalls, hrest, hpre⟩ := hP
  obtain ⟨-, -, -, hnamed, -, -, -, hat⟩ := (Spec.applies_iff hf).mp happ
  obtain ⟨hg, hn⟩ := and_e (Cond.before_iff.mp (show (Jvm.Cond.and given_1 narrow_1).before args s = true from hpre))
  obtain ⟨gc, gr0⟩ := and_e hg
  obtain ⟨ga0, gr1⟩ := and_e gr0
  obtain ⟨w0, w1, rfl⟩ : ∃ w0 w1 : Value, args = #[w0, w1] := by
    have hs : args.size = 2 := by simpa [Cond.value, given_1] using gc
    obtain ⟨L⟩ := args
    match L, hs with
    | [w0, w1], _ => exact ⟨w0, w1, rfl⟩
  have hw := fun d (hd : d ∈ tables_1) => atoms_spec (ws := Jvm.Cond.code x code maxLocals ret :: tables_1) hat d (List.mem_cons_of_mem _ hd)
  have hfit : Fit s := fun {y c} hc i hi => by
    obtain ⟨ha, rfl⟩ := Array.getElem?_eq_some_iff.mp hc
    have q := List.all_eq_true.mp ((Array.all_eq_true_iff_forall_mem.mp hF) _ (Array.getElem_mem ha)) i (List.mem_range.mpr hi)
    simpa [Array.getElem?_eq_getElem hi] using q
  obtain ⟨i0, ei0⟩ := is_v ga0
  obtain rfl : w0 = (.int i0) := Option.some.inj ei0
  obtain ⟨i1, ei1⟩ := is_v gr1
  obtain rfl : w1 = (.int i1) := Option.some.inj ei1
  obtain ⟨n, o, h1, h2, h3, _, L, rfl, ⟨ev, N, -⟩, hq⟩ := rm0 l s _ hw tables_1 i0 i1 s.heap s.heap.size (Nat.le_refl _) p e ha hc hk s m _ below hf ((Spec.applies_iff_loose hf).mp happ).1 ⟨rfl, State.Warmed39.refl s, rfl⟩ trivial
  rw [own_law i0 i1] at ev
  subst ev
  refine ⟨n, _, h1, h2, h3, hpost _ _ _ _ _ _ ⟨Cond.after_iff.mpr rfl, Cond.after_iff.mpr (eq_i res_at (Term.int_eval (1)) rfl), trivial⟩ ⟨hq.1, hq.2.1, (hq.2.2.sift fun y hy => Or.inr (N y hy)).mono (by decide) (by decide)⟩⟩
theorem main_1_1 : Claimed_1_1 := comes_1 fun _ _ _ _ _ _ h hF => ⟨h.1, hF⟩
theorem main_1_2 : Claimed_1_2 := comes_1 fun _ _ _ _ _ _ h hF => ⟨h.2.1, hF⟩
end Jvm.Pilot.@@N@@
namespace Jvm.Pilot.@@N@@
open Jvm Jvm.ClassFile Sem Op Lib Jvm.Free Jvm.Stand Jvm.Pilot.@@N@@.Jvm.D
/-! MADE BY PROGRAM (witnessworld.py) out of the Statement's table words and the real class files: 9 classes; the members and pool entries that the words name. The judged class is class 1, her method 2. -/
namespace start1
open Jvm.ClassFile
def u (s : String) : CpInfo := .utf8 (stringToUtf16 s)
/-- a pool by its gaps: so many unusable entries, then the entry; so many at the end -/
def gap : Nat → List CpInfo → List CpInfo
  | 0, r => r
  | n + 1, r => .unusable :: gap n r
def poolList (es : List (Nat × CpInfo)) (last : Nat) : List CpInfo := es.foldr (fun e r => gap e.1 (e.2 :: r)) (gap last [])
def pool (es : List (Nat × CpInfo)) (last : Nat) : Array CpInfo := ⟨poolList es last⟩
def fileOf (pool : Array CpInfo) (this : Nat) (attrs : Array Attribute := #[]) (ms : Array MethodInfo := #[]) (fl : Nat := 33) (sup : Nat := 0) (ifs : Array Nat := #[]) (fds : Array FieldInfo := #[]) : ClassFile where
  minorVersion := 0
  majorVersion := 65
  constantPool := pool
  accessFlags := fl
  thisClass := this
  superClass := sup
  interfaces := ifs
  fields := fds
  methods := ms
  attributes := attrs
def plain (name : String) (sup : Option ClassId) : Class where
  name := name
  kind := .ordinary
  loader := none
  accessFlags := 33
  super := sup
  interfaces := #[]
  cf := none
  fields := #[]
  methods := #[]
  instanceTypes := #[]
  staticTypes := #[]
  resolved := #[]
  callSites := []
  init := .initialized
  statics := none
  mirror := none

def pool0 : Array CpInfo := pool [(5, u "<init>"), (0, u "()V"), (1, .class_ 10), (1, u "java/lang/Object")] 113

def k0m0 : Method := { name := "<init>", desc := "()V", sig := { parameters := [], returnType := none }, accessFlags := 1, code := none }
/-- java/lang/Object -/
def k0 : Class := { plain "java/lang/Object" none with
  accessFlags := 33
  interfaces := #[]
  cf := some (fileOf pool0 8 #[] #[{ accessFlags := 1, nameIndex := 5, descriptorIndex := 6, attributes := #[] }] 33 0 #[] #[])
  fields := #[]
  methods := #[k0m0]
  instanceTypes := #[]
  staticTypes := #[]
  resolved := Array.replicate 124 none
  statics := none }

def pool1 : Array CpInfo := pool [(2, .class_ 4), (1, u "java/lang/Object"), (0, u "<init>"), (0, u "()V"), (0, .methodref 8 9), (0, .class_ 10), (0, .nameAndType 11 12), (0, u "com/example/recital/recital/read/PlainText"), (0, u "ascii"), (0, u "(C)C"), (0, .methodref 14 15), (0, .class_ 16), (0, .nameAndType 17 12), (0, u "com/example/recital/recital/read/PlainTextAsciiPinLaw"), (0, u "expected"), (3, u "law"), (0, u "(II)Z")] 2

def k1m0 : Method := { name := "<init>", desc := "()V", sig := { parameters := [], returnType := none }, accessFlags := 2, code := none }
def k1c1 : Code := { maxStack := 2, maxLocals := 2, code := method_2_code, exceptionTable := #[], attributes := #[] }
def k1m1 : Method := { name := "expected", desc := "(C)C", sig := { parameters := [.char], returnType := some .char }, accessFlags := 10, code := some k1c1 }
def k1c2 : Code := { maxStack := 3, maxLocals := 3, code := code, exceptionTable := #[], attributes := #[] }
def k1m2 : Method := { name := "law", desc := "(II)Z", sig := { parameters := [.int, .int], returnType := some .boolean }, accessFlags := 9, code := some k1c2 }
/-- com/example/recital/recital/read/PlainTextAsciiPinLaw -/
def k1 : Class := { plain "com/example/recital/recital/read/PlainTextAsciiPinLaw" (some 0) with
  accessFlags := 49
  interfaces := #[]
  cf := some (fileOf pool1 14 #[] #[{ accessFlags := 2, nameIndex := 5, descriptorIndex := 6, attributes := #[] }, { accessFlags := 10, nameIndex := 17, descriptorIndex := 12, attributes := #[] }, { accessFlags := 9, nameIndex := 21, descriptorIndex := 22, attributes := #[] }] 49 2 #[] #[])
  fields := #[]
  methods := #[k1m0, k1m1, k1m2]
  instanceTypes := #[]
  staticTypes := #[]
  resolved := Array.replicate 25 none
  statics := none }

def pool2 : Array CpInfo := pool [(2, .class_ 4), (1, u "java/lang/Object"), (0, u "<init>"), (0, u "()V"), (34, .class_ 43), (1, u "com/example/recital/recital/read/PlainText"), (14, u "ascii"), (0, u "(C)C"), (2, u "SPACES"), (0, u "[J"), (68, u "SENTENCE_MARKS"), (0, u "Ljava/lang/String;"), (1, u "CLOSING_MARKS"), (0, u "MARKS_AFTER_QUOTATION"), (2, u "LONGEST_PARENTHESIS"), (0, u "I")] 22

def k2m0 : Method := { name := "<init>", desc := "()V", sig := { parameters := [], returnType := none }, accessFlags := 2, code := none }
def k2c1 : Code := { maxStack := 1, maxLocals := 1, code := prog_103_method_21_code, exceptionTable := #[], attributes := #[] }
def k2m1 : Method := { name := "ascii", desc := "(C)C", sig := { parameters := [.char], returnType := some .char }, accessFlags := 8, code := some k2c1 }
/-- com/example/recital/recital/read/PlainText -/
def k2 : Class := { plain "com/example/recital/recital/read/PlainText" (some 0) with
  accessFlags := 49
  interfaces := #[]
  cf := some (fileOf pool2 41 #[] #[{ accessFlags := 2, nameIndex := 5, descriptorIndex := 6, attributes := #[] }, { accessFlags := 8, nameIndex := 58, descriptorIndex := 59, attributes := #[] }] 49 2 #[] #[{ accessFlags := 24, nameIndex := 132, descriptorIndex := 133, attributes := #[] }, { accessFlags := 24, nameIndex := 135, descriptorIndex := 133, attributes := #[] }, { accessFlags := 24, nameIndex := 136, descriptorIndex := 133, attributes := #[] }, { accessFlags := 26, nameIndex := 139, descriptorIndex := 140, attributes := #[] }, { accessFlags := 26, nameIndex := 62, descriptorIndex := 63, attributes := #[] }])
  fields := #[{ name := "SENTENCE_MARKS", type := (.object "java/lang/String"), accessFlags := 24, slot := 0, constantValue := 0 }, { name := "CLOSING_MARKS", type := (.object "java/lang/String"), accessFlags := 24, slot := 1, constantValue := 0 }, { name := "MARKS_AFTER_QUOTATION", type := (.object "java/lang/String"), accessFlags := 24, slot := 2, constantValue := 0 }, { name := "LONGEST_PARENTHESIS", type := .int, accessFlags := 26, slot := 3, constantValue := 0 }, { name := "SPACES", type := (.array .long), accessFlags := 26, slot := 4, constantValue := 0 }]
  methods := #[k2m0, k2m1]
  instanceTypes := #[]
  staticTypes := #[(.object "java/lang/String"), (.object "java/lang/String"), (.object "java/lang/String"), .int, (.array .long)]
  resolved := Array.replicate 163 none
  statics := none }

def pool3 : Array CpInfo := pool [(1, u "java/lang/Cloneable"), (0, .class_ 1), (0, u "java/lang/Object"), (0, .class_ 3)] 3

/-- java/lang/Cloneable -/
def k3 : Class := { plain "java/lang/Cloneable" (some 0) with
  accessFlags := 1537
  interfaces := #[]
  cf := some (fileOf pool3 2 #[] #[] 1537 4 #[] #[])
  fields := #[]
  methods := #[]
  instanceTypes := #[]
  staticTypes := #[]
  resolved := Array.replicate 8 none
  statics := none }

def pool4 : Array CpInfo := pool [(1, u "java/io/Serializable"), (0, .class_ 1), (0, u "java/lang/Object"), (0, .class_ 3)] 3

/-- java/io/Serializable -/
def k4 : Class := { plain "java/io/Serializable" (some 0) with
  accessFlags := 1537
  interfaces := #[]
  cf := some (fileOf pool4 2 #[] #[] 1537 4 #[] #[])
  fields := #[]
  methods := #[]
  instanceTypes := #[]
  staticTypes := #[]
  resolved := Array.replicate 8 none
  statics := none }

/-- the primitive byte -/
def k5 : Class := { plain "byte" none with kind := .primitive 'B', accessFlags := 0x411 }
/-- [B -/
def k6 : Class := { plain "[B" (some 0) with kind := .array 5 .byte, interfaces := #[3, 4], accessFlags := 1041 }

/-- the primitive int -/
def k7 : Class := { plain "int" none with kind := .primitive 'I', accessFlags := 0x411 }
/-- [I -/
def k8 : Class := { plain "[I" (some 0) with kind := .array 7 .int, interfaces := #[3, 4], accessFlags := 1041 }

def heap : Heap := #[]
def classes : Array Class := #[k0, k1, k2, k3, k4, k5, k6, k7, k8]
def interned : List (Array UInt16 × Addr) := []
def slotsUsed : Nat := 0
def theMethod : MethodId := ⟨1, 2⟩
def args0 : Array Value := #[.int 5, .int 3]
def aboutOver (below : List Frame) : State where
  vm := { classes := classes, interned := interned.toArray }
  heap := heap
  slotsUsed := slotsUsed
  threads := #[{ frames := .invoking theMethod args0 :: below }]
def below0 : List Frame := [.native { method := ⟨0, 0⟩, args := #[] }]
def about1 : State := aboutOver below0
def p0 : Program := .bare "" "" ""
def e0 : Env := launch0.env 0 0 0
theorem w_frames : about1.frames = Frame.invoking theMethod args0 :: below0 := rfl
set_option maxRecDepth 65536 in
theorem w_args : argsFit about1.vm theMethod args0 = true := by decide +kernel
set_option maxRecDepth 65536 in
theorem w_heap : heapFits about1 = true := by decide +kernel
set_option maxRecDepth 65536 in
theorem w_runnable : about1.curStatus? = some .runnable := by decide +kernel
set_option maxRecDepth 65536 in
theorem w_alone : about1.alone = true := by decide +kernel
set_option maxRecDepth 65536 in
theorem w_named : about1.methodNamed? x = some theMethod := by decide +kernel
set_option maxRecDepth 65536 in
theorem w_hears : about1.hears theMethod below0 = true := by decide +kernel
set_option maxRecDepth 65536 in
theorem w_ripe : about1.ripe theMethod args0 below0 = true := by decide +kernel
theorem w_running : about1.status = .running := rfl
set_option maxRecDepth 65536 in
theorem w_room : about1.hasRoom e0.platform room_1 = true :=
  launch0.hasRoom_least _ room_1 (by decide +kernel) (by decide +kernel) (by decide +kernel) (by decide +kernel) (by decide +kernel) (by decide +kernel)
theorem allAtoms_all (ts : List Jvm.Cond) (a : Array Jvm.Value) (st : Jvm.State) : (allAtoms ts).before a st = ts.all (fun c => c.before a st) := by
  induction ts with
  | nil => rfl
  | cons c t ih =>
    show (Jvm.Cond.and c (allAtoms t)).before a st = _
    rw [Jvm.Cond.before_and, ih, List.all_cons]
def words1 : List Jvm.Cond := Jvm.Cond.code x code maxLocals ret :: tables_1
/-- a 'code' word, met by the world's own term for the bytes: nothing is compared byte by byte -/
theorem code_word {y : MethodName} {bytes : ByteArray} {mx : Nat} {rt : Option FieldType} {a : Array Value} {s : State} {m : MethodId} {meth : Method} {c : Code} (h1 : s.methodNamed? y = some m) (h2 : s.vm.method? m = some meth) (h3 : meth.code = some c) (h4 : c.code = bytes)
    (h5 : (c.maxLocals == mx && c.exceptionTable.isEmpty && decide (c.maxStack ≤ mostOperands) && decide (meth.sig.returnType = rt) && !meth.locks && decide (parseMethodDescriptor y.desc = some meth.sig)) = true) : (Jvm.Cond.code y bytes mx rt).before a s = true := by
  simp only [Bool.and_eq_true, beq_iff_eq, Bool.not_eq_true', decide_eq_true_eq] at h5
  obtain ⟨⟨⟨⟨⟨g1, g2⟩, g3⟩, g4⟩, g5⟩, g6⟩ := h5
  simp [Cond.before, Cond.holds, Cond.value, h1, h2, h3, h4, g1, g2, g3, g4, g5, g6]
def isCode : Jvm.Cond → Bool
  | .code _ _ _ _ => true
  | _ => false
theorem all_split {L : List Jvm.Cond} {P : Jvm.Cond → Bool} (h1 : L.all (fun c => isCode c || P c) = true) (h2 : ∀ c ∈ L.filter isCode, P c = true) : L.all P = true := by
  refine List.all_eq_true.mpr fun c hc => ?_
  have h := List.all_eq_true.mp h1 c hc
  rcases Bool.eq_false_or_eq_true (isCode c) with hi | hi
  · exact h2 c (List.mem_filter.mpr ⟨hc, hi⟩)
  · simpa [hi] using h
set_option maxRecDepth 65536 in
theorem w_c0 : (Jvm.Cond.code x code maxLocals ret).before args0 about1 = true := code_word (m := ⟨1, 2⟩) (meth := k1m2) (c := k1c2) (by decide +kernel) rfl rfl rfl (by decide +kernel)
set_option maxRecDepth 65536 in
theorem w_c1 : (Jvm.Cond.code ({ cls := "com/example/recital/recital/read/PlainText", name := "ascii", desc := "(C)C" } : Jvm.MethodName) prog_103_method_21_code (1 : Nat) (Option.some Jvm.ClassFile.FieldType.char)).before args0 about1 = true := code_word (m := ⟨2, 1⟩) (meth := k2m1) (c := k2c1) (by decide +kernel) rfl rfl rfl (by decide +kernel)
set_option maxRecDepth 65536 in
theorem w_c2 : (Jvm.Cond.code ({ cls := "com/example/recital/recital/read/PlainTextAsciiPinLaw", name := "expected", desc := "(C)C" } : Jvm.MethodName) method_2_code (2 : Nat) (Option.some Jvm.ClassFile.FieldType.char)).before args0 about1 = true := code_word (m := ⟨1, 1⟩) (meth := k1m1) (c := k1c1) (by decide +kernel) rfl rfl rfl (by decide +kernel)
def codes1 : List Jvm.Cond := [Jvm.Cond.code x code maxLocals ret, Jvm.Cond.code ({ cls := "com/example/recital/recital/read/PlainText", name := "ascii", desc := "(C)C" } : Jvm.MethodName) prog_103_method_21_code (1 : Nat) (Option.some Jvm.ClassFile.FieldType.char), Jvm.Cond.code ({ cls := "com/example/recital/recital/read/PlainTextAsciiPinLaw", name := "expected", desc := "(C)C" } : Jvm.MethodName) method_2_code (2 : Nat) (Option.some Jvm.ClassFile.FieldType.char)]
set_option maxRecDepth 65536 in
theorem codes_eq : words1.filter isCode = codes1 := rfl
theorem w_codes : ∀ c ∈ words1.filter isCode, c.before args0 about1 = true := by
  rw [codes_eq]
  intro c hc
  simp only [codes1, List.mem_cons, List.not_mem_nil, or_false] at hc
  rcases hc with rfl | rfl | rfl
  · exact w_c0
  · exact w_c1
  · exact w_c2
set_option maxRecDepth 65536 in
theorem w_t1 : words1.all (fun c => isCode c || c.before args0 about1) = true := by decide +kernel
theorem w_tables : (allAtoms (Jvm.Cond.code x code maxLocals ret :: tables_1)).before args0 about1 = true := by
  rw [allAtoms_all]
  show words1.all (fun c => c.before args0 about1) = true
  refine all_split ?_ w_codes
  rw [w_t1]
set_option maxRecDepth 65536 in
theorem w_case : (Jvm.Cond.and given_1 narrow_1).before args0 about1 = true := by decide +kernel
theorem w_applies : (headSpec (Jvm.Cond.code x code maxLocals ret :: tables_1) room_1).applies x e0.platform about1 = true :=
  (Spec.applies_iff w_frames).mpr ⟨w_running, w_runnable, w_alone, w_named, w_hears, w_ripe, w_room, w_tables⟩
theorem atStart : AtStart classFile x code maxLocals ret World_1 tables_1 room_1 Calls_1 rest_1 Pre_1 launch0 p0 e0 about1 theMethod args0 below0 :=
  ⟨lists_1, trivial, launch0.admits_env _ _ _, launch0.least_env, fairChoices_fair.cas, fairChoices_fair.clock, w_frames, w_args, w_heap, w_applies, trivial, trivial, w_case⟩
end start1
theorem witness_1 : WitnessClaimed_1 := ⟨start1.p0, start1.e0, start1.about1, start1.theMethod, start1.args0, start1.below0, start1.atStart⟩
end Jvm.Pilot.@@N@@
