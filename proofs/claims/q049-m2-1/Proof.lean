import JvmDerived
import JvmDerived.Pilot.@@N@@Statement
import JvmDerived.Pilot.@@N@@Code
set_option linter.unusedVariables false
set_option linter.unusedSimpArgs false
@@BLOCK:NumsL.lean.txt@@
namespace Jvm.RoadKit
open Sem ClassFile Op Lib Jvm.Stand Jvm.Free Jvm.LawKit
section New
variable {p : Program} {l : Launch} {e : Env} {R : Room} {s : State} {m : MethodId} {args : Array Value} {below : List Frame} {meth : Method} {c : Code} {T : State} {locs : List Loc} {cells slots : Nat}
theorem retI (X : Stand p l e R s m args below meth c T locs cells slots) (hx : p.tables.exec = Jvm.exec) {pc : Nat} {Ls : Array Slot} {z : Int32} {rest : List Value} (hret : meth.sig.returnType = some .int) (hd : decode c.code pc = .ok (.ireturn, 1)) {fs : List Frame}
    (hl : ∀ (f : JFrame) (acts : List Action), f.method = m → f.locked = none → f.entered = [] → (doReturn e (T.setTop f) acts (some (.int z))).1 = T.setFrames fs) : Steps p.tables e below (T.setTop (mkF m pc Ls (.int z :: rest))) (T.setFrames fs) := by
  have hm' : T.vm.method? m = some meth := X.method'
  have hn : narrow .int (.int z) = .int z := rfl
  show Steps p.tables e below (T.setTop { method := m, pc := pc, locals := Ls, stack := _ :: rest, locked := none }) _
  jvm_step X.here [X.here.top, hx, hd, hm', hret, hn]
  first | (intro acts; rw [hl _ acts rfl rfl rfl]) | rw [hl _ _ rfl rfl rfl]
  exact Steps.refl _
end New
end Jvm.RoadKit
namespace Jvm.Pilot.@@N@@
open Jvm Jvm.ClassFile Sem Op Lib Jvm.Free Jvm.Stand Jvm.LawKit Jvm.RoadKit Bundle Jvm.Pilot.@@N@@.Jvm.D
theorem pn_1 : plainName "com/example/windrow/windrow/Tally" = true := by first | (simp [plainName, overriddenIn]; done) | decide +kernel
theorem ef_1 (m : MethodId) (x0 : Int64) (x1 : Int64) : entryFrame m #[(.long x0), (.long x1)] 6 = mkF m 0 #[.val (.long x0), .second, .val (.long x1), .second, .unset, .unset] [] := by first | (simp [entryFrame, mkF, argsToLocals, Value.category]; done) | rfl
theorem d1_0 : decode prog_105_method_8_code 0 = .ok (.lload_n 0, 1) := by decide +kernel
theorem d1_1 : decode prog_105_method_8_code 1 = .ok (.lload_n 2, 1) := by decide +kernel
theorem d1_2 : decode prog_105_method_8_code 2 = .ok (.ladd, 1) := by decide +kernel
theorem d1_3 : decode prog_105_method_8_code 3 = .ok (.lstore 4, 2) := by decide +kernel
theorem d1_5 : decode prog_105_method_8_code 5 = .ok (.lload_n 0, 1) := by decide +kernel
theorem d1_6 : decode prog_105_method_8_code 6 = .ok (.lload 4, 2) := by decide +kernel
theorem d1_8 : decode prog_105_method_8_code 8 = .ok (.lxor, 1) := by decide +kernel
theorem d1_9 : decode prog_105_method_8_code 9 = .ok (.lload_n 2, 1) := by decide +kernel
theorem d1_10 : decode prog_105_method_8_code 10 = .ok (.lload 4, 2) := by decide +kernel
theorem d1_12 : decode prog_105_method_8_code 12 = .ok (.lxor, 1) := by decide +kernel
theorem d1_13 : decode prog_105_method_8_code 13 = .ok (.land, 1) := by decide +kernel
theorem d1_14 : decode prog_105_method_8_code 14 = .ok (.lconst 0, 1) := by decide +kernel
theorem d1_15 : decode prog_105_method_8_code 15 = .ok (.lcmp, 1) := by decide +kernel
theorem d1_16 : decode prog_105_method_8_code 16 = .ok (.ifCond .lt 5, 3) := by decide +kernel
theorem d1_21 : decode prog_105_method_8_code 21 = .ok (.lload_n 2, 1) := by decide +kernel
theorem d1_22 : decode prog_105_method_8_code 22 = .ok (.lconst 0, 1) := by decide +kernel
theorem d1_23 : decode prog_105_method_8_code 23 = .ok (.lcmp, 1) := by decide +kernel
theorem d1_24 : decode prog_105_method_8_code 24 = .ok (.ifCond .ge 9, 3) := by decide +kernel
theorem d1_27 : decode prog_105_method_8_code 27 = .ok (.ldc2_w 74, 3) := by decide +kernel
theorem d1_30 : decode prog_105_method_8_code 30 = .ok (.goto 4, 3) := by decide +kernel
theorem d1_34 : decode prog_105_method_8_code 34 = .ok (.lreturn, 1) := by decide +kernel
theorem d1_33 : decode prog_105_method_8_code 33 = .ok (.lconst 1, 1) := by decide +kernel
theorem d1_19 : decode prog_105_method_8_code 19 = .ok (.lconst 0, 1) := by decide +kernel
theorem d1_20 : decode prog_105_method_8_code 20 = .ok (.lreturn, 1) := by decide +kernel
def own_f1 (q1 : Int64) (q2 : Int64) : Int64 := if (lcmpW ((q1 ^^^ (q1 + q2)) &&& (q2 ^^^ (q1 + q2))) (0 : Int64)) < (0 : Int32) then (if (lcmpW q2 (0 : Int64)) < (0 : Int32) then ((-1 : Int64)) else ((1 : Int64))) else ((0 : Int64))
def Q1 (Z : State) (q1 : Int64) (q2 : Int64) (h0 : Heap) (n0 : Nat) (v : Option Value) (h : Heap) (L : List Loc) : Prop := v = some (.long (own_f1 q1 q2)) ∧ Fr n0 L ∧ h = h0
set_option maxRecDepth 65536 in
set_option maxHeartbeats 40000000 in
theorem rm1 (l : Launch) (Z : State) (a0 : Array Value) (hw : ∀ d ∈ tables_1, d.before a0 Z = true) (ws : List Jvm.Cond) (q1 : Int64) (q2 : Int64) (h0 : Heap) (n0 : Nat) (Z0 : n0 ≤ h0.size) :
    MetFree l (⟨"com/example/windrow/windrow/Tally", "wrap", "(JJ)J"⟩ : MethodName) (head1 (Jvm.Cond.code (⟨"com/example/windrow/windrow/Tally", "wrap", "(JJ)J"⟩ : MethodName) prog_105_method_8_code 6 (some .long) :: ws) ({ frames := 0, cells := 0, slots := 0, locals := 0 } : Room)) (fun a U => a = #[(.long q1), (.long q2)] ∧ Z.Warmed39 U.vm ∧ U.heap = h0) (fun _ _ _ _ _ => True) (fun _ U o U' => ∃ v L, o = .returned v ∧ Q1 Z q1 q2 h0 n0 v U'.heap L ∧ FrameEnd U o U' L ({ frames := 0, cells := 0, slots := 0, locals := 0 } : Room).cells ({ frames := 0, cells := 0, slots := 0, locals := 0 } : Room).slots) := by
  refine MetFree.of_bodySF (plainFor_of_name pn_1) hisR ?_
  intro p e s m args below meth c s₁ Bd hml0 hP hK
  obtain ⟨rfl, hZ, hh⟩ := hP
  have hx := Bd.exec
  have hby := Bd.bytes
  have hml : c.maxLocals = 6 := hml0
  have hown : s.vm.findClass "com/example/windrow/windrow/Tally" = some m.cls := findClass_of_methodNamed Bd.named
  have hnm := (name_of_methodNamed Bd.named Bd.method).1
  have X0 : Stand p l e ({ frames := 0, cells := 0, slots := 0, locals := 0 } : Room) s m #[(.long q1), (.long q2)] below meth c s₁ [] 0 0 := Stand.of_body Bd
  have e0 : s₁.heap = h0 := by rw [← hh, Bd.state]; rfl
  have N0 := Fr.nil n0
  have pre0 : ∀ t, Steps p.tables e below (s₁.setTop (mkF m 0 #[.val (.long q1), .second, .val (.long q2), .second, .unset, .unset] [])) t → Steps p.tables e below (s₁.setTop (entryFrame m #[(.long q1), (.long q2)] 6)) t := fun t k => castTop (ef_1 m q1 q2) k
  have pre1 : ∀ t, Steps p.tables e below (s₁.setTop (mkF m 16 #[.val (.long q1), .second, .val (.long q2), .second, .val (.long (q1 + q2)), .second] [(.int (lcmpW ((q1 ^^^ (q1 + q2)) &&& (q2 ^^^ (q1 + q2))) (0 : Int64)))])) t → Steps p.tables e below _ t := fun t kt => pre0 t (by
    show Steps p.tables e below (s₁.setTop (mkF m 0 #[.val (.long q1), .second, .val (.long q2), .second, .unset, .unset] [])) _
    refine XS.lloadN X0.here hx rfl (hb hby d1_0) rfl ?_
    show Steps p.tables e below (s₁.setTop (mkF m 1 #[.val (.long q1), .second, .val (.long q2), .second, .unset, .unset] [(.long q1)])) _
    refine XS.lloadN X0.here hx rfl (hb hby d1_1) rfl ?_
    show Steps p.tables e below (s₁.setTop (mkF m 2 #[.val (.long q1), .second, .val (.long q2), .second, .unset, .unset] [(.long q2), (.long q1)])) _
    refine XS.ladd X0.here hx rfl (hb hby d1_2) rfl ?_
    show Steps p.tables e below (s₁.setTop (mkF m 3 #[.val (.long q1), .second, .val (.long q2), .second, .unset, .unset] [(.long (q1 + q2))])) _
    refine XS.lstore X0.here hx rfl (hb hby d1_3) rfl (l' := #[.val (.long q1), .second, .val (.long q2), .second, .val (.long (q1 + q2)), .second]) rfl ?_
    show Steps p.tables e below (s₁.setTop (mkF m 5 #[.val (.long q1), .second, .val (.long q2), .second, .val (.long (q1 + q2)), .second] [])) _
    refine XS.lloadN X0.here hx rfl (hb hby d1_5) rfl ?_
    show Steps p.tables e below (s₁.setTop (mkF m 6 #[.val (.long q1), .second, .val (.long q2), .second, .val (.long (q1 + q2)), .second] [(.long q1)])) _
    refine XS.lload X0.here hx rfl (hb hby d1_6) rfl ?_
    show Steps p.tables e below (s₁.setTop (mkF m 8 #[.val (.long q1), .second, .val (.long q2), .second, .val (.long (q1 + q2)), .second] [(.long (q1 + q2)), (.long q1)])) _
    refine XS.lxor X0.here hx rfl (hb hby d1_8) rfl ?_
    show Steps p.tables e below (s₁.setTop (mkF m 9 #[.val (.long q1), .second, .val (.long q2), .second, .val (.long (q1 + q2)), .second] [(.long (q1 ^^^ (q1 + q2)))])) _
    refine XS.lloadN X0.here hx rfl (hb hby d1_9) rfl ?_
    show Steps p.tables e below (s₁.setTop (mkF m 10 #[.val (.long q1), .second, .val (.long q2), .second, .val (.long (q1 + q2)), .second] [(.long q2), (.long (q1 ^^^ (q1 + q2)))])) _
    refine XS.lload X0.here hx rfl (hb hby d1_10) rfl ?_
    show Steps p.tables e below (s₁.setTop (mkF m 12 #[.val (.long q1), .second, .val (.long q2), .second, .val (.long (q1 + q2)), .second] [(.long (q1 + q2)), (.long q2), (.long (q1 ^^^ (q1 + q2)))])) _
    refine XS.lxor X0.here hx rfl (hb hby d1_12) rfl ?_
    show Steps p.tables e below (s₁.setTop (mkF m 13 #[.val (.long q1), .second, .val (.long q2), .second, .val (.long (q1 + q2)), .second] [(.long (q2 ^^^ (q1 + q2))), (.long (q1 ^^^ (q1 + q2)))])) _
    refine XS.land X0.here hx rfl (hb hby d1_13) rfl ?_
    show Steps p.tables e below (s₁.setTop (mkF m 14 #[.val (.long q1), .second, .val (.long q2), .second, .val (.long (q1 + q2)), .second] [(.long ((q1 ^^^ (q1 + q2)) &&& (q2 ^^^ (q1 + q2))))])) _
    refine XS.lconst X0.here hx rfl (hb hby d1_14) ?_
    show Steps p.tables e below (s₁.setTop (mkF m 15 #[.val (.long q1), .second, .val (.long q2), .second, .val (.long (q1 + q2)), .second] [(.long (0 : Int64)), (.long ((q1 ^^^ (q1 + q2)) &&& (q2 ^^^ (q1 + q2))))])) _
    refine XS.lcmp X0.here hx rfl (hb hby d1_15) rfl ?_
    exact kt)
  by_cases hc16 : (lcmpW ((q1 ^^^ (q1 + q2)) &&& (q2 ^^^ (q1 + q2))) (0 : Int64)) < (0 : Int32)
  · have pre2 : ∀ t, Steps p.tables e below (s₁.setTop (mkF m 24 #[.val (.long q1), .second, .val (.long q2), .second, .val (.long (q1 + q2)), .second] [(.int (lcmpW q2 (0 : Int64)))])) t → Steps p.tables e below _ t := fun t kt => pre1 t (by
      show Steps p.tables e below (s₁.setTop (mkF m 16 #[.val (.long q1), .second, .val (.long q2), .second, .val (.long (q1 + q2)), .second] [(.int (lcmpW ((q1 ^^^ (q1 + q2)) &&& (q2 ^^^ (q1 + q2))) (0 : Int64)))])) _
      refine XS.ifYes X0.here hx rfl (pc0 := 16) (pc' := 21) rfl (hb hby d1_16) rfl ((if0 _ _).trans (tlt hc16).1) (by decide) (by decide) ?_
      show Steps p.tables e below (s₁.setTop (mkF m 21 #[.val (.long q1), .second, .val (.long q2), .second, .val (.long (q1 + q2)), .second] [])) _
      refine XS.lloadN X0.here hx rfl (hb hby d1_21) rfl ?_
      show Steps p.tables e below (s₁.setTop (mkF m 22 #[.val (.long q1), .second, .val (.long q2), .second, .val (.long (q1 + q2)), .second] [(.long q2)])) _
      refine XS.lconst X0.here hx rfl (hb hby d1_22) ?_
      show Steps p.tables e below (s₁.setTop (mkF m 23 #[.val (.long q1), .second, .val (.long q2), .second, .val (.long (q1 + q2)), .second] [(.long (0 : Int64)), (.long q2)])) _
      refine XS.lcmp X0.here hx rfl (hb hby d1_23) rfl ?_
      exact kt)
    by_cases hc24 : (lcmpW q2 (0 : Int64)) < (0 : Int32)
    · obtain ⟨fs, hr, hrun, hended, hW, hsame⟩ := X0.leave (v := some (.long (-1 : Int64))) (fun h => by rw [Bd.returns] at h; cases h)
      refine ⟨_, _, pre2 _ ?_, hrun, hended, _, _, rfl, ?_, ⟨_, rfl⟩, hW, hsame.mono (by decide) (by decide)⟩
      · show Steps p.tables e below (s₁.setTop (mkF m 24 #[.val (.long q1), .second, .val (.long q2), .second, .val (.long (q1 + q2)), .second] [(.int (lcmpW q2 (0 : Int64)))])) _
        refine XS.ifNo X0.here hx rfl (hb hby d1_24) rfl ((if0 _ _).trans (tlt hc24).2.1) ?_
        show Steps p.tables e below (s₁.setTop (mkF m 27 #[.val (.long q1), .second, .val (.long q2), .second, .val (.long (q1 + q2)), .second] [])) _
        refine X0.ldc2Long hx hown (mvT hZ (hw _ (List.mem_of_getElem? (i := 10) rfl))) (g := (mkF m 27 #[.val (.long q1), .second, .val (.long q2), .second, .val (.long (q1 + q2)), .second] [])) rfl (hb hby d1_27) _ ?_
        show Steps p.tables e below (s₁.setTop (mkF m 30 #[.val (.long q1), .second, .val (.long q2), .second, .val (.long (q1 + q2)), .second] [(.long (-1 : Int64))])) _
        refine XS.goto X0.here hx rfl (pc0 := 30) (pc' := 34) rfl (hb hby d1_30) (by decide) (by decide) ?_
        show Steps p.tables e below (s₁.setTop (mkF m 34 #[.val (.long q1), .second, .val (.long q2), .second, .val (.long (q1 + q2)), .second] [(.long (-1 : Int64))])) _
        jvm_step X0.here [X0.here.top, hx, (hb hby d1_34), X0.method', Bd.returns, narrow]
        first | (intro acts; rw [hr _ acts rfl rfl rfl]) | rw [hr _ _ rfl rfl rfl]
        exact Steps.refl _
      · show Q1 Z q1 q2 h0 n0 _ s₁.heap _
        rw [e0]
        exact ⟨by simp only [own_f1, if_pos hc16, if_pos hc24], N0, rfl⟩
    · obtain ⟨fs, hr, hrun, hended, hW, hsame⟩ := X0.leave (v := some (.long (1 : Int64))) (fun h => by rw [Bd.returns] at h; cases h)
      refine ⟨_, _, pre2 _ ?_, hrun, hended, _, _, rfl, ?_, ⟨_, rfl⟩, hW, hsame.mono (by decide) (by decide)⟩
      · show Steps p.tables e below (s₁.setTop (mkF m 24 #[.val (.long q1), .second, .val (.long q2), .second, .val (.long (q1 + q2)), .second] [(.int (lcmpW q2 (0 : Int64)))])) _
        refine XS.ifYes X0.here hx rfl (pc0 := 24) (pc' := 33) rfl (hb hby d1_24) rfl ((if0 _ _).trans (flt hc24).2.1) (by decide) (by decide) ?_
        show Steps p.tables e below (s₁.setTop (mkF m 33 #[.val (.long q1), .second, .val (.long q2), .second, .val (.long (q1 + q2)), .second] [])) _
        refine XS.lconst X0.here hx rfl (hb hby d1_33) ?_
        show Steps p.tables e below (s₁.setTop (mkF m 34 #[.val (.long q1), .second, .val (.long q2), .second, .val (.long (q1 + q2)), .second] [(.long (1 : Int64))])) _
        jvm_step X0.here [X0.here.top, hx, (hb hby d1_34), X0.method', Bd.returns, narrow]
        first | (intro acts; rw [hr _ acts rfl rfl rfl]) | rw [hr _ _ rfl rfl rfl]
        exact Steps.refl _
      · show Q1 Z q1 q2 h0 n0 _ s₁.heap _
        rw [e0]
        exact ⟨by simp only [own_f1, if_pos hc16, if_neg hc24], N0, rfl⟩
  · obtain ⟨fs, hr, hrun, hended, hW, hsame⟩ := X0.leave (v := some (.long (0 : Int64))) (fun h => by rw [Bd.returns] at h; cases h)
    refine ⟨_, _, pre1 _ ?_, hrun, hended, _, _, rfl, ?_, ⟨_, rfl⟩, hW, hsame.mono (by decide) (by decide)⟩
    · show Steps p.tables e below (s₁.setTop (mkF m 16 #[.val (.long q1), .second, .val (.long q2), .second, .val (.long (q1 + q2)), .second] [(.int (lcmpW ((q1 ^^^ (q1 + q2)) &&& (q2 ^^^ (q1 + q2))) (0 : Int64)))])) _
      refine XS.ifNo X0.here hx rfl (hb hby d1_16) rfl ((if0 _ _).trans (flt hc16).1) ?_
      show Steps p.tables e below (s₁.setTop (mkF m 19 #[.val (.long q1), .second, .val (.long q2), .second, .val (.long (q1 + q2)), .second] [])) _
      refine XS.lconst X0.here hx rfl (hb hby d1_19) ?_
      show Steps p.tables e below (s₁.setTop (mkF m 20 #[.val (.long q1), .second, .val (.long q2), .second, .val (.long (q1 + q2)), .second] [(.long (0 : Int64))])) _
      jvm_step X0.here [X0.here.top, hx, (hb hby d1_20), X0.method', Bd.returns, narrow]
      first | (intro acts; rw [hr _ acts rfl rfl rfl]) | rw [hr _ _ rfl rfl rfl]
      exact Steps.refl _
    · show Q1 Z q1 q2 h0 n0 _ s₁.heap _
      rw [e0]
      exact ⟨by simp only [own_f1, if_neg hc16], N0, rfl⟩
theorem pn_2 : plainName "com/example/windrow/windrow/TallyWrapPinLaw" = true := by first | (simp [plainName, overriddenIn]; done) | decide +kernel
theorem ef_2 (m : MethodId) (x0 : Int64) (x1 : Int64) : entryFrame m #[(.long x0), (.long x1)] 10 = mkF m 0 #[.val (.long x0), .second, .val (.long x1), .second, .unset, .unset, .unset, .unset, .unset, .unset] [] := by first | (simp [entryFrame, mkF, argsToLocals, Value.category]; done) | rfl
theorem d2_0 : decode method_2_code 0 = .ok (.lload_n 0, 1) := by decide +kernel
theorem d2_1 : decode method_2_code 1 = .ok (.iconst 1, 1) := by decide +kernel
theorem d2_2 : decode method_2_code 2 = .ok (.lshr, 1) := by decide +kernel
theorem d2_3 : decode method_2_code 3 = .ok (.lload_n 2, 1) := by decide +kernel
theorem d2_4 : decode method_2_code 4 = .ok (.iconst 1, 1) := by decide +kernel
theorem d2_5 : decode method_2_code 5 = .ok (.lshr, 1) := by decide +kernel
theorem d2_6 : decode method_2_code 6 = .ok (.ladd, 1) := by decide +kernel
theorem d2_7 : decode method_2_code 7 = .ok (.lstore 4, 2) := by decide +kernel
theorem d2_9 : decode method_2_code 9 = .ok (.lload_n 0, 1) := by decide +kernel
theorem d2_10 : decode method_2_code 10 = .ok (.lconst 1, 1) := by decide +kernel
theorem d2_11 : decode method_2_code 11 = .ok (.land, 1) := by decide +kernel
theorem d2_12 : decode method_2_code 12 = .ok (.lload_n 2, 1) := by decide +kernel
theorem d2_13 : decode method_2_code 13 = .ok (.lconst 1, 1) := by decide +kernel
theorem d2_14 : decode method_2_code 14 = .ok (.land, 1) := by decide +kernel
theorem d2_15 : decode method_2_code 15 = .ok (.ladd, 1) := by decide +kernel
theorem d2_16 : decode method_2_code 16 = .ok (.lstore 6, 2) := by decide +kernel
theorem d2_18 : decode method_2_code 18 = .ok (.lload 4, 2) := by decide +kernel
theorem d2_20 : decode method_2_code 20 = .ok (.lload 6, 2) := by decide +kernel
theorem d2_22 : decode method_2_code 22 = .ok (.iconst 1, 1) := by decide +kernel
theorem d2_23 : decode method_2_code 23 = .ok (.lshr, 1) := by decide +kernel
theorem d2_24 : decode method_2_code 24 = .ok (.ladd, 1) := by decide +kernel
theorem d2_25 : decode method_2_code 25 = .ok (.lstore 8, 2) := by decide +kernel
theorem d2_27 : decode method_2_code 27 = .ok (.lload 8, 2) := by decide +kernel
theorem d2_29 : decode method_2_code 29 = .ok (.ldc2_w 7, 3) := by decide +kernel
theorem d2_32 : decode method_2_code 32 = .ok (.lcmp, 1) := by decide +kernel
theorem d2_33 : decode method_2_code 33 = .ok (.ifCond .lt 5, 3) := by decide +kernel
theorem d2_38 : decode method_2_code 38 = .ok (.lload 8, 2) := by decide +kernel
theorem d2_40 : decode method_2_code 40 = .ok (.ldc2_w 9, 3) := by decide +kernel
theorem d2_43 : decode method_2_code 43 = .ok (.lcmp, 1) := by decide +kernel
theorem d2_44 : decode method_2_code 44 = .ok (.ifCond .ge 7, 3) := by decide +kernel
theorem d2_47 : decode method_2_code 47 = .ok (.ldc2_w 11, 3) := by decide +kernel
theorem d2_50 : decode method_2_code 50 = .ok (.lreturn, 1) := by decide +kernel
theorem d2_51 : decode method_2_code 51 = .ok (.lconst 0, 1) := by decide +kernel
theorem d2_52 : decode method_2_code 52 = .ok (.lreturn, 1) := by decide +kernel
theorem d2_36 : decode method_2_code 36 = .ok (.lconst 1, 1) := by decide +kernel
theorem d2_37 : decode method_2_code 37 = .ok (.lreturn, 1) := by decide +kernel
def own_f2 (q1 : Int64) (q2 : Int64) : Int64 := if (lcmpW (((q1 >>> ((1 : Int32) &&& 0x3f).toInt64) + (q2 >>> ((1 : Int32) &&& 0x3f).toInt64)) + (((q1 &&& (1 : Int64)) + (q2 &&& (1 : Int64))) >>> ((1 : Int32) &&& 0x3f).toInt64)) (4611686018427387904 : Int64)) < (0 : Int32) then (if (lcmpW (((q1 >>> ((1 : Int32) &&& 0x3f).toInt64) + (q2 >>> ((1 : Int32) &&& 0x3f).toInt64)) + (((q1 &&& (1 : Int64)) + (q2 &&& (1 : Int64))) >>> ((1 : Int32) &&& 0x3f).toInt64)) (-4611686018427387904 : Int64)) < (0 : Int32) then ((-1 : Int64)) else ((0 : Int64))) else ((1 : Int64))
def Q2 (Z : State) (q1 : Int64) (q2 : Int64) (h0 : Heap) (n0 : Nat) (v : Option Value) (h : Heap) (L : List Loc) : Prop := v = some (.long (own_f2 q1 q2)) ∧ Fr n0 L ∧ h = h0
set_option maxRecDepth 65536 in
set_option maxHeartbeats 40000000 in
theorem rm2 (l : Launch) (Z : State) (a0 : Array Value) (hw : ∀ d ∈ tables_1, d.before a0 Z = true) (ws : List Jvm.Cond) (q1 : Int64) (q2 : Int64) (h0 : Heap) (n0 : Nat) (Z0 : n0 ≤ h0.size) :
    MetFree l (⟨"com/example/windrow/windrow/TallyWrapPinLaw", "expected", "(JJ)J"⟩ : MethodName) (head1 (Jvm.Cond.code (⟨"com/example/windrow/windrow/TallyWrapPinLaw", "expected", "(JJ)J"⟩ : MethodName) method_2_code 10 (some .long) :: ws) ({ frames := 0, cells := 0, slots := 0, locals := 0 } : Room)) (fun a U => a = #[(.long q1), (.long q2)] ∧ Z.Warmed39 U.vm ∧ U.heap = h0) (fun _ _ _ _ _ => True) (fun _ U o U' => ∃ v L, o = .returned v ∧ Q2 Z q1 q2 h0 n0 v U'.heap L ∧ FrameEnd U o U' L ({ frames := 0, cells := 0, slots := 0, locals := 0 } : Room).cells ({ frames := 0, cells := 0, slots := 0, locals := 0 } : Room).slots) := by
  refine MetFree.of_bodySF (plainFor_of_name pn_2) hisR ?_
  intro p e s m args below meth c s₁ Bd hml0 hP hK
  obtain ⟨rfl, hZ, hh⟩ := hP
  have hx := Bd.exec
  have hby := Bd.bytes
  have hml : c.maxLocals = 10 := hml0
  have hown : s.vm.findClass "com/example/windrow/windrow/TallyWrapPinLaw" = some m.cls := findClass_of_methodNamed Bd.named
  have hnm := (name_of_methodNamed Bd.named Bd.method).1
  have X0 : Stand p l e ({ frames := 0, cells := 0, slots := 0, locals := 0 } : Room) s m #[(.long q1), (.long q2)] below meth c s₁ [] 0 0 := Stand.of_body Bd
  have e0 : s₁.heap = h0 := by rw [← hh, Bd.state]; rfl
  have N0 := Fr.nil n0
  have pre0 : ∀ t, Steps p.tables e below (s₁.setTop (mkF m 0 #[.val (.long q1), .second, .val (.long q2), .second, .unset, .unset, .unset, .unset, .unset, .unset] [])) t → Steps p.tables e below (s₁.setTop (entryFrame m #[(.long q1), (.long q2)] 10)) t := fun t k => castTop (ef_2 m q1 q2) k
  have pre1 : ∀ t, Steps p.tables e below (s₁.setTop (mkF m 33 #[.val (.long q1), .second, .val (.long q2), .second, .val (.long ((q1 >>> ((1 : Int32) &&& 0x3f).toInt64) + (q2 >>> ((1 : Int32) &&& 0x3f).toInt64))), .second, .val (.long ((q1 &&& (1 : Int64)) + (q2 &&& (1 : Int64)))), .second, .val (.long (((q1 >>> ((1 : Int32) &&& 0x3f).toInt64) + (q2 >>> ((1 : Int32) &&& 0x3f).toInt64)) + (((q1 &&& (1 : Int64)) + (q2 &&& (1 : Int64))) >>> ((1 : Int32) &&& 0x3f).toInt64))), .second] [(.int (lcmpW (((q1 >>> ((1 : Int32) &&& 0x3f).toInt64) + (q2 >>> ((1 : Int32) &&& 0x3f).toInt64)) + (((q1 &&& (1 : Int64)) + (q2 &&& (1 : Int64))) >>> ((1 : Int32) &&& 0x3f).toInt64)) (4611686018427387904 : Int64)))])) t → Steps p.tables e below _ t := fun t kt => pre0 t (by
    show Steps p.tables e below (s₁.setTop (mkF m 0 #[.val (.long q1), .second, .val (.long q2), .second, .unset, .unset, .unset, .unset, .unset, .unset] [])) _
    refine XS.lloadN X0.here hx rfl (hb hby d2_0) rfl ?_
    show Steps p.tables e below (s₁.setTop (mkF m 1 #[.val (.long q1), .second, .val (.long q2), .second, .unset, .unset, .unset, .unset, .unset, .unset] [(.long q1)])) _
    refine XS.iconst X0.here hx rfl (hb hby d2_1) ?_
    show Steps p.tables e below (s₁.setTop (mkF m 2 #[.val (.long q1), .second, .val (.long q2), .second, .unset, .unset, .unset, .unset, .unset, .unset] [(.int (1 : Int32)), (.long q1)])) _
    refine XS.lshr X0.here hx rfl (hb hby d2_2) rfl ?_
    show Steps p.tables e below (s₁.setTop (mkF m 3 #[.val (.long q1), .second, .val (.long q2), .second, .unset, .unset, .unset, .unset, .unset, .unset] [(.long (q1 >>> ((1 : Int32) &&& 0x3f).toInt64))])) _
    refine XS.lloadN X0.here hx rfl (hb hby d2_3) rfl ?_
    show Steps p.tables e below (s₁.setTop (mkF m 4 #[.val (.long q1), .second, .val (.long q2), .second, .unset, .unset, .unset, .unset, .unset, .unset] [(.long q2), (.long (q1 >>> ((1 : Int32) &&& 0x3f).toInt64))])) _
    refine XS.iconst X0.here hx rfl (hb hby d2_4) ?_
    show Steps p.tables e below (s₁.setTop (mkF m 5 #[.val (.long q1), .second, .val (.long q2), .second, .unset, .unset, .unset, .unset, .unset, .unset] [(.int (1 : Int32)), (.long q2), (.long (q1 >>> ((1 : Int32) &&& 0x3f).toInt64))])) _
    refine XS.lshr X0.here hx rfl (hb hby d2_5) rfl ?_
    show Steps p.tables e below (s₁.setTop (mkF m 6 #[.val (.long q1), .second, .val (.long q2), .second, .unset, .unset, .unset, .unset, .unset, .unset] [(.long (q2 >>> ((1 : Int32) &&& 0x3f).toInt64)), (.long (q1 >>> ((1 : Int32) &&& 0x3f).toInt64))])) _
    refine XS.ladd X0.here hx rfl (hb hby d2_6) rfl ?_
    show Steps p.tables e below (s₁.setTop (mkF m 7 #[.val (.long q1), .second, .val (.long q2), .second, .unset, .unset, .unset, .unset, .unset, .unset] [(.long ((q1 >>> ((1 : Int32) &&& 0x3f).toInt64) + (q2 >>> ((1 : Int32) &&& 0x3f).toInt64)))])) _
    refine XS.lstore X0.here hx rfl (hb hby d2_7) rfl (l' := #[.val (.long q1), .second, .val (.long q2), .second, .val (.long ((q1 >>> ((1 : Int32) &&& 0x3f).toInt64) + (q2 >>> ((1 : Int32) &&& 0x3f).toInt64))), .second, .unset, .unset, .unset, .unset]) rfl ?_
    show Steps p.tables e below (s₁.setTop (mkF m 9 #[.val (.long q1), .second, .val (.long q2), .second, .val (.long ((q1 >>> ((1 : Int32) &&& 0x3f).toInt64) + (q2 >>> ((1 : Int32) &&& 0x3f).toInt64))), .second, .unset, .unset, .unset, .unset] [])) _
    refine XS.lloadN X0.here hx rfl (hb hby d2_9) rfl ?_
    show Steps p.tables e below (s₁.setTop (mkF m 10 #[.val (.long q1), .second, .val (.long q2), .second, .val (.long ((q1 >>> ((1 : Int32) &&& 0x3f).toInt64) + (q2 >>> ((1 : Int32) &&& 0x3f).toInt64))), .second, .unset, .unset, .unset, .unset] [(.long q1)])) _
    refine XS.lconst X0.here hx rfl (hb hby d2_10) ?_
    show Steps p.tables e below (s₁.setTop (mkF m 11 #[.val (.long q1), .second, .val (.long q2), .second, .val (.long ((q1 >>> ((1 : Int32) &&& 0x3f).toInt64) + (q2 >>> ((1 : Int32) &&& 0x3f).toInt64))), .second, .unset, .unset, .unset, .unset] [(.long (1 : Int64)), (.long q1)])) _
    refine XS.land X0.here hx rfl (hb hby d2_11) rfl ?_
    show Steps p.tables e below (s₁.setTop (mkF m 12 #[.val (.long q1), .second, .val (.long q2), .second, .val (.long ((q1 >>> ((1 : Int32) &&& 0x3f).toInt64) + (q2 >>> ((1 : Int32) &&& 0x3f).toInt64))), .second, .unset, .unset, .unset, .unset] [(.long (q1 &&& (1 : Int64)))])) _
    refine XS.lloadN X0.here hx rfl (hb hby d2_12) rfl ?_
    show Steps p.tables e below (s₁.setTop (mkF m 13 #[.val (.long q1), .second, .val (.long q2), .second, .val (.long ((q1 >>> ((1 : Int32) &&& 0x3f).toInt64) + (q2 >>> ((1 : Int32) &&& 0x3f).toInt64))), .second, .unset, .unset, .unset, .unset] [(.long q2), (.long (q1 &&& (1 : Int64)))])) _
    refine XS.lconst X0.here hx rfl (hb hby d2_13) ?_
    show Steps p.tables e below (s₁.setTop (mkF m 14 #[.val (.long q1), .second, .val (.long q2), .second, .val (.long ((q1 >>> ((1 : Int32) &&& 0x3f).toInt64) + (q2 >>> ((1 : Int32) &&& 0x3f).toInt64))), .second, .unset, .unset, .unset, .unset] [(.long (1 : Int64)), (.long q2), (.long (q1 &&& (1 : Int64)))])) _
    refine XS.land X0.here hx rfl (hb hby d2_14) rfl ?_
    show Steps p.tables e below (s₁.setTop (mkF m 15 #[.val (.long q1), .second, .val (.long q2), .second, .val (.long ((q1 >>> ((1 : Int32) &&& 0x3f).toInt64) + (q2 >>> ((1 : Int32) &&& 0x3f).toInt64))), .second, .unset, .unset, .unset, .unset] [(.long (q2 &&& (1 : Int64))), (.long (q1 &&& (1 : Int64)))])) _
    refine XS.ladd X0.here hx rfl (hb hby d2_15) rfl ?_
    show Steps p.tables e below (s₁.setTop (mkF m 16 #[.val (.long q1), .second, .val (.long q2), .second, .val (.long ((q1 >>> ((1 : Int32) &&& 0x3f).toInt64) + (q2 >>> ((1 : Int32) &&& 0x3f).toInt64))), .second, .unset, .unset, .unset, .unset] [(.long ((q1 &&& (1 : Int64)) + (q2 &&& (1 : Int64))))])) _
    refine XS.lstore X0.here hx rfl (hb hby d2_16) rfl (l' := #[.val (.long q1), .second, .val (.long q2), .second, .val (.long ((q1 >>> ((1 : Int32) &&& 0x3f).toInt64) + (q2 >>> ((1 : Int32) &&& 0x3f).toInt64))), .second, .val (.long ((q1 &&& (1 : Int64)) + (q2 &&& (1 : Int64)))), .second, .unset, .unset]) rfl ?_
    show Steps p.tables e below (s₁.setTop (mkF m 18 #[.val (.long q1), .second, .val (.long q2), .second, .val (.long ((q1 >>> ((1 : Int32) &&& 0x3f).toInt64) + (q2 >>> ((1 : Int32) &&& 0x3f).toInt64))), .second, .val (.long ((q1 &&& (1 : Int64)) + (q2 &&& (1 : Int64)))), .second, .unset, .unset] [])) _
    refine XS.lload X0.here hx rfl (hb hby d2_18) rfl ?_
    show Steps p.tables e below (s₁.setTop (mkF m 20 #[.val (.long q1), .second, .val (.long q2), .second, .val (.long ((q1 >>> ((1 : Int32) &&& 0x3f).toInt64) + (q2 >>> ((1 : Int32) &&& 0x3f).toInt64))), .second, .val (.long ((q1 &&& (1 : Int64)) + (q2 &&& (1 : Int64)))), .second, .unset, .unset] [(.long ((q1 >>> ((1 : Int32) &&& 0x3f).toInt64) + (q2 >>> ((1 : Int32) &&& 0x3f).toInt64)))])) _
    refine XS.lload X0.here hx rfl (hb hby d2_20) rfl ?_
    show Steps p.tables e below (s₁.setTop (mkF m 22 #[.val (.long q1), .second, .val (.long q2), .second, .val (.long ((q1 >>> ((1 : Int32) &&& 0x3f).toInt64) + (q2 >>> ((1 : Int32) &&& 0x3f).toInt64))), .second, .val (.long ((q1 &&& (1 : Int64)) + (q2 &&& (1 : Int64)))), .second, .unset, .unset] [(.long ((q1 &&& (1 : Int64)) + (q2 &&& (1 : Int64)))), (.long ((q1 >>> ((1 : Int32) &&& 0x3f).toInt64) + (q2 >>> ((1 : Int32) &&& 0x3f).toInt64)))])) _
    refine XS.iconst X0.here hx rfl (hb hby d2_22) ?_
    show Steps p.tables e below (s₁.setTop (mkF m 23 #[.val (.long q1), .second, .val (.long q2), .second, .val (.long ((q1 >>> ((1 : Int32) &&& 0x3f).toInt64) + (q2 >>> ((1 : Int32) &&& 0x3f).toInt64))), .second, .val (.long ((q1 &&& (1 : Int64)) + (q2 &&& (1 : Int64)))), .second, .unset, .unset] [(.int (1 : Int32)), (.long ((q1 &&& (1 : Int64)) + (q2 &&& (1 : Int64)))), (.long ((q1 >>> ((1 : Int32) &&& 0x3f).toInt64) + (q2 >>> ((1 : Int32) &&& 0x3f).toInt64)))])) _
    refine XS.lshr X0.here hx rfl (hb hby d2_23) rfl ?_
    show Steps p.tables e below (s₁.setTop (mkF m 24 #[.val (.long q1), .second, .val (.long q2), .second, .val (.long ((q1 >>> ((1 : Int32) &&& 0x3f).toInt64) + (q2 >>> ((1 : Int32) &&& 0x3f).toInt64))), .second, .val (.long ((q1 &&& (1 : Int64)) + (q2 &&& (1 : Int64)))), .second, .unset, .unset] [(.long (((q1 &&& (1 : Int64)) + (q2 &&& (1 : Int64))) >>> ((1 : Int32) &&& 0x3f).toInt64)), (.long ((q1 >>> ((1 : Int32) &&& 0x3f).toInt64) + (q2 >>> ((1 : Int32) &&& 0x3f).toInt64)))])) _
    refine XS.ladd X0.here hx rfl (hb hby d2_24) rfl ?_
    show Steps p.tables e below (s₁.setTop (mkF m 25 #[.val (.long q1), .second, .val (.long q2), .second, .val (.long ((q1 >>> ((1 : Int32) &&& 0x3f).toInt64) + (q2 >>> ((1 : Int32) &&& 0x3f).toInt64))), .second, .val (.long ((q1 &&& (1 : Int64)) + (q2 &&& (1 : Int64)))), .second, .unset, .unset] [(.long (((q1 >>> ((1 : Int32) &&& 0x3f).toInt64) + (q2 >>> ((1 : Int32) &&& 0x3f).toInt64)) + (((q1 &&& (1 : Int64)) + (q2 &&& (1 : Int64))) >>> ((1 : Int32) &&& 0x3f).toInt64)))])) _
    refine XS.lstore X0.here hx rfl (hb hby d2_25) rfl (l' := #[.val (.long q1), .second, .val (.long q2), .second, .val (.long ((q1 >>> ((1 : Int32) &&& 0x3f).toInt64) + (q2 >>> ((1 : Int32) &&& 0x3f).toInt64))), .second, .val (.long ((q1 &&& (1 : Int64)) + (q2 &&& (1 : Int64)))), .second, .val (.long (((q1 >>> ((1 : Int32) &&& 0x3f).toInt64) + (q2 >>> ((1 : Int32) &&& 0x3f).toInt64)) + (((q1 &&& (1 : Int64)) + (q2 &&& (1 : Int64))) >>> ((1 : Int32) &&& 0x3f).toInt64))), .second]) rfl ?_
    show Steps p.tables e below (s₁.setTop (mkF m 27 #[.val (.long q1), .second, .val (.long q2), .second, .val (.long ((q1 >>> ((1 : Int32) &&& 0x3f).toInt64) + (q2 >>> ((1 : Int32) &&& 0x3f).toInt64))), .second, .val (.long ((q1 &&& (1 : Int64)) + (q2 &&& (1 : Int64)))), .second, .val (.long (((q1 >>> ((1 : Int32) &&& 0x3f).toInt64) + (q2 >>> ((1 : Int32) &&& 0x3f).toInt64)) + (((q1 &&& (1 : Int64)) + (q2 &&& (1 : Int64))) >>> ((1 : Int32) &&& 0x3f).toInt64))), .second] [])) _
    refine XS.lload X0.here hx rfl (hb hby d2_27) rfl ?_
    show Steps p.tables e below (s₁.setTop (mkF m 29 #[.val (.long q1), .second, .val (.long q2), .second, .val (.long ((q1 >>> ((1 : Int32) &&& 0x3f).toInt64) + (q2 >>> ((1 : Int32) &&& 0x3f).toInt64))), .second, .val (.long ((q1 &&& (1 : Int64)) + (q2 &&& (1 : Int64)))), .second, .val (.long (((q1 >>> ((1 : Int32) &&& 0x3f).toInt64) + (q2 >>> ((1 : Int32) &&& 0x3f).toInt64)) + (((q1 &&& (1 : Int64)) + (q2 &&& (1 : Int64))) >>> ((1 : Int32) &&& 0x3f).toInt64))), .second] [(.long (((q1 >>> ((1 : Int32) &&& 0x3f).toInt64) + (q2 >>> ((1 : Int32) &&& 0x3f).toInt64)) + (((q1 &&& (1 : Int64)) + (q2 &&& (1 : Int64))) >>> ((1 : Int32) &&& 0x3f).toInt64)))])) _
    refine X0.ldc2Long hx hown (mvT hZ (hw _ (List.mem_of_getElem? (i := 8) rfl))) (g := (mkF m 29 #[.val (.long q1), .second, .val (.long q2), .second, .val (.long ((q1 >>> ((1 : Int32) &&& 0x3f).toInt64) + (q2 >>> ((1 : Int32) &&& 0x3f).toInt64))), .second, .val (.long ((q1 &&& (1 : Int64)) + (q2 &&& (1 : Int64)))), .second, .val (.long (((q1 >>> ((1 : Int32) &&& 0x3f).toInt64) + (q2 >>> ((1 : Int32) &&& 0x3f).toInt64)) + (((q1 &&& (1 : Int64)) + (q2 &&& (1 : Int64))) >>> ((1 : Int32) &&& 0x3f).toInt64))), .second] [(.long (((q1 >>> ((1 : Int32) &&& 0x3f).toInt64) + (q2 >>> ((1 : Int32) &&& 0x3f).toInt64)) + (((q1 &&& (1 : Int64)) + (q2 &&& (1 : Int64))) >>> ((1 : Int32) &&& 0x3f).toInt64)))])) rfl (hb hby d2_29) _ ?_
    show Steps p.tables e below (s₁.setTop (mkF m 32 #[.val (.long q1), .second, .val (.long q2), .second, .val (.long ((q1 >>> ((1 : Int32) &&& 0x3f).toInt64) + (q2 >>> ((1 : Int32) &&& 0x3f).toInt64))), .second, .val (.long ((q1 &&& (1 : Int64)) + (q2 &&& (1 : Int64)))), .second, .val (.long (((q1 >>> ((1 : Int32) &&& 0x3f).toInt64) + (q2 >>> ((1 : Int32) &&& 0x3f).toInt64)) + (((q1 &&& (1 : Int64)) + (q2 &&& (1 : Int64))) >>> ((1 : Int32) &&& 0x3f).toInt64))), .second] [(.long (4611686018427387904 : Int64)), (.long (((q1 >>> ((1 : Int32) &&& 0x3f).toInt64) + (q2 >>> ((1 : Int32) &&& 0x3f).toInt64)) + (((q1 &&& (1 : Int64)) + (q2 &&& (1 : Int64))) >>> ((1 : Int32) &&& 0x3f).toInt64)))])) _
    refine XS.lcmp X0.here hx rfl (hb hby d2_32) rfl ?_
    exact kt)
  by_cases hc33 : (lcmpW (((q1 >>> ((1 : Int32) &&& 0x3f).toInt64) + (q2 >>> ((1 : Int32) &&& 0x3f).toInt64)) + (((q1 &&& (1 : Int64)) + (q2 &&& (1 : Int64))) >>> ((1 : Int32) &&& 0x3f).toInt64)) (4611686018427387904 : Int64)) < (0 : Int32)
  · have pre2 : ∀ t, Steps p.tables e below (s₁.setTop (mkF m 44 #[.val (.long q1), .second, .val (.long q2), .second, .val (.long ((q1 >>> ((1 : Int32) &&& 0x3f).toInt64) + (q2 >>> ((1 : Int32) &&& 0x3f).toInt64))), .second, .val (.long ((q1 &&& (1 : Int64)) + (q2 &&& (1 : Int64)))), .second, .val (.long (((q1 >>> ((1 : Int32) &&& 0x3f).toInt64) + (q2 >>> ((1 : Int32) &&& 0x3f).toInt64)) + (((q1 &&& (1 : Int64)) + (q2 &&& (1 : Int64))) >>> ((1 : Int32) &&& 0x3f).toInt64))), .second] [(.int (lcmpW (((q1 >>> ((1 : Int32) &&& 0x3f).toInt64) + (q2 >>> ((1 : Int32) &&& 0x3f).toInt64)) + (((q1 &&& (1 : Int64)) + (q2 &&& (1 : Int64))) >>> ((1 : Int32) &&& 0x3f).toInt64)) (-4611686018427387904 : Int64)))])) t → Steps p.tables e below _ t := fun t kt => pre1 t (by
      show Steps p.tables e below (s₁.setTop (mkF m 33 #[.val (.long q1), .second, .val (.long q2), .second, .val (.long ((q1 >>> ((1 : Int32) &&& 0x3f).toInt64) + (q2 >>> ((1 : Int32) &&& 0x3f).toInt64))), .second, .val (.long ((q1 &&& (1 : Int64)) + (q2 &&& (1 : Int64)))), .second, .val (.long (((q1 >>> ((1 : Int32) &&& 0x3f).toInt64) + (q2 >>> ((1 : Int32) &&& 0x3f).toInt64)) + (((q1 &&& (1 : Int64)) + (q2 &&& (1 : Int64))) >>> ((1 : Int32) &&& 0x3f).toInt64))), .second] [(.int (lcmpW (((q1 >>> ((1 : Int32) &&& 0x3f).toInt64) + (q2 >>> ((1 : Int32) &&& 0x3f).toInt64)) + (((q1 &&& (1 : Int64)) + (q2 &&& (1 : Int64))) >>> ((1 : Int32) &&& 0x3f).toInt64)) (4611686018427387904 : Int64)))])) _
      refine XS.ifYes X0.here hx rfl (pc0 := 33) (pc' := 38) rfl (hb hby d2_33) rfl ((if0 _ _).trans (tlt hc33).1) (by decide) (by decide) ?_
      show Steps p.tables e below (s₁.setTop (mkF m 38 #[.val (.long q1), .second, .val (.long q2), .second, .val (.long ((q1 >>> ((1 : Int32) &&& 0x3f).toInt64) + (q2 >>> ((1 : Int32) &&& 0x3f).toInt64))), .second, .val (.long ((q1 &&& (1 : Int64)) + (q2 &&& (1 : Int64)))), .second, .val (.long (((q1 >>> ((1 : Int32) &&& 0x3f).toInt64) + (q2 >>> ((1 : Int32) &&& 0x3f).toInt64)) + (((q1 &&& (1 : Int64)) + (q2 &&& (1 : Int64))) >>> ((1 : Int32) &&& 0x3f).toInt64))), .second] [])) _
      refine XS.lload X0.here hx rfl (hb hby d2_38) rfl ?_
      show Steps p.tables e below (s₁.setTop (mkF m 40 #[.val (.long q1), .second, .val (.long q2), .second, .val (.long ((q1 >>> ((1 : Int32) &&& 0x3f).toInt64) + (q2 >>> ((1 : Int32) &&& 0x3f).toInt64))), .second, .val (.long ((q1 &&& (1 : Int64)) + (q2 &&& (1 : Int64)))), .second, .val (.long (((q1 >>> ((1 : Int32) &&& 0x3f).toInt64) + (q2 >>> ((1 : Int32) &&& 0x3f).toInt64)) + (((q1 &&& (1 : Int64)) + (q2 &&& (1 : Int64))) >>> ((1 : Int32) &&& 0x3f).toInt64))), .second] [(.long (((q1 >>> ((1 : Int32) &&& 0x3f).toInt64) + (q2 >>> ((1 : Int32) &&& 0x3f).toInt64)) + (((q1 &&& (1 : Int64)) + (q2 &&& (1 : Int64))) >>> ((1 : Int32) &&& 0x3f).toInt64)))])) _
      refine X0.ldc2Long hx hown (mvT hZ (hw _ (List.mem_of_getElem? (i := 9) rfl))) (g := (mkF m 40 #[.val (.long q1), .second, .val (.long q2), .second, .val (.long ((q1 >>> ((1 : Int32) &&& 0x3f).toInt64) + (q2 >>> ((1 : Int32) &&& 0x3f).toInt64))), .second, .val (.long ((q1 &&& (1 : Int64)) + (q2 &&& (1 : Int64)))), .second, .val (.long (((q1 >>> ((1 : Int32) &&& 0x3f).toInt64) + (q2 >>> ((1 : Int32) &&& 0x3f).toInt64)) + (((q1 &&& (1 : Int64)) + (q2 &&& (1 : Int64))) >>> ((1 : Int32) &&& 0x3f).toInt64))), .second] [(.long (((q1 >>> ((1 : Int32) &&& 0x3f).toInt64) + (q2 >>> ((1 : Int32) &&& 0x3f).toInt64)) + (((q1 &&& (1 : Int64)) + (q2 &&& (1 : Int64))) >>> ((1 : Int32) &&& 0x3f).toInt64)))])) rfl (hb hby d2_40) _ ?_
      show Steps p.tables e below (s₁.setTop (mkF m 43 #[.val (.long q1), .second, .val (.long q2), .second, .val (.long ((q1 >>> ((1 : Int32) &&& 0x3f).toInt64) + (q2 >>> ((1 : Int32) &&& 0x3f).toInt64))), .second, .val (.long ((q1 &&& (1 : Int64)) + (q2 &&& (1 : Int64)))), .second, .val (.long (((q1 >>> ((1 : Int32) &&& 0x3f).toInt64) + (q2 >>> ((1 : Int32) &&& 0x3f).toInt64)) + (((q1 &&& (1 : Int64)) + (q2 &&& (1 : Int64))) >>> ((1 : Int32) &&& 0x3f).toInt64))), .second] [(.long (-4611686018427387904 : Int64)), (.long (((q1 >>> ((1 : Int32) &&& 0x3f).toInt64) + (q2 >>> ((1 : Int32) &&& 0x3f).toInt64)) + (((q1 &&& (1 : Int64)) + (q2 &&& (1 : Int64))) >>> ((1 : Int32) &&& 0x3f).toInt64)))])) _
      refine XS.lcmp X0.here hx rfl (hb hby d2_43) rfl ?_
      exact kt)
    by_cases hc44 : (lcmpW (((q1 >>> ((1 : Int32) &&& 0x3f).toInt64) + (q2 >>> ((1 : Int32) &&& 0x3f).toInt64)) + (((q1 &&& (1 : Int64)) + (q2 &&& (1 : Int64))) >>> ((1 : Int32) &&& 0x3f).toInt64)) (-4611686018427387904 : Int64)) < (0 : Int32)
    · obtain ⟨fs, hr, hrun, hended, hW, hsame⟩ := X0.leave (v := some (.long (-1 : Int64))) (fun h => by rw [Bd.returns] at h; cases h)
      refine ⟨_, _, pre2 _ ?_, hrun, hended, _, _, rfl, ?_, ⟨_, rfl⟩, hW, hsame.mono (by decide) (by decide)⟩
      · show Steps p.tables e below (s₁.setTop (mkF m 44 #[.val (.long q1), .second, .val (.long q2), .second, .val (.long ((q1 >>> ((1 : Int32) &&& 0x3f).toInt64) + (q2 >>> ((1 : Int32) &&& 0x3f).toInt64))), .second, .val (.long ((q1 &&& (1 : Int64)) + (q2 &&& (1 : Int64)))), .second, .val (.long (((q1 >>> ((1 : Int32) &&& 0x3f).toInt64) + (q2 >>> ((1 : Int32) &&& 0x3f).toInt64)) + (((q1 &&& (1 : Int64)) + (q2 &&& (1 : Int64))) >>> ((1 : Int32) &&& 0x3f).toInt64))), .second] [(.int (lcmpW (((q1 >>> ((1 : Int32) &&& 0x3f).toInt64) + (q2 >>> ((1 : Int32) &&& 0x3f).toInt64)) + (((q1 &&& (1 : Int64)) + (q2 &&& (1 : Int64))) >>> ((1 : Int32) &&& 0x3f).toInt64)) (-4611686018427387904 : Int64)))])) _
        refine XS.ifNo X0.here hx rfl (hb hby d2_44) rfl ((if0 _ _).trans (tlt hc44).2.1) ?_
        show Steps p.tables e below (s₁.setTop (mkF m 47 #[.val (.long q1), .second, .val (.long q2), .second, .val (.long ((q1 >>> ((1 : Int32) &&& 0x3f).toInt64) + (q2 >>> ((1 : Int32) &&& 0x3f).toInt64))), .second, .val (.long ((q1 &&& (1 : Int64)) + (q2 &&& (1 : Int64)))), .second, .val (.long (((q1 >>> ((1 : Int32) &&& 0x3f).toInt64) + (q2 >>> ((1 : Int32) &&& 0x3f).toInt64)) + (((q1 &&& (1 : Int64)) + (q2 &&& (1 : Int64))) >>> ((1 : Int32) &&& 0x3f).toInt64))), .second] [])) _
        refine X0.ldc2Long hx hown (mvT hZ (hw _ (List.mem_of_getElem? (i := 11) rfl))) (g := (mkF m 47 #[.val (.long q1), .second, .val (.long q2), .second, .val (.long ((q1 >>> ((1 : Int32) &&& 0x3f).toInt64) + (q2 >>> ((1 : Int32) &&& 0x3f).toInt64))), .second, .val (.long ((q1 &&& (1 : Int64)) + (q2 &&& (1 : Int64)))), .second, .val (.long (((q1 >>> ((1 : Int32) &&& 0x3f).toInt64) + (q2 >>> ((1 : Int32) &&& 0x3f).toInt64)) + (((q1 &&& (1 : Int64)) + (q2 &&& (1 : Int64))) >>> ((1 : Int32) &&& 0x3f).toInt64))), .second] [])) rfl (hb hby d2_47) _ ?_
        show Steps p.tables e below (s₁.setTop (mkF m 50 #[.val (.long q1), .second, .val (.long q2), .second, .val (.long ((q1 >>> ((1 : Int32) &&& 0x3f).toInt64) + (q2 >>> ((1 : Int32) &&& 0x3f).toInt64))), .second, .val (.long ((q1 &&& (1 : Int64)) + (q2 &&& (1 : Int64)))), .second, .val (.long (((q1 >>> ((1 : Int32) &&& 0x3f).toInt64) + (q2 >>> ((1 : Int32) &&& 0x3f).toInt64)) + (((q1 &&& (1 : Int64)) + (q2 &&& (1 : Int64))) >>> ((1 : Int32) &&& 0x3f).toInt64))), .second] [(.long (-1 : Int64))])) _
        jvm_step X0.here [X0.here.top, hx, (hb hby d2_50), X0.method', Bd.returns, narrow]
        first | (intro acts; rw [hr _ acts rfl rfl rfl]) | rw [hr _ _ rfl rfl rfl]
        exact Steps.refl _
      · show Q2 Z q1 q2 h0 n0 _ s₁.heap _
        rw [e0]
        exact ⟨by simp only [own_f2, if_pos hc33, if_pos hc44], N0, rfl⟩
    · obtain ⟨fs, hr, hrun, hended, hW, hsame⟩ := X0.leave (v := some (.long (0 : Int64))) (fun h => by rw [Bd.returns] at h; cases h)
      refine ⟨_, _, pre2 _ ?_, hrun, hended, _, _, rfl, ?_, ⟨_, rfl⟩, hW, hsame.mono (by decide) (by decide)⟩
      · show Steps p.tables e below (s₁.setTop (mkF m 44 #[.val (.long q1), .second, .val (.long q2), .second, .val (.long ((q1 >>> ((1 : Int32) &&& 0x3f).toInt64) + (q2 >>> ((1 : Int32) &&& 0x3f).toInt64))), .second, .val (.long ((q1 &&& (1 : Int64)) + (q2 &&& (1 : Int64)))), .second, .val (.long (((q1 >>> ((1 : Int32) &&& 0x3f).toInt64) + (q2 >>> ((1 : Int32) &&& 0x3f).toInt64)) + (((q1 &&& (1 : Int64)) + (q2 &&& (1 : Int64))) >>> ((1 : Int32) &&& 0x3f).toInt64))), .second] [(.int (lcmpW (((q1 >>> ((1 : Int32) &&& 0x3f).toInt64) + (q2 >>> ((1 : Int32) &&& 0x3f).toInt64)) + (((q1 &&& (1 : Int64)) + (q2 &&& (1 : Int64))) >>> ((1 : Int32) &&& 0x3f).toInt64)) (-4611686018427387904 : Int64)))])) _
        refine XS.ifYes X0.here hx rfl (pc0 := 44) (pc' := 51) rfl (hb hby d2_44) rfl ((if0 _ _).trans (flt hc44).2.1) (by decide) (by decide) ?_
        show Steps p.tables e below (s₁.setTop (mkF m 51 #[.val (.long q1), .second, .val (.long q2), .second, .val (.long ((q1 >>> ((1 : Int32) &&& 0x3f).toInt64) + (q2 >>> ((1 : Int32) &&& 0x3f).toInt64))), .second, .val (.long ((q1 &&& (1 : Int64)) + (q2 &&& (1 : Int64)))), .second, .val (.long (((q1 >>> ((1 : Int32) &&& 0x3f).toInt64) + (q2 >>> ((1 : Int32) &&& 0x3f).toInt64)) + (((q1 &&& (1 : Int64)) + (q2 &&& (1 : Int64))) >>> ((1 : Int32) &&& 0x3f).toInt64))), .second] [])) _
        refine XS.lconst X0.here hx rfl (hb hby d2_51) ?_
        show Steps p.tables e below (s₁.setTop (mkF m 52 #[.val (.long q1), .second, .val (.long q2), .second, .val (.long ((q1 >>> ((1 : Int32) &&& 0x3f).toInt64) + (q2 >>> ((1 : Int32) &&& 0x3f).toInt64))), .second, .val (.long ((q1 &&& (1 : Int64)) + (q2 &&& (1 : Int64)))), .second, .val (.long (((q1 >>> ((1 : Int32) &&& 0x3f).toInt64) + (q2 >>> ((1 : Int32) &&& 0x3f).toInt64)) + (((q1 &&& (1 : Int64)) + (q2 &&& (1 : Int64))) >>> ((1 : Int32) &&& 0x3f).toInt64))), .second] [(.long (0 : Int64))])) _
        jvm_step X0.here [X0.here.top, hx, (hb hby d2_52), X0.method', Bd.returns, narrow]
        first | (intro acts; rw [hr _ acts rfl rfl rfl]) | rw [hr _ _ rfl rfl rfl]
        exact Steps.refl _
      · show Q2 Z q1 q2 h0 n0 _ s₁.heap _
        rw [e0]
        exact ⟨by simp only [own_f2, if_pos hc33, if_neg hc44], N0, rfl⟩
  · obtain ⟨fs, hr, hrun, hended, hW, hsame⟩ := X0.leave (v := some (.long (1 : Int64))) (fun h => by rw [Bd.returns] at h; cases h)
    refine ⟨_, _, pre1 _ ?_, hrun, hended, _, _, rfl, ?_, ⟨_, rfl⟩, hW, hsame.mono (by decide) (by decide)⟩
    · show Steps p.tables e below (s₁.setTop (mkF m 33 #[.val (.long q1), .second, .val (.long q2), .second, .val (.long ((q1 >>> ((1 : Int32) &&& 0x3f).toInt64) + (q2 >>> ((1 : Int32) &&& 0x3f).toInt64))), .second, .val (.long ((q1 &&& (1 : Int64)) + (q2 &&& (1 : Int64)))), .second, .val (.long (((q1 >>> ((1 : Int32) &&& 0x3f).toInt64) + (q2 >>> ((1 : Int32) &&& 0x3f).toInt64)) + (((q1 &&& (1 : Int64)) + (q2 &&& (1 : Int64))) >>> ((1 : Int32) &&& 0x3f).toInt64))), .second] [(.int (lcmpW (((q1 >>> ((1 : Int32) &&& 0x3f).toInt64) + (q2 >>> ((1 : Int32) &&& 0x3f).toInt64)) + (((q1 &&& (1 : Int64)) + (q2 &&& (1 : Int64))) >>> ((1 : Int32) &&& 0x3f).toInt64)) (4611686018427387904 : Int64)))])) _
      refine XS.ifNo X0.here hx rfl (hb hby d2_33) rfl ((if0 _ _).trans (flt hc33).1) ?_
      show Steps p.tables e below (s₁.setTop (mkF m 36 #[.val (.long q1), .second, .val (.long q2), .second, .val (.long ((q1 >>> ((1 : Int32) &&& 0x3f).toInt64) + (q2 >>> ((1 : Int32) &&& 0x3f).toInt64))), .second, .val (.long ((q1 &&& (1 : Int64)) + (q2 &&& (1 : Int64)))), .second, .val (.long (((q1 >>> ((1 : Int32) &&& 0x3f).toInt64) + (q2 >>> ((1 : Int32) &&& 0x3f).toInt64)) + (((q1 &&& (1 : Int64)) + (q2 &&& (1 : Int64))) >>> ((1 : Int32) &&& 0x3f).toInt64))), .second] [])) _
      refine XS.lconst X0.here hx rfl (hb hby d2_36) ?_
      show Steps p.tables e below (s₁.setTop (mkF m 37 #[.val (.long q1), .second, .val (.long q2), .second, .val (.long ((q1 >>> ((1 : Int32) &&& 0x3f).toInt64) + (q2 >>> ((1 : Int32) &&& 0x3f).toInt64))), .second, .val (.long ((q1 &&& (1 : Int64)) + (q2 &&& (1 : Int64)))), .second, .val (.long (((q1 >>> ((1 : Int32) &&& 0x3f).toInt64) + (q2 >>> ((1 : Int32) &&& 0x3f).toInt64)) + (((q1 &&& (1 : Int64)) + (q2 &&& (1 : Int64))) >>> ((1 : Int32) &&& 0x3f).toInt64))), .second] [(.long (1 : Int64))])) _
      jvm_step X0.here [X0.here.top, hx, (hb hby d2_37), X0.method', Bd.returns, narrow]
      first | (intro acts; rw [hr _ acts rfl rfl rfl]) | rw [hr _ _ rfl rfl rfl]
      exact Steps.refl _
    · show Q2 Z q1 q2 h0 n0 _ s₁.heap _
      rw [e0]
      exact ⟨by simp only [own_f2, if_neg hc33], N0, rfl⟩
theorem pn_0 : plainName "com/example/windrow/windrow/TallyWrapPinLaw" = true := by first | (simp [plainName, overriddenIn]; done) | decide +kernel
theorem ef_0 (m : MethodId) (x0 : Int64) (x1 : Int64) : entryFrame m #[(.long x0), (.long x1)] maxLocals = mkF m 0 #[.val (.long x0), .second, .val (.long x1), .second] [] := by first | (simp [entryFrame, mkF, argsToLocals, Value.category, maxLocals]; done) | rfl
theorem pd_0 : parseMethodDescriptor "(JJ)J" = some ⟨[.long, .long], some .long⟩ := by decide +kernel
def own_f0 (q1 : Int64) (q2 : Int64) : Int32 := if (lcmpW (own_f1 q1 q2) (own_f2 q1 q2)) = (0 : Int32) then ((1 : Int32)) else ((0 : Int32))
def Q0 (Z : State) (q1 : Int64) (q2 : Int64) (h0 : Heap) (n0 : Nat) (v : Option Value) (h : Heap) (L : List Loc) : Prop := v = some (.int (own_f0 q1 q2)) ∧ Fr n0 L ∧ h = h0
set_option maxRecDepth 65536 in
set_option maxHeartbeats 40000000 in
theorem rm0 (l : Launch) (Z : State) (a0 : Array Value) (hw : ∀ d ∈ tables_1, d.before a0 Z = true) (ws : List Jvm.Cond) (q1 : Int64) (q2 : Int64) (h0 : Heap) (n0 : Nat) (Z0 : n0 ≤ h0.size) :
    MetFree l x (head1 (Jvm.Cond.code x code maxLocals ret :: ws) room_1) (fun a U => a = #[(.long q1), (.long q2)] ∧ Z.Warmed39 U.vm ∧ U.heap = h0) (fun _ _ _ _ _ => True) (fun _ U o U' => ∃ v L, o = .returned v ∧ Q0 Z q1 q2 h0 n0 v U'.heap L ∧ FrameEnd U o U' L room_1.cells room_1.slots) := by
  refine MetFree.of_bodySF (plainFor_of_name pn_0) hisR ?_
  intro p e s m args below meth c s₁ Bd hml0 hP hK
  obtain ⟨rfl, hZ, hh⟩ := hP
  have hx := Bd.exec
  have hby := Bd.bytes
  have hml : c.maxLocals = 4 := hml0
  have hown : s.vm.findClass "com/example/windrow/windrow/TallyWrapPinLaw" = some m.cls := findClass_of_methodNamed Bd.named
  have hnm := (name_of_methodNamed Bd.named Bd.method).1
  have X0 : Stand p l e room_1 s m #[(.long q1), (.long q2)] below meth c s₁ [] 0 0 := Stand.of_body Bd
  have e0 : s₁.heap = h0 := by rw [← hh, Bd.state]; rfl
  have N0 := Fr.nil n0
  have pre0 : ∀ t, Steps p.tables e below (s₁.setTop (mkF m 0 #[.val (.long q1), .second, .val (.long q2), .second] [])) t → Steps p.tables e below (s₁.setTop (entryFrame m #[(.long q1), (.long q2)] maxLocals)) t := fun t k => castTop (ef_0 m q1 q2) k
  have pre1 : ∀ t, Steps p.tables e below (s₁.setTop (mkF m 2 #[.val (.long q1), .second, .val (.long q2), .second] [(.long q2), (.long q1)])) t → Steps p.tables e below _ t := fun t kt => pre0 t (by
    show Steps p.tables e below (s₁.setTop (mkF m 0 #[.val (.long q1), .second, .val (.long q2), .second] [])) _
    refine XS.lloadN X0.here hx rfl (hb hby at_0) rfl ?_
    show Steps p.tables e below (s₁.setTop (mkF m 1 #[.val (.long q1), .second, .val (.long q2), .second] [(.long q1)])) _
    refine XS.lloadN X0.here hx rfl (hb hby at_1) rfl ?_
    exact kt)
  obtain ⟨_, _, ⟨T2, L2, k2, n2⟩, -, X2, ⟨Lc2, hQ2, l2, y2, z2⟩, st2⟩ := Jvm.LawKit.callS X0 hx (y := (⟨"com/example/windrow/windrow/Tally", "wrap", "(JJ)J"⟩ : MethodName)) hown (mvT hZ (hw _ (List.mem_of_getElem? (i := 0) rfl))) (mvT hZ (hw _ (List.mem_of_getElem? (i := 1) rfl))) (mvT hZ (hw _ (List.mem_of_getElem? (i := 2) rfl))) (mvT hZ (hw _ (List.mem_of_getElem? (i := 3) rfl))) (by decide) (backOf (W := 0) (rm1 l Z a0 hw [] q1 q2 h0 n0 Z0) hZ (hw _ (List.mem_of_getElem? (i := 3) rfl)) (hw _ (List.mem_of_getElem? (i := 2) rfl)) (by decide) (by decide)) (g := (mkF m 2 #[.val (.long q1), .second, .val (.long q2), .second] [(.long q2), (.long q1)])) rfl (by rw [hml]; rfl) (argsL := [(.long q1), (.long q2)]) (rest := []) (lenOf pd_0 rfl) rfl (by show 2 * 0 + _ ≤ _; exact Nat.le_of_eq rfl) (hb hby at_2) (fun _ _ => ⟨rfl, e0, (by decide : 0 + 0 ≤ _), (by decide : 0 + 0 ≤ _)⟩)
  dsimp only [Pt.U, Pt.locs, Pt.cells, Pt.slots] at X2 l2 y2 z2 st2 hQ2
  subst l2 y2 z2
  obtain ⟨rfl, N2q, e2⟩ := hQ2
  have N2 := Fr.app N0 N2q
  have pre3 : ∀ t, Steps p.tables e below (T2.setTop (mkF m 7 #[.val (.long q1), .second, .val (.long q2), .second] [(.long q2), (.long q1), (.long (own_f1 q1 q2))])) t → Steps p.tables e below _ t := fun t kt => pre1 t (by
    show Steps p.tables e below (s₁.setTop (mkF m 2 #[.val (.long q1), .second, .val (.long q2), .second] [(.long q2), (.long q1)])) _
    refine st2 _ ?_
    show Steps p.tables e below (T2.setTop (mkF m 5 #[.val (.long q1), .second, .val (.long q2), .second] [(.long (own_f1 q1 q2))])) _
    refine XS.lloadN X2.here hx rfl (hb hby at_5) rfl ?_
    show Steps p.tables e below (T2.setTop (mkF m 6 #[.val (.long q1), .second, .val (.long q2), .second] [(.long q1), (.long (own_f1 q1 q2))])) _
    refine XS.lloadN X2.here hx rfl (hb hby at_6) rfl ?_
    exact kt)
  obtain ⟨_, _, ⟨T4, L4, k4, n4⟩, -, X4, ⟨Lc4, hQ4, l4, y4, z4⟩, st4⟩ := Jvm.LawKit.callS X2 hx (y := (⟨"com/example/windrow/windrow/TallyWrapPinLaw", "expected", "(JJ)J"⟩ : MethodName)) hown (mvT hZ (hw _ (List.mem_of_getElem? (i := 4) rfl))) (mvT hZ (hw _ (List.mem_of_getElem? (i := 5) rfl))) (mvT hZ (hw _ (List.mem_of_getElem? (i := 6) rfl))) (mvT hZ (hw _ (List.mem_of_getElem? (i := 7) rfl))) (by decide) (backOf (W := 2) (rm2 l Z a0 hw [] q1 q2 h0 n0 Z0) hZ (hw _ (List.mem_of_getElem? (i := 7) rfl)) (hw _ (List.mem_of_getElem? (i := 6) rfl)) (by decide) (by decide)) (g := (mkF m 7 #[.val (.long q1), .second, .val (.long q2), .second] [(.long q2), (.long q1), (.long (own_f1 q1 q2))])) rfl (by rw [hml]; rfl) (argsL := [(.long q1), (.long q2)]) (rest := [(.long (own_f1 q1 q2))]) (lenOf pd_0 rfl) rfl (by show 2 * 0 + _ ≤ _; exact Nat.le_of_eq rfl) (hb hby at_7) (fun _ _ => ⟨rfl, e2, (by decide : 0 + 0 ≤ _), (by decide : 0 + 0 ≤ _)⟩)
  dsimp only [Pt.U, Pt.locs, Pt.cells, Pt.slots] at X4 l4 y4 z4 st4 hQ4
  subst l4 y4 z4
  obtain ⟨rfl, N4q, e4⟩ := hQ4
  have N4 := Fr.app N2 N4q
  have pre5 : ∀ t, Steps p.tables e below (T4.setTop (mkF m 11 #[.val (.long q1), .second, .val (.long q2), .second] [(.int (lcmpW (own_f1 q1 q2) (own_f2 q1 q2)))])) t → Steps p.tables e below _ t := fun t kt => pre3 t (by
    show Steps p.tables e below (T2.setTop (mkF m 7 #[.val (.long q1), .second, .val (.long q2), .second] [(.long q2), (.long q1), (.long (own_f1 q1 q2))])) _
    refine st4 _ ?_
    show Steps p.tables e below (T4.setTop (mkF m 10 #[.val (.long q1), .second, .val (.long q2), .second] [(.long (own_f2 q1 q2)), (.long (own_f1 q1 q2))])) _
    refine XS.lcmp X4.here hx rfl (hb hby at_10) rfl ?_
    exact kt)
  by_cases hc11 : (lcmpW (own_f1 q1 q2) (own_f2 q1 q2)) = (0 : Int32)
  · obtain ⟨fs, hr, hrun, hended, hW, hsame⟩ := X4.leave (v := some (.int (1 : Int32))) (fun h => by rw [Bd.returns] at h; cases h)
    refine ⟨_, _, pre5 _ ?_, hrun, hended, _, _, rfl, ?_, ⟨_, rfl⟩, hW, hsame.mono (by decide) (by decide)⟩
    · show Steps p.tables e below (T4.setTop (mkF m 11 #[.val (.long q1), .second, .val (.long q2), .second] [(.int (lcmpW (own_f1 q1 q2) (own_f2 q1 q2)))])) _
      refine XS.ifNo X4.here hx rfl (hb hby at_11) rfl ((if0 _ _).trans (teq hc11).2) ?_
      show Steps p.tables e below (T4.setTop (mkF m 14 #[.val (.long q1), .second, .val (.long q2), .second] [])) _
      refine XS.iconst X4.here hx rfl (hb hby at_14) ?_
      show Steps p.tables e below (T4.setTop (mkF m 15 #[.val (.long q1), .second, .val (.long q2), .second] [(.int (1 : Int32))])) _
      refine XS.goto X4.here hx rfl (pc0 := 15) (pc' := 19) rfl (hb hby at_15) (by decide) (by decide) ?_
      show Steps p.tables e below (T4.setTop (mkF m 19 #[.val (.long q1), .second, .val (.long q2), .second] [(.int (1 : Int32))])) _
      exact retN X4 hx (t := .boolean) Bd.returns (by simp) (hb hby at_19) hr
    · show Q0 Z q1 q2 h0 n0 _ T4.heap _
      rw [e4]
      exact ⟨by simp only [own_f0, if_pos hc11], N4, rfl⟩
  · obtain ⟨fs, hr, hrun, hended, hW, hsame⟩ := X4.leave (v := some (.int (0 : Int32))) (fun h => by rw [Bd.returns] at h; cases h)
    refine ⟨_, _, pre5 _ ?_, hrun, hended, _, _, rfl, ?_, ⟨_, rfl⟩, hW, hsame.mono (by decide) (by decide)⟩
    · show Steps p.tables e below (T4.setTop (mkF m 11 #[.val (.long q1), .second, .val (.long q2), .second] [(.int (lcmpW (own_f1 q1 q2) (own_f2 q1 q2)))])) _
      refine XS.ifYes X4.here hx rfl (pc0 := 11) (pc' := 18) rfl (hb hby at_11) rfl ((if0 _ _).trans (feq hc11).2) (by decide) (by decide) ?_
      show Steps p.tables e below (T4.setTop (mkF m 18 #[.val (.long q1), .second, .val (.long q2), .second] [])) _
      refine XS.iconst X4.here hx rfl (hb hby at_18) ?_
      show Steps p.tables e below (T4.setTop (mkF m 19 #[.val (.long q1), .second, .val (.long q2), .second] [(.int (0 : Int32))])) _
      exact retN X4 hx (t := .boolean) Bd.returns (by simp) (hb hby at_19) hr
    · show Q0 Z q1 q2 h0 n0 _ T4.heap _
      rw [e4]
      exact ⟨by simp only [own_f0, if_neg hc11], N4, rfl⟩

theorem own_lc_neg (x y : Int64) : lcmpW x y < (0 : Int32) ↔ x.toInt < y.toInt := by
  unfold lcmpW
  by_cases h1 : x > y
  · rw [if_pos h1]
    have h1' : y.toInt < x.toInt := Int64.lt_iff_toInt_lt.mp h1
    constructor
    · intro h; exact absurd h (by decide)
    · intro h; omega
  · rw [if_neg h1]
    have h1' : ¬ y.toInt < x.toInt := fun h => h1 (Int64.lt_iff_toInt_lt.mpr h)
    by_cases h2 : x = y
    · rw [if_pos h2]; subst h2
      constructor
      · intro h; exact absurd h (by decide)
      · intro h; omega
    · rw [if_neg h2]
      have h2' : x.toInt ≠ y.toInt := fun h => h2 (Int64.toInt_inj.mp h)
      constructor
      · intro _; omega
      · intro _; decide
theorem own_neg_msb (x : Int64) : x.toInt < 0 ↔ x.toBitVec.msb = true := by
  rw [BitVec.msb_eq_toInt]; exact decide_eq_true_iff.symm
theorem own_and_neg (x y : Int64) : (x &&& y).toInt < 0 ↔ x.toInt < 0 ∧ y.toInt < 0 := by
  rw [own_neg_msb, own_neg_msb, own_neg_msb, Int64.toBitVec_and, BitVec.msb_and]; simp
theorem own_xor_neg (x y : Int64) : (x ^^^ y).toInt < 0 ↔ ¬ (x.toInt < 0 ↔ y.toInt < 0) := by
  rw [own_neg_msb, own_neg_msb, own_neg_msb, Int64.toBitVec_xor, BitVec.msb_xor]
  cases x.toBitVec.msb <;> cases y.toBitVec.msb <;> simp
theorem own_same (a b : Int64) : own_f1 a b = own_f2 a b := by
  have hA1 := a.toInt_lt
  have hA2 := a.le_toInt
  have hB1 := b.toInt_lt
  have hB2 := b.le_toInt
  have hS : (a + b).toInt = (a.toInt + b.toInt).bmod (2 ^ 64) := Int64.toInt_add a b
  rw [Int.bmod_def] at hS
  have e1 := Jvm.Kit.i64_shr a ((1 : Int32) &&& 0x3f).toInt64 (k := 1) (by decide)
  have e2 := Jvm.Kit.i64_shr b ((1 : Int32) &&& 0x3f).toInt64 (k := 1) (by decide)
  have e3 := Jvm.Kit.i64_mask a 1 (k := 1) (by decide) (by decide)
  have e4 := Jvm.Kit.i64_mask b 1 (k := 1) (by decide) (by decide)
  have e5 := Jvm.Kit.i64_add (x := a >>> ((1 : Int32) &&& 0x3f).toInt64) (y := b >>> ((1 : Int32) &&& 0x3f).toInt64) (by omega) (by omega)
  have e6 := Jvm.Kit.i64_add (x := a &&& 1) (y := b &&& 1) (by omega) (by omega)
  have e7 := Jvm.Kit.i64_shr ((a &&& 1) + (b &&& 1)) ((1 : Int32) &&& 0x3f).toInt64 (k := 1) (by decide)
  have e8 := Jvm.Kit.i64_add (x := (a >>> ((1 : Int32) &&& 0x3f).toInt64) + (b >>> ((1 : Int32) &&& 0x3f).toInt64)) (y := ((a &&& 1) + (b &&& 1)) >>> ((1 : Int32) &&& 0x3f).toInt64) (by omega) (by omega)
  have k0 : (0 : Int64).toInt = 0 := by decide
  have k1 : (4611686018427387904 : Int64).toInt = 4611686018427387904 := by decide
  have k2 : (-4611686018427387904 : Int64).toInt = -4611686018427387904 := by decide
  unfold own_f1 own_f2
  simp only [own_lc_neg, k0, k1, k2, own_and_neg, own_xor_neg]
  rw [e8, e7, e6, e5, e4, e3, e2, e1]
  generalize (a + b).toInt = S at *
  generalize a.toInt = A at *
  generalize b.toInt = B at *
  repeat' split
  all_goals first | rfl | (exfalso; omega)
theorem own_law (a b : Int64) : own_f0 a b = 1 := by
  unfold own_f0
  rw [own_same]
  have h : lcmpW (own_f2 a b) (own_f2 a b) = 0 := by simp [lcmpW]
  rw [if_pos h]
set_option maxRecDepth 65536 in
set_option maxHeartbeats 40000000 in
theorem comes_1 {Post : Tables → Env → Array Value → State → Outcome → State → Prop} (hpost : ∀ tb e args s v u, (limb_1_1.after args s (.returned v) u = true ∧ limb_1_2.after args s (.returned v) u = true ∧ True) → FrameEnd s (.returned v) u (Jvm.fieldLocs frame_1_writes args s ++ Jvm.arrayLocs frame_1_arrays args s ++ Jvm.staticLocs frame_1_statics s) 0 0 → Post tb e args s (.returned v) u) :
    ArmFor flags0 classFile x code maxLocals ret World_1 tables_1 room_1 Calls_1 rest_1 Pre_1 Post := by
  intro l hfl _ _ p e ha hc hk s m args below hf hA hF happ hP
  obtain ⟨hcalls, hrest, hpre⟩ := hP
  obtain ⟨-, -, -, hnamed, -, -, -, hat⟩ := (Spec.applies_iff hf).mp happ
  obtain ⟨hg, hn⟩ := and_e (Cond.before_iff.mp (show (Jvm.Cond.and given_1 narrow_1).before args s = true from hpre))
  obtain ⟨gc, gr0⟩ := and_e hg
  obtain ⟨ga0, gr1⟩ := and_e gr0
  obtain ⟨w0, w1, rfl⟩ : ∃ w0 w1 : Value, args = #[w0, w1] := by
    have hs : args.size = 2 := by simpa [Cond.value, given_1] using gc
    obtain ⟨L⟩ := args
    match L, hs with
    | [w0, w1], _ => exact ⟨w0, w1, rfl⟩
  have hw := fun d (hd : d ∈ tables_1) => atoms_spec (ws := Jvm.Cond.code x code maxLocals ret :: tables_1) hat d (List.mem_cons_of_mem _ hd)
  have hfit : Fit s := fun {y c} hc i hi => by
    obtain ⟨ha, rfl⟩ := Array.getElem?_eq_some_iff.mp hc
    have q := List.all_eq_true.mp ((Array.all_eq_true_iff_forall_mem.mp hF) _ (Array.getElem_mem ha)) i (List.mem_range.mpr hi)
    simpa [Array.getElem?_eq_getElem hi] using q
  obtain ⟨i0, ei0⟩ := isL_v ga0
  obtain rfl : w0 = (.long i0) := Option.some.inj ei0
  obtain ⟨i1, ei1⟩ := isL_v gr1
  obtain rfl : w1 = (.long i1) := Option.some.inj ei1
  obtain ⟨n, o, h1, h2, h3, _, L, rfl, ⟨ev, N, -⟩, hq⟩ := rm0 l s _ hw tables_1 i0 i1 s.heap s.heap.size (Nat.le_refl _) p e ha hc hk s m _ below hf ((Spec.applies_iff_loose hf).mp happ).1 ⟨rfl, State.Warmed39.refl s, rfl⟩ trivial
  rw [own_law i0 i1] at ev
  subst ev
  refine ⟨n, _, h1, h2, h3, hpost _ _ _ _ _ _ ⟨Cond.after_iff.mpr rfl, Cond.after_iff.mpr (eq_i res_at (Term.int_eval (1)) rfl), trivial⟩ ⟨hq.1, hq.2.1, (hq.2.2.sift fun y hy => Or.inr (N y hy)).mono (by decide) (by decide)⟩⟩
theorem main_1_1 : Claimed_1_1 := comes_1 fun _ _ _ _ _ _ h hF => ⟨h.1, hF⟩
theorem main_1_2 : Claimed_1_2 := comes_1 fun _ _ _ _ _ _ h hF => ⟨h.2.1, hF⟩
end Jvm.Pilot.@@N@@
namespace Jvm.Pilot.@@N@@
open Jvm Jvm.ClassFile Sem Op Lib Jvm.Free Jvm.Stand Jvm.Pilot.@@N@@.Jvm.D
/-! MADE BY PROGRAM (witnessworld.py) out of the Statement's table words and the real class files: 10 classes; the members and pool entries that the words name. The judged class is class 1, her method 2. -/
namespace start1
open Jvm.ClassFile
def u (s : String) : CpInfo := .utf8 (stringToUtf16 s)
/-- a pool by its gaps: so many unusable entries, then the entry; so many at the end -/
def gap : Nat → List CpInfo → List CpInfo
  | 0, r => r
  | n + 1, r => .unusable :: gap n r
def poolList (es : List (Nat × CpInfo)) (last : Nat) : List CpInfo := es.foldr (fun e r => gap e.1 (e.2 :: r)) (gap last [])
def pool (es : List (Nat × CpInfo)) (last : Nat) : Array CpInfo := ⟨poolList es last⟩
def fileOf (pool : Array CpInfo) (this : Nat) (attrs : Array Attribute := #[]) (ms : Array MethodInfo := #[]) (fl : Nat := 33) (sup : Nat := 0) (ifs : Array Nat := #[]) (fds : Array FieldInfo := #[]) : ClassFile where
  minorVersion := 0
  majorVersion := 65
  constantPool := pool
  accessFlags := fl
  thisClass := this
  superClass := sup
  interfaces := ifs
  fields := fds
  methods := ms
  attributes := attrs
def plain (name : String) (sup : Option ClassId) : Class where
  name := name
  kind := .ordinary
  loader := none
  accessFlags := 33
  super := sup
  interfaces := #[]
  cf := none
  fields := #[]
  methods := #[]
  instanceTypes := #[]
  staticTypes := #[]
  resolved := #[]
  callSites := []
  init := .initialized
  statics := none
  mirror := none

def pool0 : Array CpInfo := pool [(5, u "<init>"), (0, u "()V"), (1, .class_ 10), (1, u "java/lang/Object")] 113

def k0m0 : Method := { name := "<init>", desc := "()V", sig := { parameters := [], returnType := none }, accessFlags := 1, code := none }
/-- java/lang/Object -/
def k0 : Class := { plain "java/lang/Object" none with
  accessFlags := 33
  interfaces := #[]
  cf := some (fileOf pool0 8 #[] #[{ accessFlags := 1, nameIndex := 5, descriptorIndex := 6, attributes := #[] }] 33 0 #[] #[])
  fields := #[]
  methods := #[k0m0]
  instanceTypes := #[]
  staticTypes := #[]
  resolved := Array.replicate 124 none
  statics := none }

def pool1 : Array CpInfo := pool [(2, .class_ 4), (1, u "java/lang/Object"), (0, u "<init>"), (0, u "()V"), (0, .long 4611686018427387904), (1, .long 13835058055282163712), (1, .long 18446744073709551615), (1, .methodref 14 15), (0, .class_ 16), (0, .nameAndType 17 18), (0, u "com/example/windrow/windrow/Tally"), (0, u "wrap"), (0, u "(JJ)J"), (0, .methodref 20 21), (0, .class_ 22), (0, .nameAndType 23 18), (0, u "com/example/windrow/windrow/TallyWrapPinLaw"), (0, u "expected"), (3, u "law"), (0, u "(JJ)Z")] 2

def k1m0 : Method := { name := "<init>", desc := "()V", sig := { parameters := [], returnType := none }, accessFlags := 2, code := none }
def k1c1 : Code := { maxStack := 6, maxLocals := 10, code := method_2_code, exceptionTable := #[], attributes := #[] }
def k1m1 : Method := { name := "expected", desc := "(JJ)J", sig := { parameters := [.long, .long], returnType := some .long }, accessFlags := 10, code := some k1c1 }
def k1c2 : Code := { maxStack := 6, maxLocals := 4, code := code, exceptionTable := #[], attributes := #[] }
def k1m2 : Method := { name := "law", desc := "(JJ)Z", sig := { parameters := [.long, .long], returnType := some .boolean }, accessFlags := 9, code := some k1c2 }
/-- com/example/windrow/windrow/TallyWrapPinLaw -/
def k1 : Class := { plain "com/example/windrow/windrow/TallyWrapPinLaw" (some 0) with
  accessFlags := 49
  interfaces := #[]
  cf := some (fileOf pool1 20 #[] #[{ accessFlags := 2, nameIndex := 5, descriptorIndex := 6, attributes := #[] }, { accessFlags := 10, nameIndex := 23, descriptorIndex := 18, attributes := #[] }, { accessFlags := 9, nameIndex := 27, descriptorIndex := 28, attributes := #[] }] 49 2 #[] #[])
  fields := #[]
  methods := #[k1m0, k1m1, k1m2]
  instanceTypes := #[]
  staticTypes := #[]
  resolved := Array.replicate 31 none
  statics := none }

def pool2 : Array CpInfo := pool [(1, .class_ 2), (0, u "com/example/windrow/windrow/Counted"), (0, .class_ 4), (0, u "java/lang/Object")] 4

/-- com/example/windrow/windrow/Counted -/
def k2 : Class := { plain "com/example/windrow/windrow/Counted" (some 0) with
  accessFlags := 1536
  interfaces := #[]
  cf := some (fileOf pool2 1 #[] #[] 1536 3 #[] #[])
  fields := #[]
  methods := #[]
  instanceTypes := #[]
  staticTypes := #[]
  resolved := Array.replicate 9 none
  statics := none }

def pool3 : Array CpInfo := pool [(2, .class_ 4), (1, u "java/lang/Object"), (3, .class_ 10), (1, u "com/example/windrow/windrow/Tally"), (0, u "_count"), (0, u "J"), (2, u "_sum"), (2, u "_wraps"), (50, u "wrap"), (0, u "(JJ)J"), (3, .long 18446744073709551615), (25, u "NONE"), (0, u "Lcom/example/windrow/windrow/Tally;"), (0, .class_ 103), (0, u "com/example/windrow/windrow/Tally$1"), (3, u "COUNT_AND_SUM"), (0, u "Lcom/example/windrow/windrow/Aggregator;"), (0, .class_ 110), (0, u "com/example/windrow/windrow/Tally$2"), (3, u "CODEC"), (0, u "Lcom/example/windrow/windrow/StateCodec;"), (0, .class_ 117), (0, u "com/example/windrow/windrow/Counted"), (21, .class_ 140), (0, u "com/example/windrow/windrow/Tally$CountAndSumCodec")] 16

def k3c0 : Code := { maxStack := 6, maxLocals := 6, code := prog_105_method_8_code, exceptionTable := #[], attributes := #[] }
def k3m0 : Method := { name := "wrap", desc := "(JJ)J", sig := { parameters := [.long, .long], returnType := some .long }, accessFlags := 8, code := some k3c0 }
/-- com/example/windrow/windrow/Tally -/
def k3 : Class := { plain "com/example/windrow/windrow/Tally" (some 0) with
  accessFlags := 48
  interfaces := #[2]
  cf := some (fileOf pool3 8 #[.nestMembers #[139, 109, 102]] #[{ accessFlags := 8, nameIndex := 69, descriptorIndex := 70, attributes := #[] }] 48 2 #[116] #[{ accessFlags := 24, nameIndex := 100, descriptorIndex := 101, attributes := #[] }, { accessFlags := 24, nameIndex := 107, descriptorIndex := 108, attributes := #[] }, { accessFlags := 24, nameIndex := 114, descriptorIndex := 115, attributes := #[] }, { accessFlags := 18, nameIndex := 11, descriptorIndex := 12, attributes := #[] }, { accessFlags := 18, nameIndex := 15, descriptorIndex := 12, attributes := #[] }, { accessFlags := 18, nameIndex := 18, descriptorIndex := 12, attributes := #[] }])
  fields := #[{ name := "NONE", type := (.object "com/example/windrow/windrow/Tally"), accessFlags := 24, slot := 0, constantValue := 0 }, { name := "COUNT_AND_SUM", type := (.object "com/example/windrow/windrow/Aggregator"), accessFlags := 24, slot := 1, constantValue := 0 }, { name := "CODEC", type := (.object "com/example/windrow/windrow/StateCodec"), accessFlags := 24, slot := 2, constantValue := 0 }, { name := "_count", type := .long, accessFlags := 18, slot := 0, constantValue := 0 }, { name := "_sum", type := .long, accessFlags := 18, slot := 1, constantValue := 0 }, { name := "_wraps", type := .long, accessFlags := 18, slot := 2, constantValue := 0 }]
  methods := #[k3m0]
  instanceTypes := #[.long, .long, .long]
  staticTypes := #[(.object "com/example/windrow/windrow/Tally"), (.object "com/example/windrow/windrow/Aggregator"), (.object "com/example/windrow/windrow/StateCodec")]
  resolved := Array.replicate 157 none
  statics := none }

def pool4 : Array CpInfo := pool [(1, u "java/lang/Cloneable"), (0, .class_ 1), (0, u "java/lang/Object"), (0, .class_ 3)] 3

/-- java/lang/Cloneable -/
def k4 : Class := { plain "java/lang/Cloneable" (some 0) with
  accessFlags := 1537
  interfaces := #[]
  cf := some (fileOf pool4 2 #[] #[] 1537 4 #[] #[])
  fields := #[]
  methods := #[]
  instanceTypes := #[]
  staticTypes := #[]
  resolved := Array.replicate 8 none
  statics := none }

def pool5 : Array CpInfo := pool [(1, u "java/io/Serializable"), (0, .class_ 1), (0, u "java/lang/Object"), (0, .class_ 3)] 3

/-- java/io/Serializable -/
def k5 : Class := { plain "java/io/Serializable" (some 0) with
  accessFlags := 1537
  interfaces := #[]
  cf := some (fileOf pool5 2 #[] #[] 1537 4 #[] #[])
  fields := #[]
  methods := #[]
  instanceTypes := #[]
  staticTypes := #[]
  resolved := Array.replicate 8 none
  statics := none }

/-- the primitive byte -/
def k6 : Class := { plain "byte" none with kind := .primitive 'B', accessFlags := 0x411 }
/-- [B -/
def k7 : Class := { plain "[B" (some 0) with kind := .array 6 .byte, interfaces := #[4, 5], accessFlags := 1041 }

/-- the primitive int -/
def k8 : Class := { plain "int" none with kind := .primitive 'I', accessFlags := 0x411 }
/-- [I -/
def k9 : Class := { plain "[I" (some 0) with kind := .array 8 .int, interfaces := #[4, 5], accessFlags := 1041 }

def heap : Heap := #[]
def classes : Array Class := #[k0, k1, k2, k3, k4, k5, k6, k7, k8, k9]
def interned : List (Array UInt16 × Addr) := []
def slotsUsed : Nat := 0
def theMethod : MethodId := ⟨1, 2⟩
def args0 : Array Value := #[.long 5, .long 7]
def aboutOver (below : List Frame) : State where
  vm := { classes := classes, interned := interned.toArray }
  heap := heap
  slotsUsed := slotsUsed
  threads := #[{ frames := .invoking theMethod args0 :: below }]
def below0 : List Frame := [.native { method := ⟨0, 0⟩, args := #[] }]
def about1 : State := aboutOver below0
def p0 : Program := .bare "" "" ""
def e0 : Env := launch0.env 0 0 0
theorem w_frames : about1.frames = Frame.invoking theMethod args0 :: below0 := rfl
set_option maxRecDepth 65536 in
theorem w_args : argsFit about1.vm theMethod args0 = true := by decide +kernel
set_option maxRecDepth 65536 in
theorem w_heap : heapFits about1 = true := by decide +kernel
set_option maxRecDepth 65536 in
theorem w_runnable : about1.curStatus? = some .runnable := by decide +kernel
set_option maxRecDepth 65536 in
theorem w_alone : about1.alone = true := by decide +kernel
set_option maxRecDepth 65536 in
theorem w_named : about1.methodNamed? x = some theMethod := by decide +kernel
set_option maxRecDepth 65536 in
theorem w_hears : about1.hears theMethod below0 = true := by decide +kernel
set_option maxRecDepth 65536 in
theorem w_ripe : about1.ripe theMethod args0 below0 = true := by decide +kernel
theorem w_running : about1.status = .running := rfl
set_option maxRecDepth 65536 in
theorem w_room : about1.hasRoom e0.platform room_1 = true :=
  launch0.hasRoom_least _ room_1 (by decide +kernel) (by decide +kernel) (by decide +kernel) (by decide +kernel) (by decide +kernel) (by decide +kernel)
theorem allAtoms_all (ts : List Jvm.Cond) (a : Array Jvm.Value) (st : Jvm.State) : (allAtoms ts).before a st = ts.all (fun c => c.before a st) := by
  induction ts with
  | nil => rfl
  | cons c t ih =>
    show (Jvm.Cond.and c (allAtoms t)).before a st = _
    rw [Jvm.Cond.before_and, ih, List.all_cons]
def words1 : List Jvm.Cond := Jvm.Cond.code x code maxLocals ret :: tables_1
/-- a 'code' word, met by the world's own term for the bytes: nothing is compared byte by byte -/
theorem code_word {y : MethodName} {bytes : ByteArray} {mx : Nat} {rt : Option FieldType} {a : Array Value} {s : State} {m : MethodId} {meth : Method} {c : Code} (h1 : s.methodNamed? y = some m) (h2 : s.vm.method? m = some meth) (h3 : meth.code = some c) (h4 : c.code = bytes)
    (h5 : (c.maxLocals == mx && c.exceptionTable.isEmpty && decide (c.maxStack ≤ mostOperands) && decide (meth.sig.returnType = rt) && !meth.locks && decide (parseMethodDescriptor y.desc = some meth.sig)) = true) : (Jvm.Cond.code y bytes mx rt).before a s = true := by
  simp only [Bool.and_eq_true, beq_iff_eq, Bool.not_eq_true', decide_eq_true_eq] at h5
  obtain ⟨⟨⟨⟨⟨g1, g2⟩, g3⟩, g4⟩, g5⟩, g6⟩ := h5
  simp [Cond.before, Cond.holds, Cond.value, h1, h2, h3, h4, g1, g2, g3, g4, g5, g6]
def isCode : Jvm.Cond → Bool
  | .code _ _ _ _ => true
  | _ => false
theorem all_split {L : List Jvm.Cond} {P : Jvm.Cond → Bool} (h1 : L.all (fun c => isCode c || P c) = true) (h2 : ∀ c ∈ L.filter isCode, P c = true) : L.all P = true := by
  refine List.all_eq_true.mpr fun c hc => ?_
  have h := List.all_eq_true.mp h1 c hc
  rcases Bool.eq_false_or_eq_true (isCode c) with hi | hi
  · exact h2 c (List.mem_filter.mpr ⟨hc, hi⟩)
  · simpa [hi] using h
set_option maxRecDepth 65536 in
theorem w_c0 : (Jvm.Cond.code x code maxLocals ret).before args0 about1 = true := code_word (m := ⟨1, 2⟩) (meth := k1m2) (c := k1c2) (by decide +kernel) rfl rfl rfl (by decide +kernel)
set_option maxRecDepth 65536 in
theorem w_c1 : (Jvm.Cond.code ({ cls := "com/example/windrow/windrow/Tally", name := "wrap", desc := "(JJ)J" } : Jvm.MethodName) prog_105_method_8_code (6 : Nat) (Option.some Jvm.ClassFile.FieldType.long)).before args0 about1 = true := code_word (m := ⟨3, 0⟩) (meth := k3m0) (c := k3c0) (by decide +kernel) rfl rfl rfl (by decide +kernel)
set_option maxRecDepth 65536 in
theorem w_c2 : (Jvm.Cond.code ({ cls := "com/example/windrow/windrow/TallyWrapPinLaw", name := "expected", desc := "(JJ)J" } : Jvm.MethodName) method_2_code (10 : Nat) (Option.some Jvm.ClassFile.FieldType.long)).before args0 about1 = true := code_word (m := ⟨1, 1⟩) (meth := k1m1) (c := k1c1) (by decide +kernel) rfl rfl rfl (by decide +kernel)
def codes1 : List Jvm.Cond := [Jvm.Cond.code x code maxLocals ret, Jvm.Cond.code ({ cls := "com/example/windrow/windrow/Tally", name := "wrap", desc := "(JJ)J" } : Jvm.MethodName) prog_105_method_8_code (6 : Nat) (Option.some Jvm.ClassFile.FieldType.long), Jvm.Cond.code ({ cls := "com/example/windrow/windrow/TallyWrapPinLaw", name := "expected", desc := "(JJ)J" } : Jvm.MethodName) method_2_code (10 : Nat) (Option.some Jvm.ClassFile.FieldType.long)]
set_option maxRecDepth 65536 in
theorem codes_eq : words1.filter isCode = codes1 := rfl
theorem w_codes : ∀ c ∈ words1.filter isCode, c.before args0 about1 = true := by
  rw [codes_eq]
  intro c hc
  simp only [codes1, List.mem_cons, List.not_mem_nil, or_false] at hc
  rcases hc with rfl | rfl | rfl
  · exact w_c0
  · exact w_c1
  · exact w_c2
set_option maxRecDepth 65536 in
theorem w_t1 : words1.all (fun c => isCode c || c.before args0 about1) = true := by decide +kernel
theorem w_tables : (allAtoms (Jvm.Cond.code x code maxLocals ret :: tables_1)).before args0 about1 = true := by
  rw [allAtoms_all]
  show words1.all (fun c => c.before args0 about1) = true
  refine all_split ?_ w_codes
  rw [w_t1]
set_option maxRecDepth 65536 in
theorem w_case : (Jvm.Cond.and given_1 narrow_1).before args0 about1 = true := by decide +kernel
theorem w_applies : (headSpec (Jvm.Cond.code x code maxLocals ret :: tables_1) room_1).applies x e0.platform about1 = true :=
  (Spec.applies_iff w_frames).mpr ⟨w_running, w_runnable, w_alone, w_named, w_hears, w_ripe, w_room, w_tables⟩
theorem atStart : AtStart classFile x code maxLocals ret World_1 tables_1 room_1 Calls_1 rest_1 Pre_1 launch0 p0 e0 about1 theMethod args0 below0 :=
  ⟨lists_1, trivial, launch0.admits_env _ _ _, launch0.least_env, fairChoices_fair.cas, fairChoices_fair.clock, w_frames, w_args, w_heap, w_applies, trivial, trivial, w_case⟩
end start1
theorem witness_1 : WitnessClaimed_1 := ⟨start1.p0, start1.e0, start1.about1, start1.theMethod, start1.args0, start1.below0, start1.atStart⟩
end Jvm.Pilot.@@N@@
