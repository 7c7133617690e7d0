import JvmDerived
import JvmDerived.Pilot.@@N@@Statement
import JvmDerived.Pilot.@@N@@Code
set_option linter.unusedVariables false
set_option linter.unusedSimpArgs false
@@BLOCK:NumsL.lean.txt@@
namespace Jvm.RoadKit
open Sem ClassFile Op Lib Jvm.Stand Jvm.Free Jvm.LawKit
section New
variable {p : Program} {l : Launch} {e : Env} {R : Room} {s : State} {m : MethodId} {args : Array Value} {below : List Frame} {meth : Method} {c : Code} {T : State} {locs : List Loc} {cells slots : Nat}
theorem retI (X : Stand p l e R s m args below meth c T locs cells slots) (hx : p.tables.exec = Jvm.exec) {pc : Nat} {Ls : Array Slot} {z : Int32} {rest : List Value} (hret : meth.sig.returnType = some .int) (hd : decode c.code pc = .ok (.ireturn, 1)) {fs : List Frame}
    (hl : ∀ (f : JFrame) (acts : List Action), f.method = m → f.locked = none → f.entered = [] → (doReturn e (T.setTop f) acts (some (.int z))).1 = T.setFrames fs) : Steps p.tables e below (T.setTop (mkF m pc Ls (.int z :: rest))) (T.setFrames fs) := by
  have hm' : T.vm.method? m = some meth := X.method'
  have hn : narrow .int (.int z) = .int z := rfl
  show Steps p.tables e below (T.setTop { method := m, pc := pc, locals := Ls, stack := _ :: rest, locked := none }) _
  jvm_step X.here [X.here.top, hx, hd, hm', hret, hn]
  first | (intro acts; rw [hl _ acts rfl rfl rfl]) | rw [hl _ _ rfl rfl rfl]
  exact Steps.refl _
end New
end Jvm.RoadKit
namespace Jvm.Pilot.@@N@@
open Jvm Jvm.ClassFile Sem Op Lib Jvm.Free Jvm.Stand Jvm.LawKit Jvm.RoadKit Bundle Jvm.Pilot.@@N@@.Jvm.D

def own_A (Z : State) (h : Heap) (a : Addr) (ty : FieldType) (n : Nat) (f : Nat → Int32) : Prop := ∃ c : Cell, Arr Z h a c ty ∧ c.slots.size = n ∧ ∀ j, j < n → c.slots[j]? = some (.int (f j))
theorem own_A_new {Z : State} {h : Heap} {a : Addr} {k : ClassId} {ty : FieldType} {z : Int32} {n : Nat} (A : Arr Z h a (newA k ty z) ty) (hd : defaultValue ty = .int 0) (hn : z.toNatClampNeg = n) : own_A Z h a ty n (fun _ => 0) :=
  ⟨_, A, by rw [sz_new, hn], fun j hj => by simp [newA, hn, hd, hj]⟩
theorem own_A_set {Z : State} {h h' : Heap} {a : Addr} {ty : FieldType} {n i : Nat} {f : Nat → Int32} {v : Int32} (F : own_A Z h a ty n f) (W : Wr h h' a i (.int v)) : own_A Z h' a ty n (upd f i v) := by
  obtain ⟨c, A, S, H⟩ := F
  refine ⟨_, A.same W, by rw [sz_set, S], fun j hj => ?_⟩
  show (c.slots.setIfInBounds i (.int v))[j]? = _
  rw [Array.getElem?_setIfInBounds]
  by_cases e : i = j
  · subst e; rw [if_pos rfl, if_pos (by rw [S]; exact hj)]; simp [upd]
  · rw [if_neg e, H j hj]; simp [upd, Ne.symm e]
theorem own_A_ext {Z : State} {h h' : Heap} {a : Addr} {ty : FieldType} {n : Nat} {f : Nat → Int32} (F : own_A Z h a ty n f) (E : Ext h h') : own_A Z h' a ty n f := by
  obtain ⟨c, A, S, H⟩ := F; exact ⟨c, A.ext E, S, H⟩
theorem own_A_other {Z : State} {h h' : Heap} {a b : Addr} {ty : FieldType} {n sl : Nat} {f : Nat → Int32} {v : Value} (F : own_A Z h a ty n f) (W : Wr h h' b sl v) (q : a ≠ b) : own_A Z h' a ty n f := by
  obtain ⟨c, A, S, H⟩ := F; exact ⟨c, A.other W q, S, H⟩
theorem own_A_keep {Z : State} {h h' : Heap} {a : Addr} {ty : FieldType} {n : Nat} {f : Nat → Int32} {ws : List Addr} (F : own_A Z h a ty n f) (K : Keep h h' ws) (q : a ∉ ws) : own_A Z h' a ty n f := by
  obtain ⟨c, A, S, H⟩ := F; exact ⟨c, ⟨K.2.1 a c A.1 q, A.2⟩, S, H⟩
theorem own_A_lt {Z : State} {h : Heap} {a : Addr} {ty : FieldType} {n : Nat} {f : Nat → Int32} (F : own_A Z h a ty n f) : a < h.size := by obtain ⟨c, A, -⟩ := F; exact A.lt
theorem own_upd_same (f : Nat → Int32) (i : Nat) (v : Int32) : upd f i v i = v := by simp [upd]
theorem own_upd_ne (f : Nat → Int32) {i j : Nat} (v : Int32) (h : j ≠ i) : upd f i v j = f j := by simp [upd, h]
theorem own_toNat (y : Int32) (h : 0 ≤ y.toInt) : y = Int32.ofNat y.toInt.toNat := by
  have a := y.toInt_lt
  rw [← Int32.toInt_inj, toInt_of rfl (by omega)]
  omega
theorem own_mask (x m : Int32) {k : Nat} (hk : k < 32) (hm : m.toBitVec.toNat = 2 ^ k - 1) : ∃ n : Nat, x &&& m = Int32.ofNat n ∧ n < 2 ^ k := by
  have h := Jvm.Kit.i32_mask x m hk hm
  have hp : (0 : Int) < 2 ^ k := Int.pow_pos (by decide)
  have h1 := Int.emod_nonneg x.toInt (b := 2 ^ k) (by omega)
  have h2 := Int.emod_lt_of_pos x.toInt hp
  refine ⟨(x &&& m).toInt.toNat, own_toNat _ (by omega), ?_⟩
  have h3 : ((2 ^ k : Nat) : Int) = 2 ^ k := by simp
  omega
theorem own_lt {i n : Nat} (h : i < n) (hn : n < 2 ^ 31) : Int32.ofNat i < Int32.ofNat n := by
  rw [Int32.lt_iff_toInt_lt, toInt_of rfl (by omega : i < 2 ^ 31), toInt_of rfl hn]; omega
theorem own_nlt {i n : Nat} (h : n ≤ i) (hi : i < 2 ^ 31) : ¬ (Int32.ofNat i < Int32.ofNat n) := by
  rw [Int32.lt_iff_toInt_lt, toInt_of rfl hi, toInt_of rfl (by omega : n < 2 ^ 31)]; omega
theorem own_ne {i n : Nat} (h : i ≠ n) (hi : i < 2 ^ 31) (hn : n < 2 ^ 31) : ¬ (Int32.ofNat i = Int32.ofNat n) := by
  rw [← Int32.toInt_inj, toInt_of rfl hi, toInt_of rfl hn]; omega
theorem own_add (a b : Nat) : Int32.ofNat a + Int32.ofNat b = Int32.ofNat (a + b) := (Int32.ofNat_add a b).symm
theorem own_sub {a b : Nat} (h : b ≤ a) (ha : a < 2 ^ 31) : Int32.ofNat a - Int32.ofNat b = Int32.ofNat (a - b) := by
  rw [← Int32.toInt_inj, toInt_of rfl (by omega : a - b < 2 ^ 31)]
  have h1 : (Int32.ofNat a).toInt = a := toInt_of rfl ha
  have h2 : (Int32.ofNat b).toInt = b := toInt_of rfl (by omega)
  rw [Jvm.Kit.i32_sub (by omega) (by omega)]
  omega
theorem own_rem {a b : Nat} (ha : a < 2 ^ 31) (hb : b < 2 ^ 31) : Int32.ofNat a % Int32.ofNat b = Int32.ofNat (a % b) := by
  have h3 : a % b ≤ a := Nat.mod_le a b
  have h1 : (Int32.ofNat a).toInt = a := toInt_of rfl ha
  have h2 : (Int32.ofNat b).toInt = b := toInt_of rfl hb
  rw [← Int32.toInt_inj, toInt_of rfl (by omega : a % b < 2 ^ 31), Jvm.Kit.i32_rem_nonneg (by omega), h1, h2]
  omega
theorem pn_2 : plainName "canonsign/SignedHeaders" = true := by first | (simp [plainName, overriddenIn]; done) | decide +kernel
theorem ef_2 (m : MethodId) (x0 : Int32) : entryFrame m #[(.int x0)] 1 = mkF m 0 #[.val (.int x0)] [] := by first | (simp [entryFrame, mkF, argsToLocals, Value.category]; done) | rfl
theorem d2_0 : decode prog_13_method_8_code 0 = .ok (.iload_n 0, 1) := by decide +kernel
theorem d2_1 : decode prog_13_method_8_code 1 = .ok (.bipush 65, 2) := by decide +kernel
theorem d2_3 : decode prog_13_method_8_code 3 = .ok (.if_icmp .lt 17, 3) := by decide +kernel
theorem d2_20 : decode prog_13_method_8_code 20 = .ok (.iload_n 0, 1) := by decide +kernel
theorem d2_21 : decode prog_13_method_8_code 21 = .ok (.ireturn, 1) := by decide +kernel
theorem d2_6 : decode prog_13_method_8_code 6 = .ok (.iload_n 0, 1) := by decide +kernel
theorem d2_7 : decode prog_13_method_8_code 7 = .ok (.bipush 90, 2) := by decide +kernel
theorem d2_9 : decode prog_13_method_8_code 9 = .ok (.if_icmp .gt 11, 3) := by decide +kernel
theorem d2_12 : decode prog_13_method_8_code 12 = .ok (.iload_n 0, 1) := by decide +kernel
theorem d2_13 : decode prog_13_method_8_code 13 = .ok (.bipush 32, 2) := by decide +kernel
theorem d2_15 : decode prog_13_method_8_code 15 = .ok (.iadd, 1) := by decide +kernel
theorem d2_16 : decode prog_13_method_8_code 16 = .ok (.i2c, 1) := by decide +kernel
theorem d2_17 : decode prog_13_method_8_code 17 = .ok (.goto 4, 3) := by decide +kernel
def own_low (p1 : Int32) : Int32 := if p1 < (65 : Int32) then ((nar .char p1)) else (if (90 : Int32) < p1 then ((nar .char p1)) else ((nar .char ((p1 + (32 : Int32)).toUInt32.toUInt16.toUInt32.toInt32))))
def Q2 (Z : State) (p1 : Int32) (h0 : Heap) (n0 : Nat) (v : Option Value) (h : Heap) (L : List Loc) : Prop := v = some (.int (own_low p1)) ∧ Fr n0 L ∧ h = h0
set_option maxRecDepth 65536 in
set_option maxHeartbeats 40000000 in
theorem rm2 (l : Launch) (Z : State) (a0 : Array Value) (hw : ∀ d ∈ tables_1, d.before a0 Z = true) (ws : List Jvm.Cond) (p1 : Int32) (h0 : Heap) (n0 : Nat) (Z0 : n0 ≤ h0.size) :
    MetFree l (⟨"canonsign/SignedHeaders", "lowerCase", "(C)C"⟩ : MethodName) (head1 (Jvm.Cond.code (⟨"canonsign/SignedHeaders", "lowerCase", "(C)C"⟩ : MethodName) prog_13_method_8_code 1 (some .char) :: ws) ({ frames := 0, cells := 0, slots := 0, locals := 0 } : Room)) (fun aa_ U => aa_ = #[(.int p1)] ∧ Z.Warmed39 U.vm ∧ U.heap = h0) (fun _ _ _ _ _ => True) (fun _ U o U' => ∃ v_ L_, o = .returned v_ ∧ Q2 Z p1 h0 n0 v_ U'.heap L_ ∧ FrameEnd U o U' L_ ({ frames := 0, cells := 0, slots := 0, locals := 0 } : Room).cells ({ frames := 0, cells := 0, slots := 0, locals := 0 } : Room).slots) := by
  refine MetFree.of_bodySF (plainFor_of_name pn_2) hisR ?_
  intro p e s m args below meth c s₁ Bd hml0 hP hK
  obtain ⟨rfl, hZ, hh⟩ := hP
  have hx := Bd.exec
  have hby := Bd.bytes
  have hml : c.maxLocals = 1 := hml0
  have hown : s.vm.findClass "canonsign/SignedHeaders" = some m.cls := findClass_of_methodNamed Bd.named
  have hnm := (name_of_methodNamed Bd.named Bd.method).1
  have X0 : Stand p l e ({ frames := 0, cells := 0, slots := 0, locals := 0 } : Room) s m #[(.int p1)] below meth c s₁ [] 0 0 := Stand.of_body Bd
  have e0 : s₁.heap = h0 := by rw [← hh, Bd.state]; rfl
  have N0 := Fr.nil n0
  have pre0 : ∀ t, Steps p.tables e below (s₁.setTop (mkF m 0 #[.val (.int p1)] [])) t → Steps p.tables e below (s₁.setTop (entryFrame m #[(.int p1)] 1)) t := fun t k_ => castTop (ef_2 m p1) k_
  have pre1 : ∀ t, Steps p.tables e below (s₁.setTop (mkF m 3 #[.val (.int p1)] [(.int (65 : Int32)), (.int p1)])) t → Steps p.tables e below _ t := fun t kt => pre0 t (by
    show Steps p.tables e below (s₁.setTop (mkF m 0 #[.val (.int p1)] [])) _
    refine XS.iloadN X0.here hx rfl (hb hby d2_0) rfl ?_
    show Steps p.tables e below (s₁.setTop (mkF m 1 #[.val (.int p1)] [(.int p1)])) _
    refine XS.bipush X0.here hx rfl (hb hby d2_1) ?_
    exact kt)
  by_cases hc3 : p1 < (65 : Int32)
  · obtain ⟨fs, hr, hrun, hended, hW, hsame⟩ := X0.leave (v := some (.int (nar .char p1))) (fun h => by rw [Bd.returns] at h; cases h)
    refine ⟨_, _, pre1 _ ?_, hrun, hended, _, _, rfl, ?_, ⟨_, rfl⟩, hW, hsame.mono (by decide) (by decide)⟩
    · show Steps p.tables e below (s₁.setTop (mkF m 3 #[.val (.int p1)] [(.int (65 : Int32)), (.int p1)])) _
      refine XS.icmpYes X0.here hx rfl (pc0 := 3) (pc' := 20) rfl (hb hby d2_3) rfl (tlt hc3).1 (by decide) (by decide) ?_
      show Steps p.tables e below (s₁.setTop (mkF m 20 #[.val (.int p1)] [])) _
      refine XS.iloadN X0.here hx rfl (hb hby d2_20) rfl ?_
      show Steps p.tables e below (s₁.setTop (mkF m 21 #[.val (.int p1)] [(.int p1)])) _
      exact retN X0 hx (t := .char) Bd.returns (by simp) (hb hby d2_21) hr
    · show Q2 Z p1 h0 n0 _ s₁.heap _
      rw [e0]
      exact ⟨by simp only [own_low, if_pos hc3], N0, rfl⟩
  · have pre2 : ∀ t, Steps p.tables e below (s₁.setTop (mkF m 9 #[.val (.int p1)] [(.int (90 : Int32)), (.int p1)])) t → Steps p.tables e below _ t := fun t kt => pre1 t (by
      show Steps p.tables e below (s₁.setTop (mkF m 3 #[.val (.int p1)] [(.int (65 : Int32)), (.int p1)])) _
      refine XS.icmpNo X0.here hx rfl (hb hby d2_3) rfl (flt hc3).1 ?_
      show Steps p.tables e below (s₁.setTop (mkF m 6 #[.val (.int p1)] [])) _
      refine XS.iloadN X0.here hx rfl (hb hby d2_6) rfl ?_
      show Steps p.tables e below (s₁.setTop (mkF m 7 #[.val (.int p1)] [(.int p1)])) _
      refine XS.bipush X0.here hx rfl (hb hby d2_7) ?_
      exact kt)
    by_cases hc9 : (90 : Int32) < p1
    · obtain ⟨fs, hr, hrun, hended, hW, hsame⟩ := X0.leave (v := some (.int (nar .char p1))) (fun h => by rw [Bd.returns] at h; cases h)
      refine ⟨_, _, pre2 _ ?_, hrun, hended, _, _, rfl, ?_, ⟨_, rfl⟩, hW, hsame.mono (by decide) (by decide)⟩
      · show Steps p.tables e below (s₁.setTop (mkF m 9 #[.val (.int p1)] [(.int (90 : Int32)), (.int p1)])) _
        refine XS.icmpYes X0.here hx rfl (pc0 := 9) (pc' := 20) rfl (hb hby d2_9) rfl (tlt hc9).2.2.1 (by decide) (by decide) ?_
        show Steps p.tables e below (s₁.setTop (mkF m 20 #[.val (.int p1)] [])) _
        refine XS.iloadN X0.here hx rfl (hb hby d2_20) rfl ?_
        show Steps p.tables e below (s₁.setTop (mkF m 21 #[.val (.int p1)] [(.int p1)])) _
        exact retN X0 hx (t := .char) Bd.returns (by simp) (hb hby d2_21) hr
      · show Q2 Z p1 h0 n0 _ s₁.heap _
        rw [e0]
        exact ⟨by simp only [own_low, if_neg hc3, if_pos hc9], N0, rfl⟩
    · obtain ⟨fs, hr, hrun, hended, hW, hsame⟩ := X0.leave (v := some (.int (nar .char ((p1 + (32 : Int32)).toUInt32.toUInt16.toUInt32.toInt32)))) (fun h => by rw [Bd.returns] at h; cases h)
      refine ⟨_, _, pre2 _ ?_, hrun, hended, _, _, rfl, ?_, ⟨_, rfl⟩, hW, hsame.mono (by decide) (by decide)⟩
      · show Steps p.tables e below (s₁.setTop (mkF m 9 #[.val (.int p1)] [(.int (90 : Int32)), (.int p1)])) _
        refine XS.icmpNo X0.here hx rfl (hb hby d2_9) rfl (flt hc9).2.2.1 ?_
        show Steps p.tables e below (s₁.setTop (mkF m 12 #[.val (.int p1)] [])) _
        refine XS.iloadN X0.here hx rfl (hb hby d2_12) rfl ?_
        show Steps p.tables e below (s₁.setTop (mkF m 13 #[.val (.int p1)] [(.int p1)])) _
        refine XS.bipush X0.here hx rfl (hb hby d2_13) ?_
        show Steps p.tables e below (s₁.setTop (mkF m 15 #[.val (.int p1)] [(.int (32 : Int32)), (.int p1)])) _
        refine XS.iadd X0.here hx rfl (hb hby d2_15) rfl ?_
        show Steps p.tables e below (s₁.setTop (mkF m 16 #[.val (.int p1)] [(.int (p1 + (32 : Int32)))])) _
        refine XS.i2c X0.here hx rfl (hb hby d2_16) rfl ?_
        show Steps p.tables e below (s₁.setTop (mkF m 17 #[.val (.int p1)] [(.int ((p1 + (32 : Int32)).toUInt32.toUInt16.toUInt32.toInt32))])) _
        refine XS.goto X0.here hx rfl (pc0 := 17) (pc' := 21) rfl (hb hby d2_17) (by decide) (by decide) ?_
        show Steps p.tables e below (s₁.setTop (mkF m 21 #[.val (.int p1)] [(.int ((p1 + (32 : Int32)).toUInt32.toUInt16.toUInt32.toInt32))])) _
        exact retN X0 hx (t := .char) Bd.returns (by simp) (hb hby d2_21) hr
      · show Q2 Z p1 h0 n0 _ s₁.heap _
        rw [e0]
        exact ⟨by simp only [own_low, if_neg hc3, if_neg hc9], N0, rfl⟩
theorem pn_7 : plainName "jdk/internal/util/Preconditions" = true := by first | (simp [plainName, overriddenIn]; done) | decide +kernel
theorem ef_7 (m : MethodId) (x0 : Int32) (x1 : Int32) (x2 : Value) (r2 : x2.isRef = true) : entryFrame m #[(.int x0), (.int x1), x2] 3 = mkF m 0 #[.val (.int x0), .val (.int x1), .val x2] [] := by
  rcases ref_cases r2 with rfl | ⟨z2, rfl⟩ <;> rfl
theorem d7_0 : decode jdk_41_method_11_code 0 = .ok (.iload_n 0, 1) := by decide +kernel
theorem d7_1 : decode jdk_41_method_11_code 1 = .ok (.ifCond .lt 8, 3) := by decide +kernel
theorem d7_4 : decode jdk_41_method_11_code 4 = .ok (.iload_n 0, 1) := by decide +kernel
theorem d7_5 : decode jdk_41_method_11_code 5 = .ok (.iload_n 1, 1) := by decide +kernel
theorem d7_6 : decode jdk_41_method_11_code 6 = .ok (.if_icmp .lt 10, 3) := by decide +kernel
theorem d7_16 : decode jdk_41_method_11_code 16 = .ok (.iload_n 0, 1) := by decide +kernel
theorem d7_17 : decode jdk_41_method_11_code 17 = .ok (.ireturn, 1) := by decide +kernel
def Q7 (Z : State) (p1 : Int32) (h0 : Heap) (n0 : Nat) (v : Option Value) (h : Heap) (L : List Loc) : Prop := v = some (.int p1) ∧ Fr n0 L ∧ h = h0
set_option maxRecDepth 65536 in
set_option maxHeartbeats 40000000 in
theorem rm7 (l : Launch) (Z : State) (a0 : Array Value) (hw : ∀ d ∈ tables_1, d.before a0 Z = true) (ws : List Jvm.Cond) (p1 : Int32) (p2 : Int32) (G3 : Value) (h0 : Heap) (n0 : Nat) (Z0 : n0 ≤ h0.size) (rG3 : G3.isRef = true) (hq1 : ¬ (p1 < (0 : Int32))) (hq6 : p1 < p2) :
    MetFree l (⟨"jdk/internal/util/Preconditions", "checkIndex", "(IILjava/util/function/BiFunction;)I"⟩ : MethodName) (head1 (Jvm.Cond.code (⟨"jdk/internal/util/Preconditions", "checkIndex", "(IILjava/util/function/BiFunction;)I"⟩ : MethodName) jdk_41_method_11_code 3 (some .int) :: ws) ({ frames := 0, cells := 0, slots := 0, locals := 0 } : Room)) (fun aa_ U => aa_ = #[(.int p1), (.int p2), G3] ∧ Z.Warmed39 U.vm ∧ U.heap = h0) (fun _ _ _ _ _ => True) (fun _ U o U' => ∃ v_ L_, o = .returned v_ ∧ Q7 Z p1 h0 n0 v_ U'.heap L_ ∧ FrameEnd U o U' L_ ({ frames := 0, cells := 0, slots := 0, locals := 0 } : Room).cells ({ frames := 0, cells := 0, slots := 0, locals := 0 } : Room).slots) := by
  refine MetFree.of_bodySF (plainFor_of_name pn_7) hisR ?_
  intro p e s m args below meth c s₁ Bd hml0 hP hK
  obtain ⟨rfl, hZ, hh⟩ := hP
  have hx := Bd.exec
  have hby := Bd.bytes
  have hml : c.maxLocals = 3 := hml0
  have hown : s.vm.findClass "jdk/internal/util/Preconditions" = some m.cls := findClass_of_methodNamed Bd.named
  have hnm := (name_of_methodNamed Bd.named Bd.method).1
  have X0 : Stand p l e ({ frames := 0, cells := 0, slots := 0, locals := 0 } : Room) s m #[(.int p1), (.int p2), G3] below meth c s₁ [] 0 0 := Stand.of_body Bd
  have e0 : s₁.heap = h0 := by rw [← hh, Bd.state]; rfl
  have N0 := Fr.nil n0
  have pre0 : ∀ t, Steps p.tables e below (s₁.setTop (mkF m 0 #[.val (.int p1), .val (.int p2), .val G3] [])) t → Steps p.tables e below (s₁.setTop (entryFrame m #[(.int p1), (.int p2), G3] 3)) t := fun t k_ => castTop (ef_7 m p1 p2 G3 rG3) k_
  obtain ⟨fs, hr, hrun, hended, hW, hsame⟩ := X0.leave (v := some (.int p1)) (fun h => by rw [Bd.returns] at h; cases h)
  refine ⟨_, _, pre0 _ ?_, hrun, hended, _, _, rfl, ?_, ⟨_, rfl⟩, hW, hsame.mono (by decide) (by decide)⟩
  · show Steps p.tables e below (s₁.setTop (mkF m 0 #[.val (.int p1), .val (.int p2), .val G3] [])) _
    refine XS.iloadN X0.here hx rfl (hb hby d7_0) rfl ?_
    have hc1 : ¬ (p1 < (0 : Int32)) := hq1
    show Steps p.tables e below (s₁.setTop (mkF m 1 #[.val (.int p1), .val (.int p2), .val G3] [(.int p1)])) _
    refine XS.ifNo X0.here hx rfl (hb hby d7_1) rfl ((if0 _ _).trans (flt hc1).1) ?_
    show Steps p.tables e below (s₁.setTop (mkF m 4 #[.val (.int p1), .val (.int p2), .val G3] [])) _
    refine XS.iloadN X0.here hx rfl (hb hby d7_4) rfl ?_
    show Steps p.tables e below (s₁.setTop (mkF m 5 #[.val (.int p1), .val (.int p2), .val G3] [(.int p1)])) _
    refine XS.iloadN X0.here hx rfl (hb hby d7_5) rfl ?_
    have hc6 : p1 < p2 := hq6
    show Steps p.tables e below (s₁.setTop (mkF m 6 #[.val (.int p1), .val (.int p2), .val G3] [(.int p2), (.int p1)])) _
    refine XS.icmpYes X0.here hx rfl (pc0 := 6) (pc' := 16) rfl (hb hby d7_6) rfl (tlt hc6).1 (by decide) (by decide) ?_
    show Steps p.tables e below (s₁.setTop (mkF m 16 #[.val (.int p1), .val (.int p2), .val G3] [])) _
    refine XS.iloadN X0.here hx rfl (hb hby d7_16) rfl ?_
    show Steps p.tables e below (s₁.setTop (mkF m 17 #[.val (.int p1), .val (.int p2), .val G3] [(.int p1)])) _
    exact retI X0 hx Bd.returns (hb hby d7_17) hr
  · show Q7 Z p1 h0 n0 _ s₁.heap _
    rw [e0]
    exact ⟨rfl, N0, rfl⟩
theorem pn_6 : plainName "java/lang/String" = true := by first | (simp [plainName, overriddenIn]; done) | decide +kernel
theorem ef_6 (m : MethodId) (x0 : Int32) (x1 : Int32) : entryFrame m #[(.int x0), (.int x1)] 2 = mkF m 0 #[.val (.int x0), .val (.int x1)] [] := by first | (simp [entryFrame, mkF, argsToLocals, Value.category]; done) | rfl
theorem d6_0 : decode jdk_42_method_155_code 0 = .ok (.iload_n 0, 1) := by decide +kernel
theorem d6_1 : decode jdk_42_method_155_code 1 = .ok (.iload_n 1, 1) := by decide +kernel
theorem d6_2 : decode jdk_42_method_155_code 2 = .ok (.getstatic 1053, 3) := by decide +kernel
theorem pd_0 : parseMethodDescriptor "(IILjava/util/function/BiFunction;)I" = some ⟨[.int, .int, (.object "java/util/function/BiFunction")], some .int⟩ := by decide +kernel
theorem d6_5 : decode jdk_42_method_155_code 5 = .ok (.invokestatic 1059, 3) := by decide +kernel
theorem d6_8 : decode jdk_42_method_155_code 8 = .ok (.pop, 1) := by decide +kernel
theorem d6_9 : decode jdk_42_method_155_code 9 = .ok (.return_, 1) := by decide +kernel
def Q6 (Z : State)  (h0 : Heap) (n0 : Nat) (v : Option Value) (h : Heap) (L : List Loc) : Prop := v = none ∧ Fr n0 L ∧ h = h0
set_option maxRecDepth 65536 in
set_option maxHeartbeats 40000000 in
theorem rm6 (l : Launch) (Z : State) (a0 : Array Value) (hw : ∀ d ∈ tables_1, d.before a0 Z = true) (ws : List Jvm.Cond) (p1 : Int32) (p2 : Int32) (G3 : Value) (h0 : Heap) (n0 : Nat) (Z0 : n0 ≤ h0.size) (rG3 : G3.isRef = true) (O4 : Sta Z h0 "jdk/internal/util/Preconditions" "SIOOBE_FORMATTER" "Ljava/util/function/BiFunction;" G3) (hq1 : ¬ (p1 < (0 : Int32))) (hq6 : p1 < p2) :
    MetFree l (⟨"java/lang/String", "checkIndex", "(II)V"⟩ : MethodName) (head1 (Jvm.Cond.code (⟨"java/lang/String", "checkIndex", "(II)V"⟩ : MethodName) jdk_42_method_155_code 2 none :: ws) ({ frames := 1, cells := 0, slots := 0, locals := 14 } : Room)) (fun aa_ U => aa_ = #[(.int p1), (.int p2)] ∧ Z.Warmed39 U.vm ∧ U.heap = h0) (fun _ _ _ _ _ => True) (fun _ U o U' => ∃ v_ L_, o = .returned v_ ∧ Q6 Z  h0 n0 v_ U'.heap L_ ∧ FrameEnd U o U' L_ ({ frames := 1, cells := 0, slots := 0, locals := 14 } : Room).cells ({ frames := 1, cells := 0, slots := 0, locals := 14 } : Room).slots) := by
  refine MetFree.of_bodySF (plainFor_of_name pn_6) hisR ?_
  intro p e s m args below meth c s₁ Bd hml0 hP hK
  obtain ⟨rfl, hZ, hh⟩ := hP
  have hx := Bd.exec
  have hby := Bd.bytes
  have hml : c.maxLocals = 2 := hml0
  have hown : s.vm.findClass "java/lang/String" = some m.cls := findClass_of_methodNamed Bd.named
  have hnm := (name_of_methodNamed Bd.named Bd.method).1
  have X0 : Stand p l e ({ frames := 1, cells := 0, slots := 0, locals := 14 } : Room) s m #[(.int p1), (.int p2)] below meth c s₁ [] 0 0 := Stand.of_body Bd
  have e0 : s₁.heap = h0 := by rw [← hh, Bd.state]; rfl
  have N0 := Fr.nil n0
  have pre0 : ∀ t, Steps p.tables e below (s₁.setTop (mkF m 0 #[.val (.int p1), .val (.int p2)] [])) t → Steps p.tables e below (s₁.setTop (entryFrame m #[(.int p1), (.int p2)] 2)) t := fun t k_ => castTop (ef_6 m p1 p2) k_
  have pre1 : ∀ t, Steps p.tables e below (s₁.setTop (mkF m 2 #[.val (.int p1), .val (.int p2)] [(.int p2), (.int p1)])) t → Steps p.tables e below _ t := fun t kt => pre0 t (by
    show Steps p.tables e below (s₁.setTop (mkF m 0 #[.val (.int p1), .val (.int p2)] [])) _
    refine XS.iloadN X0.here hx rfl (hb hby d6_0) rfl ?_
    show Steps p.tables e below (s₁.setTop (mkF m 1 #[.val (.int p1), .val (.int p2)] [(.int p1)])) _
    refine XS.iloadN X0.here hx rfl (hb hby d6_1) rfl ?_
    exact kt)
  obtain ⟨T2, X2, e2, st2⟩ := getS X0 hx hZ hown (hw _ (List.mem_of_getElem? (i := 36) rfl)) Via.refl e0 O4 (g := (mkF m 2 #[.val (.int p1), .val (.int p2)] [(.int p2), (.int p1)])) rfl (hb hby d6_2) (host := "")
  have pre3 : ∀ t, Steps p.tables e below (T2.setTop (mkF m 5 #[.val (.int p1), .val (.int p2)] [G3, (.int p2), (.int p1)])) t → Steps p.tables e below _ t := fun t kt => pre1 t (by
    show Steps p.tables e below (s₁.setTop (mkF m 2 #[.val (.int p1), .val (.int p2)] [(.int p2), (.int p1)])) _
    refine st2 _ ?_
    exact kt)
  obtain ⟨_, _, ⟨T4, L4, k4, n4⟩, -, X4, ⟨Lc4, hQ4, l4, y4, z4⟩, st4⟩ := Jvm.LawKit.callS X2 hx (y := (⟨"jdk/internal/util/Preconditions", "checkIndex", "(IILjava/util/function/BiFunction;)I"⟩ : MethodName)) hown (mvT hZ (hw _ (List.mem_of_getElem? (i := 38) rfl))) (mvT hZ (hw _ (List.mem_of_getElem? (i := 39) rfl))) (mvT hZ (hw _ (List.mem_of_getElem? (i := 37) rfl))) (mvT hZ (hw _ (List.mem_of_getElem? (i := 40) rfl))) (by decide) (backOf (W := 0) (rm7 l Z a0 hw [] p1 p2 G3 h0 n0 Z0 rG3 hq1 hq6) hZ (hw _ (List.mem_of_getElem? (i := 40) rfl)) (hw _ (List.mem_of_getElem? (i := 37) rfl)) (by decide) (by decide)) (g := (mkF m 5 #[.val (.int p1), .val (.int p2)] [G3, (.int p2), (.int p1)])) rfl (by rw [hml]; rfl) (argsL := [(.int p1), (.int p2), G3]) (rest := []) (lenOf pd_0 rfl) rfl (by show 2 * 0 + _ ≤ _; exact Nat.le_of_eq rfl) (hb hby d6_5) (fun _ _ => ⟨rfl, e2, (by decide : 0 + 0 ≤ _), (by decide : 0 + 0 ≤ _)⟩)
  dsimp only [Pt.U, Pt.locs, Pt.cells, Pt.slots] at X4 l4 y4 z4 st4 hQ4
  subst l4 y4 z4
  obtain ⟨rfl, N4q, e4⟩ := hQ4
  have N4 := Fr.app N0 N4q
  obtain ⟨fs, hr, hrun, hended, hW, hsame⟩ := X4.leave (v := none) (fun _ => rfl)
  refine ⟨_, _, pre3 _ ?_, hrun, hended, _, _, rfl, ?_, ⟨_, rfl⟩, hW, hsame.mono (by decide) (by decide)⟩
  · show Steps p.tables e below (T2.setTop (mkF m 5 #[.val (.int p1), .val (.int p2)] [G3, (.int p2), (.int p1)])) _
    refine st4 _ ?_
    show Steps p.tables e below (T4.setTop (mkF m 8 #[.val (.int p1), .val (.int p2)] [(.int p1)])) _
    refine XS.pop X4.here hx rfl (hb hby d6_8) rfl rfl ?_
    show Steps p.tables e below (T4.setTop (mkF m 9 #[.val (.int p1), .val (.int p2)] [])) _
    exact X4.returnOut hx Bd.returns (hb hby d6_9) hr
  · show Q6 Z  h0 n0 _ T4.heap _
    rw [e4]
    exact ⟨rfl, N4, rfl⟩
def own_ch5 (x : Int32) : Int32 := nar .char (((x &&& (255 : Int32)).toUInt32.toUInt16.toUInt32.toInt32))
def own_ch3 (x : Int32) : Int32 := nar .char (own_ch5 x)
theorem pn_5 : plainName "java/lang/StringLatin1" = true := by first | (simp [plainName, overriddenIn]; done) | decide +kernel
theorem ef_5 (m : MethodId) (x0 : Addr) (x1 : Int32) : entryFrame m #[(.ref x0), (.int x1)] 2 = mkF m 0 #[.val (.ref x0), .val (.int x1)] [] := by first | (simp [entryFrame, mkF, argsToLocals, Value.category]; done) | rfl
theorem d5_0 : decode jdk_43_method_2_code 0 = .ok (.iload_n 1, 1) := by decide +kernel
theorem d5_1 : decode jdk_43_method_2_code 1 = .ok (.aload_n 0, 1) := by decide +kernel
theorem d5_2 : decode jdk_43_method_2_code 2 = .ok (.arraylength, 1) := by decide +kernel
theorem pd_1 : parseMethodDescriptor "(II)V" = some ⟨[.int, .int], none⟩ := by decide +kernel
theorem d5_3 : decode jdk_43_method_2_code 3 = .ok (.invokestatic 9, 3) := by decide +kernel
theorem d5_6 : decode jdk_43_method_2_code 6 = .ok (.aload_n 0, 1) := by decide +kernel
theorem d5_7 : decode jdk_43_method_2_code 7 = .ok (.iload_n 1, 1) := by decide +kernel
theorem d5_8 : decode jdk_43_method_2_code 8 = .ok (.baload, 1) := by decide +kernel
theorem d5_9 : decode jdk_43_method_2_code 9 = .ok (.sipush 255, 3) := by decide +kernel
theorem d5_12 : decode jdk_43_method_2_code 12 = .ok (.iand, 1) := by decide +kernel
theorem d5_13 : decode jdk_43_method_2_code 13 = .ok (.i2c, 1) := by decide +kernel
theorem d5_14 : decode jdk_43_method_2_code 14 = .ok (.ireturn, 1) := by decide +kernel
def Q5 (Z : State) (k : Nat) (f : Nat → Int32) (h0 : Heap) (n0 : Nat) (v : Option Value) (h : Heap) (L : List Loc) : Prop := v = some (.int (own_ch5 (f k))) ∧ Fr n0 L ∧ h = h0
set_option maxRecDepth 65536 in
set_option maxHeartbeats 40000000 in
theorem rm5 (l : Launch) (Z : State) (a0 : Array Value) (hw : ∀ d ∈ tables_1, d.before a0 Z = true) (ws : List Jvm.Cond) (b : Addr) (k : Nat) (cl : Cell) (f : Nat → Int32) (G3 : Value) (h0 : Heap) (n0 : Nat) (Z0 : n0 ≤ h0.size) (rG3 : G3.isRef = true) (O4 : Sta Z h0 "jdk/internal/util/Preconditions" "SIOOBE_FORMATTER" "Ljava/util/function/BiFunction;" G3) (Ar : Arr Z h0 b cl .byte) (Sz : cl.slots.size = 26) (Hf : ∀ j, j < 26 → cl.slots[j]? = some (.int (f j))) (hk : k < 26) :
    MetFree l (⟨"java/lang/StringLatin1", "charAt", "([BI)C"⟩ : MethodName) (head1 (Jvm.Cond.code (⟨"java/lang/StringLatin1", "charAt", "([BI)C"⟩ : MethodName) jdk_43_method_2_code 2 (some .char) :: ws) ({ frames := 2, cells := 0, slots := 0, locals := 27 } : Room)) (fun aa_ U => aa_ = #[(.ref b), (.int (Int32.ofNat k))] ∧ Z.Warmed39 U.vm ∧ U.heap = h0) (fun _ _ _ _ _ => True) (fun _ U o U' => ∃ v_ L_, o = .returned v_ ∧ Q5 Z k f h0 n0 v_ U'.heap L_ ∧ FrameEnd U o U' L_ ({ frames := 2, cells := 0, slots := 0, locals := 27 } : Room).cells ({ frames := 2, cells := 0, slots := 0, locals := 27 } : Room).slots) := by
  refine MetFree.of_bodySF (plainFor_of_name pn_5) hisR ?_
  intro p e s m args below meth c s₁ Bd hml0 hP hK
  obtain ⟨rfl, hZ, hh⟩ := hP
  have hx := Bd.exec
  have hby := Bd.bytes
  have hml : c.maxLocals = 2 := hml0
  have hown : s.vm.findClass "java/lang/StringLatin1" = some m.cls := findClass_of_methodNamed Bd.named
  have hnm := (name_of_methodNamed Bd.named Bd.method).1
  have X0 : Stand p l e ({ frames := 2, cells := 0, slots := 0, locals := 27 } : Room) s m #[(.ref b), (.int (Int32.ofNat k))] below meth c s₁ [] 0 0 := Stand.of_body Bd
  have e0 : s₁.heap = h0 := by rw [← hh, Bd.state]; rfl
  have N0 := Fr.nil n0
  have pre0 : ∀ t, Steps p.tables e below (s₁.setTop (mkF m 0 #[.val (.ref b), .val (.int (Int32.ofNat k))] [])) t → Steps p.tables e below (s₁.setTop (entryFrame m #[(.ref b), (.int (Int32.ofNat k))] 2)) t := fun t k_ => castTop (ef_5 m b (Int32.ofNat k)) k_
  have pre1 : ∀ t, Steps p.tables e below (s₁.setTop (mkF m 3 #[.val (.ref b), .val (.int (Int32.ofNat k))] [(.int (26 : Int32)), (.int (Int32.ofNat k))])) t → Steps p.tables e below _ t := fun t kt => pre0 t (by
    show Steps p.tables e below (s₁.setTop (mkF m 0 #[.val (.ref b), .val (.int (Int32.ofNat k))] [])) _
    refine XS.iloadN X0.here hx rfl (hb hby d5_0) rfl ?_
    show Steps p.tables e below (s₁.setTop (mkF m 1 #[.val (.ref b), .val (.int (Int32.ofNat k))] [(.int (Int32.ofNat k))])) _
    refine XS.aloadN X0.here hx rfl (hb hby d5_1) rfl rfl ?_
    show Steps p.tables e below (s₁.setTop (mkF m 2 #[.val (.ref b), .val (.int (Int32.ofNat k))] [(.ref b), (.int (Int32.ofNat k))])) _
    refine X0.arraylength hx (by rw [e0]; exact Ar.1) (State.isArrayOf_alike hZ.alike Ar.2.1) (g := (mkF m 2 #[.val (.ref b), .val (.int (Int32.ofNat k))] [(.ref b), (.int (Int32.ofNat k))])) rfl rfl (hb hby d5_2) _ ?_
    rw [len_of (by rw [Sz]; rfl : cl.slots.size = (26 : Int32).toNatClampNeg) (by decide)]
    exact kt)
  obtain ⟨_, _, ⟨T2, L2, k2, n2⟩, -, X2, ⟨Lc2, hQ2, l2, y2, z2⟩, st2⟩ := Jvm.LawKit.callS X0 hx (y := (⟨"java/lang/String", "checkIndex", "(II)V"⟩ : MethodName)) hown (mvT hZ (hw _ (List.mem_of_getElem? (i := 33) rfl))) (mvT hZ (hw _ (List.mem_of_getElem? (i := 34) rfl))) (mvT hZ (hw _ (List.mem_of_getElem? (i := 9) rfl))) (mvT hZ (hw _ (List.mem_of_getElem? (i := 35) rfl))) (by decide) (backOf (W := 0) (rm6 l Z a0 hw [] (Int32.ofNat k) (26 : Int32) G3 h0 n0 Z0 rG3 O4 (own_nlt (n := 0) (Nat.zero_le k) (by omega)) (own_lt (n := 26) hk (by decide))) hZ (hw _ (List.mem_of_getElem? (i := 35) rfl)) (hw _ (List.mem_of_getElem? (i := 9) rfl)) (by decide) (by decide)) (g := (mkF m 3 #[.val (.ref b), .val (.int (Int32.ofNat k))] [(.int (26 : Int32)), (.int (Int32.ofNat k))])) rfl (by rw [hml]; rfl) (argsL := [(.int (Int32.ofNat k)), (.int (26 : Int32))]) (rest := []) (lenOf pd_1 rfl) rfl (by show 2 * 0 + _ ≤ _; exact Nat.le_of_eq rfl) (hb hby d5_3) (fun _ _ => ⟨rfl, e0, (by decide : 0 + 0 ≤ _), (by decide : 0 + 0 ≤ _)⟩)
  dsimp only [Pt.U, Pt.locs, Pt.cells, Pt.slots] at X2 l2 y2 z2 st2 hQ2
  subst l2 y2 z2
  obtain ⟨rfl, N2q, e2⟩ := hQ2
  have N2 := Fr.app N0 N2q
  obtain ⟨fs, hr, hrun, hended, hW, hsame⟩ := X2.leave (v := some (.int (nar .char (((f k) &&& (255 : Int32)).toUInt32.toUInt16.toUInt32.toInt32)))) (fun h => by rw [Bd.returns] at h; cases h)
  refine ⟨_, _, pre1 _ ?_, hrun, hended, _, _, rfl, ?_, ⟨_, rfl⟩, hW, hsame.mono (by decide) (by decide)⟩
  · show Steps p.tables e below (s₁.setTop (mkF m 3 #[.val (.ref b), .val (.int (Int32.ofNat k))] [(.int (26 : Int32)), (.int (Int32.ofNat k))])) _
    refine st2 _ ?_
    show Steps p.tables e below (T2.setTop (mkF m 6 #[.val (.ref b), .val (.int (Int32.ofNat k))] [])) _
    refine XS.aloadN X2.here hx rfl (hb hby d5_6) rfl rfl ?_
    show Steps p.tables e below (T2.setTop (mkF m 7 #[.val (.ref b), .val (.int (Int32.ofNat k))] [(.ref b)])) _
    refine XS.iloadN X2.here hx rfl (hb hby d5_7) rfl ?_
    show Steps p.tables e below (T2.setTop (mkF m 8 #[.val (.ref b), .val (.int (Int32.ofNat k))] [(.int (Int32.ofNat k)), (.ref b)])) _
    refine X2.baloadBytes hx (j := (Int32.ofNat k)) (v := (.int (f k))) (by rw [e2]; exact Ar.1) (State.isArrayOf_alike hZ.alike Ar.2.1) Ar.2.2 (within (c := k) rfl (by omega) (by omega)) (by rw [clamp_of (c := k) rfl (by omega)]; exact Hf _ hk) (g := (mkF m 8 #[.val (.ref b), .val (.int (Int32.ofNat k))] [(.int (Int32.ofNat k)), (.ref b)])) rfl rfl (hb hby d5_8) _ ?_
    show Steps p.tables e below (T2.setTop (mkF m 9 #[.val (.ref b), .val (.int (Int32.ofNat k))] [(.int (f k))])) _
    refine XS.sipush X2.here hx rfl (hb hby d5_9) ?_
    show Steps p.tables e below (T2.setTop (mkF m 12 #[.val (.ref b), .val (.int (Int32.ofNat k))] [(.int (255 : Int32)), (.int (f k))])) _
    refine XS.iand X2.here hx rfl (hb hby d5_12) rfl ?_
    show Steps p.tables e below (T2.setTop (mkF m 13 #[.val (.ref b), .val (.int (Int32.ofNat k))] [(.int ((f k) &&& (255 : Int32)))])) _
    refine XS.i2c X2.here hx rfl (hb hby d5_13) rfl ?_
    show Steps p.tables e below (T2.setTop (mkF m 14 #[.val (.ref b), .val (.int (Int32.ofNat k))] [(.int (((f k) &&& (255 : Int32)).toUInt32.toUInt16.toUInt32.toInt32))])) _
    exact retN X2 hx (t := .char) Bd.returns (by simp) (hb hby d5_14) hr
  · show Q5 Z k f h0 n0 _ T2.heap _
    rw [e2]
    exact ⟨rfl, N2, rfl⟩
theorem pn_4 : plainName "java/lang/String" = true := by first | (simp [plainName, overriddenIn]; done) | decide +kernel
theorem ef_4 (m : MethodId) (x0 : Addr) : entryFrame m #[(.ref x0)] 1 = mkF m 0 #[.val (.ref x0)] [] := by first | (simp [entryFrame, mkF, argsToLocals, Value.category]; done) | rfl
theorem d4_0 : decode jdk_42_method_154_code 0 = .ok (.getstatic 38, 3) := by decide +kernel
theorem d4_3 : decode jdk_42_method_154_code 3 = .ok (.ifCond .eq 14, 3) := by decide +kernel
theorem d4_6 : decode jdk_42_method_154_code 6 = .ok (.aload_n 0, 1) := by decide +kernel
theorem d4_7 : decode jdk_42_method_154_code 7 = .ok (.getfield 15, 3) := by decide +kernel
theorem d4_10 : decode jdk_42_method_154_code 10 = .ok (.ifCond .ne 7, 3) := by decide +kernel
theorem d4_13 : decode jdk_42_method_154_code 13 = .ok (.iconst 1, 1) := by decide +kernel
theorem d4_14 : decode jdk_42_method_154_code 14 = .ok (.goto 4, 3) := by decide +kernel
theorem d4_18 : decode jdk_42_method_154_code 18 = .ok (.ireturn, 1) := by decide +kernel
def Q4 (Z : State)  (h0 : Heap) (n0 : Nat) (v : Option Value) (h : Heap) (L : List Loc) : Prop := v = some (.int (1 : Int32)) ∧ Fr n0 L ∧ h = h0
set_option maxRecDepth 65536 in
set_option maxHeartbeats 40000000 in
theorem rm4 (l : Launch) (Z : State) (a0 : Array Value) (hw : ∀ d ∈ tables_1, d.before a0 Z = true) (ws : List Jvm.Cond) (a : Addr) (G1 : Int32) (h0 : Heap) (n0 : Nat) (Z0 : n0 ≤ h0.size) (O2 : Sta Z h0 "java/lang/String" "COMPACT_STRINGS" "Z" (.int G1)) (P5 : ¬ (G1 = (0 : Int32))) (Fc : Fld Z h0 a "java/lang/String" "coder" "B" (.int (0 : Int32))) :
    MetFree l (⟨"java/lang/String", "isLatin1", "()Z"⟩ : MethodName) (head1 (Jvm.Cond.code (⟨"java/lang/String", "isLatin1", "()Z"⟩ : MethodName) jdk_42_method_154_code 1 (some .boolean) :: ws) ({ frames := 0, cells := 0, slots := 0, locals := 0 } : Room)) (fun aa_ U => aa_ = #[(.ref a)] ∧ Z.Warmed39 U.vm ∧ U.heap = h0) (fun _ _ _ _ _ => True) (fun _ U o U' => ∃ v_ L_, o = .returned v_ ∧ Q4 Z  h0 n0 v_ U'.heap L_ ∧ FrameEnd U o U' L_ ({ frames := 0, cells := 0, slots := 0, locals := 0 } : Room).cells ({ frames := 0, cells := 0, slots := 0, locals := 0 } : Room).slots) := by
  refine MetFree.of_bodySF (plainFor_of_name pn_4) hisR ?_
  intro p e s m args below meth c s₁ Bd hml0 hP hK
  obtain ⟨rfl, hZ, hh⟩ := hP
  have hx := Bd.exec
  have hby := Bd.bytes
  have hml : c.maxLocals = 1 := hml0
  have hown : s.vm.findClass "java/lang/String" = some m.cls := findClass_of_methodNamed Bd.named
  have hnm := (name_of_methodNamed Bd.named Bd.method).1
  have X0 : Stand p l e ({ frames := 0, cells := 0, slots := 0, locals := 0 } : Room) s m #[(.ref a)] below meth c s₁ [] 0 0 := Stand.of_body Bd
  have e0 : s₁.heap = h0 := by rw [← hh, Bd.state]; rfl
  have N0 := Fr.nil n0
  have pre0 : ∀ t, Steps p.tables e below (s₁.setTop (mkF m 0 #[.val (.ref a)] [])) t → Steps p.tables e below (s₁.setTop (entryFrame m #[(.ref a)] 1)) t := fun t k_ => castTop (ef_4 m a) k_
  obtain ⟨T1, X1, e1, st1⟩ := getS X0 hx hZ hown (hw _ (List.mem_of_getElem? (i := 26) rfl)) Via.refl e0 O2 (g := (mkF m 0 #[.val (.ref a)] [])) rfl (hb hby d4_0) (host := "")
  have pre2 : ∀ t, Steps p.tables e below (T1.setTop (mkF m 7 #[.val (.ref a)] [(.ref a)])) t → Steps p.tables e below _ t := fun t kt => pre0 t (by
    show Steps p.tables e below (s₁.setTop (mkF m 0 #[.val (.ref a)] [])) _
    refine st1 _ ?_
    have hc3 : ¬ (G1 = (0 : Int32)) := P5
    show Steps p.tables e below (T1.setTop (mkF m 3 #[.val (.ref a)] [(.int G1)])) _
    refine XS.ifNo X1.here hx rfl (hb hby d4_3) rfl ((if0 _ _).trans (feq hc3).1) ?_
    show Steps p.tables e below (T1.setTop (mkF m 6 #[.val (.ref a)] [])) _
    refine XS.aloadN X1.here hx rfl (hb hby d4_6) rfl rfl ?_
    exact kt)
  obtain ⟨T3, X3, e3, st3⟩ := getF X1 hx hZ hown (host := "") (Or.inl (hw _ (List.mem_of_getElem? (i := 27) rfl))) Via.refl e1 Fc (g := (mkF m 7 #[.val (.ref a)] [(.ref a)])) rfl rfl (hb hby d4_7)
  obtain ⟨fs, hr, hrun, hended, hW, hsame⟩ := X3.leave (v := some (.int (1 : Int32))) (fun h => by rw [Bd.returns] at h; cases h)
  refine ⟨_, _, pre2 _ ?_, hrun, hended, _, _, rfl, ?_, ⟨_, rfl⟩, hW, hsame.mono (by decide) (by decide)⟩
  · show Steps p.tables e below (T1.setTop (mkF m 7 #[.val (.ref a)] [(.ref a)])) _
    refine st3 _ ?_
    have hc10 : (0 : Int32) = (0 : Int32) := rfl
    show Steps p.tables e below (T3.setTop (mkF m 10 #[.val (.ref a)] [(.int (0 : Int32))])) _
    refine XS.ifNo X3.here hx rfl (hb hby d4_10) rfl ((if0 _ _).trans (teq hc10).2) ?_
    show Steps p.tables e below (T3.setTop (mkF m 13 #[.val (.ref a)] [])) _
    refine XS.iconst X3.here hx rfl (hb hby d4_13) ?_
    show Steps p.tables e below (T3.setTop (mkF m 14 #[.val (.ref a)] [(.int (1 : Int32))])) _
    refine XS.goto X3.here hx rfl (pc0 := 14) (pc' := 18) rfl (hb hby d4_14) (by decide) (by decide) ?_
    show Steps p.tables e below (T3.setTop (mkF m 18 #[.val (.ref a)] [(.int (1 : Int32))])) _
    exact retN X3 hx (t := .boolean) Bd.returns (by simp) (hb hby d4_18) hr
  · show Q4 Z  h0 n0 _ T3.heap _
    rw [e3]
    exact ⟨rfl, N0, rfl⟩
theorem pn_3 : plainName "java/lang/String" = true := by first | (simp [plainName, overriddenIn]; done) | decide +kernel
theorem ef_3 (m : MethodId) (x0 : Addr) (x1 : Int32) : entryFrame m #[(.ref x0), (.int x1)] 2 = mkF m 0 #[.val (.ref x0), .val (.int x1)] [] := by first | (simp [entryFrame, mkF, argsToLocals, Value.category]; done) | rfl
theorem d3_0 : decode jdk_42_method_56_code 0 = .ok (.aload_n 0, 1) := by decide +kernel
theorem pd_2 : parseMethodDescriptor "()Z" = some ⟨[], some .boolean⟩ := by decide +kernel
theorem d3_1 : decode jdk_42_method_56_code 1 = .ok (.invokevirtual 492, 3) := by decide +kernel
theorem d3_4 : decode jdk_42_method_56_code 4 = .ok (.ifCond .eq 12, 3) := by decide +kernel
theorem d3_7 : decode jdk_42_method_56_code 7 = .ok (.aload_n 0, 1) := by decide +kernel
theorem d3_8 : decode jdk_42_method_56_code 8 = .ok (.getfield 9, 3) := by decide +kernel
theorem d3_11 : decode jdk_42_method_56_code 11 = .ok (.iload_n 1, 1) := by decide +kernel
theorem pd_3 : parseMethodDescriptor "([BI)C" = some ⟨[(.array .byte), .int], some .char⟩ := by decide +kernel
theorem d3_12 : decode jdk_42_method_56_code 12 = .ok (.invokestatic 495, 3) := by decide +kernel
theorem d3_15 : decode jdk_42_method_56_code 15 = .ok (.ireturn, 1) := by decide +kernel
def Q3 (Z : State) (k : Nat) (f : Nat → Int32) (h0 : Heap) (n0 : Nat) (v : Option Value) (h : Heap) (L : List Loc) : Prop := v = some (.int (own_ch3 (f k))) ∧ Fr n0 L ∧ h = h0
set_option maxRecDepth 65536 in
set_option maxHeartbeats 40000000 in
theorem rm3 (l : Launch) (Z : State) (a0 : Array Value) (hw : ∀ d ∈ tables_1, d.before a0 Z = true) (ws : List Jvm.Cond) (a : Addr) (b : Addr) (k : Nat) (cl : Cell) (f : Nat → Int32) (G1 : Int32) (G3 : Value) (h0 : Heap) (n0 : Nat) (Z0 : n0 ≤ h0.size) (rG3 : G3.isRef = true) (O4 : Sta Z h0 "jdk/internal/util/Preconditions" "SIOOBE_FORMATTER" "Ljava/util/function/BiFunction;" G3) (O2 : Sta Z h0 "java/lang/String" "COMPACT_STRINGS" "Z" (.int G1)) (P5 : ¬ (G1 = (0 : Int32))) (Ea : Exa Z h0 a "java/lang/String") (Fv : Fld Z h0 a "java/lang/String" "value" "[B" (.ref b)) (Fc : Fld Z h0 a "java/lang/String" "coder" "B" (.int (0 : Int32))) (Ar : Arr Z h0 b cl .byte) (Sz : cl.slots.size = 26) (Hf : ∀ j, j < 26 → cl.slots[j]? = some (.int (f j))) (hk : k < 26) :
    MetFree l (⟨"java/lang/String", "charAt", "(I)C"⟩ : MethodName) (head1 (Jvm.Cond.code (⟨"java/lang/String", "charAt", "(I)C"⟩ : MethodName) jdk_42_method_56_code 2 (some .char) :: ws) ({ frames := 3, cells := 0, slots := 0, locals := 40 } : Room)) (fun aa_ U => aa_ = #[(.ref a), (.int (Int32.ofNat k))] ∧ Z.Warmed39 U.vm ∧ U.heap = h0) (fun _ _ _ _ _ => True) (fun _ U o U' => ∃ v_ L_, o = .returned v_ ∧ Q3 Z k f h0 n0 v_ U'.heap L_ ∧ FrameEnd U o U' L_ ({ frames := 3, cells := 0, slots := 0, locals := 40 } : Room).cells ({ frames := 3, cells := 0, slots := 0, locals := 40 } : Room).slots) := by
  refine MetFree.of_bodySF (plainFor_of_name pn_3) hisR ?_
  intro p e s m args below meth c s₁ Bd hml0 hP hK
  obtain ⟨rfl, hZ, hh⟩ := hP
  have hx := Bd.exec
  have hby := Bd.bytes
  have hml : c.maxLocals = 2 := hml0
  have hown : s.vm.findClass "java/lang/String" = some m.cls := findClass_of_methodNamed Bd.named
  have hnm := (name_of_methodNamed Bd.named Bd.method).1
  have X0 : Stand p l e ({ frames := 3, cells := 0, slots := 0, locals := 40 } : Room) s m #[(.ref a), (.int (Int32.ofNat k))] below meth c s₁ [] 0 0 := Stand.of_body Bd
  have e0 : s₁.heap = h0 := by rw [← hh, Bd.state]; rfl
  have N0 := Fr.nil n0
  have pre0 : ∀ t, Steps p.tables e below (s₁.setTop (mkF m 0 #[.val (.ref a), .val (.int (Int32.ofNat k))] [])) t → Steps p.tables e below (s₁.setTop (entryFrame m #[(.ref a), (.int (Int32.ofNat k))] 2)) t := fun t k_ => castTop (ef_3 m a (Int32.ofNat k)) k_
  have pre1 : ∀ t, Steps p.tables e below (s₁.setTop (mkF m 1 #[.val (.ref a), .val (.int (Int32.ofNat k))] [(.ref a)])) t → Steps p.tables e below _ t := fun t kt => pre0 t (by
    show Steps p.tables e below (s₁.setTop (mkF m 0 #[.val (.ref a), .val (.int (Int32.ofNat k))] [])) _
    refine XS.aloadN X0.here hx rfl (hb hby d3_0) rfl rfl ?_
    exact kt)
  obtain ⟨cq2, kq2, q2a, q2b, q2c⟩ := isOf hZ e0 Ea
  obtain ⟨_, _, ⟨T2, L2, k2, n2⟩, -, X2, ⟨Lc2, hQ2, l2, y2, z2⟩, st2⟩ := X0.virtualBack hx (y := (⟨"java/lang/String", "isLatin1", "()Z"⟩ : MethodName)) (z := (⟨"java/lang/String", "isLatin1", "()Z"⟩ : MethodName)) hown (mvT hZ (hw _ (List.mem_of_getElem? (i := 21) rfl))) (mvT hZ (hw _ (List.mem_of_getElem? (i := 22) rfl))) (notFace_of_selects (args := #[]) (mvT hZ (hw _ (List.mem_of_getElem? (i := 24) rfl)))) (mvT hZ (hw _ (List.mem_of_getElem? (i := 24) rfl))) (mvT hZ (hw _ (List.mem_of_getElem? (i := 23) rfl))) (by decide) (backOf (W := 0) (rm4 l Z a0 hw [] a G1 h0 n0 Z0 O2 P5 Fc) hZ (hw _ (List.mem_of_getElem? (i := 25) rfl)) (hw _ (List.mem_of_getElem? (i := 9) rfl)) (by decide) (by decide)) q2a q2c (g := (mkF m 1 #[.val (.ref a), .val (.int (Int32.ofNat k))] [(.ref a)])) rfl (by rw [hml]; rfl) (Steps.refl _) (argsL := []) (rest := []) (lenOf pd_2 rfl) rfl (by show 2 * 0 + _ ≤ _; exact Nat.le_of_eq rfl) (hb hby d3_1) (fun _ _ => ⟨rfl, e0, (by decide : 0 + 0 ≤ _), (by decide : 0 + 0 ≤ _)⟩)
  dsimp only [Pt.U, Pt.locs, Pt.cells, Pt.slots] at X2 l2 y2 z2 st2 hQ2
  subst l2 y2 z2
  obtain ⟨rfl, N2q, e2⟩ := hQ2
  have N2 := Fr.app N0 N2q
  have pre3 : ∀ t, Steps p.tables e below (T2.setTop (mkF m 8 #[.val (.ref a), .val (.int (Int32.ofNat k))] [(.ref a)])) t → Steps p.tables e below _ t := fun t kt => pre1 t (by
    show Steps p.tables e below (s₁.setTop (mkF m 1 #[.val (.ref a), .val (.int (Int32.ofNat k))] [(.ref a)])) _
    refine st2.trans ?_
    have hc4 : ¬ ((1 : Int32) = (0 : Int32)) := by decide
    show Steps p.tables e below (T2.setTop (mkF m 4 #[.val (.ref a), .val (.int (Int32.ofNat k))] [(.int (1 : Int32))])) _
    refine XS.ifNo X2.here hx rfl (hb hby d3_4) rfl ((if0 _ _).trans (feq hc4).1) ?_
    show Steps p.tables e below (T2.setTop (mkF m 7 #[.val (.ref a), .val (.int (Int32.ofNat k))] [])) _
    refine XS.aloadN X2.here hx rfl (hb hby d3_7) rfl rfl ?_
    exact kt)
  obtain ⟨T4, X4, e4, st4⟩ := getF X2 hx hZ hown (host := "") (Or.inl (hw _ (List.mem_of_getElem? (i := 28) rfl))) Via.refl e2 Fv (g := (mkF m 8 #[.val (.ref a), .val (.int (Int32.ofNat k))] [(.ref a)])) rfl rfl (hb hby d3_8)
  have pre5 : ∀ t, Steps p.tables e below (T4.setTop (mkF m 12 #[.val (.ref a), .val (.int (Int32.ofNat k))] [(.int (Int32.ofNat k)), (.ref b)])) t → Steps p.tables e below _ t := fun t kt => pre3 t (by
    show Steps p.tables e below (T2.setTop (mkF m 8 #[.val (.ref a), .val (.int (Int32.ofNat k))] [(.ref a)])) _
    refine st4 _ ?_
    show Steps p.tables e below (T4.setTop (mkF m 11 #[.val (.ref a), .val (.int (Int32.ofNat k))] [(.ref b)])) _
    refine XS.iloadN X4.here hx rfl (hb hby d3_11) rfl ?_
    exact kt)
  obtain ⟨_, _, ⟨T6, L6, k6, n6⟩, -, X6, ⟨Lc6, hQ6, l6, y6, z6⟩, st6⟩ := Jvm.LawKit.callS X4 hx (y := (⟨"java/lang/StringLatin1", "charAt", "([BI)C"⟩ : MethodName)) hown (mvT hZ (hw _ (List.mem_of_getElem? (i := 29) rfl))) (mvT hZ (hw _ (List.mem_of_getElem? (i := 30) rfl))) (mvT hZ (hw _ (List.mem_of_getElem? (i := 31) rfl))) (mvT hZ (hw _ (List.mem_of_getElem? (i := 32) rfl))) (by decide) (backOf (W := 0) (rm5 l Z a0 hw [] b k cl f G3 h0 n0 Z0 rG3 O4 Ar Sz Hf hk) hZ (hw _ (List.mem_of_getElem? (i := 32) rfl)) (hw _ (List.mem_of_getElem? (i := 31) rfl)) (by decide) (by decide)) (g := (mkF m 12 #[.val (.ref a), .val (.int (Int32.ofNat k))] [(.int (Int32.ofNat k)), (.ref b)])) rfl (by rw [hml]; rfl) (argsL := [(.ref b), (.int (Int32.ofNat k))]) (rest := []) (lenOf pd_3 rfl) rfl (by show 2 * 0 + _ ≤ _; exact Nat.le_of_eq rfl) (hb hby d3_12) (fun _ _ => ⟨rfl, e4, (by decide : 0 + 0 ≤ _), (by decide : 0 + 0 ≤ _)⟩)
  dsimp only [Pt.U, Pt.locs, Pt.cells, Pt.slots] at X6 l6 y6 z6 st6 hQ6
  subst l6 y6 z6
  obtain ⟨rfl, N6q, e6⟩ := hQ6
  have N6 := Fr.app N2 N6q
  obtain ⟨fs, hr, hrun, hended, hW, hsame⟩ := X6.leave (v := some (.int (nar .char (own_ch5 (f k))))) (fun h => by rw [Bd.returns] at h; cases h)
  refine ⟨_, _, pre5 _ ?_, hrun, hended, _, _, rfl, ?_, ⟨_, rfl⟩, hW, hsame.mono (by decide) (by decide)⟩
  · show Steps p.tables e below (T4.setTop (mkF m 12 #[.val (.ref a), .val (.int (Int32.ofNat k))] [(.int (Int32.ofNat k)), (.ref b)])) _
    refine st6 _ ?_
    show Steps p.tables e below (T6.setTop (mkF m 15 #[.val (.ref a), .val (.int (Int32.ofNat k))] [(.int (own_ch5 (f k)))])) _
    exact retN X6 hx (t := .char) Bd.returns (by simp) (hb hby d3_15) hr
  · show Q3 Z k f h0 n0 _ T6.heap _
    rw [e6]
    exact ⟨rfl, N6, rfl⟩

def own_lowb (k : Nat) : Int32 := Int32.ofNat (97 + k)
def own_uppb (k : Nat) : Int32 := Int32.ofNat (65 + k)
def own_S (Z : State) (h : Heap) (a : Addr) (f : Nat → Int32) : Prop := ∃ b, Exa Z h a "java/lang/String" ∧ Fld Z h a "java/lang/String" "coder" "B" (.int (0 : Int32)) ∧ Fld Z h a "java/lang/String" "value" "[B" (.ref b) ∧ own_A Z h b .byte 26 f
theorem own_S_ext {Z : State} {h h' : Heap} {a : Addr} {f : Nat → Int32} (F : own_S Z h a f) (E : Ext h h') : own_S Z h' a f := by
  obtain ⟨b, h1, h2, h3, h4⟩ := F; exact ⟨b, h1.ext E, h2.ext E, h3.ext E, own_A_ext h4 E⟩
theorem own_S_of {Z : State} {h : Heap} {a b : Addr} {k : ClassId} {vs : List Value} {f : Nat → Int32} (E : Exa Z h a "java/lang/String") (C : Fld Z h a "java/lang/String" "coder" "B" (.int 0)) (V : Fld Z h a "java/lang/String" "value" "[B" (.ref b)) (A : Arv Z h b k .byte (26 : Int32) vs (.int 0)) (hf : ∀ j, j < 26 → vs.getD j (.int 0) = .int (f j)) : own_S Z h a f := by
  obtain ⟨c, Ar, -, S, -, H, -⟩ := A
  have S' : c.slots.size = 26 := by rw [S]; rfl
  exact ⟨b, E, C, V, c, Ar, S', fun j hj => by rw [H j (by omega), hf j hj]⟩
def own_K (Z : State) (vm : Vm) (h : Heap) : Prop := IB Z vm [] ∨ (IB Z vm ["abcdefghijklmnopqrstuvwxyz"] ∧ ∃ a, Lit (Z.setVm vm) "canonsign/SignedHeadersLowerCasePinLaw" 22 a ∧ own_S Z h a own_lowb)
theorem own_IB_warm {Z s : State} {vm : Vm} {Ts : List String} (I : IB Z s.vm Ts) (h : s.WarmedH vm) : IB Z vm Ts := by
  obtain ⟨more, e, hm⟩ := I; exact ⟨more, h.interned_eq.trans e, hm⟩
theorem own_K_warm {Z s : State} {vm : Vm} {h h' : Heap} (I : own_K Z s.vm h) (hw : s.WarmedH vm) (E : Ext h h') : own_K Z vm h' := by
  rcases I with I | ⟨I, a, L, S⟩
  · exact Or.inl (own_IB_warm I hw)
  · exact Or.inr ⟨own_IB_warm I hw, a, Lit.stays (s := s) (vm0 := s.vm) L hw.wide, own_S_ext S E⟩
theorem own_lowvs : ∀ j, j < 26 → (("abcdefghijklmnopqrstuvwxyz".toList.map (fun c => Value.int (Jvm.Lit.byteI c.toNat.toUInt16))).getD j (.int 0)) = .int (own_lowb j) := by decide +kernel
theorem own_uppvs : ∀ j, j < 26 → (("ABCDEFGHIJKLMNOPQRSTUVWXYZ".toList.map (fun c => Value.int (Jvm.Lit.byteI c.toNat.toUInt16))).getD j (.int 0)) = .int (own_uppb j) := by decide +kernel
theorem own_backS {p : Program} {l : Launch} {e : Env} {R : Room} {s : State} {args : Array Value} {below : List Frame} {Z : State} {a0 : Array Value} {h : Heap} {y : MethodName} {bytes : ByteArray} {maxL : Nat} {ret : Option FieldType} {rm : Room} {len W : Nat} {as' : Array Value} {I : Vm → Prop} {Q : Option Value → Heap → Vm → List Loc → Prop}
    (hM : MetFree l y (head1 [Cond.code y bytes maxL ret] rm) (fun a U => a = as' ∧ Z.Warmed39 U.vm ∧ U.heap = h ∧ I U.vm) (fun _ _ _ _ _ => True) (fun _ U o U' => ∃ v L, o = .returned v ∧ Q v U'.heap U'.vm L ∧ ReturnedEndW U o U' L rm.cells rm.slots))
    (hZ : Z.Warmed39 s.vm) (wc : (Cond.code y bytes maxL ret).before a0 Z = true) (wz : (Cond.initialized y.cls).before a0 Z = true) (hf : rm.frames + 1 ≤ R.frames) (hl : W + (maxL + 11) + rm.locals ≤ R.locals) :
    BackS l R p e below s args y len W (fun A a => (a = as' ∧ A.U.heap = h ∧ I A.U.vm) ∧ A.cells + rm.cells ≤ R.cells ∧ A.slots + rm.slots ≤ R.slots)
      (fun A _ v B => ∃ L, Q v B.U.heap B.U.vm L ∧ B.locs = A.locs ++ L ∧ B.cells = A.cells + rm.cells ∧ B.slots = A.slots + rm.slots) := by
  refine BackS.of_freeW (bytes := bytes) (maxL := maxL) (ret := ret) (E := fun _ _ o t L k n => k = rm.cells ∧ n = rm.slots ∧ ∃ v, o = .returned v ∧ Q v t.heap t.vm L) hM hf hl ?_ ?_ ?_ ?_ ?_
  · intro m meth c A a Y hp
    have hU : Z.Warmed39 A.U.vm := wtrans hZ Y.warmed
    refine ⟨?_, mv hU wc, mv hU wz, hp.2.1, hp.2.2⟩
    show (Cond.and _ .tt).before a A.U = true
    rw [Cond.before_and, mv hU wc]; rfl
  · intro m meth c A a g mk Y hp
    exact ⟨hp.1.1, wtrans hZ Y.warmed, hp.1.2.1, hp.1.2.2⟩
  · intros; trivial
  · rintro _ _ _ _ ⟨v, L, h1, h2, h3⟩
    exact ⟨L, _, _, h3, rfl, rfl, v, h1, h2⟩
  · rintro m meth c A a g mk v t L k n Y hp _ _ ⟨e1, e2, v', e3, e4⟩
    cases e3; subst e1 e2; exact ⟨L, e4, rfl, rfl, rfl⟩
theorem own_char {p : Int32} (h1 : 0 ≤ p.toInt) (h2 : p.toInt < 65536) : nar .char p = p := by
  show p.toUInt32.toUInt16.toUInt32.toInt32 = p
  have hb := p.toBitVec.isLt
  have e : p.toInt = (p.toBitVec.toNat : Int) := by
    have : p.toInt = p.toBitVec.toInt := rfl
    rw [this, BitVec.toInt_eq_toNat_cond] at h1 ⊢
    by_cases hc : 2 * p.toBitVec.toNat < 2 ^ 32
    · rw [if_pos hc]
    · rw [if_neg hc] at h1; omega
  have h3 : p.toBitVec.toNat < 65536 := by omega
  apply Int32.toBitVec_inj.mp
  apply BitVec.eq_of_toNat_eq
  simp
  omega
theorem own_chr26 : ∀ k, k < 26 → own_low (Int32.ofNat (65 + k)) = own_ch3 (own_lowb k) ∧ own_low (own_low (Int32.ofNat (65 + k))) = own_low (Int32.ofNat (65 + k)) ∧ own_low (own_ch3 (own_uppb k)) = own_ch3 (own_lowb k) ∧ own_low (own_ch3 (own_lowb k)) = own_ch3 (own_lowb k) := by decide +kernel
theorem own_low_out {p : Int32} (h1 : 0 ≤ p.toInt) (h2 : p.toInt < 65536) (h3 : p.toInt < 65 ∨ 91 ≤ p.toInt) : own_low p = p := by
  unfold own_low
  have k1 : (65 : Int32).toInt = 65 := by decide
  have k2 : (90 : Int32).toInt = 90 := by decide
  simp only [Int32.lt_iff_toInt_lt, k1, k2, own_char h1 h2]
  split
  · rfl
  · rw [if_pos (by omega)]

theorem own_letter {p : Int32} (h1 : ¬ ((p - (65 : Int32)) < (0 : Int32))) (h2 : (p - (65 : Int32)) < (26 : Int32)) (h3 : 0 ≤ p.toInt) (h4 : p.toInt < 65536) : ∃ k : Nat, k < 26 ∧ p = Int32.ofNat (65 + k) ∧ (p - (65 : Int32)) = Int32.ofNat k := by
  have k1 : (65 : Int32).toInt = 65 := by decide
  have k0 : (0 : Int32).toInt = 0 := by decide
  have k2 : (26 : Int32).toInt = 26 := by decide
  have e := Jvm.Kit.i32_sub (p := p) (q := 65) (by omega) (by omega)
  rw [Int32.lt_iff_toInt_lt] at h1 h2
  refine ⟨(p.toInt - 65).toNat, by omega, ?_, ?_⟩
  · rw [← Int32.toInt_inj, toInt_of rfl (by omega)]; omega
  · rw [← Int32.toInt_inj, toInt_of rfl (by omega)]; omega
theorem own_outside {p : Int32} (h3 : 0 ≤ p.toInt) (h4 : p.toInt < 65536) (h : (p - (65 : Int32)) < (0 : Int32) ∨ ¬ ((p - (65 : Int32)) < (26 : Int32))) : own_low p = p := by
  have k1 : (65 : Int32).toInt = 65 := by decide
  have k0 : (0 : Int32).toInt = 0 := by decide
  have k2 : (26 : Int32).toInt = 26 := by decide
  have e := Jvm.Kit.i32_sub (p := p) (q := 65) (by omega) (by omega)
  rw [Int32.lt_iff_toInt_lt, Int32.lt_iff_toInt_lt] at h
  exact own_low_out h3 h4 (by omega)
theorem own_ext_refl (h : Heap) : Ext h h := ⟨Nat.le_refl _, fun _ _ q => q⟩
theorem own_ext_trans {h h' h'' : Heap} (E : Ext h h') (F : Ext h' h'') : Ext h h'' := ⟨Nat.le_trans E.1 F.1, fun a c q => F.2 a c (E.2 a c q)⟩
theorem own_fr_mono {n n' : Nat} {L : List Loc} (h : n ≤ n') (N : Fr n' L) : Fr n L := fun y hy => Nat.le_trans h (N y hy)
theorem pn_1 : plainName "canonsign/SignedHeadersLowerCasePinLaw" = true := by first | (simp [plainName, overriddenIn]; done) | decide +kernel
theorem ef_1 (m : MethodId) (x0 : Int32) : entryFrame m #[(.int x0)] 4 = mkF m 0 #[.val (.int x0), .unset, .unset, .unset] [] := by first | (simp [entryFrame, mkF, argsToLocals, Value.category]; done) | rfl
theorem d1_0 : decode method_3_code 0 = .ok (.iload_n 0, 1) := by decide +kernel
theorem pd_4 : parseMethodDescriptor "(C)C" = some ⟨[.char], some .char⟩ := by decide +kernel
theorem d1_1 : decode method_3_code 1 = .ok (.invokestatic 24, 3) := by decide +kernel
theorem d1_4 : decode method_3_code 4 = .ok (.istore_n 1, 1) := by decide +kernel
theorem d1_5 : decode method_3_code 5 = .ok (.iload_n 0, 1) := by decide +kernel
theorem d1_6 : decode method_3_code 6 = .ok (.bipush 65, 2) := by decide +kernel
theorem d1_8 : decode method_3_code 8 = .ok (.isub, 1) := by decide +kernel
theorem d1_9 : decode method_3_code 9 = .ok (.istore_n 2, 1) := by decide +kernel
theorem d1_10 : decode method_3_code 10 = .ok (.iload_n 2, 1) := by decide +kernel
theorem d1_11 : decode method_3_code 11 = .ok (.ifCond .lt 19, 3) := by decide +kernel
theorem d1_30 : decode method_3_code 30 = .ok (.iload_n 0, 1) := by decide +kernel
theorem d1_31 : decode method_3_code 31 = .ok (.istore_n 3, 1) := by decide +kernel
theorem d1_32 : decode method_3_code 32 = .ok (.iload_n 1, 1) := by decide +kernel
theorem d1_33 : decode method_3_code 33 = .ok (.iload_n 3, 1) := by decide +kernel
theorem d1_34 : decode method_3_code 34 = .ok (.if_icmp .ne 15, 3) := by decide +kernel
theorem d1_37 : decode method_3_code 37 = .ok (.iload_n 1, 1) := by decide +kernel
theorem d1_38 : decode method_3_code 38 = .ok (.invokestatic 24, 3) := by decide +kernel
theorem d1_41 : decode method_3_code 41 = .ok (.iload_n 1, 1) := by decide +kernel
theorem d1_42 : decode method_3_code 42 = .ok (.if_icmp .ne 7, 3) := by decide +kernel
theorem d1_45 : decode method_3_code 45 = .ok (.iconst 1, 1) := by decide +kernel
theorem d1_46 : decode method_3_code 46 = .ok (.goto 4, 3) := by decide +kernel
theorem d1_50 : decode method_3_code 50 = .ok (.ireturn, 1) := by decide +kernel
theorem d1_14 : decode method_3_code 14 = .ok (.iload_n 2, 1) := by decide +kernel
theorem d1_15 : decode method_3_code 15 = .ok (.bipush 26, 2) := by decide +kernel
theorem d1_17 : decode method_3_code 17 = .ok (.if_icmp .ge 13, 3) := by decide +kernel
theorem d1_20 : decode method_3_code 20 = .ok (.ldc 22, 2) := by decide +kernel
theorem d1_22 : decode method_3_code 22 = .ok (.iload_n 2, 1) := by decide +kernel
theorem pd_5 : parseMethodDescriptor "(I)C" = some ⟨[.int], some .char⟩ := by decide +kernel
theorem d1_23 : decode method_3_code 23 = .ok (.invokevirtual 16, 3) := by decide +kernel
theorem d1_26 : decode method_3_code 26 = .ok (.istore_n 3, 1) := by decide +kernel
theorem d1_27 : decode method_3_code 27 = .ok (.goto 5, 3) := by decide +kernel
def Q1 (Z : State) (h0 : Heap) (n0 : Nat) (v : Option Value) (h : Heap) (vm : Vm) (L : List Loc) : Prop := v = some (.int (1 : Int32)) ∧ Fr n0 L ∧ Ext h0 h ∧ own_K Z vm h
set_option maxRecDepth 65536 in
set_option maxHeartbeats 40000000 in
theorem rm1 (l : Launch) (Z : State) (a0 : Array Value) (hw : ∀ d ∈ tables_1, d.before a0 Z = true) (ws : List Jvm.Cond) (p1 : Int32) (G1 : Int32) (G3 : Value) (h0 : Heap) (n0 : Nat) (Z0 : n0 ≤ h0.size) (hp1 : 0 ≤ p1.toInt) (hp2 : p1.toInt < 65536) (O4 : Sta Z h0 "jdk/internal/util/Preconditions" "SIOOBE_FORMATTER" "Ljava/util/function/BiFunction;" G3) (O2 : Sta Z h0 "java/lang/String" "COMPACT_STRINGS" "Z" (.int G1)) (P5 : ¬ (G1 = (0 : Int32))) (rG3 : G3.isRef = true) (KZ : ∀ (b : Addr) (cl : Cell), Z.heap[b]? = some cl → h0[b]? = some cl) (hh22 : Jvm.Lit.constHeld Z "canonsign/SignedHeadersLowerCasePinLaw" 22) (hcw : Jvm.Lit.compactW.before a0 Z = true) :
    MetFree l (⟨"canonsign/SignedHeadersLowerCasePinLaw", "check", "(C)Z"⟩ : MethodName) (head1 (Jvm.Cond.code (⟨"canonsign/SignedHeadersLowerCasePinLaw", "check", "(C)Z"⟩ : MethodName) method_3_code 4 (some .boolean) :: ws) ({ frames := 4, cells := 2, slots := 108, locals := 53 } : Room)) (fun aa_ U => aa_ = #[(.int p1)] ∧ Z.Warmed39 U.vm ∧ U.heap = h0 ∧ own_K Z U.vm h0) (fun _ _ _ _ _ => True) (fun _ U o U' => ∃ v_ L_, o = .returned v_ ∧ Q1 Z  h0 n0 v_ U'.heap U'.vm L_ ∧ ReturnedEndW U o U' L_ ({ frames := 4, cells := 2, slots := 108, locals := 53 } : Room).cells ({ frames := 4, cells := 2, slots := 108, locals := 53 } : Room).slots) := by
  refine MetFree.of_bodySF (plainFor_of_name pn_1) hisR ?_
  intro p e s m args below meth c s₁ Bd hml0 hP hK
  obtain ⟨rfl, hZ, hh, hKn⟩ := hP
  have hx := Bd.exec
  have hby := Bd.bytes
  have hml : c.maxLocals = 4 := hml0
  have hown : s.vm.findClass "canonsign/SignedHeadersLowerCasePinLaw" = some m.cls := findClass_of_methodNamed Bd.named
  have hnm := (name_of_methodNamed Bd.named Bd.method).1
  have X0 : Stand p l e ({ frames := 4, cells := 2, slots := 108, locals := 53 } : Room) s m #[(.int p1)] below meth c s₁ [] 0 0 := Stand.of_body Bd
  have e0 : s₁.heap = h0 := by rw [← hh, Bd.state]; rfl
  have N0 := Fr.nil n0
  have pre0 : ∀ t, Steps p.tables e below (s₁.setTop (mkF m 0 #[.val (.int p1), .unset, .unset, .unset] [])) t → Steps p.tables e below (s₁.setTop (entryFrame m #[(.int p1)] 4)) t := fun t k_ => castTop (ef_1 m p1) k_
  have N0s := Fr.nil h0.size
  have Zh : h0.size ≤ h0.size := Nat.le_refl _
  have wS : ∀ a ∈ Bundle.stringAtoms, a.before a0 Z = true := fun d hd => by
    simp only [Bundle.stringAtoms, List.mem_cons, List.not_mem_nil, or_false] at hd
    rcases hd with rfl | rfl | rfl | rfl | rfl | rfl | rfl
    · exact (hw _ (List.mem_of_getElem? (i := 9) rfl))
    · exact (hw _ (List.mem_of_getElem? (i := 10) rfl))
    · exact (hw _ (List.mem_of_getElem? (i := 11) rfl))
    · exact (hw _ (List.mem_of_getElem? (i := 12) rfl))
    · exact (hw _ (List.mem_of_getElem? (i := 13) rfl))
    · exact (hw _ (List.mem_of_getElem? (i := 14) rfl))
    · exact (hw _ (List.mem_of_getElem? (i := 15) rfl))
  have pre1 : ∀ t, Steps p.tables e below (s₁.setTop (mkF m 1 #[.val (.int p1), .unset, .unset, .unset] [(.int p1)])) t → Steps p.tables e below _ t := fun t kt => pre0 t (by
    show Steps p.tables e below (s₁.setTop (mkF m 0 #[.val (.int p1), .unset, .unset, .unset] [])) _
    refine XS.iloadN X0.here hx rfl (hb hby d1_0) rfl ?_
    exact kt)
  obtain ⟨_, _, ⟨T2, L2, k2, n2⟩, -, X2, ⟨Lc2, hQ2, l2, y2, z2⟩, st2⟩ := Jvm.LawKit.callS X0 hx (y := (⟨"canonsign/SignedHeaders", "lowerCase", "(C)C"⟩ : MethodName)) hown (mvT hZ (hw _ (List.mem_of_getElem? (i := 4) rfl))) (mvT hZ (hw _ (List.mem_of_getElem? (i := 5) rfl))) (mvT hZ (hw _ (List.mem_of_getElem? (i := 6) rfl))) (mvT hZ (hw _ (List.mem_of_getElem? (i := 7) rfl))) (by decide) (backOf (W := 0) (rm2 l Z a0 hw [] p1 h0 h0.size Zh) hZ (hw _ (List.mem_of_getElem? (i := 7) rfl)) (hw _ (List.mem_of_getElem? (i := 6) rfl)) (by decide) (by decide)) (g := (mkF m 1 #[.val (.int p1), .unset, .unset, .unset] [(.int p1)])) rfl (by rw [hml]; rfl) (argsL := [(.int p1)]) (rest := []) (lenOf pd_4 rfl) rfl (by show 2 * 0 + _ ≤ _; exact Nat.le_of_eq rfl) (hb hby d1_1) (fun _ _ => ⟨rfl, e0, (by decide : 0 + 0 ≤ _), (by decide : 0 + 0 ≤ _)⟩)
  dsimp only [Pt.U, Pt.locs, Pt.cells, Pt.slots] at X2 l2 y2 z2 st2 hQ2
  subst l2 y2 z2
  obtain ⟨rfl, N2q, e2⟩ := hQ2
  have N2 := Fr.app N0s N2q
  have pre3 : ∀ t, Steps p.tables e below (T2.setTop (mkF m 11 #[.val (.int p1), .val (.int (own_low p1)), .val (.int (p1 - (65 : Int32))), .unset] [(.int (p1 - (65 : Int32)))])) t → Steps p.tables e below _ t := fun t kt => pre1 t (by
    show Steps p.tables e below (s₁.setTop (mkF m 1 #[.val (.int p1), .unset, .unset, .unset] [(.int p1)])) _
    refine st2 _ ?_
    show Steps p.tables e below (T2.setTop (mkF m 4 #[.val (.int p1), .unset, .unset, .unset] [(.int (own_low p1))])) _
    refine XS.istoreN X2.here hx rfl (hb hby d1_4) rfl (l' := #[.val (.int p1), .val (.int (own_low p1)), .unset, .unset]) rfl ?_
    show Steps p.tables e below (T2.setTop (mkF m 5 #[.val (.int p1), .val (.int (own_low p1)), .unset, .unset] [])) _
    refine XS.iloadN X2.here hx rfl (hb hby d1_5) rfl ?_
    show Steps p.tables e below (T2.setTop (mkF m 6 #[.val (.int p1), .val (.int (own_low p1)), .unset, .unset] [(.int p1)])) _
    refine XS.bipush X2.here hx rfl (hb hby d1_6) ?_
    show Steps p.tables e below (T2.setTop (mkF m 8 #[.val (.int p1), .val (.int (own_low p1)), .unset, .unset] [(.int (65 : Int32)), (.int p1)])) _
    refine XS.isub X2.here hx rfl (hb hby d1_8) rfl ?_
    show Steps p.tables e below (T2.setTop (mkF m 9 #[.val (.int p1), .val (.int (own_low p1)), .unset, .unset] [(.int (p1 - (65 : Int32)))])) _
    refine XS.istoreN X2.here hx rfl (hb hby d1_9) rfl (l' := #[.val (.int p1), .val (.int (own_low p1)), .val (.int (p1 - (65 : Int32))), .unset]) rfl ?_
    show Steps p.tables e below (T2.setTop (mkF m 10 #[.val (.int p1), .val (.int (own_low p1)), .val (.int (p1 - (65 : Int32))), .unset] [])) _
    refine XS.iloadN X2.here hx rfl (hb hby d1_10) rfl ?_
    exact kt)
  by_cases hc11 : (p1 - (65 : Int32)) < (0 : Int32)
  · have pre4 : ∀ t, Steps p.tables e below (T2.setTop (mkF m 38 #[.val (.int p1), .val (.int (own_low p1)), .val (.int (p1 - (65 : Int32))), .val (.int p1)] [(.int (own_low p1))])) t → Steps p.tables e below _ t := fun t kt => pre3 t (by
      show Steps p.tables e below (T2.setTop (mkF m 11 #[.val (.int p1), .val (.int (own_low p1)), .val (.int (p1 - (65 : Int32))), .unset] [(.int (p1 - (65 : Int32)))])) _
      refine XS.ifYes X2.here hx rfl (pc0 := 11) (pc' := 30) rfl (hb hby d1_11) rfl ((if0 _ _).trans (tlt hc11).1) (by decide) (by decide) ?_
      show Steps p.tables e below (T2.setTop (mkF m 30 #[.val (.int p1), .val (.int (own_low p1)), .val (.int (p1 - (65 : Int32))), .unset] [])) _
      refine XS.iloadN X2.here hx rfl (hb hby d1_30) rfl ?_
      show Steps p.tables e below (T2.setTop (mkF m 31 #[.val (.int p1), .val (.int (own_low p1)), .val (.int (p1 - (65 : Int32))), .unset] [(.int p1)])) _
      refine XS.istoreN X2.here hx rfl (hb hby d1_31) rfl (l' := #[.val (.int p1), .val (.int (own_low p1)), .val (.int (p1 - (65 : Int32))), .val (.int p1)]) rfl ?_
      show Steps p.tables e below (T2.setTop (mkF m 32 #[.val (.int p1), .val (.int (own_low p1)), .val (.int (p1 - (65 : Int32))), .val (.int p1)] [])) _
      refine XS.iloadN X2.here hx rfl (hb hby d1_32) rfl ?_
      show Steps p.tables e below (T2.setTop (mkF m 33 #[.val (.int p1), .val (.int (own_low p1)), .val (.int (p1 - (65 : Int32))), .val (.int p1)] [(.int (own_low p1))])) _
      refine XS.iloadN X2.here hx rfl (hb hby d1_33) rfl ?_
      have hc34 : (own_low p1) = p1 := own_outside hp1 hp2 (Or.inl hc11)
      show Steps p.tables e below (T2.setTop (mkF m 34 #[.val (.int p1), .val (.int (own_low p1)), .val (.int (p1 - (65 : Int32))), .val (.int p1)] [(.int p1), (.int (own_low p1))])) _
      refine XS.icmpNo X2.here hx rfl (hb hby d1_34) rfl (teq hc34).2 ?_
      show Steps p.tables e below (T2.setTop (mkF m 37 #[.val (.int p1), .val (.int (own_low p1)), .val (.int (p1 - (65 : Int32))), .val (.int p1)] [])) _
      refine XS.iloadN X2.here hx rfl (hb hby d1_37) rfl ?_
      exact kt)
    obtain ⟨_, _, ⟨T5, L5, k5, n5⟩, -, X5, ⟨Lc5, hQ5, l5, y5, z5⟩, st5⟩ := Jvm.LawKit.callS X2 hx (y := (⟨"canonsign/SignedHeaders", "lowerCase", "(C)C"⟩ : MethodName)) hown (mvT hZ (hw _ (List.mem_of_getElem? (i := 4) rfl))) (mvT hZ (hw _ (List.mem_of_getElem? (i := 5) rfl))) (mvT hZ (hw _ (List.mem_of_getElem? (i := 6) rfl))) (mvT hZ (hw _ (List.mem_of_getElem? (i := 7) rfl))) (by decide) (backOf (W := 0) (rm2 l Z a0 hw [] (own_low p1) h0 h0.size Zh) hZ (hw _ (List.mem_of_getElem? (i := 7) rfl)) (hw _ (List.mem_of_getElem? (i := 6) rfl)) (by decide) (by decide)) (g := (mkF m 38 #[.val (.int p1), .val (.int (own_low p1)), .val (.int (p1 - (65 : Int32))), .val (.int p1)] [(.int (own_low p1))])) rfl (by rw [hml]; rfl) (argsL := [(.int (own_low p1))]) (rest := []) (lenOf pd_4 rfl) rfl (by show 2 * 0 + _ ≤ _; exact Nat.le_of_eq rfl) (hb hby d1_38) (fun _ _ => ⟨rfl, e2, (by decide : 0 + 0 ≤ _), (by decide : 0 + 0 ≤ _)⟩)
    dsimp only [Pt.U, Pt.locs, Pt.cells, Pt.slots] at X5 l5 y5 z5 st5 hQ5
    subst l5 y5 z5
    obtain ⟨rfl, N5q, e5⟩ := hQ5
    have N5 := Fr.app N2 N5q
    obtain ⟨fs, hr, hrun, hended, hW0, hsame⟩ := X5.leave (v := some (.int (1 : Int32))) (fun h => by rw [Bd.returns] at h; cases h)
    have hW := hW0.wide
    have hI := hW0.no_new_pair
    refine ⟨_, _, pre4 _ ?_, hrun, hended, _, _, rfl, ?_, ⟨_, rfl⟩, hW, hI _, hsame.mono (by decide) (by decide)⟩
    · show Steps p.tables e below (T2.setTop (mkF m 38 #[.val (.int p1), .val (.int (own_low p1)), .val (.int (p1 - (65 : Int32))), .val (.int p1)] [(.int (own_low p1))])) _
      refine st5 _ ?_
      show Steps p.tables e below (T5.setTop (mkF m 41 #[.val (.int p1), .val (.int (own_low p1)), .val (.int (p1 - (65 : Int32))), .val (.int p1)] [(.int (own_low (own_low p1)))])) _
      refine XS.iloadN X5.here hx rfl (hb hby d1_41) rfl ?_
      have hc42 : (own_low (own_low p1)) = (own_low p1) := congrArg own_low (own_outside hp1 hp2 (Or.inl hc11))
      show Steps p.tables e below (T5.setTop (mkF m 42 #[.val (.int p1), .val (.int (own_low p1)), .val (.int (p1 - (65 : Int32))), .val (.int p1)] [(.int (own_low p1)), (.int (own_low (own_low p1)))])) _
      refine XS.icmpNo X5.here hx rfl (hb hby d1_42) rfl (teq hc42).2 ?_
      show Steps p.tables e below (T5.setTop (mkF m 45 #[.val (.int p1), .val (.int (own_low p1)), .val (.int (p1 - (65 : Int32))), .val (.int p1)] [])) _
      refine XS.iconst X5.here hx rfl (hb hby d1_45) ?_
      show Steps p.tables e below (T5.setTop (mkF m 46 #[.val (.int p1), .val (.int (own_low p1)), .val (.int (p1 - (65 : Int32))), .val (.int p1)] [(.int (1 : Int32))])) _
      refine XS.goto X5.here hx rfl (pc0 := 46) (pc' := 50) rfl (hb hby d1_46) (by decide) (by decide) ?_
      show Steps p.tables e below (T5.setTop (mkF m 50 #[.val (.int p1), .val (.int (own_low p1)), .val (.int (p1 - (65 : Int32))), .val (.int p1)] [(.int (1 : Int32))])) _
      exact retN X5 hx (t := .boolean) Bd.returns (by simp) (hb hby d1_50) hr
    · refine ⟨rfl, own_fr_mono Z0 N5, ?_, ?_⟩
      · show Ext h0 T5.heap
        rw [e5]; exact own_ext_refl _
      · show own_K Z T5.vm T5.heap
        rw [e5]
        exact own_K_warm (s := s) hKn X5.warmed (own_ext_refl _)
  · have pre6 : ∀ t, Steps p.tables e below (T2.setTop (mkF m 17 #[.val (.int p1), .val (.int (own_low p1)), .val (.int (p1 - (65 : Int32))), .unset] [(.int (26 : Int32)), (.int (p1 - (65 : Int32)))])) t → Steps p.tables e below _ t := fun t kt => pre3 t (by
      show Steps p.tables e below (T2.setTop (mkF m 11 #[.val (.int p1), .val (.int (own_low p1)), .val (.int (p1 - (65 : Int32))), .unset] [(.int (p1 - (65 : Int32)))])) _
      refine XS.ifNo X2.here hx rfl (hb hby d1_11) rfl ((if0 _ _).trans (flt hc11).1) ?_
      show Steps p.tables e below (T2.setTop (mkF m 14 #[.val (.int p1), .val (.int (own_low p1)), .val (.int (p1 - (65 : Int32))), .unset] [])) _
      refine XS.iloadN X2.here hx rfl (hb hby d1_14) rfl ?_
      show Steps p.tables e below (T2.setTop (mkF m 15 #[.val (.int p1), .val (.int (own_low p1)), .val (.int (p1 - (65 : Int32))), .unset] [(.int (p1 - (65 : Int32)))])) _
      refine XS.bipush X2.here hx rfl (hb hby d1_15) ?_
      exact kt)
    by_cases hc17 : (p1 - (65 : Int32)) < (26 : Int32)
    · have pre7 : ∀ t, Steps p.tables e below (T2.setTop (mkF m 20 #[.val (.int p1), .val (.int (own_low p1)), .val (.int (p1 - (65 : Int32))), .unset] [])) t → Steps p.tables e below _ t := fun t kt => pre6 t (by
        show Steps p.tables e below (T2.setTop (mkF m 17 #[.val (.int p1), .val (.int (own_low p1)), .val (.int (p1 - (65 : Int32))), .unset] [(.int (26 : Int32)), (.int (p1 - (65 : Int32)))])) _
        refine XS.icmpNo X2.here hx rfl (hb hby d1_17) rfl (tlt hc17).2.1 ?_
        exact kt)
      obtain ⟨k, hk, hpk, hdk⟩ := own_letter hc11 hc17 hp1 hp2
      have hv8 : (p1 - (65 : Int32)) = (Int32.ofNat k) := hdk
      rw [hv8] at pre7
      rcases hKn with hIb | ⟨hIb, aL, hL, hSb⟩
      · obtain ⟨as9, T9, h9, ks9, bb9, kk9, X9, e9, E9, Sj9, hj9, hz9, how9, Ex9, Fc9, Fv9, Av9, -, -, I9, Li9, st9⟩ := ldcSVL (s := s.setVm s.vm) (vm0 := s.vm) (show Stand p l e ({ frames := 4, cells := 2, slots := 108, locals := 53 } : Room) ((s.setVm s.vm).setVm s.vm) m #[(.int p1)] below meth c T2 _ _ _ from X2) hx hZ hown (hw _ (List.mem_of_getElem? (i := 8) rfl)) wS e2 (State.WarmedH.since (State.WarmedH.refl (s.setVm s.vm)) 0) (Nat.zero_le _) (show Fr s.heap.size _ by rw [hh]; exact N2) (fun b_ cl_ q_ => by show s.heap[b_]? = _; rw [hh]; exact KZ b_ cl_ q_) (Ts := []) hIb (by decide) hh22 hcw (z := (26 : Int32)) ⟨by decide, rfl⟩ (by decide) (by decide) (g := (mkF m 20 #[.val (.int p1), .val (.int (own_low p1)), .val (.int (Int32.ofNat k)), .unset] [])) rfl (hb hby d1_20) (n := 104) (by decide) (by decide) (by decide) (by decide)
        have S9 : own_S Z h9 as9 own_lowb := own_S_of Ex9 Fc9 Fv9 Av9 own_lowvs
        have Zs9 : h0.size ≤ h9.size := Nat.le_trans Zh E9.1
        have Si9 : s.Since T9.vm h9.size := State.Since.trans (n₂ := h9.size) (State.WarmedH.since (State.WarmedH.refl s) 0) ⟨Sj9.1, Sj9.2.mono hj9⟩ (Nat.le_trans (Nat.zero_le _) E9.1)
        have X9 : Stand p l e ({ frames := 4, cells := 2, slots := 108, locals := 53 } : Room) (s.setVm T9.vm) m #[(.int p1)] below meth c T9 _ _ _ := X9
        obtain ⟨b_10, Ea_10, Fc_10, Fv_10, cl_10, Ar_10, Sz_10, Hf_10⟩ := id S9
        have pre11 : ∀ t, Steps p.tables e below (T9.setTop (mkF m 23 #[.val (.int p1), .val (.int (own_low p1)), .val (.int (Int32.ofNat k)), .unset] [(.int (Int32.ofNat k)), (.ref as9)])) t → Steps p.tables e below _ t := fun t kt => pre7 t (by
          show Steps p.tables e below (T2.setTop (mkF m 20 #[.val (.int p1), .val (.int (own_low p1)), .val (.int (Int32.ofNat k)), .unset] [])) _
          refine st9 _ ?_
          show Steps p.tables e below (T9.setTop (mkF m 22 #[.val (.int p1), .val (.int (own_low p1)), .val (.int (Int32.ofNat k)), .unset] [(.ref as9)])) _
          refine XS.iloadN X9.here hx rfl (hb hby d1_22) rfl ?_
          exact kt)
        obtain ⟨cq12, kq12, q12a, q12b, q12c⟩ := isOf hz9 e9 Ea_10
        obtain ⟨_, _, ⟨T12, L12, k12, n12⟩, -, X12, ⟨Lc12, hQ12, l12, y12, z12⟩, st12⟩ := X9.virtualBack hx (y := (⟨"java/lang/String", "charAt", "(I)C"⟩ : MethodName)) (z := (⟨"java/lang/String", "charAt", "(I)C"⟩ : MethodName)) how9 (mvT hz9 (hw _ (List.mem_of_getElem? (i := 16) rfl))) (mvT hz9 (hw _ (List.mem_of_getElem? (i := 17) rfl))) (notFace_of_selects (args := #[]) (mvT hz9 (hw _ (List.mem_of_getElem? (i := 19) rfl)))) (mvT hz9 (hw _ (List.mem_of_getElem? (i := 19) rfl))) (mvT hz9 (hw _ (List.mem_of_getElem? (i := 18) rfl))) (by decide) (backOf (W := 0) (rm3 l Z a0 hw [] as9 b_10 k cl_10 own_lowb G1 G3 h9 h0.size Zs9 rG3 (Sta.ext E9 O4) (Sta.ext E9 O2) P5 Ea_10 Fv_10 Fc_10 Ar_10 Sz_10 Hf_10 hk) hz9 (hw _ (List.mem_of_getElem? (i := 20) rfl)) (hw _ (List.mem_of_getElem? (i := 9) rfl)) (by decide) (by decide)) q12a q12c (g := (mkF m 23 #[.val (.int p1), .val (.int (own_low p1)), .val (.int (Int32.ofNat k)), .unset] [(.int (Int32.ofNat k)), (.ref as9)])) rfl (by rw [hml]; rfl) (Steps.refl _) (argsL := [(.int (Int32.ofNat k))]) (rest := []) (lenOf pd_5 rfl) rfl (by show 2 * 0 + _ ≤ _; exact Nat.le_of_eq rfl) (hb hby d1_23) (fun _ _ => ⟨rfl, e9, (by decide : 2 + 0 ≤ _), (by decide : 108 + 0 ≤ _)⟩)
        dsimp only [Pt.U, Pt.locs, Pt.cells, Pt.slots] at X12 l12 y12 z12 st12 hQ12
        subst l12 y12 z12
        obtain ⟨rfl, N12q, e12⟩ := hQ12
        have N12 := Fr.app N2 N12q
        have pre13 : ∀ t, Steps p.tables e below (T12.setTop (mkF m 38 #[.val (.int p1), .val (.int (own_low p1)), .val (.int (Int32.ofNat k)), .val (.int (own_ch3 (own_lowb k)))] [(.int (own_low p1))])) t → Steps p.tables e below _ t := fun t kt => pre11 t (by
          show Steps p.tables e below (T9.setTop (mkF m 23 #[.val (.int p1), .val (.int (own_low p1)), .val (.int (Int32.ofNat k)), .unset] [(.int (Int32.ofNat k)), (.ref as9)])) _
          refine st12.trans ?_
          show Steps p.tables e below (T12.setTop (mkF m 26 #[.val (.int p1), .val (.int (own_low p1)), .val (.int (Int32.ofNat k)), .unset] [(.int (own_ch3 (own_lowb k)))])) _
          refine XS.istoreN X12.here hx rfl (hb hby d1_26) rfl (l' := #[.val (.int p1), .val (.int (own_low p1)), .val (.int (Int32.ofNat k)), .val (.int (own_ch3 (own_lowb k)))]) rfl ?_
          show Steps p.tables e below (T12.setTop (mkF m 27 #[.val (.int p1), .val (.int (own_low p1)), .val (.int (Int32.ofNat k)), .val (.int (own_ch3 (own_lowb k)))] [])) _
          refine XS.goto X12.here hx rfl (pc0 := 27) (pc' := 32) rfl (hb hby d1_27) (by decide) (by decide) ?_
          show Steps p.tables e below (T12.setTop (mkF m 32 #[.val (.int p1), .val (.int (own_low p1)), .val (.int (Int32.ofNat k)), .val (.int (own_ch3 (own_lowb k)))] [])) _
          refine XS.iloadN X12.here hx rfl (hb hby d1_32) rfl ?_
          show Steps p.tables e below (T12.setTop (mkF m 33 #[.val (.int p1), .val (.int (own_low p1)), .val (.int (Int32.ofNat k)), .val (.int (own_ch3 (own_lowb k)))] [(.int (own_low p1))])) _
          refine XS.iloadN X12.here hx rfl (hb hby d1_33) rfl ?_
          have hc34 : (own_low p1) = (own_ch3 (own_lowb k)) := by rw [hpk]; exact (own_chr26 k hk).1
          show Steps p.tables e below (T12.setTop (mkF m 34 #[.val (.int p1), .val (.int (own_low p1)), .val (.int (Int32.ofNat k)), .val (.int (own_ch3 (own_lowb k)))] [(.int (own_ch3 (own_lowb k))), (.int (own_low p1))])) _
          refine XS.icmpNo X12.here hx rfl (hb hby d1_34) rfl (teq hc34).2 ?_
          show Steps p.tables e below (T12.setTop (mkF m 37 #[.val (.int p1), .val (.int (own_low p1)), .val (.int (Int32.ofNat k)), .val (.int (own_ch3 (own_lowb k)))] [])) _
          refine XS.iloadN X12.here hx rfl (hb hby d1_37) rfl ?_
          exact kt)
        obtain ⟨_, _, ⟨T14, L14, k14, n14⟩, -, X14, ⟨Lc14, hQ14, l14, y14, z14⟩, st14⟩ := Jvm.LawKit.callS X12 hx (y := (⟨"canonsign/SignedHeaders", "lowerCase", "(C)C"⟩ : MethodName)) how9 (mvT hz9 (hw _ (List.mem_of_getElem? (i := 4) rfl))) (mvT hz9 (hw _ (List.mem_of_getElem? (i := 5) rfl))) (mvT hz9 (hw _ (List.mem_of_getElem? (i := 6) rfl))) (mvT hz9 (hw _ (List.mem_of_getElem? (i := 7) rfl))) (by decide) (backOf (W := 0) (rm2 l Z a0 hw [] (own_low p1) h9 h0.size Zs9) hz9 (hw _ (List.mem_of_getElem? (i := 7) rfl)) (hw _ (List.mem_of_getElem? (i := 6) rfl)) (by decide) (by decide)) (g := (mkF m 38 #[.val (.int p1), .val (.int (own_low p1)), .val (.int (Int32.ofNat k)), .val (.int (own_ch3 (own_lowb k)))] [(.int (own_low p1))])) rfl (by rw [hml]; rfl) (argsL := [(.int (own_low p1))]) (rest := []) (lenOf pd_4 rfl) rfl (by show 2 * 0 + _ ≤ _; exact Nat.le_of_eq rfl) (hb hby d1_38) (fun _ _ => ⟨rfl, e12, (by decide : 2 + 0 ≤ _), (by decide : 108 + 0 ≤ _)⟩)
        dsimp only [Pt.U, Pt.locs, Pt.cells, Pt.slots] at X14 l14 y14 z14 st14 hQ14
        subst l14 y14 z14
        obtain ⟨rfl, N14q, e14⟩ := hQ14
        have N14 := Fr.app N12 N14q
        obtain ⟨fs, hr, hrun, hended, -, hW, hI, hsame⟩ := X14.leaveW Si9 (by rw [e14]; exact Nat.le_refl _) (v := some (.int (1 : Int32))) (fun h => by rw [Bd.returns] at h; cases h)
        refine ⟨_, _, pre13 _ ?_, hrun, hended, _, _, rfl, ?_, ⟨_, rfl⟩, hW, hI, hsame.mono (by decide) (by decide)⟩
        · show Steps p.tables e below (T12.setTop (mkF m 38 #[.val (.int p1), .val (.int (own_low p1)), .val (.int (Int32.ofNat k)), .val (.int (own_ch3 (own_lowb k)))] [(.int (own_low p1))])) _
          refine st14 _ ?_
          show Steps p.tables e below (T14.setTop (mkF m 41 #[.val (.int p1), .val (.int (own_low p1)), .val (.int (Int32.ofNat k)), .val (.int (own_ch3 (own_lowb k)))] [(.int (own_low (own_low p1)))])) _
          refine XS.iloadN X14.here hx rfl (hb hby d1_41) rfl ?_
          have hc42 : (own_low (own_low p1)) = (own_low p1) := by rw [hpk]; exact (own_chr26 k hk).2.1
          show Steps p.tables e below (T14.setTop (mkF m 42 #[.val (.int p1), .val (.int (own_low p1)), .val (.int (Int32.ofNat k)), .val (.int (own_ch3 (own_lowb k)))] [(.int (own_low p1)), (.int (own_low (own_low p1)))])) _
          refine XS.icmpNo X14.here hx rfl (hb hby d1_42) rfl (teq hc42).2 ?_
          show Steps p.tables e below (T14.setTop (mkF m 45 #[.val (.int p1), .val (.int (own_low p1)), .val (.int (Int32.ofNat k)), .val (.int (own_ch3 (own_lowb k)))] [])) _
          refine XS.iconst X14.here hx rfl (hb hby d1_45) ?_
          show Steps p.tables e below (T14.setTop (mkF m 46 #[.val (.int p1), .val (.int (own_low p1)), .val (.int (Int32.ofNat k)), .val (.int (own_ch3 (own_lowb k)))] [(.int (1 : Int32))])) _
          refine XS.goto X14.here hx rfl (pc0 := 46) (pc' := 50) rfl (hb hby d1_46) (by decide) (by decide) ?_
          show Steps p.tables e below (T14.setTop (mkF m 50 #[.val (.int p1), .val (.int (own_low p1)), .val (.int (Int32.ofNat k)), .val (.int (own_ch3 (own_lowb k)))] [(.int (1 : Int32))])) _
          exact retN X14 hx (t := .boolean) Bd.returns (by simp) (hb hby d1_50) hr
        · refine ⟨rfl, own_fr_mono Z0 N14, ?_, ?_⟩
          · show Ext h0 T14.heap
            rw [e14]; exact E9
          · show own_K Z T14.vm T14.heap
            rw [e14]
            exact own_K_warm (s := s.setVm T9.vm) (Or.inr ⟨I9, as9, Li9, S9⟩) X14.warmed (own_ext_refl _)
      · obtain ⟨b_15, Ea_15, Fc_15, Fv_15, cl_15, Ar_15, Sz_15, Hf_15⟩ := id hSb
        have pre16 : ∀ t, Steps p.tables e below (T2.setTop (mkF m 23 #[.val (.int p1), .val (.int (own_low p1)), .val (.int (Int32.ofNat k)), .unset] [(.int (Int32.ofNat k)), (.ref aL)])) t → Steps p.tables e below _ t := fun t kt => pre7 t (by
          show Steps p.tables e below (T2.setTop (mkF m 20 #[.val (.int p1), .val (.int (own_low p1)), .val (.int (Int32.ofNat k)), .unset] [])) _
          refine ldcAgain (s := s) (vm0 := s.vm) (show Stand p l e ({ frames := 4, cells := 2, slots := 108, locals := 53 } : Room) (s.setVm s.vm) m #[(.int p1)] below meth c T2 _ _ _ from X2) hx hZ hown (hw _ (List.mem_of_getElem? (i := 8) rfl)) (show Lit (s.setVm s.vm) _ _ aL from hL) (g := (mkF m 20 #[.val (.int p1), .val (.int (own_low p1)), .val (.int (Int32.ofNat k)), .unset] [])) rfl (hb hby d1_20) _ ?_
          show Steps p.tables e below (T2.setTop (mkF m 22 #[.val (.int p1), .val (.int (own_low p1)), .val (.int (Int32.ofNat k)), .unset] [(.ref aL)])) _
          refine XS.iloadN X2.here hx rfl (hb hby d1_22) rfl ?_
          exact kt)
        obtain ⟨cq17, kq17, q17a, q17b, q17c⟩ := isOf hZ e2 Ea_15
        obtain ⟨_, _, ⟨T17, L17, k17, n17⟩, -, X17, ⟨Lc17, hQ17, l17, y17, z17⟩, st17⟩ := X2.virtualBack hx (y := (⟨"java/lang/String", "charAt", "(I)C"⟩ : MethodName)) (z := (⟨"java/lang/String", "charAt", "(I)C"⟩ : MethodName)) hown (mvT hZ (hw _ (List.mem_of_getElem? (i := 16) rfl))) (mvT hZ (hw _ (List.mem_of_getElem? (i := 17) rfl))) (notFace_of_selects (args := #[]) (mvT hZ (hw _ (List.mem_of_getElem? (i := 19) rfl)))) (mvT hZ (hw _ (List.mem_of_getElem? (i := 19) rfl))) (mvT hZ (hw _ (List.mem_of_getElem? (i := 18) rfl))) (by decide) (backOf (W := 0) (rm3 l Z a0 hw [] aL b_15 k cl_15 own_lowb G1 G3 h0 h0.size Zh rG3 O4 O2 P5 Ea_15 Fv_15 Fc_15 Ar_15 Sz_15 Hf_15 hk) hZ (hw _ (List.mem_of_getElem? (i := 20) rfl)) (hw _ (List.mem_of_getElem? (i := 9) rfl)) (by decide) (by decide)) q17a q17c (g := (mkF m 23 #[.val (.int p1), .val (.int (own_low p1)), .val (.int (Int32.ofNat k)), .unset] [(.int (Int32.ofNat k)), (.ref aL)])) rfl (by rw [hml]; rfl) (Steps.refl _) (argsL := [(.int (Int32.ofNat k))]) (rest := []) (lenOf pd_5 rfl) rfl (by show 2 * 0 + _ ≤ _; exact Nat.le_of_eq rfl) (hb hby d1_23) (fun _ _ => ⟨rfl, e2, (by decide : 0 + 0 ≤ _), (by decide : 0 + 0 ≤ _)⟩)
        dsimp only [Pt.U, Pt.locs, Pt.cells, Pt.slots] at X17 l17 y17 z17 st17 hQ17
        subst l17 y17 z17
        obtain ⟨rfl, N17q, e17⟩ := hQ17
        have N17 := Fr.app N2 N17q
        have pre18 : ∀ t, Steps p.tables e below (T17.setTop (mkF m 38 #[.val (.int p1), .val (.int (own_low p1)), .val (.int (Int32.ofNat k)), .val (.int (own_ch3 (own_lowb k)))] [(.int (own_low p1))])) t → Steps p.tables e below _ t := fun t kt => pre16 t (by
          show Steps p.tables e below (T2.setTop (mkF m 23 #[.val (.int p1), .val (.int (own_low p1)), .val (.int (Int32.ofNat k)), .unset] [(.int (Int32.ofNat k)), (.ref aL)])) _
          refine st17.trans ?_
          show Steps p.tables e below (T17.setTop (mkF m 26 #[.val (.int p1), .val (.int (own_low p1)), .val (.int (Int32.ofNat k)), .unset] [(.int (own_ch3 (own_lowb k)))])) _
          refine XS.istoreN X17.here hx rfl (hb hby d1_26) rfl (l' := #[.val (.int p1), .val (.int (own_low p1)), .val (.int (Int32.ofNat k)), .val (.int (own_ch3 (own_lowb k)))]) rfl ?_
          show Steps p.tables e below (T17.setTop (mkF m 27 #[.val (.int p1), .val (.int (own_low p1)), .val (.int (Int32.ofNat k)), .val (.int (own_ch3 (own_lowb k)))] [])) _
          refine XS.goto X17.here hx rfl (pc0 := 27) (pc' := 32) rfl (hb hby d1_27) (by decide) (by decide) ?_
          show Steps p.tables e below (T17.setTop (mkF m 32 #[.val (.int p1), .val (.int (own_low p1)), .val (.int (Int32.ofNat k)), .val (.int (own_ch3 (own_lowb k)))] [])) _
          refine XS.iloadN X17.here hx rfl (hb hby d1_32) rfl ?_
          show Steps p.tables e below (T17.setTop (mkF m 33 #[.val (.int p1), .val (.int (own_low p1)), .val (.int (Int32.ofNat k)), .val (.int (own_ch3 (own_lowb k)))] [(.int (own_low p1))])) _
          refine XS.iloadN X17.here hx rfl (hb hby d1_33) rfl ?_
          have hc34 : (own_low p1) = (own_ch3 (own_lowb k)) := by rw [hpk]; exact (own_chr26 k hk).1
          show Steps p.tables e below (T17.setTop (mkF m 34 #[.val (.int p1), .val (.int (own_low p1)), .val (.int (Int32.ofNat k)), .val (.int (own_ch3 (own_lowb k)))] [(.int (own_ch3 (own_lowb k))), (.int (own_low p1))])) _
          refine XS.icmpNo X17.here hx rfl (hb hby d1_34) rfl (teq hc34).2 ?_
          show Steps p.tables e below (T17.setTop (mkF m 37 #[.val (.int p1), .val (.int (own_low p1)), .val (.int (Int32.ofNat k)), .val (.int (own_ch3 (own_lowb k)))] [])) _
          refine XS.iloadN X17.here hx rfl (hb hby d1_37) rfl ?_
          exact kt)
        obtain ⟨_, _, ⟨T19, L19, k19, n19⟩, -, X19, ⟨Lc19, hQ19, l19, y19, z19⟩, st19⟩ := Jvm.LawKit.callS X17 hx (y := (⟨"canonsign/SignedHeaders", "lowerCase", "(C)C"⟩ : MethodName)) hown (mvT hZ (hw _ (List.mem_of_getElem? (i := 4) rfl))) (mvT hZ (hw _ (List.mem_of_getElem? (i := 5) rfl))) (mvT hZ (hw _ (List.mem_of_getElem? (i := 6) rfl))) (mvT hZ (hw _ (List.mem_of_getElem? (i := 7) rfl))) (by decide) (backOf (W := 0) (rm2 l Z a0 hw [] (own_low p1) h0 h0.size Zh) hZ (hw _ (List.mem_of_getElem? (i := 7) rfl)) (hw _ (List.mem_of_getElem? (i := 6) rfl)) (by decide) (by decide)) (g := (mkF m 38 #[.val (.int p1), .val (.int (own_low p1)), .val (.int (Int32.ofNat k)), .val (.int (own_ch3 (own_lowb k)))] [(.int (own_low p1))])) rfl (by rw [hml]; rfl) (argsL := [(.int (own_low p1))]) (rest := []) (lenOf pd_4 rfl) rfl (by show 2 * 0 + _ ≤ _; exact Nat.le_of_eq rfl) (hb hby d1_38) (fun _ _ => ⟨rfl, e17, (by decide : 0 + 0 ≤ _), (by decide : 0 + 0 ≤ _)⟩)
        dsimp only [Pt.U, Pt.locs, Pt.cells, Pt.slots] at X19 l19 y19 z19 st19 hQ19
        subst l19 y19 z19
        obtain ⟨rfl, N19q, e19⟩ := hQ19
        have N19 := Fr.app N17 N19q
        obtain ⟨fs, hr, hrun, hended, hW0, hsame⟩ := X19.leave (v := some (.int (1 : Int32))) (fun h => by rw [Bd.returns] at h; cases h)
        have hW := hW0.wide
        have hI := hW0.no_new_pair
        refine ⟨_, _, pre18 _ ?_, hrun, hended, _, _, rfl, ?_, ⟨_, rfl⟩, hW, hI _, hsame.mono (by decide) (by decide)⟩
        · show Steps p.tables e below (T17.setTop (mkF m 38 #[.val (.int p1), .val (.int (own_low p1)), .val (.int (Int32.ofNat k)), .val (.int (own_ch3 (own_lowb k)))] [(.int (own_low p1))])) _
          refine st19 _ ?_
          show Steps p.tables e below (T19.setTop (mkF m 41 #[.val (.int p1), .val (.int (own_low p1)), .val (.int (Int32.ofNat k)), .val (.int (own_ch3 (own_lowb k)))] [(.int (own_low (own_low p1)))])) _
          refine XS.iloadN X19.here hx rfl (hb hby d1_41) rfl ?_
          have hc42 : (own_low (own_low p1)) = (own_low p1) := by rw [hpk]; exact (own_chr26 k hk).2.1
          show Steps p.tables e below (T19.setTop (mkF m 42 #[.val (.int p1), .val (.int (own_low p1)), .val (.int (Int32.ofNat k)), .val (.int (own_ch3 (own_lowb k)))] [(.int (own_low p1)), (.int (own_low (own_low p1)))])) _
          refine XS.icmpNo X19.here hx rfl (hb hby d1_42) rfl (teq hc42).2 ?_
          show Steps p.tables e below (T19.setTop (mkF m 45 #[.val (.int p1), .val (.int (own_low p1)), .val (.int (Int32.ofNat k)), .val (.int (own_ch3 (own_lowb k)))] [])) _
          refine XS.iconst X19.here hx rfl (hb hby d1_45) ?_
          show Steps p.tables e below (T19.setTop (mkF m 46 #[.val (.int p1), .val (.int (own_low p1)), .val (.int (Int32.ofNat k)), .val (.int (own_ch3 (own_lowb k)))] [(.int (1 : Int32))])) _
          refine XS.goto X19.here hx rfl (pc0 := 46) (pc' := 50) rfl (hb hby d1_46) (by decide) (by decide) ?_
          show Steps p.tables e below (T19.setTop (mkF m 50 #[.val (.int p1), .val (.int (own_low p1)), .val (.int (Int32.ofNat k)), .val (.int (own_ch3 (own_lowb k)))] [(.int (1 : Int32))])) _
          exact retN X19 hx (t := .boolean) Bd.returns (by simp) (hb hby d1_50) hr
        · refine ⟨rfl, own_fr_mono Z0 N19, ?_, ?_⟩
          · show Ext h0 T19.heap
            rw [e19]; exact own_ext_refl _
          · show own_K Z T19.vm T19.heap
            rw [e19]
            exact own_K_warm (s := s) (Or.inr ⟨hIb, aL, hL, hSb⟩) X19.warmed (own_ext_refl _)
    · have pre20 : ∀ t, Steps p.tables e below (T2.setTop (mkF m 38 #[.val (.int p1), .val (.int (own_low p1)), .val (.int (p1 - (65 : Int32))), .val (.int p1)] [(.int (own_low p1))])) t → Steps p.tables e below _ t := fun t kt => pre6 t (by
        show Steps p.tables e below (T2.setTop (mkF m 17 #[.val (.int p1), .val (.int (own_low p1)), .val (.int (p1 - (65 : Int32))), .unset] [(.int (26 : Int32)), (.int (p1 - (65 : Int32)))])) _
        refine XS.icmpYes X2.here hx rfl (pc0 := 17) (pc' := 30) rfl (hb hby d1_17) rfl (flt hc17).2.1 (by decide) (by decide) ?_
        show Steps p.tables e below (T2.setTop (mkF m 30 #[.val (.int p1), .val (.int (own_low p1)), .val (.int (p1 - (65 : Int32))), .unset] [])) _
        refine XS.iloadN X2.here hx rfl (hb hby d1_30) rfl ?_
        show Steps p.tables e below (T2.setTop (mkF m 31 #[.val (.int p1), .val (.int (own_low p1)), .val (.int (p1 - (65 : Int32))), .unset] [(.int p1)])) _
        refine XS.istoreN X2.here hx rfl (hb hby d1_31) rfl (l' := #[.val (.int p1), .val (.int (own_low p1)), .val (.int (p1 - (65 : Int32))), .val (.int p1)]) rfl ?_
        show Steps p.tables e below (T2.setTop (mkF m 32 #[.val (.int p1), .val (.int (own_low p1)), .val (.int (p1 - (65 : Int32))), .val (.int p1)] [])) _
        refine XS.iloadN X2.here hx rfl (hb hby d1_32) rfl ?_
        show Steps p.tables e below (T2.setTop (mkF m 33 #[.val (.int p1), .val (.int (own_low p1)), .val (.int (p1 - (65 : Int32))), .val (.int p1)] [(.int (own_low p1))])) _
        refine XS.iloadN X2.here hx rfl (hb hby d1_33) rfl ?_
        have hc34 : (own_low p1) = p1 := own_outside hp1 hp2 (Or.inr hc17)
        show Steps p.tables e below (T2.setTop (mkF m 34 #[.val (.int p1), .val (.int (own_low p1)), .val (.int (p1 - (65 : Int32))), .val (.int p1)] [(.int p1), (.int (own_low p1))])) _
        refine XS.icmpNo X2.here hx rfl (hb hby d1_34) rfl (teq hc34).2 ?_
        show Steps p.tables e below (T2.setTop (mkF m 37 #[.val (.int p1), .val (.int (own_low p1)), .val (.int (p1 - (65 : Int32))), .val (.int p1)] [])) _
        refine XS.iloadN X2.here hx rfl (hb hby d1_37) rfl ?_
        exact kt)
      obtain ⟨_, _, ⟨T21, L21, k21, n21⟩, -, X21, ⟨Lc21, hQ21, l21, y21, z21⟩, st21⟩ := Jvm.LawKit.callS X2 hx (y := (⟨"canonsign/SignedHeaders", "lowerCase", "(C)C"⟩ : MethodName)) hown (mvT hZ (hw _ (List.mem_of_getElem? (i := 4) rfl))) (mvT hZ (hw _ (List.mem_of_getElem? (i := 5) rfl))) (mvT hZ (hw _ (List.mem_of_getElem? (i := 6) rfl))) (mvT hZ (hw _ (List.mem_of_getElem? (i := 7) rfl))) (by decide) (backOf (W := 0) (rm2 l Z a0 hw [] (own_low p1) h0 h0.size Zh) hZ (hw _ (List.mem_of_getElem? (i := 7) rfl)) (hw _ (List.mem_of_getElem? (i := 6) rfl)) (by decide) (by decide)) (g := (mkF m 38 #[.val (.int p1), .val (.int (own_low p1)), .val (.int (p1 - (65 : Int32))), .val (.int p1)] [(.int (own_low p1))])) rfl (by rw [hml]; rfl) (argsL := [(.int (own_low p1))]) (rest := []) (lenOf pd_4 rfl) rfl (by show 2 * 0 + _ ≤ _; exact Nat.le_of_eq rfl) (hb hby d1_38) (fun _ _ => ⟨rfl, e2, (by decide : 0 + 0 ≤ _), (by decide : 0 + 0 ≤ _)⟩)
      dsimp only [Pt.U, Pt.locs, Pt.cells, Pt.slots] at X21 l21 y21 z21 st21 hQ21
      subst l21 y21 z21
      obtain ⟨rfl, N21q, e21⟩ := hQ21
      have N21 := Fr.app N2 N21q
      obtain ⟨fs, hr, hrun, hended, hW0, hsame⟩ := X21.leave (v := some (.int (1 : Int32))) (fun h => by rw [Bd.returns] at h; cases h)
      have hW := hW0.wide
      have hI := hW0.no_new_pair
      refine ⟨_, _, pre20 _ ?_, hrun, hended, _, _, rfl, ?_, ⟨_, rfl⟩, hW, hI _, hsame.mono (by decide) (by decide)⟩
      · show Steps p.tables e below (T2.setTop (mkF m 38 #[.val (.int p1), .val (.int (own_low p1)), .val (.int (p1 - (65 : Int32))), .val (.int p1)] [(.int (own_low p1))])) _
        refine st21 _ ?_
        show Steps p.tables e below (T21.setTop (mkF m 41 #[.val (.int p1), .val (.int (own_low p1)), .val (.int (p1 - (65 : Int32))), .val (.int p1)] [(.int (own_low (own_low p1)))])) _
        refine XS.iloadN X21.here hx rfl (hb hby d1_41) rfl ?_
        have hc42 : (own_low (own_low p1)) = (own_low p1) := congrArg own_low (own_outside hp1 hp2 (Or.inr hc17))
        show Steps p.tables e below (T21.setTop (mkF m 42 #[.val (.int p1), .val (.int (own_low p1)), .val (.int (p1 - (65 : Int32))), .val (.int p1)] [(.int (own_low p1)), (.int (own_low (own_low p1)))])) _
        refine XS.icmpNo X21.here hx rfl (hb hby d1_42) rfl (teq hc42).2 ?_
        show Steps p.tables e below (T21.setTop (mkF m 45 #[.val (.int p1), .val (.int (own_low p1)), .val (.int (p1 - (65 : Int32))), .val (.int p1)] [])) _
        refine XS.iconst X21.here hx rfl (hb hby d1_45) ?_
        show Steps p.tables e below (T21.setTop (mkF m 46 #[.val (.int p1), .val (.int (own_low p1)), .val (.int (p1 - (65 : Int32))), .val (.int p1)] [(.int (1 : Int32))])) _
        refine XS.goto X21.here hx rfl (pc0 := 46) (pc' := 50) rfl (hb hby d1_46) (by decide) (by decide) ?_
        show Steps p.tables e below (T21.setTop (mkF m 50 #[.val (.int p1), .val (.int (own_low p1)), .val (.int (p1 - (65 : Int32))), .val (.int p1)] [(.int (1 : Int32))])) _
        exact retN X21 hx (t := .boolean) Bd.returns (by simp) (hb hby d1_50) hr
      · refine ⟨rfl, own_fr_mono Z0 N21, ?_, ?_⟩
        · show Ext h0 T21.heap
          rw [e21]; exact own_ext_refl _
        · show own_K Z T21.vm T21.heap
          rw [e21]
          exact own_K_warm (s := s) hKn X21.warmed (own_ext_refl _)

theorem own_c16 (x : Int32) : 0 ≤ (x.toUInt32.toUInt16.toUInt32.toInt32).toInt ∧ (x.toUInt32.toUInt16.toUInt32.toInt32).toInt < 65536 := by
  have h : (x.toUInt32.toUInt16.toUInt32.toInt32).toBitVec.toNat < 65536 := by
    have := x.toUInt32.toUInt16.toBitVec.isLt
    simp
    omega
  have e : (x.toUInt32.toUInt16.toUInt32.toInt32).toInt = ((x.toUInt32.toUInt16.toUInt32.toInt32).toBitVec.toNat : Int) := by
    show (x.toUInt32.toUInt16.toUInt32.toInt32).toBitVec.toInt = _
    rw [BitVec.toInt_eq_toNat_cond, if_pos (by omega)]
  omega
theorem own_26 (x : Int32) : ∃ k : Nat, (x &&& (2147483647 : Int32)) % (26 : Int32) = Int32.ofNat k ∧ k < 26 := by
  obtain ⟨n, h, hb⟩ := own_mask x 2147483647 (k := 31) (by decide) (by decide)
  refine ⟨n % 26, ?_, Nat.mod_lt _ (by decide)⟩
  rw [h]
  exact own_rem (b := 26) hb (by decide)
theorem pn_0 : plainName "canonsign/SignedHeadersLowerCasePinLaw" = true := by first | (simp [plainName, overriddenIn]; done) | decide +kernel
theorem ef_0 (m : MethodId) (x0 : Int32) (x1 : Int32) (x2 : Int32) : entryFrame m #[(.int x0), (.int x1), (.int x2)] maxLocals = mkF m 0 #[.val (.int x0), .val (.int x1), .val (.int x2), .unset, .unset, .unset, .unset, .unset, .unset] [] := by first | (simp [entryFrame, mkF, argsToLocals, Value.category, maxLocals]; done) | rfl
theorem pd_6 : parseMethodDescriptor "(C)Z" = some ⟨[.char], some .boolean⟩ := by decide +kernel
def Q0 (Z : State) (h0 : Heap) (n0 : Nat) (v : Option Value) (h : Heap) (L : List Loc) : Prop := v = some (.int (1 : Int32)) ∧ Fr n0 L
set_option maxRecDepth 65536 in
set_option maxHeartbeats 40000000 in
theorem rm0 (l : Launch) (Z : State) (a0 : Array Value) (hw : ∀ d ∈ tables_1, d.before a0 Z = true) (ws : List Jvm.Cond) (p1 : Int32) (p2 : Int32) (p3 : Int32) (G1 : Int32) (G3 : Value) (h0 : Heap) (n0 : Nat) (Z0 : n0 ≤ h0.size) (O4 : Sta Z h0 "jdk/internal/util/Preconditions" "SIOOBE_FORMATTER" "Ljava/util/function/BiFunction;" G3) (O2 : Sta Z h0 "java/lang/String" "COMPACT_STRINGS" "Z" (.int G1)) (P5 : ¬ (G1 = (0 : Int32))) (rG3 : G3.isRef = true) (KZ : ∀ (b : Addr) (cl : Cell), Z.heap[b]? = some cl → h0[b]? = some cl) (hh22 : Jvm.Lit.constHeld Z "canonsign/SignedHeadersLowerCasePinLaw" 22) (hcw : Jvm.Lit.compactW.before a0 Z = true) (hh14 : Jvm.Lit.constHeld Z "canonsign/SignedHeadersLowerCasePinLaw" 14) :
    MetFree l x (head1 (Jvm.Cond.code x code maxLocals ret :: ws) room_1) (fun aa_ U => aa_ = #[(.int p1), (.int p2), (.int p3)] ∧ Z.Warmed39 U.vm ∧ U.heap = h0 ∧ own_K Z U.vm h0) (fun _ _ _ _ _ => True) (fun _ U o U' => ∃ v_ L_, o = .returned v_ ∧ Q0 Z  h0 n0 v_ U'.heap L_ ∧ ReturnedEndW U o U' L_ room_1.cells room_1.slots) := by
  refine MetFree.of_bodySF (plainFor_of_name pn_0) hisR ?_
  intro p e s m args below meth c s₁ Bd hml0 hP hK
  obtain ⟨rfl, hZ, hh, hKn⟩ := hP
  have hx := Bd.exec
  have hby := Bd.bytes
  have hml : c.maxLocals = 9 := hml0
  have hown : s.vm.findClass "canonsign/SignedHeadersLowerCasePinLaw" = some m.cls := findClass_of_methodNamed Bd.named
  have hnm := (name_of_methodNamed Bd.named Bd.method).1
  have X0 : Stand p l e room_1 s m #[(.int p1), (.int p2), (.int p3)] below meth c s₁ [] 0 0 := Stand.of_body Bd
  have e0 : s₁.heap = h0 := by rw [← hh, Bd.state]; rfl
  have N0 := Fr.nil n0
  have pre0 : ∀ t, Steps p.tables e below (s₁.setTop (mkF m 0 #[.val (.int p1), .val (.int p2), .val (.int p3), .unset, .unset, .unset, .unset, .unset, .unset] [])) t → Steps p.tables e below (s₁.setTop (entryFrame m #[(.int p1), (.int p2), (.int p3)] maxLocals)) t := fun t k_ => castTop (ef_0 m p1 p2 p3) k_
  have N0s := Fr.nil h0.size
  have Zh : h0.size ≤ h0.size := Nat.le_refl _
  have wS : ∀ a ∈ Bundle.stringAtoms, a.before a0 Z = true := fun d hd => by
    simp only [Bundle.stringAtoms, List.mem_cons, List.not_mem_nil, or_false] at hd
    rcases hd with rfl | rfl | rfl | rfl | rfl | rfl | rfl
    · exact (hw _ (List.mem_of_getElem? (i := 9) rfl))
    · exact (hw _ (List.mem_of_getElem? (i := 10) rfl))
    · exact (hw _ (List.mem_of_getElem? (i := 11) rfl))
    · exact (hw _ (List.mem_of_getElem? (i := 12) rfl))
    · exact (hw _ (List.mem_of_getElem? (i := 13) rfl))
    · exact (hw _ (List.mem_of_getElem? (i := 14) rfl))
    · exact (hw _ (List.mem_of_getElem? (i := 15) rfl))
  have pre1 : ∀ t, Steps p.tables e below (s₁.setTop (mkF m 2 #[.val (.int p1), .val (.int p2), .val (.int p3), .unset, .unset, .unset, .unset, .unset, .unset] [(.int (p1.toUInt32.toUInt16.toUInt32.toInt32))])) t → Steps p.tables e below _ t := fun t kt => pre0 t (by
    show Steps p.tables e below (s₁.setTop (mkF m 0 #[.val (.int p1), .val (.int p2), .val (.int p3), .unset, .unset, .unset, .unset, .unset, .unset] [])) _
    refine XS.iloadN X0.here hx rfl (hb hby at_0) rfl ?_
    show Steps p.tables e below (s₁.setTop (mkF m 1 #[.val (.int p1), .val (.int p2), .val (.int p3), .unset, .unset, .unset, .unset, .unset, .unset] [(.int p1)])) _
    refine XS.i2c X0.here hx rfl (hb hby at_1) rfl ?_
    exact kt)
  have cr2 := own_c16 p1
  obtain ⟨_, _, ⟨T2, L2, k2, n2⟩, -, Y2, Sj2, hg2, ⟨Lc2, hQ2, l2, y2, z2⟩, st2⟩ := callSS (s := s.setVm s.vm) (show Stand p l e room_1 (s.setVm s.vm) m #[(.int p1), (.int p2), (.int p3)] below meth c s₁ _ _ _ from X0) hx (y := (⟨"canonsign/SignedHeadersLowerCasePinLaw", "check", "(C)Z"⟩ : MethodName)) hown (mvT hZ (hw _ (List.mem_of_getElem? (i := 0) rfl))) (mvT hZ (hw _ (List.mem_of_getElem? (i := 1) rfl))) (mvT hZ (hw _ (List.mem_of_getElem? (i := 2) rfl))) (mvT hZ (hw _ (List.mem_of_getElem? (i := 3) rfl))) (by decide) (own_backS (W := 0) (I := fun vm => own_K Z vm h0) (rm1 l Z a0 hw [] (p1.toUInt32.toUInt16.toUInt32.toInt32) G1 G3 h0 h0.size Zh cr2.1 cr2.2 O4 O2 P5 rG3 (fun b_ cl_ q_ => KZ b_ cl_ q_) hh22 hcw) hZ (hw _ (List.mem_of_getElem? (i := 3) rfl)) (hw _ (List.mem_of_getElem? (i := 2) rfl)) (by decide) (by decide)) (g := (mkF m 2 #[.val (.int p1), .val (.int p2), .val (.int p3), .unset, .unset, .unset, .unset, .unset, .unset] [(.int (p1.toUInt32.toUInt16.toUInt32.toInt32))])) rfl (by rw [hml]; rfl) (argsL := [(.int (p1.toUInt32.toUInt16.toUInt32.toInt32))]) (rest := []) (lenOf pd_6 rfl) rfl (by show 2 * 0 + _ ≤ _; exact Nat.le_of_eq rfl) (hb hby at_2) (fun vm₁ hv => ⟨⟨rfl, e0, own_K_warm (s := s.setVm s.vm) hKn hv (own_ext_refl _)⟩, (by decide : 0 + 2 ≤ _), (by decide : 0 + 108 ≤ _)⟩)
  dsimp only [Pt.U, Pt.locs, Pt.cells, Pt.slots] at Y2 Sj2 hg2 l2 y2 z2 st2 hQ2
  subst l2 y2 z2
  obtain ⟨rfl, N2q, E2, K2⟩ := hQ2
  have N2 := Fr.app N0s N2q
  obtain ⟨X2, Si2, hz2, how2⟩ := rebS (s := s) (vm0 := s.vm) (State.WarmedH.since (State.WarmedH.refl s) 0) (Nat.zero_le _) Y2 Sj2 hg2 hZ hown
  have Zs2 : h0.size ≤ T2.heap.size := Nat.le_trans Zh E2.1
  have EX2 : Ext h0 T2.heap := E2
  have pre3 : ∀ t, Steps p.tables e below (T2.setTop (mkF m 14 #[.val (.int p1), .val (.int p2), .val (.int p3), .val (.int (1 : Int32)), .unset, .unset, .unset, .unset, .unset] [(.int (((64 : Int32) + (p3 &&& (63 : Int32))).toUInt32.toUInt16.toUInt32.toInt32))])) t → Steps p.tables e below _ t := fun t kt => pre1 t (by
    show Steps p.tables e below (s₁.setTop (mkF m 2 #[.val (.int p1), .val (.int p2), .val (.int p3), .unset, .unset, .unset, .unset, .unset, .unset] [(.int (p1.toUInt32.toUInt16.toUInt32.toInt32))])) _
    refine st2.trans ?_
    show Steps p.tables e below (T2.setTop (mkF m 5 #[.val (.int p1), .val (.int p2), .val (.int p3), .unset, .unset, .unset, .unset, .unset, .unset] [(.int (1 : Int32))])) _
    refine XS.istoreN X2.here hx rfl (hb hby at_5) rfl (l' := #[.val (.int p1), .val (.int p2), .val (.int p3), .val (.int (1 : Int32)), .unset, .unset, .unset, .unset, .unset]) rfl ?_
    show Steps p.tables e below (T2.setTop (mkF m 6 #[.val (.int p1), .val (.int p2), .val (.int p3), .val (.int (1 : Int32)), .unset, .unset, .unset, .unset, .unset] [])) _
    refine XS.bipush X2.here hx rfl (hb hby at_6) ?_
    show Steps p.tables e below (T2.setTop (mkF m 8 #[.val (.int p1), .val (.int p2), .val (.int p3), .val (.int (1 : Int32)), .unset, .unset, .unset, .unset, .unset] [(.int (64 : Int32))])) _
    refine XS.iloadN X2.here hx rfl (hb hby at_8) rfl ?_
    show Steps p.tables e below (T2.setTop (mkF m 9 #[.val (.int p1), .val (.int p2), .val (.int p3), .val (.int (1 : Int32)), .unset, .unset, .unset, .unset, .unset] [(.int p3), (.int (64 : Int32))])) _
    refine XS.bipush X2.here hx rfl (hb hby at_9) ?_
    show Steps p.tables e below (T2.setTop (mkF m 11 #[.val (.int p1), .val (.int p2), .val (.int p3), .val (.int (1 : Int32)), .unset, .unset, .unset, .unset, .unset] [(.int (63 : Int32)), (.int p3), (.int (64 : Int32))])) _
    refine XS.iand X2.here hx rfl (hb hby at_11) rfl ?_
    show Steps p.tables e below (T2.setTop (mkF m 12 #[.val (.int p1), .val (.int p2), .val (.int p3), .val (.int (1 : Int32)), .unset, .unset, .unset, .unset, .unset] [(.int (p3 &&& (63 : Int32))), (.int (64 : Int32))])) _
    refine XS.iadd X2.here hx rfl (hb hby at_12) rfl ?_
    show Steps p.tables e below (T2.setTop (mkF m 13 #[.val (.int p1), .val (.int p2), .val (.int p3), .val (.int (1 : Int32)), .unset, .unset, .unset, .unset, .unset] [(.int ((64 : Int32) + (p3 &&& (63 : Int32))))])) _
    refine XS.i2c X2.here hx rfl (hb hby at_13) rfl ?_
    exact kt)
  have cr4 := own_c16 ((64 : Int32) + (p3 &&& (63 : Int32)))
  obtain ⟨_, _, ⟨T4, L4, k4, n4⟩, -, Y4, Sj4, hg4, ⟨Lc4, hQ4, l4, y4, z4⟩, st4⟩ := callSS (s := s.setVm T2.vm) (show Stand p l e room_1 (s.setVm T2.vm) m #[(.int p1), (.int p2), (.int p3)] below meth c T2 _ _ _ from X2) hx (y := (⟨"canonsign/SignedHeadersLowerCasePinLaw", "check", "(C)Z"⟩ : MethodName)) how2 (mvT hz2 (hw _ (List.mem_of_getElem? (i := 0) rfl))) (mvT hz2 (hw _ (List.mem_of_getElem? (i := 1) rfl))) (mvT hz2 (hw _ (List.mem_of_getElem? (i := 2) rfl))) (mvT hz2 (hw _ (List.mem_of_getElem? (i := 3) rfl))) (by decide) (own_backS (W := 0) (I := fun vm => own_K Z vm T2.heap) (rm1 l Z a0 hw [] (((64 : Int32) + (p3 &&& (63 : Int32))).toUInt32.toUInt16.toUInt32.toInt32) G1 G3 T2.heap h0.size Zs2 cr4.1 cr4.2 (Sta.ext E2 O4) (Sta.ext E2 O2) P5 rG3 (fun b_ cl_ q_ => EX2.2 b_ cl_ (KZ b_ cl_ q_)) hh22 hcw) hz2 (hw _ (List.mem_of_getElem? (i := 3) rfl)) (hw _ (List.mem_of_getElem? (i := 2) rfl)) (by decide) (by decide)) (g := (mkF m 14 #[.val (.int p1), .val (.int p2), .val (.int p3), .val (.int (1 : Int32)), .unset, .unset, .unset, .unset, .unset] [(.int (((64 : Int32) + (p3 &&& (63 : Int32))).toUInt32.toUInt16.toUInt32.toInt32))])) rfl (by rw [hml]; rfl) (argsL := [(.int (((64 : Int32) + (p3 &&& (63 : Int32))).toUInt32.toUInt16.toUInt32.toInt32))]) (rest := []) (lenOf pd_6 rfl) rfl (by show 2 * 0 + _ ≤ _; exact Nat.le_of_eq rfl) (hb hby at_14) (fun vm₁ hv => ⟨⟨rfl, rfl, own_K_warm (s := s.setVm T2.vm) K2 hv (own_ext_refl _)⟩, (by decide : 2 + 2 ≤ _), (by decide : 108 + 108 ≤ _)⟩)
  dsimp only [Pt.U, Pt.locs, Pt.cells, Pt.slots] at Y4 Sj4 hg4 l4 y4 z4 st4 hQ4
  subst l4 y4 z4
  obtain ⟨rfl, N4q, E4, K4⟩ := hQ4
  have N4 := Fr.app N2 N4q
  obtain ⟨X4, Si4, hz4, how4⟩ := rebS (s := s) (vm0 := T2.vm) Si2 (Nat.le_refl _) Y4 Sj4 hg4 hz2 how2
  have Zs4 : h0.size ≤ T4.heap.size := Nat.le_trans Zs2 E4.1
  have EX4 : Ext h0 T4.heap := own_ext_trans EX2 E4
  have pre5 : ∀ t, Steps p.tables e below (T4.setTop (mkF m 28 #[.val (.int p1), .val (.int p2), .val (.int p3), .val (.int (1 : Int32)), .val (.int (1 : Int32)), .val (.int ((p2 &&& (2147483647 : Int32)) % (26 : Int32))), .unset, .unset, .unset] [])) t → Steps p.tables e below _ t := fun t kt => pre3 t (by
    show Steps p.tables e below (T2.setTop (mkF m 14 #[.val (.int p1), .val (.int p2), .val (.int p3), .val (.int (1 : Int32)), .unset, .unset, .unset, .unset, .unset] [(.int (((64 : Int32) + (p3 &&& (63 : Int32))).toUInt32.toUInt16.toUInt32.toInt32))])) _
    refine st4.trans ?_
    show Steps p.tables e below (T4.setTop (mkF m 17 #[.val (.int p1), .val (.int p2), .val (.int p3), .val (.int (1 : Int32)), .unset, .unset, .unset, .unset, .unset] [(.int (1 : Int32))])) _
    refine XS.istore X4.here hx rfl (hb hby at_17) rfl (l' := #[.val (.int p1), .val (.int p2), .val (.int p3), .val (.int (1 : Int32)), .val (.int (1 : Int32)), .unset, .unset, .unset, .unset]) rfl ?_
    show Steps p.tables e below (T4.setTop (mkF m 19 #[.val (.int p1), .val (.int p2), .val (.int p3), .val (.int (1 : Int32)), .val (.int (1 : Int32)), .unset, .unset, .unset, .unset] [])) _
    refine XS.iloadN X4.here hx rfl (hb hby at_19) rfl ?_
    show Steps p.tables e below (T4.setTop (mkF m 20 #[.val (.int p1), .val (.int p2), .val (.int p3), .val (.int (1 : Int32)), .val (.int (1 : Int32)), .unset, .unset, .unset, .unset] [(.int p2)])) _
    refine X4.ldcInt hx how4 (mvT hz4 (hw _ (List.mem_of_getElem? (i := 41) rfl))) (g := (mkF m 20 #[.val (.int p1), .val (.int p2), .val (.int p3), .val (.int (1 : Int32)), .val (.int (1 : Int32)), .unset, .unset, .unset, .unset] [(.int p2)])) rfl (hb hby at_20) _ ?_
    show Steps p.tables e below (T4.setTop (mkF m 22 #[.val (.int p1), .val (.int p2), .val (.int p3), .val (.int (1 : Int32)), .val (.int (1 : Int32)), .unset, .unset, .unset, .unset] [(.int (2147483647 : Int32)), (.int p2)])) _
    refine XS.iand X4.here hx rfl (hb hby at_22) rfl ?_
    show Steps p.tables e below (T4.setTop (mkF m 23 #[.val (.int p1), .val (.int p2), .val (.int p3), .val (.int (1 : Int32)), .val (.int (1 : Int32)), .unset, .unset, .unset, .unset] [(.int (p2 &&& (2147483647 : Int32)))])) _
    refine XS.bipush X4.here hx rfl (hb hby at_23) ?_
    show Steps p.tables e below (T4.setTop (mkF m 25 #[.val (.int p1), .val (.int p2), .val (.int p3), .val (.int (1 : Int32)), .val (.int (1 : Int32)), .unset, .unset, .unset, .unset] [(.int (26 : Int32)), (.int (p2 &&& (2147483647 : Int32)))])) _
    refine iremM X4 hx rfl (hb hby at_25) rfl (by decide) ?_
    show Steps p.tables e below (T4.setTop (mkF m 26 #[.val (.int p1), .val (.int p2), .val (.int p3), .val (.int (1 : Int32)), .val (.int (1 : Int32)), .unset, .unset, .unset, .unset] [(.int ((p2 &&& (2147483647 : Int32)) % (26 : Int32)))])) _
    refine XS.istore X4.here hx rfl (hb hby at_26) rfl (l' := #[.val (.int p1), .val (.int p2), .val (.int p3), .val (.int (1 : Int32)), .val (.int (1 : Int32)), .val (.int ((p2 &&& (2147483647 : Int32)) % (26 : Int32))), .unset, .unset, .unset]) rfl ?_
    exact kt)
  obtain ⟨k, hkk, hk⟩ := own_26 p2
  have hv6 : ((p2 &&& (2147483647 : Int32)) % (26 : Int32)) = (Int32.ofNat k) := hkk
  rw [hv6] at pre5
  rcases K4 with hIb | ⟨hIb, aL, hL, hSb⟩
  · obtain ⟨as7, T7, h7, ks7, bb7, kk7, X7, e7, E7, Sj7, hj7, hz7, how7, Ex7, Fc7, Fv7, Av7, -, -, I7, Li7, st7⟩ := ldcSVL (s := s.setVm T4.vm) (vm0 := T4.vm) (show Stand p l e room_1 ((s.setVm T4.vm).setVm T4.vm) m #[(.int p1), (.int p2), (.int p3)] below meth c T4 _ _ _ from X4) hx hz4 how4 (hw _ (List.mem_of_getElem? (i := 42) rfl)) wS rfl (State.WarmedH.since (State.WarmedH.refl (s.setVm T4.vm)) 0) (Nat.zero_le _) (show Fr s.heap.size _ by rw [hh]; exact N4) (fun b_ cl_ q_ => by show s.heap[b_]? = _; rw [hh]; exact KZ b_ cl_ q_) (Ts := []) hIb (by decide) hh14 hcw (z := (26 : Int32)) ⟨by decide, rfl⟩ (by decide) (by decide) (g := (mkF m 28 #[.val (.int p1), .val (.int p2), .val (.int p3), .val (.int (1 : Int32)), .val (.int (1 : Int32)), .val (.int (Int32.ofNat k)), .unset, .unset, .unset] [])) rfl (hb hby at_28) (n := 104) (by decide) (by decide) (by decide) (by decide)
    have S7 : own_S Z h7 as7 own_uppb := own_S_of Ex7 Fc7 Fv7 Av7 own_uppvs
    have Zs7 : h0.size ≤ h7.size := Nat.le_trans Zs4 E7.1
    have Si7 : s.Since T7.vm h7.size := State.Since.trans (n₂ := h7.size) Si4 ⟨Sj7.1, Sj7.2.mono hj7⟩ (Nat.le_trans (Nat.le_refl _) E7.1)
    have X7 : Stand p l e room_1 (s.setVm T7.vm) m #[(.int p1), (.int p2), (.int p3)] below meth c T7 _ _ _ := X7
    obtain ⟨b_8, Ea_8, Fc_8, Fv_8, cl_8, Ar_8, Sz_8, Hf_8⟩ := id S7
    have pre9 : ∀ t, Steps p.tables e below (T7.setTop (mkF m 32 #[.val (.int p1), .val (.int p2), .val (.int p3), .val (.int (1 : Int32)), .val (.int (1 : Int32)), .val (.int (Int32.ofNat k)), .unset, .unset, .unset] [(.int (Int32.ofNat k)), (.ref as7)])) t → Steps p.tables e below _ t := fun t kt => pre5 t (by
      show Steps p.tables e below (T4.setTop (mkF m 28 #[.val (.int p1), .val (.int p2), .val (.int p3), .val (.int (1 : Int32)), .val (.int (1 : Int32)), .val (.int (Int32.ofNat k)), .unset, .unset, .unset] [])) _
      refine st7 _ ?_
      show Steps p.tables e below (T7.setTop (mkF m 30 #[.val (.int p1), .val (.int p2), .val (.int p3), .val (.int (1 : Int32)), .val (.int (1 : Int32)), .val (.int (Int32.ofNat k)), .unset, .unset, .unset] [(.ref as7)])) _
      refine XS.iload X7.here hx rfl (hb hby at_30) rfl ?_
      exact kt)
    obtain ⟨cq10, kq10, q10a, q10b, q10c⟩ := isOf hz7 e7 Ea_8
    obtain ⟨_, _, ⟨T10, L10, k10, n10⟩, -, X10, ⟨Lc10, hQ10, l10, y10, z10⟩, st10⟩ := X7.virtualBack hx (y := (⟨"java/lang/String", "charAt", "(I)C"⟩ : MethodName)) (z := (⟨"java/lang/String", "charAt", "(I)C"⟩ : MethodName)) how7 (mvT hz7 (hw _ (List.mem_of_getElem? (i := 16) rfl))) (mvT hz7 (hw _ (List.mem_of_getElem? (i := 17) rfl))) (notFace_of_selects (args := #[]) (mvT hz7 (hw _ (List.mem_of_getElem? (i := 19) rfl)))) (mvT hz7 (hw _ (List.mem_of_getElem? (i := 19) rfl))) (mvT hz7 (hw _ (List.mem_of_getElem? (i := 18) rfl))) (by decide) (backOf (W := 0) (rm3 l Z a0 hw [] as7 b_8 k cl_8 own_uppb G1 G3 h7 h0.size Zs7 rG3 (Sta.ext E7 (Sta.ext E4 (Sta.ext E2 O4))) (Sta.ext E7 (Sta.ext E4 (Sta.ext E2 O2))) P5 Ea_8 Fv_8 Fc_8 Ar_8 Sz_8 Hf_8 hk) hz7 (hw _ (List.mem_of_getElem? (i := 20) rfl)) (hw _ (List.mem_of_getElem? (i := 9) rfl)) (by decide) (by decide)) q10a q10c (g := (mkF m 32 #[.val (.int p1), .val (.int p2), .val (.int p3), .val (.int (1 : Int32)), .val (.int (1 : Int32)), .val (.int (Int32.ofNat k)), .unset, .unset, .unset] [(.int (Int32.ofNat k)), (.ref as7)])) rfl (by rw [hml]; rfl) (Steps.refl _) (argsL := [(.int (Int32.ofNat k))]) (rest := []) (lenOf pd_5 rfl) rfl (by show 2 * 0 + _ ≤ _; exact Nat.le_of_eq rfl) (hb hby at_32) (fun _ _ => ⟨rfl, e7, (by decide : 6 + 0 ≤ _), (by decide : 324 + 0 ≤ _)⟩)
    dsimp only [Pt.U, Pt.locs, Pt.cells, Pt.slots] at X10 l10 y10 z10 st10 hQ10
    subst l10 y10 z10
    obtain ⟨rfl, N10q, e10⟩ := hQ10
    have N10 := Fr.app N4 N10q
    have pre11 : ∀ t, Steps p.tables e below (T10.setTop (mkF m 37 #[.val (.int p1), .val (.int p2), .val (.int p3), .val (.int (1 : Int32)), .val (.int (1 : Int32)), .val (.int (Int32.ofNat k)), .val (.int (own_ch3 (own_uppb k))), .unset, .unset] [])) t → Steps p.tables e below _ t := fun t kt => pre9 t (by
      show Steps p.tables e below (T7.setTop (mkF m 32 #[.val (.int p1), .val (.int p2), .val (.int p3), .val (.int (1 : Int32)), .val (.int (1 : Int32)), .val (.int (Int32.ofNat k)), .unset, .unset, .unset] [(.int (Int32.ofNat k)), (.ref as7)])) _
      refine st10.trans ?_
      show Steps p.tables e below (T10.setTop (mkF m 35 #[.val (.int p1), .val (.int p2), .val (.int p3), .val (.int (1 : Int32)), .val (.int (1 : Int32)), .val (.int (Int32.ofNat k)), .unset, .unset, .unset] [(.int (own_ch3 (own_uppb k)))])) _
      refine XS.istore X10.here hx rfl (hb hby at_35) rfl (l' := #[.val (.int p1), .val (.int p2), .val (.int p3), .val (.int (1 : Int32)), .val (.int (1 : Int32)), .val (.int (Int32.ofNat k)), .val (.int (own_ch3 (own_uppb k))), .unset, .unset]) rfl ?_
      exact kt)
    obtain ⟨as12, T12, h12, ks12, bb12, kk12, X12, e12, E12, Sj12, hj12, hz12, how12, Ex12, Fc12, Fv12, Av12, -, -, I12, Li12, st12⟩ := ldcSVL (s := s.setVm T7.vm) (vm0 := T7.vm) (show Stand p l e room_1 ((s.setVm T7.vm).setVm T7.vm) m #[(.int p1), (.int p2), (.int p3)] below meth c T10 _ _ _ from X10) hx hz7 how7 (hw _ (List.mem_of_getElem? (i := 8) rfl)) wS e10 (State.WarmedH.since (State.WarmedH.refl (s.setVm T7.vm)) 0) (Nat.zero_le _) (show Fr s.heap.size _ by rw [hh]; exact N10) (fun b_ cl_ q_ => by show s.heap[b_]? = _; rw [hh]; exact KZ b_ cl_ q_) (Ts := ["ABCDEFGHIJKLMNOPQRSTUVWXYZ"]) I7 (by decide) hh22 hcw (z := (26 : Int32)) ⟨by decide, rfl⟩ (by decide) (by decide) (g := (mkF m 37 #[.val (.int p1), .val (.int p2), .val (.int p3), .val (.int (1 : Int32)), .val (.int (1 : Int32)), .val (.int (Int32.ofNat k)), .val (.int (own_ch3 (own_uppb k))), .unset, .unset] [])) rfl (hb hby at_37) (n := 104) (by decide) (by decide) (by decide) (by decide)
    have S12 : own_S Z h12 as12 own_lowb := own_S_of Ex12 Fc12 Fv12 Av12 own_lowvs
    have Zs12 : h0.size ≤ h12.size := Nat.le_trans Zs7 E12.1
    have Si12 : s.Since T12.vm h12.size := State.Since.trans (n₂ := h12.size) Si7 ⟨Sj12.1, Sj12.2.mono hj12⟩ (Nat.le_trans (Nat.le_refl _) E12.1)
    have X12 : Stand p l e room_1 (s.setVm T12.vm) m #[(.int p1), (.int p2), (.int p3)] below meth c T12 _ _ _ := X12
    obtain ⟨b_13, Ea_13, Fc_13, Fv_13, cl_13, Ar_13, Sz_13, Hf_13⟩ := id S12
    have pre14 : ∀ t, Steps p.tables e below (T12.setTop (mkF m 41 #[.val (.int p1), .val (.int p2), .val (.int p3), .val (.int (1 : Int32)), .val (.int (1 : Int32)), .val (.int (Int32.ofNat k)), .val (.int (own_ch3 (own_uppb k))), .unset, .unset] [(.int (Int32.ofNat k)), (.ref as12)])) t → Steps p.tables e below _ t := fun t kt => pre11 t (by
      show Steps p.tables e below (T10.setTop (mkF m 37 #[.val (.int p1), .val (.int p2), .val (.int p3), .val (.int (1 : Int32)), .val (.int (1 : Int32)), .val (.int (Int32.ofNat k)), .val (.int (own_ch3 (own_uppb k))), .unset, .unset] [])) _
      refine st12 _ ?_
      show Steps p.tables e below (T12.setTop (mkF m 39 #[.val (.int p1), .val (.int p2), .val (.int p3), .val (.int (1 : Int32)), .val (.int (1 : Int32)), .val (.int (Int32.ofNat k)), .val (.int (own_ch3 (own_uppb k))), .unset, .unset] [(.ref as12)])) _
      refine XS.iload X12.here hx rfl (hb hby at_39) rfl ?_
      exact kt)
    obtain ⟨cq15, kq15, q15a, q15b, q15c⟩ := isOf hz12 e12 Ea_13
    obtain ⟨_, _, ⟨T15, L15, k15, n15⟩, -, X15, ⟨Lc15, hQ15, l15, y15, z15⟩, st15⟩ := X12.virtualBack hx (y := (⟨"java/lang/String", "charAt", "(I)C"⟩ : MethodName)) (z := (⟨"java/lang/String", "charAt", "(I)C"⟩ : MethodName)) how12 (mvT hz12 (hw _ (List.mem_of_getElem? (i := 16) rfl))) (mvT hz12 (hw _ (List.mem_of_getElem? (i := 17) rfl))) (notFace_of_selects (args := #[]) (mvT hz12 (hw _ (List.mem_of_getElem? (i := 19) rfl)))) (mvT hz12 (hw _ (List.mem_of_getElem? (i := 19) rfl))) (mvT hz12 (hw _ (List.mem_of_getElem? (i := 18) rfl))) (by decide) (backOf (W := 0) (rm3 l Z a0 hw [] as12 b_13 k cl_13 own_lowb G1 G3 h12 h0.size Zs12 rG3 (Sta.ext E12 (Sta.ext E7 (Sta.ext E4 (Sta.ext E2 O4)))) (Sta.ext E12 (Sta.ext E7 (Sta.ext E4 (Sta.ext E2 O2)))) P5 Ea_13 Fv_13 Fc_13 Ar_13 Sz_13 Hf_13 hk) hz12 (hw _ (List.mem_of_getElem? (i := 20) rfl)) (hw _ (List.mem_of_getElem? (i := 9) rfl)) (by decide) (by decide)) q15a q15c (g := (mkF m 41 #[.val (.int p1), .val (.int p2), .val (.int p3), .val (.int (1 : Int32)), .val (.int (1 : Int32)), .val (.int (Int32.ofNat k)), .val (.int (own_ch3 (own_uppb k))), .unset, .unset] [(.int (Int32.ofNat k)), (.ref as12)])) rfl (by rw [hml]; rfl) (Steps.refl _) (argsL := [(.int (Int32.ofNat k))]) (rest := []) (lenOf pd_5 rfl) rfl (by show 2 * 0 + _ ≤ _; exact Nat.le_of_eq rfl) (hb hby at_41) (fun _ _ => ⟨rfl, e12, (by decide : 8 + 0 ≤ _), (by decide : 432 + 0 ≤ _)⟩)
    dsimp only [Pt.U, Pt.locs, Pt.cells, Pt.slots] at X15 l15 y15 z15 st15 hQ15
    subst l15 y15 z15
    obtain ⟨rfl, N15q, e15⟩ := hQ15
    have N15 := Fr.app N10 N15q
    have pre16 : ∀ t, Steps p.tables e below (T15.setTop (mkF m 48 #[.val (.int p1), .val (.int p2), .val (.int p3), .val (.int (1 : Int32)), .val (.int (1 : Int32)), .val (.int (Int32.ofNat k)), .val (.int (own_ch3 (own_uppb k))), .val (.int (own_ch3 (own_lowb k))), .unset] [(.int (own_ch3 (own_uppb k)))])) t → Steps p.tables e below _ t := fun t kt => pre14 t (by
      show Steps p.tables e below (T12.setTop (mkF m 41 #[.val (.int p1), .val (.int p2), .val (.int p3), .val (.int (1 : Int32)), .val (.int (1 : Int32)), .val (.int (Int32.ofNat k)), .val (.int (own_ch3 (own_uppb k))), .unset, .unset] [(.int (Int32.ofNat k)), (.ref as12)])) _
      refine st15.trans ?_
      show Steps p.tables e below (T15.setTop (mkF m 44 #[.val (.int p1), .val (.int p2), .val (.int p3), .val (.int (1 : Int32)), .val (.int (1 : Int32)), .val (.int (Int32.ofNat k)), .val (.int (own_ch3 (own_uppb k))), .unset, .unset] [(.int (own_ch3 (own_lowb k)))])) _
      refine XS.istore X15.here hx rfl (hb hby at_44) rfl (l' := #[.val (.int p1), .val (.int p2), .val (.int p3), .val (.int (1 : Int32)), .val (.int (1 : Int32)), .val (.int (Int32.ofNat k)), .val (.int (own_ch3 (own_uppb k))), .val (.int (own_ch3 (own_lowb k))), .unset]) rfl ?_
      show Steps p.tables e below (T15.setTop (mkF m 46 #[.val (.int p1), .val (.int p2), .val (.int p3), .val (.int (1 : Int32)), .val (.int (1 : Int32)), .val (.int (Int32.ofNat k)), .val (.int (own_ch3 (own_uppb k))), .val (.int (own_ch3 (own_lowb k))), .unset] [])) _
      refine XS.iload X15.here hx rfl (hb hby at_46) rfl ?_
      exact kt)
    obtain ⟨_, _, ⟨T17, L17, k17, n17⟩, -, X17, ⟨Lc17, hQ17, l17, y17, z17⟩, st17⟩ := Jvm.LawKit.callS X15 hx (y := (⟨"canonsign/SignedHeaders", "lowerCase", "(C)C"⟩ : MethodName)) how12 (mvT hz12 (hw _ (List.mem_of_getElem? (i := 4) rfl))) (mvT hz12 (hw _ (List.mem_of_getElem? (i := 5) rfl))) (mvT hz12 (hw _ (List.mem_of_getElem? (i := 6) rfl))) (mvT hz12 (hw _ (List.mem_of_getElem? (i := 7) rfl))) (by decide) (backOf (W := 0) (rm2 l Z a0 hw [] (own_ch3 (own_uppb k)) h12 h0.size Zs12) hz12 (hw _ (List.mem_of_getElem? (i := 7) rfl)) (hw _ (List.mem_of_getElem? (i := 6) rfl)) (by decide) (by decide)) (g := (mkF m 48 #[.val (.int p1), .val (.int p2), .val (.int p3), .val (.int (1 : Int32)), .val (.int (1 : Int32)), .val (.int (Int32.ofNat k)), .val (.int (own_ch3 (own_uppb k))), .val (.int (own_ch3 (own_lowb k))), .unset] [(.int (own_ch3 (own_uppb k)))])) rfl (by rw [hml]; rfl) (argsL := [(.int (own_ch3 (own_uppb k)))]) (rest := []) (lenOf pd_4 rfl) rfl (by show 2 * 0 + _ ≤ _; exact Nat.le_of_eq rfl) (hb hby at_48) (fun _ _ => ⟨rfl, e15, (by decide : 8 + 0 ≤ _), (by decide : 432 + 0 ≤ _)⟩)
    dsimp only [Pt.U, Pt.locs, Pt.cells, Pt.slots] at X17 l17 y17 z17 st17 hQ17
    subst l17 y17 z17
    obtain ⟨rfl, N17q, e17⟩ := hQ17
    have N17 := Fr.app N15 N17q
    have pre18 : ∀ t, Steps p.tables e below (T17.setTop (mkF m 58 #[.val (.int p1), .val (.int p2), .val (.int p3), .val (.int (1 : Int32)), .val (.int (1 : Int32)), .val (.int (Int32.ofNat k)), .val (.int (own_ch3 (own_uppb k))), .val (.int (own_ch3 (own_lowb k))), .unset] [(.int (own_ch3 (own_lowb k)))])) t → Steps p.tables e below _ t := fun t kt => pre16 t (by
      show Steps p.tables e below (T15.setTop (mkF m 48 #[.val (.int p1), .val (.int p2), .val (.int p3), .val (.int (1 : Int32)), .val (.int (1 : Int32)), .val (.int (Int32.ofNat k)), .val (.int (own_ch3 (own_uppb k))), .val (.int (own_ch3 (own_lowb k))), .unset] [(.int (own_ch3 (own_uppb k)))])) _
      refine st17 _ ?_
      show Steps p.tables e below (T17.setTop (mkF m 51 #[.val (.int p1), .val (.int p2), .val (.int p3), .val (.int (1 : Int32)), .val (.int (1 : Int32)), .val (.int (Int32.ofNat k)), .val (.int (own_ch3 (own_uppb k))), .val (.int (own_ch3 (own_lowb k))), .unset] [(.int (own_low (own_ch3 (own_uppb k))))])) _
      refine XS.iload X17.here hx rfl (hb hby at_51) rfl ?_
      have hc53 : (own_low (own_ch3 (own_uppb k))) = (own_ch3 (own_lowb k)) := (own_chr26 k hk).2.2.1
      show Steps p.tables e below (T17.setTop (mkF m 53 #[.val (.int p1), .val (.int p2), .val (.int p3), .val (.int (1 : Int32)), .val (.int (1 : Int32)), .val (.int (Int32.ofNat k)), .val (.int (own_ch3 (own_uppb k))), .val (.int (own_ch3 (own_lowb k))), .unset] [(.int (own_ch3 (own_lowb k))), (.int (own_low (own_ch3 (own_uppb k))))])) _
      refine XS.icmpNo X17.here hx rfl (hb hby at_53) rfl (teq hc53).2 ?_
      show Steps p.tables e below (T17.setTop (mkF m 56 #[.val (.int p1), .val (.int p2), .val (.int p3), .val (.int (1 : Int32)), .val (.int (1 : Int32)), .val (.int (Int32.ofNat k)), .val (.int (own_ch3 (own_uppb k))), .val (.int (own_ch3 (own_lowb k))), .unset] [])) _
      refine XS.iload X17.here hx rfl (hb hby at_56) rfl ?_
      exact kt)
    obtain ⟨_, _, ⟨T19, L19, k19, n19⟩, -, X19, ⟨Lc19, hQ19, l19, y19, z19⟩, st19⟩ := Jvm.LawKit.callS X17 hx (y := (⟨"canonsign/SignedHeaders", "lowerCase", "(C)C"⟩ : MethodName)) how12 (mvT hz12 (hw _ (List.mem_of_getElem? (i := 4) rfl))) (mvT hz12 (hw _ (List.mem_of_getElem? (i := 5) rfl))) (mvT hz12 (hw _ (List.mem_of_getElem? (i := 6) rfl))) (mvT hz12 (hw _ (List.mem_of_getElem? (i := 7) rfl))) (by decide) (backOf (W := 0) (rm2 l Z a0 hw [] (own_ch3 (own_lowb k)) h12 h0.size Zs12) hz12 (hw _ (List.mem_of_getElem? (i := 7) rfl)) (hw _ (List.mem_of_getElem? (i := 6) rfl)) (by decide) (by decide)) (g := (mkF m 58 #[.val (.int p1), .val (.int p2), .val (.int p3), .val (.int (1 : Int32)), .val (.int (1 : Int32)), .val (.int (Int32.ofNat k)), .val (.int (own_ch3 (own_uppb k))), .val (.int (own_ch3 (own_lowb k))), .unset] [(.int (own_ch3 (own_lowb k)))])) rfl (by rw [hml]; rfl) (argsL := [(.int (own_ch3 (own_lowb k)))]) (rest := []) (lenOf pd_4 rfl) rfl (by show 2 * 0 + _ ≤ _; exact Nat.le_of_eq rfl) (hb hby at_58) (fun _ _ => ⟨rfl, e17, (by decide : 8 + 0 ≤ _), (by decide : 432 + 0 ≤ _)⟩)
    dsimp only [Pt.U, Pt.locs, Pt.cells, Pt.slots] at X19 l19 y19 z19 st19 hQ19
    subst l19 y19 z19
    obtain ⟨rfl, N19q, e19⟩ := hQ19
    have N19 := Fr.app N17 N19q
    obtain ⟨fs, hr, hrun, hended, -, hW, hI, hsame⟩ := X19.leaveW Si12 (by rw [e19]; exact Nat.le_refl _) (v := some (.int (1 : Int32))) (fun h => by rw [Bd.returns] at h; cases h)
    refine ⟨_, _, pre18 _ ?_, hrun, hended, _, _, rfl, ?_, ⟨_, rfl⟩, hW, hI, hsame.mono (by decide) (by decide)⟩
    · show Steps p.tables e below (T17.setTop (mkF m 58 #[.val (.int p1), .val (.int p2), .val (.int p3), .val (.int (1 : Int32)), .val (.int (1 : Int32)), .val (.int (Int32.ofNat k)), .val (.int (own_ch3 (own_uppb k))), .val (.int (own_ch3 (own_lowb k))), .unset] [(.int (own_ch3 (own_lowb k)))])) _
      refine st19 _ ?_
      show Steps p.tables e below (T19.setTop (mkF m 61 #[.val (.int p1), .val (.int p2), .val (.int p3), .val (.int (1 : Int32)), .val (.int (1 : Int32)), .val (.int (Int32.ofNat k)), .val (.int (own_ch3 (own_uppb k))), .val (.int (own_ch3 (own_lowb k))), .unset] [(.int (own_low (own_ch3 (own_lowb k))))])) _
      refine XS.iload X19.here hx rfl (hb hby at_61) rfl ?_
      have hc63 : (own_low (own_ch3 (own_lowb k))) = (own_ch3 (own_lowb k)) := (own_chr26 k hk).2.2.2
      show Steps p.tables e below (T19.setTop (mkF m 63 #[.val (.int p1), .val (.int p2), .val (.int p3), .val (.int (1 : Int32)), .val (.int (1 : Int32)), .val (.int (Int32.ofNat k)), .val (.int (own_ch3 (own_uppb k))), .val (.int (own_ch3 (own_lowb k))), .unset] [(.int (own_ch3 (own_lowb k))), (.int (own_low (own_ch3 (own_lowb k))))])) _
      refine XS.icmpNo X19.here hx rfl (hb hby at_63) rfl (teq hc63).2 ?_
      show Steps p.tables e below (T19.setTop (mkF m 66 #[.val (.int p1), .val (.int p2), .val (.int p3), .val (.int (1 : Int32)), .val (.int (1 : Int32)), .val (.int (Int32.ofNat k)), .val (.int (own_ch3 (own_uppb k))), .val (.int (own_ch3 (own_lowb k))), .unset] [])) _
      refine XS.iconst X19.here hx rfl (hb hby at_66) ?_
      show Steps p.tables e below (T19.setTop (mkF m 67 #[.val (.int p1), .val (.int p2), .val (.int p3), .val (.int (1 : Int32)), .val (.int (1 : Int32)), .val (.int (Int32.ofNat k)), .val (.int (own_ch3 (own_uppb k))), .val (.int (own_ch3 (own_lowb k))), .unset] [(.int (1 : Int32))])) _
      refine XS.goto X19.here hx rfl (pc0 := 67) (pc' := 71) rfl (hb hby at_67) (by decide) (by decide) ?_
      show Steps p.tables e below (T19.setTop (mkF m 71 #[.val (.int p1), .val (.int p2), .val (.int p3), .val (.int (1 : Int32)), .val (.int (1 : Int32)), .val (.int (Int32.ofNat k)), .val (.int (own_ch3 (own_uppb k))), .val (.int (own_ch3 (own_lowb k))), .unset] [(.int (1 : Int32))])) _
      refine XS.istore X19.here hx rfl (hb hby at_71) rfl (l' := #[.val (.int p1), .val (.int p2), .val (.int p3), .val (.int (1 : Int32)), .val (.int (1 : Int32)), .val (.int (Int32.ofNat k)), .val (.int (own_ch3 (own_uppb k))), .val (.int (own_ch3 (own_lowb k))), .val (.int (1 : Int32))]) rfl ?_
      show Steps p.tables e below (T19.setTop (mkF m 73 #[.val (.int p1), .val (.int p2), .val (.int p3), .val (.int (1 : Int32)), .val (.int (1 : Int32)), .val (.int (Int32.ofNat k)), .val (.int (own_ch3 (own_uppb k))), .val (.int (own_ch3 (own_lowb k))), .val (.int (1 : Int32))] [])) _
      refine XS.iloadN X19.here hx rfl (hb hby at_73) rfl ?_
      have hc74 : ¬ ((1 : Int32) = (0 : Int32)) := by decide
      show Steps p.tables e below (T19.setTop (mkF m 74 #[.val (.int p1), .val (.int p2), .val (.int p3), .val (.int (1 : Int32)), .val (.int (1 : Int32)), .val (.int (Int32.ofNat k)), .val (.int (own_ch3 (own_uppb k))), .val (.int (own_ch3 (own_lowb k))), .val (.int (1 : Int32))] [(.int (1 : Int32))])) _
      refine XS.ifNo X19.here hx rfl (hb hby at_74) rfl ((if0 _ _).trans (feq hc74).1) ?_
      show Steps p.tables e below (T19.setTop (mkF m 77 #[.val (.int p1), .val (.int p2), .val (.int p3), .val (.int (1 : Int32)), .val (.int (1 : Int32)), .val (.int (Int32.ofNat k)), .val (.int (own_ch3 (own_uppb k))), .val (.int (own_ch3 (own_lowb k))), .val (.int (1 : Int32))] [])) _
      refine XS.iload X19.here hx rfl (hb hby at_77) rfl ?_
      have hc79 : ¬ ((1 : Int32) = (0 : Int32)) := by decide
      show Steps p.tables e below (T19.setTop (mkF m 79 #[.val (.int p1), .val (.int p2), .val (.int p3), .val (.int (1 : Int32)), .val (.int (1 : Int32)), .val (.int (Int32.ofNat k)), .val (.int (own_ch3 (own_uppb k))), .val (.int (own_ch3 (own_lowb k))), .val (.int (1 : Int32))] [(.int (1 : Int32))])) _
      refine XS.ifNo X19.here hx rfl (hb hby at_79) rfl ((if0 _ _).trans (feq hc79).1) ?_
      show Steps p.tables e below (T19.setTop (mkF m 82 #[.val (.int p1), .val (.int p2), .val (.int p3), .val (.int (1 : Int32)), .val (.int (1 : Int32)), .val (.int (Int32.ofNat k)), .val (.int (own_ch3 (own_uppb k))), .val (.int (own_ch3 (own_lowb k))), .val (.int (1 : Int32))] [])) _
      refine XS.iload X19.here hx rfl (hb hby at_82) rfl ?_
      have hc84 : ¬ ((1 : Int32) = (0 : Int32)) := by decide
      show Steps p.tables e below (T19.setTop (mkF m 84 #[.val (.int p1), .val (.int p2), .val (.int p3), .val (.int (1 : Int32)), .val (.int (1 : Int32)), .val (.int (Int32.ofNat k)), .val (.int (own_ch3 (own_uppb k))), .val (.int (own_ch3 (own_lowb k))), .val (.int (1 : Int32))] [(.int (1 : Int32))])) _
      refine XS.ifNo X19.here hx rfl (hb hby at_84) rfl ((if0 _ _).trans (feq hc84).1) ?_
      show Steps p.tables e below (T19.setTop (mkF m 87 #[.val (.int p1), .val (.int p2), .val (.int p3), .val (.int (1 : Int32)), .val (.int (1 : Int32)), .val (.int (Int32.ofNat k)), .val (.int (own_ch3 (own_uppb k))), .val (.int (own_ch3 (own_lowb k))), .val (.int (1 : Int32))] [])) _
      refine XS.iconst X19.here hx rfl (hb hby at_87) ?_
      show Steps p.tables e below (T19.setTop (mkF m 88 #[.val (.int p1), .val (.int p2), .val (.int p3), .val (.int (1 : Int32)), .val (.int (1 : Int32)), .val (.int (Int32.ofNat k)), .val (.int (own_ch3 (own_uppb k))), .val (.int (own_ch3 (own_lowb k))), .val (.int (1 : Int32))] [(.int (1 : Int32))])) _
      refine XS.goto X19.here hx rfl (pc0 := 88) (pc' := 92) rfl (hb hby at_88) (by decide) (by decide) ?_
      show Steps p.tables e below (T19.setTop (mkF m 92 #[.val (.int p1), .val (.int p2), .val (.int p3), .val (.int (1 : Int32)), .val (.int (1 : Int32)), .val (.int (Int32.ofNat k)), .val (.int (own_ch3 (own_uppb k))), .val (.int (own_ch3 (own_lowb k))), .val (.int (1 : Int32))] [(.int (1 : Int32))])) _
      exact retN X19 hx (t := .boolean) Bd.returns (by simp) (hb hby at_92) hr
    · exact ⟨rfl, own_fr_mono Z0 N19⟩
  · obtain ⟨as20, T20, h20, ks20, bb20, kk20, X20, e20, E20, Sj20, hj20, hz20, how20, Ex20, Fc20, Fv20, Av20, -, -, I20, Li20, st20⟩ := ldcSVL (s := s.setVm T4.vm) (vm0 := T4.vm) (show Stand p l e room_1 ((s.setVm T4.vm).setVm T4.vm) m #[(.int p1), (.int p2), (.int p3)] below meth c T4 _ _ _ from X4) hx hz4 how4 (hw _ (List.mem_of_getElem? (i := 42) rfl)) wS rfl (State.WarmedH.since (State.WarmedH.refl (s.setVm T4.vm)) 0) (Nat.zero_le _) (show Fr s.heap.size _ by rw [hh]; exact N4) (fun b_ cl_ q_ => by show s.heap[b_]? = _; rw [hh]; exact KZ b_ cl_ q_) (Ts := ["abcdefghijklmnopqrstuvwxyz"]) hIb (by decide) hh14 hcw (z := (26 : Int32)) ⟨by decide, rfl⟩ (by decide) (by decide) (g := (mkF m 28 #[.val (.int p1), .val (.int p2), .val (.int p3), .val (.int (1 : Int32)), .val (.int (1 : Int32)), .val (.int (Int32.ofNat k)), .unset, .unset, .unset] [])) rfl (hb hby at_28) (n := 104) (by decide) (by decide) (by decide) (by decide)
    have S20 : own_S Z h20 as20 own_uppb := own_S_of Ex20 Fc20 Fv20 Av20 own_uppvs
    have Zs20 : h0.size ≤ h20.size := Nat.le_trans Zs4 E20.1
    have Si20 : s.Since T20.vm h20.size := State.Since.trans (n₂ := h20.size) Si4 ⟨Sj20.1, Sj20.2.mono hj20⟩ (Nat.le_trans (Nat.le_refl _) E20.1)
    have X20 : Stand p l e room_1 (s.setVm T20.vm) m #[(.int p1), (.int p2), (.int p3)] below meth c T20 _ _ _ := X20
    obtain ⟨b_21, Ea_21, Fc_21, Fv_21, cl_21, Ar_21, Sz_21, Hf_21⟩ := id S20
    have pre22 : ∀ t, Steps p.tables e below (T20.setTop (mkF m 32 #[.val (.int p1), .val (.int p2), .val (.int p3), .val (.int (1 : Int32)), .val (.int (1 : Int32)), .val (.int (Int32.ofNat k)), .unset, .unset, .unset] [(.int (Int32.ofNat k)), (.ref as20)])) t → Steps p.tables e below _ t := fun t kt => pre5 t (by
      show Steps p.tables e below (T4.setTop (mkF m 28 #[.val (.int p1), .val (.int p2), .val (.int p3), .val (.int (1 : Int32)), .val (.int (1 : Int32)), .val (.int (Int32.ofNat k)), .unset, .unset, .unset] [])) _
      refine st20 _ ?_
      show Steps p.tables e below (T20.setTop (mkF m 30 #[.val (.int p1), .val (.int p2), .val (.int p3), .val (.int (1 : Int32)), .val (.int (1 : Int32)), .val (.int (Int32.ofNat k)), .unset, .unset, .unset] [(.ref as20)])) _
      refine XS.iload X20.here hx rfl (hb hby at_30) rfl ?_
      exact kt)
    obtain ⟨cq23, kq23, q23a, q23b, q23c⟩ := isOf hz20 e20 Ea_21
    obtain ⟨_, _, ⟨T23, L23, k23, n23⟩, -, X23, ⟨Lc23, hQ23, l23, y23, z23⟩, st23⟩ := X20.virtualBack hx (y := (⟨"java/lang/String", "charAt", "(I)C"⟩ : MethodName)) (z := (⟨"java/lang/String", "charAt", "(I)C"⟩ : MethodName)) how20 (mvT hz20 (hw _ (List.mem_of_getElem? (i := 16) rfl))) (mvT hz20 (hw _ (List.mem_of_getElem? (i := 17) rfl))) (notFace_of_selects (args := #[]) (mvT hz20 (hw _ (List.mem_of_getElem? (i := 19) rfl)))) (mvT hz20 (hw _ (List.mem_of_getElem? (i := 19) rfl))) (mvT hz20 (hw _ (List.mem_of_getElem? (i := 18) rfl))) (by decide) (backOf (W := 0) (rm3 l Z a0 hw [] as20 b_21 k cl_21 own_uppb G1 G3 h20 h0.size Zs20 rG3 (Sta.ext E20 (Sta.ext E4 (Sta.ext E2 O4))) (Sta.ext E20 (Sta.ext E4 (Sta.ext E2 O2))) P5 Ea_21 Fv_21 Fc_21 Ar_21 Sz_21 Hf_21 hk) hz20 (hw _ (List.mem_of_getElem? (i := 20) rfl)) (hw _ (List.mem_of_getElem? (i := 9) rfl)) (by decide) (by decide)) q23a q23c (g := (mkF m 32 #[.val (.int p1), .val (.int p2), .val (.int p3), .val (.int (1 : Int32)), .val (.int (1 : Int32)), .val (.int (Int32.ofNat k)), .unset, .unset, .unset] [(.int (Int32.ofNat k)), (.ref as20)])) rfl (by rw [hml]; rfl) (Steps.refl _) (argsL := [(.int (Int32.ofNat k))]) (rest := []) (lenOf pd_5 rfl) rfl (by show 2 * 0 + _ ≤ _; exact Nat.le_of_eq rfl) (hb hby at_32) (fun _ _ => ⟨rfl, e20, (by decide : 6 + 0 ≤ _), (by decide : 324 + 0 ≤ _)⟩)
    dsimp only [Pt.U, Pt.locs, Pt.cells, Pt.slots] at X23 l23 y23 z23 st23 hQ23
    subst l23 y23 z23
    obtain ⟨rfl, N23q, e23⟩ := hQ23
    have N23 := Fr.app N4 N23q
    have pre24 : ∀ t, Steps p.tables e below (T23.setTop (mkF m 37 #[.val (.int p1), .val (.int p2), .val (.int p3), .val (.int (1 : Int32)), .val (.int (1 : Int32)), .val (.int (Int32.ofNat k)), .val (.int (own_ch3 (own_uppb k))), .unset, .unset] [])) t → Steps p.tables e below _ t := fun t kt => pre22 t (by
      show Steps p.tables e below (T20.setTop (mkF m 32 #[.val (.int p1), .val (.int p2), .val (.int p3), .val (.int (1 : Int32)), .val (.int (1 : Int32)), .val (.int (Int32.ofNat k)), .unset, .unset, .unset] [(.int (Int32.ofNat k)), (.ref as20)])) _
      refine st23.trans ?_
      show Steps p.tables e below (T23.setTop (mkF m 35 #[.val (.int p1), .val (.int p2), .val (.int p3), .val (.int (1 : Int32)), .val (.int (1 : Int32)), .val (.int (Int32.ofNat k)), .unset, .unset, .unset] [(.int (own_ch3 (own_uppb k)))])) _
      refine XS.istore X23.here hx rfl (hb hby at_35) rfl (l' := #[.val (.int p1), .val (.int p2), .val (.int p3), .val (.int (1 : Int32)), .val (.int (1 : Int32)), .val (.int (Int32.ofNat k)), .val (.int (own_ch3 (own_uppb k))), .unset, .unset]) rfl ?_
      exact kt)
    have hL2 : Lit (s.setVm T20.vm) _ 22 aL := Lit.stays (s := s) hL Sj20.1
    have hS2 := own_S_ext hSb E20
    obtain ⟨b_25, Ea_25, Fc_25, Fv_25, cl_25, Ar_25, Sz_25, Hf_25⟩ := id hS2
    have pre26 : ∀ t, Steps p.tables e below (T23.setTop (mkF m 41 #[.val (.int p1), .val (.int p2), .val (.int p3), .val (.int (1 : Int32)), .val (.int (1 : Int32)), .val (.int (Int32.ofNat k)), .val (.int (own_ch3 (own_uppb k))), .unset, .unset] [(.int (Int32.ofNat k)), (.ref aL)])) t → Steps p.tables e below _ t := fun t kt => pre24 t (by
      show Steps p.tables e below (T23.setTop (mkF m 37 #[.val (.int p1), .val (.int p2), .val (.int p3), .val (.int (1 : Int32)), .val (.int (1 : Int32)), .val (.int (Int32.ofNat k)), .val (.int (own_ch3 (own_uppb k))), .unset, .unset] [])) _
      refine ldcAgain (s := s) (vm0 := T20.vm) X23 hx hz20 how20 (hw _ (List.mem_of_getElem? (i := 8) rfl)) hL2 (g := (mkF m 37 #[.val (.int p1), .val (.int p2), .val (.int p3), .val (.int (1 : Int32)), .val (.int (1 : Int32)), .val (.int (Int32.ofNat k)), .val (.int (own_ch3 (own_uppb k))), .unset, .unset] [])) rfl (hb hby at_37) _ ?_
      show Steps p.tables e below (T23.setTop (mkF m 39 #[.val (.int p1), .val (.int p2), .val (.int p3), .val (.int (1 : Int32)), .val (.int (1 : Int32)), .val (.int (Int32.ofNat k)), .val (.int (own_ch3 (own_uppb k))), .unset, .unset] [(.ref aL)])) _
      refine XS.iload X23.here hx rfl (hb hby at_39) rfl ?_
      exact kt)
    obtain ⟨cq27, kq27, q27a, q27b, q27c⟩ := isOf hz20 e23 Ea_25
    obtain ⟨_, _, ⟨T27, L27, k27, n27⟩, -, X27, ⟨Lc27, hQ27, l27, y27, z27⟩, st27⟩ := X23.virtualBack hx (y := (⟨"java/lang/String", "charAt", "(I)C"⟩ : MethodName)) (z := (⟨"java/lang/String", "charAt", "(I)C"⟩ : MethodName)) how20 (mvT hz20 (hw _ (List.mem_of_getElem? (i := 16) rfl))) (mvT hz20 (hw _ (List.mem_of_getElem? (i := 17) rfl))) (notFace_of_selects (args := #[]) (mvT hz20 (hw _ (List.mem_of_getElem? (i := 19) rfl)))) (mvT hz20 (hw _ (List.mem_of_getElem? (i := 19) rfl))) (mvT hz20 (hw _ (List.mem_of_getElem? (i := 18) rfl))) (by decide) (backOf (W := 0) (rm3 l Z a0 hw [] aL b_25 k cl_25 own_lowb G1 G3 h20 h0.size Zs20 rG3 (Sta.ext E20 (Sta.ext E4 (Sta.ext E2 O4))) (Sta.ext E20 (Sta.ext E4 (Sta.ext E2 O2))) P5 Ea_25 Fv_25 Fc_25 Ar_25 Sz_25 Hf_25 hk) hz20 (hw _ (List.mem_of_getElem? (i := 20) rfl)) (hw _ (List.mem_of_getElem? (i := 9) rfl)) (by decide) (by decide)) q27a q27c (g := (mkF m 41 #[.val (.int p1), .val (.int p2), .val (.int p3), .val (.int (1 : Int32)), .val (.int (1 : Int32)), .val (.int (Int32.ofNat k)), .val (.int (own_ch3 (own_uppb k))), .unset, .unset] [(.int (Int32.ofNat k)), (.ref aL)])) rfl (by rw [hml]; rfl) (Steps.refl _) (argsL := [(.int (Int32.ofNat k))]) (rest := []) (lenOf pd_5 rfl) rfl (by show 2 * 0 + _ ≤ _; exact Nat.le_of_eq rfl) (hb hby at_41) (fun _ _ => ⟨rfl, e23, (by decide : 6 + 0 ≤ _), (by decide : 324 + 0 ≤ _)⟩)
    dsimp only [Pt.U, Pt.locs, Pt.cells, Pt.slots] at X27 l27 y27 z27 st27 hQ27
    subst l27 y27 z27
    obtain ⟨rfl, N27q, e27⟩ := hQ27
    have N27 := Fr.app N23 N27q
    have pre28 : ∀ t, Steps p.tables e below (T27.setTop (mkF m 48 #[.val (.int p1), .val (.int p2), .val (.int p3), .val (.int (1 : Int32)), .val (.int (1 : Int32)), .val (.int (Int32.ofNat k)), .val (.int (own_ch3 (own_uppb k))), .val (.int (own_ch3 (own_lowb k))), .unset] [(.int (own_ch3 (own_uppb k)))])) t → Steps p.tables e below _ t := fun t kt => pre26 t (by
      show Steps p.tables e below (T23.setTop (mkF m 41 #[.val (.int p1), .val (.int p2), .val (.int p3), .val (.int (1 : Int32)), .val (.int (1 : Int32)), .val (.int (Int32.ofNat k)), .val (.int (own_ch3 (own_uppb k))), .unset, .unset] [(.int (Int32.ofNat k)), (.ref aL)])) _
      refine st27.trans ?_
      show Steps p.tables e below (T27.setTop (mkF m 44 #[.val (.int p1), .val (.int p2), .val (.int p3), .val (.int (1 : Int32)), .val (.int (1 : Int32)), .val (.int (Int32.ofNat k)), .val (.int (own_ch3 (own_uppb k))), .unset, .unset] [(.int (own_ch3 (own_lowb k)))])) _
      refine XS.istore X27.here hx rfl (hb hby at_44) rfl (l' := #[.val (.int p1), .val (.int p2), .val (.int p3), .val (.int (1 : Int32)), .val (.int (1 : Int32)), .val (.int (Int32.ofNat k)), .val (.int (own_ch3 (own_uppb k))), .val (.int (own_ch3 (own_lowb k))), .unset]) rfl ?_
      show Steps p.tables e below (T27.setTop (mkF m 46 #[.val (.int p1), .val (.int p2), .val (.int p3), .val (.int (1 : Int32)), .val (.int (1 : Int32)), .val (.int (Int32.ofNat k)), .val (.int (own_ch3 (own_uppb k))), .val (.int (own_ch3 (own_lowb k))), .unset] [])) _
      refine XS.iload X27.here hx rfl (hb hby at_46) rfl ?_
      exact kt)
    obtain ⟨_, _, ⟨T29, L29, k29, n29⟩, -, X29, ⟨Lc29, hQ29, l29, y29, z29⟩, st29⟩ := Jvm.LawKit.callS X27 hx (y := (⟨"canonsign/SignedHeaders", "lowerCase", "(C)C"⟩ : MethodName)) how20 (mvT hz20 (hw _ (List.mem_of_getElem? (i := 4) rfl))) (mvT hz20 (hw _ (List.mem_of_getElem? (i := 5) rfl))) (mvT hz20 (hw _ (List.mem_of_getElem? (i := 6) rfl))) (mvT hz20 (hw _ (List.mem_of_getElem? (i := 7) rfl))) (by decide) (backOf (W := 0) (rm2 l Z a0 hw [] (own_ch3 (own_uppb k)) h20 h0.size Zs20) hz20 (hw _ (List.mem_of_getElem? (i := 7) rfl)) (hw _ (List.mem_of_getElem? (i := 6) rfl)) (by decide) (by decide)) (g := (mkF m 48 #[.val (.int p1), .val (.int p2), .val (.int p3), .val (.int (1 : Int32)), .val (.int (1 : Int32)), .val (.int (Int32.ofNat k)), .val (.int (own_ch3 (own_uppb k))), .val (.int (own_ch3 (own_lowb k))), .unset] [(.int (own_ch3 (own_uppb k)))])) rfl (by rw [hml]; rfl) (argsL := [(.int (own_ch3 (own_uppb k)))]) (rest := []) (lenOf pd_4 rfl) rfl (by show 2 * 0 + _ ≤ _; exact Nat.le_of_eq rfl) (hb hby at_48) (fun _ _ => ⟨rfl, e27, (by decide : 6 + 0 ≤ _), (by decide : 324 + 0 ≤ _)⟩)
    dsimp only [Pt.U, Pt.locs, Pt.cells, Pt.slots] at X29 l29 y29 z29 st29 hQ29
    subst l29 y29 z29
    obtain ⟨rfl, N29q, e29⟩ := hQ29
    have N29 := Fr.app N27 N29q
    have pre30 : ∀ t, Steps p.tables e below (T29.setTop (mkF m 58 #[.val (.int p1), .val (.int p2), .val (.int p3), .val (.int (1 : Int32)), .val (.int (1 : Int32)), .val (.int (Int32.ofNat k)), .val (.int (own_ch3 (own_uppb k))), .val (.int (own_ch3 (own_lowb k))), .unset] [(.int (own_ch3 (own_lowb k)))])) t → Steps p.tables e below _ t := fun t kt => pre28 t (by
      show Steps p.tables e below (T27.setTop (mkF m 48 #[.val (.int p1), .val (.int p2), .val (.int p3), .val (.int (1 : Int32)), .val (.int (1 : Int32)), .val (.int (Int32.ofNat k)), .val (.int (own_ch3 (own_uppb k))), .val (.int (own_ch3 (own_lowb k))), .unset] [(.int (own_ch3 (own_uppb k)))])) _
      refine st29 _ ?_
      show Steps p.tables e below (T29.setTop (mkF m 51 #[.val (.int p1), .val (.int p2), .val (.int p3), .val (.int (1 : Int32)), .val (.int (1 : Int32)), .val (.int (Int32.ofNat k)), .val (.int (own_ch3 (own_uppb k))), .val (.int (own_ch3 (own_lowb k))), .unset] [(.int (own_low (own_ch3 (own_uppb k))))])) _
      refine XS.iload X29.here hx rfl (hb hby at_51) rfl ?_
      have hc53 : (own_low (own_ch3 (own_uppb k))) = (own_ch3 (own_lowb k)) := (own_chr26 k hk).2.2.1
      show Steps p.tables e below (T29.setTop (mkF m 53 #[.val (.int p1), .val (.int p2), .val (.int p3), .val (.int (1 : Int32)), .val (.int (1 : Int32)), .val (.int (Int32.ofNat k)), .val (.int (own_ch3 (own_uppb k))), .val (.int (own_ch3 (own_lowb k))), .unset] [(.int (own_ch3 (own_lowb k))), (.int (own_low (own_ch3 (own_uppb k))))])) _
      refine XS.icmpNo X29.here hx rfl (hb hby at_53) rfl (teq hc53).2 ?_
      show Steps p.tables e below (T29.setTop (mkF m 56 #[.val (.int p1), .val (.int p2), .val (.int p3), .val (.int (1 : Int32)), .val (.int (1 : Int32)), .val (.int (Int32.ofNat k)), .val (.int (own_ch3 (own_uppb k))), .val (.int (own_ch3 (own_lowb k))), .unset] [])) _
      refine XS.iload X29.here hx rfl (hb hby at_56) rfl ?_
      exact kt)
    obtain ⟨_, _, ⟨T31, L31, k31, n31⟩, -, X31, ⟨Lc31, hQ31, l31, y31, z31⟩, st31⟩ := Jvm.LawKit.callS X29 hx (y := (⟨"canonsign/SignedHeaders", "lowerCase", "(C)C"⟩ : MethodName)) how20 (mvT hz20 (hw _ (List.mem_of_getElem? (i := 4) rfl))) (mvT hz20 (hw _ (List.mem_of_getElem? (i := 5) rfl))) (mvT hz20 (hw _ (List.mem_of_getElem? (i := 6) rfl))) (mvT hz20 (hw _ (List.mem_of_getElem? (i := 7) rfl))) (by decide) (backOf (W := 0) (rm2 l Z a0 hw [] (own_ch3 (own_lowb k)) h20 h0.size Zs20) hz20 (hw _ (List.mem_of_getElem? (i := 7) rfl)) (hw _ (List.mem_of_getElem? (i := 6) rfl)) (by decide) (by decide)) (g := (mkF m 58 #[.val (.int p1), .val (.int p2), .val (.int p3), .val (.int (1 : Int32)), .val (.int (1 : Int32)), .val (.int (Int32.ofNat k)), .val (.int (own_ch3 (own_uppb k))), .val (.int (own_ch3 (own_lowb k))), .unset] [(.int (own_ch3 (own_lowb k)))])) rfl (by rw [hml]; rfl) (argsL := [(.int (own_ch3 (own_lowb k)))]) (rest := []) (lenOf pd_4 rfl) rfl (by show 2 * 0 + _ ≤ _; exact Nat.le_of_eq rfl) (hb hby at_58) (fun _ _ => ⟨rfl, e29, (by decide : 6 + 0 ≤ _), (by decide : 324 + 0 ≤ _)⟩)
    dsimp only [Pt.U, Pt.locs, Pt.cells, Pt.slots] at X31 l31 y31 z31 st31 hQ31
    subst l31 y31 z31
    obtain ⟨rfl, N31q, e31⟩ := hQ31
    have N31 := Fr.app N29 N31q
    obtain ⟨fs, hr, hrun, hended, -, hW, hI, hsame⟩ := X31.leaveW Si20 (by rw [e31]; exact Nat.le_refl _) (v := some (.int (1 : Int32))) (fun h => by rw [Bd.returns] at h; cases h)
    refine ⟨_, _, pre30 _ ?_, hrun, hended, _, _, rfl, ?_, ⟨_, rfl⟩, hW, hI, hsame.mono (by decide) (by decide)⟩
    · show Steps p.tables e below (T29.setTop (mkF m 58 #[.val (.int p1), .val (.int p2), .val (.int p3), .val (.int (1 : Int32)), .val (.int (1 : Int32)), .val (.int (Int32.ofNat k)), .val (.int (own_ch3 (own_uppb k))), .val (.int (own_ch3 (own_lowb k))), .unset] [(.int (own_ch3 (own_lowb k)))])) _
      refine st31 _ ?_
      show Steps p.tables e below (T31.setTop (mkF m 61 #[.val (.int p1), .val (.int p2), .val (.int p3), .val (.int (1 : Int32)), .val (.int (1 : Int32)), .val (.int (Int32.ofNat k)), .val (.int (own_ch3 (own_uppb k))), .val (.int (own_ch3 (own_lowb k))), .unset] [(.int (own_low (own_ch3 (own_lowb k))))])) _
      refine XS.iload X31.here hx rfl (hb hby at_61) rfl ?_
      have hc63 : (own_low (own_ch3 (own_lowb k))) = (own_ch3 (own_lowb k)) := (own_chr26 k hk).2.2.2
      show Steps p.tables e below (T31.setTop (mkF m 63 #[.val (.int p1), .val (.int p2), .val (.int p3), .val (.int (1 : Int32)), .val (.int (1 : Int32)), .val (.int (Int32.ofNat k)), .val (.int (own_ch3 (own_uppb k))), .val (.int (own_ch3 (own_lowb k))), .unset] [(.int (own_ch3 (own_lowb k))), (.int (own_low (own_ch3 (own_lowb k))))])) _
      refine XS.icmpNo X31.here hx rfl (hb hby at_63) rfl (teq hc63).2 ?_
      show Steps p.tables e below (T31.setTop (mkF m 66 #[.val (.int p1), .val (.int p2), .val (.int p3), .val (.int (1 : Int32)), .val (.int (1 : Int32)), .val (.int (Int32.ofNat k)), .val (.int (own_ch3 (own_uppb k))), .val (.int (own_ch3 (own_lowb k))), .unset] [])) _
      refine XS.iconst X31.here hx rfl (hb hby at_66) ?_
      show Steps p.tables e below (T31.setTop (mkF m 67 #[.val (.int p1), .val (.int p2), .val (.int p3), .val (.int (1 : Int32)), .val (.int (1 : Int32)), .val (.int (Int32.ofNat k)), .val (.int (own_ch3 (own_uppb k))), .val (.int (own_ch3 (own_lowb k))), .unset] [(.int (1 : Int32))])) _
      refine XS.goto X31.here hx rfl (pc0 := 67) (pc' := 71) rfl (hb hby at_67) (by decide) (by decide) ?_
      show Steps p.tables e below (T31.setTop (mkF m 71 #[.val (.int p1), .val (.int p2), .val (.int p3), .val (.int (1 : Int32)), .val (.int (1 : Int32)), .val (.int (Int32.ofNat k)), .val (.int (own_ch3 (own_uppb k))), .val (.int (own_ch3 (own_lowb k))), .unset] [(.int (1 : Int32))])) _
      refine XS.istore X31.here hx rfl (hb hby at_71) rfl (l' := #[.val (.int p1), .val (.int p2), .val (.int p3), .val (.int (1 : Int32)), .val (.int (1 : Int32)), .val (.int (Int32.ofNat k)), .val (.int (own_ch3 (own_uppb k))), .val (.int (own_ch3 (own_lowb k))), .val (.int (1 : Int32))]) rfl ?_
      show Steps p.tables e below (T31.setTop (mkF m 73 #[.val (.int p1), .val (.int p2), .val (.int p3), .val (.int (1 : Int32)), .val (.int (1 : Int32)), .val (.int (Int32.ofNat k)), .val (.int (own_ch3 (own_uppb k))), .val (.int (own_ch3 (own_lowb k))), .val (.int (1 : Int32))] [])) _
      refine XS.iloadN X31.here hx rfl (hb hby at_73) rfl ?_
      have hc74 : ¬ ((1 : Int32) = (0 : Int32)) := by decide
      show Steps p.tables e below (T31.setTop (mkF m 74 #[.val (.int p1), .val (.int p2), .val (.int p3), .val (.int (1 : Int32)), .val (.int (1 : Int32)), .val (.int (Int32.ofNat k)), .val (.int (own_ch3 (own_uppb k))), .val (.int (own_ch3 (own_lowb k))), .val (.int (1 : Int32))] [(.int (1 : Int32))])) _
      refine XS.ifNo X31.here hx rfl (hb hby at_74) rfl ((if0 _ _).trans (feq hc74).1) ?_
      show Steps p.tables e below (T31.setTop (mkF m 77 #[.val (.int p1), .val (.int p2), .val (.int p3), .val (.int (1 : Int32)), .val (.int (1 : Int32)), .val (.int (Int32.ofNat k)), .val (.int (own_ch3 (own_uppb k))), .val (.int (own_ch3 (own_lowb k))), .val (.int (1 : Int32))] [])) _
      refine XS.iload X31.here hx rfl (hb hby at_77) rfl ?_
      have hc79 : ¬ ((1 : Int32) = (0 : Int32)) := by decide
      show Steps p.tables e below (T31.setTop (mkF m 79 #[.val (.int p1), .val (.int p2), .val (.int p3), .val (.int (1 : Int32)), .val (.int (1 : Int32)), .val (.int (Int32.ofNat k)), .val (.int (own_ch3 (own_uppb k))), .val (.int (own_ch3 (own_lowb k))), .val (.int (1 : Int32))] [(.int (1 : Int32))])) _
      refine XS.ifNo X31.here hx rfl (hb hby at_79) rfl ((if0 _ _).trans (feq hc79).1) ?_
      show Steps p.tables e below (T31.setTop (mkF m 82 #[.val (.int p1), .val (.int p2), .val (.int p3), .val (.int (1 : Int32)), .val (.int (1 : Int32)), .val (.int (Int32.ofNat k)), .val (.int (own_ch3 (own_uppb k))), .val (.int (own_ch3 (own_lowb k))), .val (.int (1 : Int32))] [])) _
      refine XS.iload X31.here hx rfl (hb hby at_82) rfl ?_
      have hc84 : ¬ ((1 : Int32) = (0 : Int32)) := by decide
      show Steps p.tables e below (T31.setTop (mkF m 84 #[.val (.int p1), .val (.int p2), .val (.int p3), .val (.int (1 : Int32)), .val (.int (1 : Int32)), .val (.int (Int32.ofNat k)), .val (.int (own_ch3 (own_uppb k))), .val (.int (own_ch3 (own_lowb k))), .val (.int (1 : Int32))] [(.int (1 : Int32))])) _
      refine XS.ifNo X31.here hx rfl (hb hby at_84) rfl ((if0 _ _).trans (feq hc84).1) ?_
      show Steps p.tables e below (T31.setTop (mkF m 87 #[.val (.int p1), .val (.int p2), .val (.int p3), .val (.int (1 : Int32)), .val (.int (1 : Int32)), .val (.int (Int32.ofNat k)), .val (.int (own_ch3 (own_uppb k))), .val (.int (own_ch3 (own_lowb k))), .val (.int (1 : Int32))] [])) _
      refine XS.iconst X31.here hx rfl (hb hby at_87) ?_
      show Steps p.tables e below (T31.setTop (mkF m 88 #[.val (.int p1), .val (.int p2), .val (.int p3), .val (.int (1 : Int32)), .val (.int (1 : Int32)), .val (.int (Int32.ofNat k)), .val (.int (own_ch3 (own_uppb k))), .val (.int (own_ch3 (own_lowb k))), .val (.int (1 : Int32))] [(.int (1 : Int32))])) _
      refine XS.goto X31.here hx rfl (pc0 := 88) (pc' := 92) rfl (hb hby at_88) (by decide) (by decide) ?_
      show Steps p.tables e below (T31.setTop (mkF m 92 #[.val (.int p1), .val (.int p2), .val (.int p3), .val (.int (1 : Int32)), .val (.int (1 : Int32)), .val (.int (Int32.ofNat k)), .val (.int (own_ch3 (own_uppb k))), .val (.int (own_ch3 (own_lowb k))), .val (.int (1 : Int32))] [(.int (1 : Int32))])) _
      exact retN X31 hx (t := .boolean) Bd.returns (by simp) (hb hby at_92) hr
    · exact ⟨rfl, own_fr_mono Z0 N31⟩

theorem own_notzero {args : Array Value} {s : State} {t : Term} {G : Int32} (e : t.eval args s none [] s = some (.int G)) (h : (Cond.not (Cond.eq t (Term.int 0))).before args s = true) : ¬ (G = (0 : Int32)) := by
  intro q
  subst q
  have h2 := Cond.before_iff.mp h
  have h3 := Cond.eq_ints (args := args) (first := s) (o := none) (idx := []) (s := s) e (Term.int_eval (0 : Int32))
  simp [Cond.value, e, Term.int_eval] at h2
set_option maxRecDepth 65536 in
set_option maxHeartbeats 40000000 in
theorem comes_1 {Post : Tables → Env → Array Value → State → Outcome → State → Prop} (hpost : ∀ tb e args s v u, (limb_1_1.after args s (.returned v) u = true ∧ limb_1_2.after args s (.returned v) u = true ∧ True) → Jvm.D.FramedW s (.returned v) u (Jvm.fieldLocs frame_1_writes args s ++ Jvm.arrayLocs frame_1_arrays args s ++ Jvm.staticLocs frame_1_statics s) 8 2112 → Post tb e args s (.returned v) u) :
    ArmFor flags0 classFile x code maxLocals ret World_1 tables_1 room_1 Calls_1 rest_1 Pre_1 Post := by
  intro l hfl _ _ p e ha hc hk s m args below hf hA hF happ hP
  obtain ⟨hcalls, hrest, hpre⟩ := hP
  obtain ⟨-, -, -, hnamed, -, -, -, hat⟩ := (Spec.applies_iff hf).mp happ
  obtain ⟨hg, hn⟩ := and_e (Cond.before_iff.mp (show (Jvm.Cond.and given_1 narrow_1).before args s = true from hpre))
  obtain ⟨gc, gr0⟩ := and_e hg
  obtain ⟨ga0, gr1⟩ := and_e gr0
  obtain ⟨ga1, gr2⟩ := and_e gr1
  obtain ⟨w0, w1, w2, rfl⟩ : ∃ w0 w1 w2 : Value, args = #[w0, w1, w2] := by
    have hs : args.size = 3 := by simpa [Cond.value, given_1] using gc
    obtain ⟨L⟩ := args
    match L, hs with
    | [w0, w1, w2], _ => exact ⟨w0, w1, w2, rfl⟩
  have hw := fun d (hd : d ∈ tables_1) => atoms_spec (ws := Jvm.Cond.code x code maxLocals ret :: tables_1) hat d (List.mem_cons_of_mem _ hd)
  have hfit : Fit s := fun {y c} hc i hi => by
    obtain ⟨ha, rfl⟩ := Array.getElem?_eq_some_iff.mp hc
    have q := List.all_eq_true.mp ((Array.all_eq_true_iff_forall_mem.mp hF) _ (Array.getElem_mem ha)) i (List.mem_range.mpr hi)
    simpa [Array.getElem?_eq_getElem hi] using q
  obtain ⟨hsets, hown0⟩ := atoms_of _ (rest_1_c_eq ▸ (show rest_1_c.before _ s = true from hrest))
  have hr0 := Cond.before_iff.mp hown0
  obtain ⟨i0, ei0⟩ := is_v ga0
  obtain rfl : w0 = (.int i0) := Option.some.inj ei0
  obtain ⟨i1, ei1⟩ := is_v ga1
  obtain rfl : w1 = (.int i1) := Option.some.inj ei1
  obtain ⟨i2, ei2⟩ := is_v gr2
  obtain rfl : w2 = (.int i2) := Option.some.inj ei2
  obtain ⟨G1, eG1⟩ := is_v (Cond.before_iff.mp (hsets _ (List.mem_of_getElem? (i := 1) rfl)))
  have O2 : Sta s s.heap "java/lang/String" "COMPACT_STRINGS" "Z" (.int G1) := Sta.start eG1 (Or.inl (hsets _ (List.mem_of_getElem? (i := 0) rfl)))
  have hcw := hsets _ (List.mem_of_getElem? (i := 2) rfl)
  have P5 : ¬ (G1 = (0 : Int32)) := own_notzero eG1 hcw
  obtain ⟨G3, eG3, rG3⟩ := Cond.isRef_spec (show (Cond.isRef (Jvm.Term.static "jdk/internal/util/Preconditions" "SIOOBE_FORMATTER" "Ljava/util/function/BiFunction;")).holds _ s none s [] = true from hsets _ (List.mem_of_getElem? (i := 8) rfl))
  have O4 : Sta s s.heap "jdk/internal/util/Preconditions" "SIOOBE_FORMATTER" "Ljava/util/function/BiFunction;" G3 := Sta.start eG3 (Or.inl (hsets _ (List.mem_of_getElem? (i := 7) rfl)))
  have hh14 : Jvm.Lit.constHeld s "canonsign/SignedHeadersLowerCasePinLaw" 14 := hcalls.1 _ (List.mem_of_getElem? (i := 0) rfl)
  have hh22 : Jvm.Lit.constHeld s "canonsign/SignedHeadersLowerCasePinLaw" 22 := hcalls.1 _ (List.mem_of_getElem? (i := 1) rfl)
  obtain ⟨n, o, h1, h2, h3, _, L, rfl, ⟨rfl, N⟩, hq⟩ := rm0 l s _ hw tables_1 i0 i1 i2 G1 G3 s.heap s.heap.size (Nat.le_refl _) O4 O2 P5 rG3 (fun _ _ q => q) hh22 hcw hh14 p e ha hc hk s m _ below hf ((Spec.applies_iff_loose hf).mp happ).1 ⟨rfl, State.Warmed39.refl s, rfl, Or.inl IB.start⟩ trivial
  refine ⟨n, _, h1, h2, h3, hpost _ _ _ _ _ _ ⟨Cond.after_iff.mpr rfl, Cond.after_iff.mpr (eq_i res_at (Term.int_eval (1)) rfl), trivial⟩ ⟨hq.1, hq.2.1, hq.2.2.1, (hq.2.2.2.sift fun y hy => Or.inr (N y hy)).mono (by decide) (by decide)⟩⟩
theorem main_1_1 : Claimed_1_1 := comes_1 fun _ _ _ _ _ _ h hF => ⟨h.1, hF⟩
theorem main_1_2 : Claimed_1_2 := comes_1 fun _ _ _ _ _ _ h hF => ⟨h.2.1, hF⟩
end Jvm.Pilot.@@N@@
namespace Jvm.Pilot.@@N@@
open Jvm Jvm.ClassFile Sem Op Lib Jvm.Free Jvm.Stand Jvm.Pilot.@@N@@.Jvm.D
/-! MADE BY PROGRAM (witnessworld.py) out of the Statement's table words and the real class files: 17 classes; the members and pool entries that the words name. The judged class is class 1, her method 1. -/
namespace start1
open Jvm.ClassFile
def u (s : String) : CpInfo := .utf8 (stringToUtf16 s)
/-- a pool by its gaps: so many unusable entries, then the entry; so many at the end -/
def gap : Nat → List CpInfo → List CpInfo
  | 0, r => r
  | n + 1, r => .unusable :: gap n r
def poolList (es : List (Nat × CpInfo)) (last : Nat) : List CpInfo := es.foldr (fun e r => gap e.1 (e.2 :: r)) (gap last [])
def pool (es : List (Nat × CpInfo)) (last : Nat) : Array CpInfo := ⟨poolList es last⟩
def fileOf (pool : Array CpInfo) (this : Nat) (attrs : Array Attribute := #[]) (ms : Array MethodInfo := #[]) (fl : Nat := 33) (sup : Nat := 0) (ifs : Array Nat := #[]) (fds : Array FieldInfo := #[]) : ClassFile where
  minorVersion := 0
  majorVersion := 65
  constantPool := pool
  accessFlags := fl
  thisClass := this
  superClass := sup
  interfaces := ifs
  fields := fds
  methods := ms
  attributes := attrs
def plain (name : String) (sup : Option ClassId) : Class where
  name := name
  kind := .ordinary
  loader := none
  accessFlags := 33
  super := sup
  interfaces := #[]
  cf := none
  fields := #[]
  methods := #[]
  instanceTypes := #[]
  staticTypes := #[]
  resolved := #[]
  callSites := []
  init := .initialized
  statics := none
  mirror := none

def pool0 : Array CpInfo := pool [(5, u "<init>"), (0, u "()V"), (1, .class_ 10), (1, u "java/lang/Object")] 113

def k0m0 : Method := { name := "<init>", desc := "()V", sig := { parameters := [], returnType := none }, accessFlags := 1, code := none }
/-- java/lang/Object -/
def k0 : Class := { plain "java/lang/Object" none with
  accessFlags := 33
  interfaces := #[]
  cf := some (fileOf pool0 8 #[] #[{ accessFlags := 1, nameIndex := 5, descriptorIndex := 6, attributes := #[] }] 33 0 #[] #[])
  fields := #[]
  methods := #[k0m0]
  instanceTypes := #[]
  staticTypes := #[]
  resolved := Array.replicate 124 none
  statics := none }

def pool1 : Array CpInfo := pool [(2, .class_ 4), (1, u "java/lang/Object"), (0, u "<init>"), (0, u "()V"), (0, .methodref 8 9), (0, .class_ 10), (0, .nameAndType 11 12), (0, u "canonsign/SignedHeadersLowerCasePinLaw"), (0, u "check"), (0, u "(C)Z"), (0, .integer 2147483647), (0, .string 15), (0, u "ABCDEFGHIJKLMNOPQRSTUVWXYZ"), (0, .methodref 17 18), (0, .class_ 19), (0, .nameAndType 20 21), (0, u "java/lang/String"), (0, u "charAt"), (0, u "(I)C"), (0, .string 23), (0, u "abcdefghijklmnopqrstuvwxyz"), (0, .methodref 25 26), (0, .class_ 27), (0, .nameAndType 28 29), (0, u "canonsign/SignedHeaders"), (0, u "lowerCase"), (0, u "(C)C"), (0, u "UPPER"), (0, u "Ljava/lang/String;"), (1, u "LOWER"), (2, u "law"), (0, u "(III)Z")] 3

def k1m0 : Method := { name := "<init>", desc := "()V", sig := { parameters := [], returnType := none }, accessFlags := 1, code := none }
def k1c1 : Code := { maxStack := 3, maxLocals := 9, code := code, exceptionTable := #[], attributes := #[] }
def k1m1 : Method := { name := "law", desc := "(III)Z", sig := { parameters := [.int, .int, .int], returnType := some .boolean }, accessFlags := 9, code := some k1c1 }
def k1c2 : Code := { maxStack := 2, maxLocals := 4, code := method_3_code, exceptionTable := #[], attributes := #[] }
def k1m2 : Method := { name := "check", desc := "(C)Z", sig := { parameters := [.char], returnType := some .boolean }, accessFlags := 10, code := some k1c2 }
/-- canonsign/SignedHeadersLowerCasePinLaw -/
def k1 : Class := { plain "canonsign/SignedHeadersLowerCasePinLaw" (some 0) with
  accessFlags := 49
  interfaces := #[]
  cf := some (fileOf pool1 8 #[] #[{ accessFlags := 1, nameIndex := 5, descriptorIndex := 6, attributes := #[] }, { accessFlags := 9, nameIndex := 36, descriptorIndex := 37, attributes := #[] }, { accessFlags := 10, nameIndex := 11, descriptorIndex := 12, attributes := #[] }] 49 2 #[] #[{ accessFlags := 26, nameIndex := 30, descriptorIndex := 31, attributes := #[] }, { accessFlags := 26, nameIndex := 33, descriptorIndex := 31, attributes := #[] }])
  fields := #[{ name := "UPPER", type := (.object "java/lang/String"), accessFlags := 26, slot := 0, constantValue := 0 }, { name := "LOWER", type := (.object "java/lang/String"), accessFlags := 26, slot := 1, constantValue := 0 }]
  methods := #[k1m0, k1m1, k1m2]
  instanceTypes := #[]
  staticTypes := #[(.object "java/lang/String"), (.object "java/lang/String")]
  resolved := Array.replicate 41 none
  statics := none }

def pool2 : Array CpInfo := pool [(2, .class_ 4), (1, u "java/lang/Object"), (5, .class_ 12), (1, u "canonsign/SignedHeaders"), (0, u "names"), (0, u "[[B"), (4, u "values"), (0, u "[Ljava/lang/String;"), (4, u "size"), (22, u "lowerCase"), (0, u "(C)C"), (13, u "lastListed"), (0, u "Lcanonsign/SignedHeaders$Listed;"), (1, .class_ 68), (1, u "canonsign/SignedHeaders$Listed"), (101, u "I"), (83, u "MOST_SORTED_BY_INSERTION"), (2, u "MOST_NAMES_KEPT")] 65

def k2c0 : Code := { maxStack := 2, maxLocals := 1, code := prog_13_method_8_code, exceptionTable := #[], attributes := #[] }
def k2m0 : Method := { name := "lowerCase", desc := "(C)C", sig := { parameters := [.char], returnType := some .char }, accessFlags := 8, code := some k2c0 }
/-- canonsign/SignedHeaders -/
def k2 : Class := { plain "canonsign/SignedHeaders" (some 0) with
  accessFlags := 48
  interfaces := #[]
  cf := some (fileOf pool2 10 #[.nestMembers #[66]] #[{ accessFlags := 8, nameIndex := 48, descriptorIndex := 49, attributes := #[] }] 48 2 #[] #[{ accessFlags := 26, nameIndex := 254, descriptorIndex := 170, attributes := #[] }, { accessFlags := 26, nameIndex := 257, descriptorIndex := 170, attributes := #[] }, { accessFlags := 74, nameIndex := 63, descriptorIndex := 64, attributes := #[] }, { accessFlags := 2, nameIndex := 13, descriptorIndex := 14, attributes := #[] }, { accessFlags := 2, nameIndex := 19, descriptorIndex := 20, attributes := #[] }, { accessFlags := 2, nameIndex := 25, descriptorIndex := 170, attributes := #[] }])
  fields := #[{ name := "MOST_SORTED_BY_INSERTION", type := .int, accessFlags := 26, slot := 0, constantValue := 0 }, { name := "MOST_NAMES_KEPT", type := .int, accessFlags := 26, slot := 1, constantValue := 0 }, { name := "lastListed", type := (.object "canonsign/SignedHeaders$Listed"), accessFlags := 74, slot := 2, constantValue := 0 }, { name := "names", type := (.array (.array .byte)), accessFlags := 2, slot := 0, constantValue := 0 }, { name := "values", type := (.array (.object "java/lang/String")), accessFlags := 2, slot := 1, constantValue := 0 }, { name := "size", type := .int, accessFlags := 2, slot := 2, constantValue := 0 }]
  methods := #[k2m0]
  instanceTypes := #[(.array (.array .byte)), (.array (.object "java/lang/String")), .int]
  staticTypes := #[.int, .int, (.object "canonsign/SignedHeaders$Listed")]
  resolved := Array.replicate 323 none
  statics := none }

def pool3 : Array CpInfo := pool [(1, .class_ 2), (0, u "java/io/Serializable"), (0, .class_ 4), (0, u "java/lang/Object")] 2

/-- java/io/Serializable -/
def k3 : Class := { plain "java/io/Serializable" (some 0) with
  accessFlags := 1537
  interfaces := #[]
  cf := some (fileOf pool3 1 #[] #[] 1537 3 #[] #[])
  fields := #[]
  methods := #[]
  instanceTypes := #[]
  staticTypes := #[]
  resolved := Array.replicate 7 none
  statics := none }

def pool4 : Array CpInfo := pool [(1, .class_ 2), (0, u "java/lang/Comparable"), (0, .class_ 4), (0, u "java/lang/Object")] 7

/-- java/lang/Comparable -/
def k4 : Class := { plain "java/lang/Comparable" (some 0) with
  accessFlags := 1537
  interfaces := #[]
  cf := some (fileOf pool4 1 #[] #[] 1537 3 #[] #[])
  fields := #[]
  methods := #[]
  instanceTypes := #[]
  staticTypes := #[]
  resolved := Array.replicate 12 none
  statics := none }

def pool5 : Array CpInfo := pool [(2, .class_ 4), (1, u "java/lang/CharSequence"), (42, .class_ 48), (0, u "java/lang/CharSequence$1CodePointIterator"), (10, .class_ 60), (0, u "java/lang/CharSequence$1CharIterator"), (5, .class_ 67), (0, u "java/lang/Object")] 63

/-- java/lang/CharSequence -/
def k5 : Class := { plain "java/lang/CharSequence" (some 0) with
  accessFlags := 1537
  interfaces := #[]
  cf := some (fileOf pool5 2 #[.nestMembers #[47, 59]] #[] 1537 66 #[] #[])
  fields := #[]
  methods := #[]
  instanceTypes := #[]
  staticTypes := #[]
  resolved := Array.replicate 131 none
  statics := none }

def pool6 : Array CpInfo := pool [(1, .class_ 2), (0, u "java/lang/constant/Constable"), (0, .class_ 4), (0, u "java/lang/Object")] 6

/-- java/lang/constant/Constable -/
def k6 : Class := { plain "java/lang/constant/Constable" (some 0) with
  accessFlags := 1537
  interfaces := #[]
  cf := some (fileOf pool6 1 #[] #[] 1537 3 #[] #[])
  fields := #[]
  methods := #[]
  instanceTypes := #[]
  staticTypes := #[]
  resolved := Array.replicate 11 none
  statics := none }

def pool7 : Array CpInfo := pool [(1, .class_ 2), (0, u "java/lang/constant/ConstantDesc"), (0, .class_ 4), (0, u "java/lang/Object")] 32

/-- java/lang/constant/ConstantDesc -/
def k7 : Class := { plain "java/lang/constant/ConstantDesc" (some 0) with
  accessFlags := 1537
  interfaces := #[]
  cf := some (fileOf pool7 1 #[] #[] 1537 3 #[] #[])
  fields := #[]
  methods := #[]
  instanceTypes := #[]
  staticTypes := #[]
  resolved := Array.replicate 37 none
  statics := none }

def pool8 : Array CpInfo := pool [(2, .class_ 4), (1, u "java/lang/Object"), (0, u "<init>"), (0, u "()V"), (2, .fieldref 10 11), (0, .class_ 12), (0, .nameAndType 13 14), (0, u "java/lang/String"), (0, u "value"), (0, u "[B"), (0, .fieldref 10 16), (0, .nameAndType 17 18), (0, u "coder"), (0, u "B"), (2, u "hash"), (0, u "I"), (2, u "hashIsZero"), (0, u "Z"), (11, .fieldref 10 39), (0, .nameAndType 40 26), (0, u "COMPACT_STRINGS"), (66, .class_ 109), (1, u "java/lang/StringLatin1"), (32, u "()Z"), (220, u "([BI)C"), (27, u "(II)V"), (35, u "(I)C"), (64, .methodref 10 493), (0, .nameAndType 494 142), (0, u "isLatin1"), (0, .methodref 107 496), (0, .nameAndType 497 363), (0, u "charAt"), (3, u "checkIndex"), (73, .class_ 576), (0, u "java/lang/CharSequence"), (22, u "CASE_INSENSITIVE_ORDER"), (0, u "Ljava/util/Comparator;"), (452, .fieldref 1054 1055), (0, .class_ 1056), (0, .nameAndType 1057 1058), (0, u "jdk/internal/util/Preconditions"), (0, u "SIOOBE_FORMATTER"), (0, u "Ljava/util/function/BiFunction;"), (0, .methodref 1054 1060), (0, .nameAndType 501 1061), (0, u "(IILjava/util/function/BiFunction;)I"), (39, u "serialPersistentFields"), (0, u "[Ljava/io/ObjectStreamField;"), (0, .class_ 1104), (0, u "java/lang/String$CaseInsensitiveComparator"), (1, .class_ 1107), (0, u "java/io/Serializable"), (0, .class_ 1109), (0, u "java/lang/Comparable"), (0, .class_ 1111), (0, u "java/lang/constant/Constable"), (0, .class_ 1113), (0, u "java/lang/constant/ConstantDesc"), (2, u "serialVersionUID"), (0, u "J"), (3, u "REPL"), (0, u "C"), (2, u "LATIN1"), (1, u "UTF16")] 323

def k8m0 : Method := { name := "<init>", desc := "()V", sig := { parameters := [], returnType := none }, accessFlags := 1, code := none }
def k8c1 : Code := { maxStack := 2, maxLocals := 2, code := jdk_42_method_56_code, exceptionTable := #[], attributes := #[] }
def k8m1 : Method := { name := "charAt", desc := "(I)C", sig := { parameters := [.int], returnType := some .char }, accessFlags := 1, code := some k8c1 }
def k8c2 : Code := { maxStack := 1, maxLocals := 1, code := jdk_42_method_154_code, exceptionTable := #[], attributes := #[] }
def k8m2 : Method := { name := "isLatin1", desc := "()Z", sig := { parameters := [], returnType := some .boolean }, accessFlags := 0, code := some k8c2 }
def k8c3 : Code := { maxStack := 3, maxLocals := 2, code := jdk_42_method_155_code, exceptionTable := #[], attributes := #[] }
def k8m3 : Method := { name := "checkIndex", desc := "(II)V", sig := { parameters := [.int, .int], returnType := none }, accessFlags := 8, code := some k8c3 }
/-- java/lang/String -/
def k8 : Class := { plain "java/lang/String" (some 0) with
  accessFlags := 49
  interfaces := #[3, 4, 5, 6, 7]
  cf := some (fileOf pool8 10 #[.nestMembers #[1103]] #[{ accessFlags := 1, nameIndex := 5, descriptorIndex := 6, attributes := #[] }, { accessFlags := 1, nameIndex := 497, descriptorIndex := 427, attributes := #[] }, { accessFlags := 0, nameIndex := 494, descriptorIndex := 142, attributes := #[] }, { accessFlags := 8, nameIndex := 501, descriptorIndex := 391, attributes := #[] }] 49 2 #[1106, 1108, 575, 1110, 1112] #[{ accessFlags := 18, nameIndex := 13, descriptorIndex := 14, attributes := #[] }, { accessFlags := 18, nameIndex := 17, descriptorIndex := 18, attributes := #[] }, { accessFlags := 2, nameIndex := 21, descriptorIndex := 22, attributes := #[] }, { accessFlags := 2, nameIndex := 25, descriptorIndex := 26, attributes := #[] }, { accessFlags := 26, nameIndex := 1116, descriptorIndex := 1117, attributes := #[] }, { accessFlags := 24, nameIndex := 40, descriptorIndex := 26, attributes := #[] }, { accessFlags := 26, nameIndex := 1101, descriptorIndex := 1102, attributes := #[] }, { accessFlags := 26, nameIndex := 1121, descriptorIndex := 1122, attributes := #[] }, { accessFlags := 25, nameIndex := 599, descriptorIndex := 600, attributes := #[] }, { accessFlags := 24, nameIndex := 1125, descriptorIndex := 18, attributes := #[] }, { accessFlags := 24, nameIndex := 1127, descriptorIndex := 18, attributes := #[] }])
  fields := #[{ name := "value", type := (.array .byte), accessFlags := 18, slot := 0, constantValue := 0 }, { name := "coder", type := .byte, accessFlags := 18, slot := 1, constantValue := 0 }, { name := "hash", type := .int, accessFlags := 2, slot := 2, constantValue := 0 }, { name := "hashIsZero", type := .boolean, accessFlags := 2, slot := 3, constantValue := 0 }, { name := "serialVersionUID", type := .long, accessFlags := 26, slot := 0, constantValue := 0 }, { name := "COMPACT_STRINGS", type := .boolean, accessFlags := 24, slot := 1, constantValue := 0 }, { name := "serialPersistentFields", type := (.array (.object "java/io/ObjectStreamField")), accessFlags := 26, slot := 2, constantValue := 0 }, { name := "REPL", type := .char, accessFlags := 26, slot := 3, constantValue := 0 }, { name := "CASE_INSENSITIVE_ORDER", type := (.object "java/util/Comparator"), accessFlags := 25, slot := 4, constantValue := 0 }, { name := "LATIN1", type := .byte, accessFlags := 24, slot := 5, constantValue := 0 }, { name := "UTF16", type := .byte, accessFlags := 24, slot := 6, constantValue := 0 }]
  methods := #[k8m0, k8m1, k8m2, k8m3]
  instanceTypes := #[(.array .byte), .byte, .int, .boolean]
  staticTypes := #[.long, .boolean, (.array (.object "java/io/ObjectStreamField")), .char, (.object "java/util/Comparator"), .byte, .byte]
  resolved := Array.replicate 1451 none
  statics := some 0 }

def pool9 : Array CpInfo := pool [(1, .class_ 2), (0, u "java/lang/String"), (1, .class_ 6), (1, u "java/lang/Object"), (0, u "<init>"), (0, u "()V"), (0, .methodref 1 10), (0, .nameAndType 11 12), (0, u "checkIndex"), (0, u "(II)V"), (1, .class_ 16), (1, u "java/lang/StringLatin1"), (36, u "([BI)C"), (67, u "$assertionsDisabled"), (0, u "Z"), (98, .class_ 223), (1, u "java/lang/StringLatin1$LinesSpliterator"), (28, u "charAt"), (137, .class_ 391), (0, u "java/lang/StringLatin1$CharsSpliterator")] 3

def k9m0 : Method := { name := "<init>", desc := "()V", sig := { parameters := [], returnType := none }, accessFlags := 0, code := none }
def k9c1 : Code := { maxStack := 2, maxLocals := 2, code := jdk_43_method_2_code, exceptionTable := #[], attributes := #[] }
def k9m1 : Method := { name := "charAt", desc := "([BI)C", sig := { parameters := [(.array .byte), .int], returnType := some .char }, accessFlags := 9, code := some k9c1 }
/-- java/lang/StringLatin1 -/
def k9 : Class := { plain "java/lang/StringLatin1" (some 0) with
  accessFlags := 48
  interfaces := #[]
  cf := some (fileOf pool9 14 #[.nestMembers #[390, 221]] #[{ accessFlags := 0, nameIndex := 7, descriptorIndex := 8, attributes := #[] }, { accessFlags := 9, nameIndex := 252, descriptorIndex := 53, attributes := #[] }] 48 4 #[] #[{ accessFlags := 4120, nameIndex := 121, descriptorIndex := 122, attributes := #[] }])
  fields := #[{ name := "$assertionsDisabled", type := .boolean, accessFlags := 4120, slot := 0, constantValue := 0 }]
  methods := #[k9m0, k9m1]
  instanceTypes := #[]
  staticTypes := #[.boolean]
  resolved := Array.replicate 395 none
  statics := none }

def pool10 : Array CpInfo := pool [(2, .class_ 4), (1, u "java/lang/Object"), (0, u "<init>"), (0, u "()V"), (17, .class_ 26), (1, u "jdk/internal/util/Preconditions"), (6, u "checkIndex"), (21, .class_ 56), (0, u "jdk/internal/util/Preconditions$4"), (57, .class_ 115), (0, u "jdk/internal/util/Preconditions$1"), (7, u "SIOOBE_FORMATTER"), (0, u "Ljava/util/function/BiFunction;"), (0, .class_ 126), (0, u "jdk/internal/util/Preconditions$2"), (3, u "AIOOBE_FORMATTER"), (0, .class_ 132), (0, u "jdk/internal/util/Preconditions$3"), (3, u "IOOBE_FORMATTER"), (41, u "(IILjava/util/function/BiFunction;)I")] 15

def k10m0 : Method := { name := "<init>", desc := "()V", sig := { parameters := [], returnType := none }, accessFlags := 1, code := none }
def k10c1 : Code := { maxStack := 3, maxLocals := 3, code := jdk_41_method_11_code, exceptionTable := #[], attributes := #[] }
def k10m1 : Method := { name := "checkIndex", desc := "(IILjava/util/function/BiFunction;)I", sig := { parameters := [.int, .int, (.object "java/util/function/BiFunction")], returnType := some .int }, accessFlags := 9, code := some k10c1 }
/-- jdk/internal/util/Preconditions -/
def k10 : Class := { plain "jdk/internal/util/Preconditions" (some 0) with
  accessFlags := 33
  interfaces := #[]
  cf := some (fileOf pool10 24 #[.nestMembers #[55, 131, 125, 114]] #[{ accessFlags := 1, nameIndex := 5, descriptorIndex := 6, attributes := #[] }, { accessFlags := 9, nameIndex := 33, descriptorIndex := 178, attributes := #[] }] 33 2 #[] #[{ accessFlags := 25, nameIndex := 123, descriptorIndex := 124, attributes := #[] }, { accessFlags := 25, nameIndex := 130, descriptorIndex := 124, attributes := #[] }, { accessFlags := 25, nameIndex := 136, descriptorIndex := 124, attributes := #[] }])
  fields := #[{ name := "SIOOBE_FORMATTER", type := (.object "java/util/function/BiFunction"), accessFlags := 25, slot := 0, constantValue := 0 }, { name := "AIOOBE_FORMATTER", type := (.object "java/util/function/BiFunction"), accessFlags := 25, slot := 1, constantValue := 0 }, { name := "IOOBE_FORMATTER", type := (.object "java/util/function/BiFunction"), accessFlags := 25, slot := 2, constantValue := 0 }]
  methods := #[k10m0, k10m1]
  instanceTypes := #[]
  staticTypes := #[(.object "java/util/function/BiFunction"), (.object "java/util/function/BiFunction"), (.object "java/util/function/BiFunction")]
  resolved := Array.replicate 194 none
  statics := some 1 }

def pool11 : Array CpInfo := pool [(9, u "<init>"), (6, .class_ 18), (1, u "java/lang/Object"), (0, u "()V"), (1, .class_ 23), (1, u "jdk/internal/util/ArraysSupport"), (0, u "LOG2_ARRAY_LONG_INDEX_SCALE"), (0, u "I"), (2, u "U"), (0, u "Ljdk/internal/misc/Unsafe;"), (8, u "BIG_ENDIAN"), (0, u "Z"), (8, u "LOG2_BYTE_BIT_SIZE"), (4, u "LOG2_ARRAY_INT_INDEX_SCALE"), (54, u "JLA"), (0, u "Ljdk/internal/access/JavaLangAccess;"), (11, u "LOG2_ARRAY_BOOLEAN_INDEX_SCALE"), (9, u "LOG2_ARRAY_BYTE_INDEX_SCALE"), (5, u "LOG2_ARRAY_CHAR_INDEX_SCALE"), (5, u "LOG2_ARRAY_SHORT_INDEX_SCALE"), (18, u "LOG2_ARRAY_FLOAT_INDEX_SCALE"), (24, u "LOG2_ARRAY_DOUBLE_INDEX_SCALE"), (89, u "T_BOOLEAN"), (2, u "T_CHAR"), (1, u "T_FLOAT"), (1, u "T_DOUBLE"), (1, u "T_BYTE"), (1, u "T_SHORT"), (1, u "T_INT"), (1, u "T_LONG"), (1, u "SOFT_MAX_ARRAY_LENGTH")] 83

def k11m0 : Method := { name := "<init>", desc := "()V", sig := { parameters := [], returnType := none }, accessFlags := 2, code := none }
/-- jdk/internal/util/ArraysSupport -/
def k11 : Class := { plain "jdk/internal/util/ArraysSupport" (some 0) with
  accessFlags := 33
  interfaces := #[]
  cf := some (fileOf pool11 21 #[] #[{ accessFlags := 2, nameIndex := 9, descriptorIndex := 19, attributes := #[] }] 33 16 #[] #[{ accessFlags := 24, nameIndex := 28, descriptorIndex := 29, attributes := #[] }, { accessFlags := 26, nameIndex := 38, descriptorIndex := 39, attributes := #[] }, { accessFlags := 25, nameIndex := 121, descriptorIndex := 25, attributes := #[] }, { accessFlags := 25, nameIndex := 131, descriptorIndex := 25, attributes := #[] }, { accessFlags := 25, nameIndex := 137, descriptorIndex := 25, attributes := #[] }, { accessFlags := 25, nameIndex := 143, descriptorIndex := 25, attributes := #[] }, { accessFlags := 25, nameIndex := 53, descriptorIndex := 25, attributes := #[] }, { accessFlags := 25, nameIndex := 24, descriptorIndex := 25, attributes := #[] }, { accessFlags := 25, nameIndex := 162, descriptorIndex := 25, attributes := #[] }, { accessFlags := 25, nameIndex := 187, descriptorIndex := 25, attributes := #[] }, { accessFlags := 26, nameIndex := 48, descriptorIndex := 25, attributes := #[] }, { accessFlags := 25, nameIndex := 277, descriptorIndex := 25, attributes := #[] }, { accessFlags := 25, nameIndex := 280, descriptorIndex := 25, attributes := #[] }, { accessFlags := 25, nameIndex := 282, descriptorIndex := 25, attributes := #[] }, { accessFlags := 25, nameIndex := 284, descriptorIndex := 25, attributes := #[] }, { accessFlags := 25, nameIndex := 286, descriptorIndex := 25, attributes := #[] }, { accessFlags := 25, nameIndex := 288, descriptorIndex := 25, attributes := #[] }, { accessFlags := 25, nameIndex := 290, descriptorIndex := 25, attributes := #[] }, { accessFlags := 25, nameIndex := 292, descriptorIndex := 25, attributes := #[] }, { accessFlags := 26, nameIndex := 108, descriptorIndex := 109, attributes := #[] }, { accessFlags := 25, nameIndex := 294, descriptorIndex := 25, attributes := #[] }])
  fields := #[{ name := "U", type := (.object "jdk/internal/misc/Unsafe"), accessFlags := 24, slot := 0, constantValue := 0 }, { name := "BIG_ENDIAN", type := .boolean, accessFlags := 26, slot := 1, constantValue := 0 }, { name := "LOG2_ARRAY_BOOLEAN_INDEX_SCALE", type := .int, accessFlags := 25, slot := 2, constantValue := 0 }, { name := "LOG2_ARRAY_BYTE_INDEX_SCALE", type := .int, accessFlags := 25, slot := 3, constantValue := 0 }, { name := "LOG2_ARRAY_CHAR_INDEX_SCALE", type := .int, accessFlags := 25, slot := 4, constantValue := 0 }, { name := "LOG2_ARRAY_SHORT_INDEX_SCALE", type := .int, accessFlags := 25, slot := 5, constantValue := 0 }, { name := "LOG2_ARRAY_INT_INDEX_SCALE", type := .int, accessFlags := 25, slot := 6, constantValue := 0 }, { name := "LOG2_ARRAY_LONG_INDEX_SCALE", type := .int, accessFlags := 25, slot := 7, constantValue := 0 }, { name := "LOG2_ARRAY_FLOAT_INDEX_SCALE", type := .int, accessFlags := 25, slot := 8, constantValue := 0 }, { name := "LOG2_ARRAY_DOUBLE_INDEX_SCALE", type := .int, accessFlags := 25, slot := 9, constantValue := 0 }, { name := "LOG2_BYTE_BIT_SIZE", type := .int, accessFlags := 26, slot := 10, constantValue := 0 }, { name := "T_BOOLEAN", type := .int, accessFlags := 25, slot := 11, constantValue := 0 }, { name := "T_CHAR", type := .int, accessFlags := 25, slot := 12, constantValue := 0 }, { name := "T_FLOAT", type := .int, accessFlags := 25, slot := 13, constantValue := 0 }, { name := "T_DOUBLE", type := .int, accessFlags := 25, slot := 14, constantValue := 0 }, { name := "T_BYTE", type := .int, accessFlags := 25, slot := 15, constantValue := 0 }, { name := "T_SHORT", type := .int, accessFlags := 25, slot := 16, constantValue := 0 }, { name := "T_INT", type := .int, accessFlags := 25, slot := 17, constantValue := 0 }, { name := "T_LONG", type := .int, accessFlags := 25, slot := 18, constantValue := 0 }, { name := "JLA", type := (.object "jdk/internal/access/JavaLangAccess"), accessFlags := 26, slot := 19, constantValue := 0 }, { name := "SOFT_MAX_ARRAY_LENGTH", type := .int, accessFlags := 25, slot := 20, constantValue := 0 }]
  methods := #[k11m0]
  instanceTypes := #[]
  staticTypes := #[(.object "jdk/internal/misc/Unsafe"), .boolean, .int, .int, .int, .int, .int, .int, .int, .int, .int, .int, .int, .int, .int, .int, .int, .int, .int, (.object "jdk/internal/access/JavaLangAccess"), .int]
  resolved := Array.replicate 378 none
  statics := none }

def pool12 : Array CpInfo := pool [(1, u "java/lang/Cloneable"), (0, .class_ 1), (0, u "java/lang/Object"), (0, .class_ 3)] 3

/-- java/lang/Cloneable -/
def k12 : Class := { plain "java/lang/Cloneable" (some 0) with
  accessFlags := 1537
  interfaces := #[]
  cf := some (fileOf pool12 2 #[] #[] 1537 4 #[] #[])
  fields := #[]
  methods := #[]
  instanceTypes := #[]
  staticTypes := #[]
  resolved := Array.replicate 8 none
  statics := none }

/-- the primitive byte -/
def k13 : Class := { plain "byte" none with kind := .primitive 'B', accessFlags := 0x411 }
/-- [B -/
def k14 : Class := { plain "[B" (some 0) with kind := .array 13 .byte, interfaces := #[12, 3], accessFlags := 1041 }

/-- the primitive int -/
def k15 : Class := { plain "int" none with kind := .primitive 'I', accessFlags := 0x411 }
/-- [I -/
def k16 : Class := { plain "[I" (some 0) with kind := .array 15 .int, interfaces := #[12, 3], accessFlags := 1041 }

def heap : Heap := #[{ cls := 8, slots := #[.long 0, .int 1, .null, .int 0, .null, .int 0, .int 0], vm := .statics 8 },
  { cls := 10, slots := #[.null, .null, .null], vm := .statics 10 }]
def classes : Array Class := #[k0, k1, k2, k3, k4, k5, k6, k7, k8, k9, k10, k11, k12, k13, k14, k15, k16]
def interned : List (Array UInt16 × Addr) := []
def slotsUsed : Nat := 10
def theMethod : MethodId := ⟨1, 1⟩
def args0 : Array Value := #[.int 5, .int 7, .int 3]
def aboutOver (below : List Frame) : State where
  vm := { classes := classes, interned := interned.toArray }
  heap := heap
  slotsUsed := slotsUsed
  threads := #[{ frames := .invoking theMethod args0 :: below }]
def below0 : List Frame := [.native { method := ⟨0, 0⟩, args := #[] }]
def about1 : State := aboutOver below0
def p0 : Program := .bare "" "" ""
def e0 : Env := launch0.env 0 0 0
theorem w_frames : about1.frames = Frame.invoking theMethod args0 :: below0 := rfl
set_option maxRecDepth 65536 in
theorem w_args : argsFit about1.vm theMethod args0 = true := by decide +kernel
set_option maxRecDepth 65536 in
theorem w_heap : heapFits about1 = true := by decide +kernel
set_option maxRecDepth 65536 in
theorem w_runnable : about1.curStatus? = some .runnable := by decide +kernel
set_option maxRecDepth 65536 in
theorem w_alone : about1.alone = true := by decide +kernel
set_option maxRecDepth 65536 in
theorem w_named : about1.methodNamed? x = some theMethod := by decide +kernel
set_option maxRecDepth 65536 in
theorem w_hears : about1.hears theMethod below0 = true := by decide +kernel
set_option maxRecDepth 65536 in
theorem w_ripe : about1.ripe theMethod args0 below0 = true := by decide +kernel
theorem w_running : about1.status = .running := rfl
set_option maxRecDepth 65536 in
theorem w_room : about1.hasRoom e0.platform room_1 = true :=
  launch0.hasRoom_least _ room_1 (by decide +kernel) (by decide +kernel) (by decide +kernel) (by decide +kernel) (by decide +kernel) (by decide +kernel)
theorem allAtoms_all (ts : List Jvm.Cond) (a : Array Jvm.Value) (st : Jvm.State) : (allAtoms ts).before a st = ts.all (fun c => c.before a st) := by
  induction ts with
  | nil => rfl
  | cons c t ih =>
    show (Jvm.Cond.and c (allAtoms t)).before a st = _
    rw [Jvm.Cond.before_and, ih, List.all_cons]
def words1 : List Jvm.Cond := Jvm.Cond.code x code maxLocals ret :: tables_1
/-- a 'code' word, met by the world's own term for the bytes: nothing is compared byte by byte -/
theorem code_word {y : MethodName} {bytes : ByteArray} {mx : Nat} {rt : Option FieldType} {a : Array Value} {s : State} {m : MethodId} {meth : Method} {c : Code} (h1 : s.methodNamed? y = some m) (h2 : s.vm.method? m = some meth) (h3 : meth.code = some c) (h4 : c.code = bytes)
    (h5 : (c.maxLocals == mx && c.exceptionTable.isEmpty && decide (c.maxStack ≤ mostOperands) && decide (meth.sig.returnType = rt) && !meth.locks && decide (parseMethodDescriptor y.desc = some meth.sig)) = true) : (Jvm.Cond.code y bytes mx rt).before a s = true := by
  simp only [Bool.and_eq_true, beq_iff_eq, Bool.not_eq_true', decide_eq_true_eq] at h5
  obtain ⟨⟨⟨⟨⟨g1, g2⟩, g3⟩, g4⟩, g5⟩, g6⟩ := h5
  simp [Cond.before, Cond.holds, Cond.value, h1, h2, h3, h4, g1, g2, g3, g4, g5, g6]
def isCode : Jvm.Cond → Bool
  | .code _ _ _ _ => true
  | _ => false
theorem all_split {L : List Jvm.Cond} {P : Jvm.Cond → Bool} (h1 : L.all (fun c => isCode c || P c) = true) (h2 : ∀ c ∈ L.filter isCode, P c = true) : L.all P = true := by
  refine List.all_eq_true.mpr fun c hc => ?_
  have h := List.all_eq_true.mp h1 c hc
  rcases Bool.eq_false_or_eq_true (isCode c) with hi | hi
  · exact h2 c (List.mem_filter.mpr ⟨hc, hi⟩)
  · simpa [hi] using h
set_option maxRecDepth 65536 in
theorem w_c0 : (Jvm.Cond.code x code maxLocals ret).before args0 about1 = true := code_word (m := ⟨1, 1⟩) (meth := k1m1) (c := k1c1) (by decide +kernel) rfl rfl rfl (by decide +kernel)
set_option maxRecDepth 65536 in
theorem w_c1 : (Jvm.Cond.code ({ cls := "canonsign/SignedHeadersLowerCasePinLaw", name := "check", desc := "(C)Z" } : Jvm.MethodName) method_3_code (4 : Nat) (Option.some Jvm.ClassFile.FieldType.boolean)).before args0 about1 = true := code_word (m := ⟨1, 2⟩) (meth := k1m2) (c := k1c2) (by decide +kernel) rfl rfl rfl (by decide +kernel)
set_option maxRecDepth 65536 in
theorem w_c2 : (Jvm.Cond.code ({ cls := "canonsign/SignedHeaders", name := "lowerCase", desc := "(C)C" } : Jvm.MethodName) prog_13_method_8_code (1 : Nat) (Option.some Jvm.ClassFile.FieldType.char)).before args0 about1 = true := code_word (m := ⟨2, 0⟩) (meth := k2m0) (c := k2c0) (by decide +kernel) rfl rfl rfl (by decide +kernel)
set_option maxRecDepth 65536 in
theorem w_c3 : (Jvm.Cond.code ({ cls := "java/lang/String", name := "charAt", desc := "(I)C" } : Jvm.MethodName) jdk_42_method_56_code (2 : Nat) (Option.some Jvm.ClassFile.FieldType.char)).before args0 about1 = true := code_word (m := ⟨8, 1⟩) (meth := k8m1) (c := k8c1) (by decide +kernel) rfl rfl rfl (by decide +kernel)
set_option maxRecDepth 65536 in
theorem w_c4 : (Jvm.Cond.code ({ cls := "java/lang/String", name := "isLatin1", desc := "()Z" } : Jvm.MethodName) jdk_42_method_154_code (1 : Nat) (Option.some Jvm.ClassFile.FieldType.boolean)).before args0 about1 = true := code_word (m := ⟨8, 2⟩) (meth := k8m2) (c := k8c2) (by decide +kernel) rfl rfl rfl (by decide +kernel)
set_option maxRecDepth 65536 in
theorem w_c5 : (Jvm.Cond.code ({ cls := "java/lang/StringLatin1", name := "charAt", desc := "([BI)C" } : Jvm.MethodName) jdk_43_method_2_code (2 : Nat) (Option.some Jvm.ClassFile.FieldType.char)).before args0 about1 = true := code_word (m := ⟨9, 1⟩) (meth := k9m1) (c := k9c1) (by decide +kernel) rfl rfl rfl (by decide +kernel)
set_option maxRecDepth 65536 in
theorem w_c6 : (Jvm.Cond.code ({ cls := "java/lang/String", name := "checkIndex", desc := "(II)V" } : Jvm.MethodName) jdk_42_method_155_code (2 : Nat) (Option.none : Option Jvm.ClassFile.FieldType)).before args0 about1 = true := code_word (m := ⟨8, 3⟩) (meth := k8m3) (c := k8c3) (by decide +kernel) rfl rfl rfl (by decide +kernel)
set_option maxRecDepth 65536 in
theorem w_c7 : (Jvm.Cond.code ({ cls := "jdk/internal/util/Preconditions", name := "checkIndex", desc := "(IILjava/util/function/BiFunction;)I" } : Jvm.MethodName) jdk_41_method_11_code (3 : Nat) (Option.some Jvm.ClassFile.FieldType.int)).before args0 about1 = true := code_word (m := ⟨10, 1⟩) (meth := k10m1) (c := k10c1) (by decide +kernel) rfl rfl rfl (by decide +kernel)
def codes1 : List Jvm.Cond := [Jvm.Cond.code x code maxLocals ret, Jvm.Cond.code ({ cls := "canonsign/SignedHeadersLowerCasePinLaw", name := "check", desc := "(C)Z" } : Jvm.MethodName) method_3_code (4 : Nat) (Option.some Jvm.ClassFile.FieldType.boolean), Jvm.Cond.code ({ cls := "canonsign/SignedHeaders", name := "lowerCase", desc := "(C)C" } : Jvm.MethodName) prog_13_method_8_code (1 : Nat) (Option.some Jvm.ClassFile.FieldType.char), Jvm.Cond.code ({ cls := "java/lang/String", name := "charAt", desc := "(I)C" } : Jvm.MethodName) jdk_42_method_56_code (2 : Nat) (Option.some Jvm.ClassFile.FieldType.char), Jvm.Cond.code ({ cls := "java/lang/String", name := "isLatin1", desc := "()Z" } : Jvm.MethodName) jdk_42_method_154_code (1 : Nat) (Option.some Jvm.ClassFile.FieldType.boolean), Jvm.Cond.code ({ cls := "java/lang/StringLatin1", name := "charAt", desc := "([BI)C" } : Jvm.MethodName) jdk_43_method_2_code (2 : Nat) (Option.some Jvm.ClassFile.FieldType.char), Jvm.Cond.code ({ cls := "java/lang/String", name := "checkIndex", desc := "(II)V" } : Jvm.MethodName) jdk_42_method_155_code (2 : Nat) (Option.none : Option Jvm.ClassFile.FieldType), Jvm.Cond.code ({ cls := "jdk/internal/util/Preconditions", name := "checkIndex", desc := "(IILjava/util/function/BiFunction;)I" } : Jvm.MethodName) jdk_41_method_11_code (3 : Nat) (Option.some Jvm.ClassFile.FieldType.int)]
set_option maxRecDepth 65536 in
theorem codes_eq : words1.filter isCode = codes1 := rfl
theorem w_codes : ∀ c ∈ words1.filter isCode, c.before args0 about1 = true := by
  rw [codes_eq]
  intro c hc
  simp only [codes1, List.mem_cons, List.not_mem_nil, or_false] at hc
  rcases hc with rfl | rfl | rfl | rfl | rfl | rfl | rfl | rfl
  · exact w_c0
  · exact w_c1
  · exact w_c2
  · exact w_c3
  · exact w_c4
  · exact w_c5
  · exact w_c6
  · exact w_c7
set_option maxRecDepth 65536 in
theorem w_t1 : (words1.take 24).all (fun c => isCode c || c.before args0 about1) = true := by decide +kernel
set_option maxRecDepth 65536 in
theorem w_t2 : (words1.drop 24).all (fun c => isCode c || c.before args0 about1) = true := by decide +kernel
theorem w_tables : (allAtoms (Jvm.Cond.code x code maxLocals ret :: tables_1)).before args0 about1 = true := by
  rw [allAtoms_all]
  show words1.all (fun c => c.before args0 about1) = true
  refine all_split ?_ w_codes
  rw [← List.take_append_drop 24 words1, List.all_append, w_t1, w_t2]
  rfl
set_option maxRecDepth 65536 in
theorem w_rest : rest_1_c.before args0 about1 = true := by decide +kernel
set_option maxRecDepth 65536 in
theorem w_case : (Jvm.Cond.and given_1 narrow_1).before args0 about1 = true := by decide +kernel
set_option maxRecDepth 65536 in
theorem w_consts : constsHeld consts_1 about1 := Jvm.Lit.constsHeldB_iff.mp (by decide +kernel)
theorem w_applies : (headSpec (Jvm.Cond.code x code maxLocals ret :: tables_1) room_1).applies x e0.platform about1 = true :=
  (Spec.applies_iff w_frames).mpr ⟨w_running, w_runnable, w_alone, w_named, w_hears, w_ripe, w_room, w_tables⟩
theorem atStart : AtStart classFile x code maxLocals ret World_1 tables_1 room_1 Calls_1 rest_1 Pre_1 launch0 p0 e0 about1 theMethod args0 below0 :=
  ⟨lists_1, trivial, launch0.admits_env _ _ _, launch0.least_env, fairChoices_fair.cas, fairChoices_fair.clock, w_frames, w_args, w_heap, w_applies, ⟨w_consts, trivial⟩, w_rest, w_case⟩
end start1
theorem witness_1 : WitnessClaimed_1 := ⟨start1.p0, start1.e0, start1.about1, start1.theMethod, start1.args0, start1.below0, start1.atStart⟩
end Jvm.Pilot.@@N@@
