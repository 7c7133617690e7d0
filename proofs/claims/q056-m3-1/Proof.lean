import JvmDerived
import JvmDerived.Pilot.@@N@@Statement
import JvmDerived.Pilot.@@N@@Code
set_option linter.unusedVariables false
set_option linter.unusedSimpArgs false
@@BLOCK:NumsL.lean.txt@@
namespace Jvm.RoadKit
open Sem ClassFile Op Lib Jvm.Stand Jvm.Free Jvm.LawKit
section New
variable {p : Program} {l : Launch} {e : Env} {R : Room} {s : State} {m : MethodId} {args : Array Value} {below : List Frame} {meth : Method} {c : Code} {T : State} {locs : List Loc} {cells slots : Nat}
theorem retI (X : Stand p l e R s m args below meth c T locs cells slots) (hx : p.tables.exec = Jvm.exec) {pc : Nat} {Ls : Array Slot} {z : Int32} {rest : List Value} (hret : meth.sig.returnType = some .int) (hd : decode c.code pc = .ok (.ireturn, 1)) {fs : List Frame}
    (hl : ∀ (f : JFrame) (acts : List Action), f.method = m → f.locked = none → f.entered = [] → (doReturn e (T.setTop f) acts (some (.int z))).1 = T.setFrames fs) : Steps p.tables e below (T.setTop (mkF m pc Ls (.int z :: rest))) (T.setFrames fs) := by
  have hm' : T.vm.method? m = some meth := X.method'
  have hn : narrow .int (.int z) = .int z := rfl
  show Steps p.tables e below (T.setTop { method := m, pc := pc, locals := Ls, stack := _ :: rest, locked := none }) _
  jvm_step X.here [X.here.top, hx, hd, hm', hret, hn]
  first | (intro acts; rw [hl _ acts rfl rfl rfl]) | rw [hl _ _ rfl rfl rfl]
  exact Steps.refl _
end New
end Jvm.RoadKit
namespace Jvm.Pilot.@@N@@
open Jvm Jvm.ClassFile Sem Op Lib Jvm.Free Jvm.Stand Jvm.LawKit Jvm.RoadKit Bundle Jvm.Pilot.@@N@@.Jvm.D

def own_A (Z : State) (h : Heap) (a : Addr) (ty : FieldType) (n : Nat) (f : Nat → Int32) : Prop := ∃ c : Cell, Arr Z h a c ty ∧ c.slots.size = n ∧ ∀ j, j < n → c.slots[j]? = some (.int (f j))
theorem own_A_new {Z : State} {h : Heap} {a : Addr} {k : ClassId} {ty : FieldType} {z : Int32} {n : Nat} (A : Arr Z h a (newA k ty z) ty) (hd : defaultValue ty = .int 0) (hn : z.toNatClampNeg = n) : own_A Z h a ty n (fun _ => 0) :=
  ⟨_, A, by rw [sz_new, hn], fun j hj => by simp [newA, hn, hd, hj]⟩
theorem own_A_set {Z : State} {h h' : Heap} {a : Addr} {ty : FieldType} {n i : Nat} {f : Nat → Int32} {v : Int32} (F : own_A Z h a ty n f) (W : Wr h h' a i (.int v)) : own_A Z h' a ty n (upd f i v) := by
  obtain ⟨c, A, S, H⟩ := F
  refine ⟨_, A.same W, by rw [sz_set, S], fun j hj => ?_⟩
  show (c.slots.setIfInBounds i (.int v))[j]? = _
  rw [Array.getElem?_setIfInBounds]
  by_cases e : i = j
  · subst e; rw [if_pos rfl, if_pos (by rw [S]; exact hj)]; simp [upd]
  · rw [if_neg e, H j hj]; simp [upd, Ne.symm e]
theorem own_A_ext {Z : State} {h h' : Heap} {a : Addr} {ty : FieldType} {n : Nat} {f : Nat → Int32} (F : own_A Z h a ty n f) (E : Ext h h') : own_A Z h' a ty n f := by
  obtain ⟨c, A, S, H⟩ := F; exact ⟨c, A.ext E, S, H⟩
theorem own_A_other {Z : State} {h h' : Heap} {a b : Addr} {ty : FieldType} {n sl : Nat} {f : Nat → Int32} {v : Value} (F : own_A Z h a ty n f) (W : Wr h h' b sl v) (q : a ≠ b) : own_A Z h' a ty n f := by
  obtain ⟨c, A, S, H⟩ := F; exact ⟨c, A.other W q, S, H⟩
theorem own_A_keep {Z : State} {h h' : Heap} {a : Addr} {ty : FieldType} {n : Nat} {f : Nat → Int32} {ws : List Addr} (F : own_A Z h a ty n f) (K : Keep h h' ws) (q : a ∉ ws) : own_A Z h' a ty n f := by
  obtain ⟨c, A, S, H⟩ := F; exact ⟨c, ⟨K.2.1 a c A.1 q, A.2⟩, S, H⟩
theorem own_A_lt {Z : State} {h : Heap} {a : Addr} {ty : FieldType} {n : Nat} {f : Nat → Int32} (F : own_A Z h a ty n f) : a < h.size := by obtain ⟨c, A, -⟩ := F; exact A.lt
theorem own_upd_same (f : Nat → Int32) (i : Nat) (v : Int32) : upd f i v i = v := by simp [upd]
theorem own_upd_ne (f : Nat → Int32) {i j : Nat} (v : Int32) (h : j ≠ i) : upd f i v j = f j := by simp [upd, h]
theorem own_toNat (y : Int32) (h : 0 ≤ y.toInt) : y = Int32.ofNat y.toInt.toNat := by
  have a := y.toInt_lt
  rw [← Int32.toInt_inj, toInt_of rfl (by omega)]
  omega
theorem own_mask (x m : Int32) {k : Nat} (hk : k < 32) (hm : m.toBitVec.toNat = 2 ^ k - 1) : ∃ n : Nat, x &&& m = Int32.ofNat n ∧ n < 2 ^ k := by
  have h := Jvm.Kit.i32_mask x m hk hm
  have hp : (0 : Int) < 2 ^ k := Int.pow_pos (by decide)
  have h1 := Int.emod_nonneg x.toInt (b := 2 ^ k) (by omega)
  have h2 := Int.emod_lt_of_pos x.toInt hp
  refine ⟨(x &&& m).toInt.toNat, own_toNat _ (by omega), ?_⟩
  have h3 : ((2 ^ k : Nat) : Int) = 2 ^ k := by simp
  omega
theorem own_lt {i n : Nat} (h : i < n) (hn : n < 2 ^ 31) : Int32.ofNat i < Int32.ofNat n := by
  rw [Int32.lt_iff_toInt_lt, toInt_of rfl (by omega : i < 2 ^ 31), toInt_of rfl hn]; omega
theorem own_nlt {i n : Nat} (h : n ≤ i) (hi : i < 2 ^ 31) : ¬ (Int32.ofNat i < Int32.ofNat n) := by
  rw [Int32.lt_iff_toInt_lt, toInt_of rfl hi, toInt_of rfl (by omega : n < 2 ^ 31)]; omega
theorem own_ne {i n : Nat} (h : i ≠ n) (hi : i < 2 ^ 31) (hn : n < 2 ^ 31) : ¬ (Int32.ofNat i = Int32.ofNat n) := by
  rw [← Int32.toInt_inj, toInt_of rfl hi, toInt_of rfl hn]; omega
theorem own_add (a b : Nat) : Int32.ofNat a + Int32.ofNat b = Int32.ofNat (a + b) := (Int32.ofNat_add a b).symm
theorem own_sub {a b : Nat} (h : b ≤ a) (ha : a < 2 ^ 31) : Int32.ofNat a - Int32.ofNat b = Int32.ofNat (a - b) := by
  rw [← Int32.toInt_inj, toInt_of rfl (by omega : a - b < 2 ^ 31)]
  have h1 : (Int32.ofNat a).toInt = a := toInt_of rfl ha
  have h2 : (Int32.ofNat b).toInt = b := toInt_of rfl (by omega)
  rw [Jvm.Kit.i32_sub (by omega) (by omega)]
  omega
theorem own_rem {a b : Nat} (ha : a < 2 ^ 31) (hb : b < 2 ^ 31) : Int32.ofNat a % Int32.ofNat b = Int32.ofNat (a % b) := by
  have h3 : a % b ≤ a := Nat.mod_le a b
  have h1 : (Int32.ofNat a).toInt = a := toInt_of rfl ha
  have h2 : (Int32.ofNat b).toInt = b := toInt_of rfl hb
  rw [← Int32.toInt_inj, toInt_of rfl (by omega : a % b < 2 ^ 31), Jvm.Kit.i32_rem_nonneg (by omega), h1, h2]
  omega
theorem own_backS {p : Program} {l : Launch} {e : Env} {R : Room} {s : State} {args : Array Value} {below : List Frame} {Z : State} {a0 : Array Value} {h : Heap} {y : MethodName} {bytes : ByteArray} {maxL : Nat} {ret : Option FieldType} {rm : Room} {len W : Nat} {as' : Array Value} {I : Vm → Prop} {Q : Option Value → Heap → Vm → List Loc → Prop}
    (hM : MetFree l y (head1 [Cond.code y bytes maxL ret] rm) (fun a U => a = as' ∧ Z.Warmed39 U.vm ∧ U.heap = h ∧ I U.vm) (fun _ _ _ _ _ => True) (fun _ U o U' => ∃ v L, o = .returned v ∧ Q v U'.heap U'.vm L ∧ ReturnedEndW U o U' L rm.cells rm.slots))
    (hZ : Z.Warmed39 s.vm) (wc : (Cond.code y bytes maxL ret).before a0 Z = true) (wz : (Cond.initialized y.cls).before a0 Z = true) (hf : rm.frames + 1 ≤ R.frames) (hl : W + (maxL + 11) + rm.locals ≤ R.locals) :
    BackS l R p e below s args y len W (fun A a => (a = as' ∧ A.U.heap = h ∧ I A.U.vm) ∧ A.cells + rm.cells ≤ R.cells ∧ A.slots + rm.slots ≤ R.slots)
      (fun A _ v B => ∃ L, Q v B.U.heap B.U.vm L ∧ B.locs = A.locs ++ L ∧ B.cells = A.cells + rm.cells ∧ B.slots = A.slots + rm.slots) := by
  refine BackS.of_freeW (bytes := bytes) (maxL := maxL) (ret := ret) (E := fun _ _ o t L k n => k = rm.cells ∧ n = rm.slots ∧ ∃ v, o = .returned v ∧ Q v t.heap t.vm L) hM hf hl ?_ ?_ ?_ ?_ ?_
  · intro m meth c A a Y hp
    have hU : Z.Warmed39 A.U.vm := wtrans hZ Y.warmed
    refine ⟨?_, mv hU wc, mv hU wz, hp.2.1, hp.2.2⟩
    show (Cond.and _ .tt).before a A.U = true
    rw [Cond.before_and, mv hU wc]; rfl
  · intro m meth c A a g mk Y hp
    exact ⟨hp.1.1, wtrans hZ Y.warmed, hp.1.2.1, hp.1.2.2⟩
  · intros; trivial
  · rintro _ _ _ _ ⟨v, L, h1, h2, h3⟩
    exact ⟨L, _, _, h3, rfl, rfl, v, h1, h2⟩
  · rintro m meth c A a g mk v t L k n Y hp _ _ ⟨e1, e2, v', e3, e4⟩
    cases e3; subst e1 e2; exact ⟨L, e4, rfl, rfl, rfl⟩

theorem own_ext_refl (h : Heap) : Ext h h := ⟨Nat.le_refl _, fun _ _ q => q⟩
theorem own_ext_trans {h h' h'' : Heap} (E : Ext h h') (F : Ext h' h'') : Ext h h'' := ⟨Nat.le_trans E.1 F.1, fun a c q => F.2 a c (E.2 a c q)⟩
theorem own_fr_mono {n n' : Nat} {L : List Loc} (h : n ≤ n') (N : Fr n' L) : Fr n L := fun y hy => Nat.le_trans h (N y hy)
theorem own_Sta_keep {Z : State} {h h' : Heap} {C n d : String} {v : Value} (F : Sta Z h C n d v) (K : Keep h h' []) : Sta Z h' C n d v := by
  obtain ⟨cf, i, k, f, st, cell, h1, h2, h3, h4, h5, r⟩ := F; exact ⟨cf, i, k, f, st, cell, h1, h2, h3, h4, K.2.1 st cell h5 nin0, r⟩
theorem own_Sta_keep1 {Z : State} {h h' : Heap} {C D n d : String} {v : Value} {a : Addr} (F : Sta Z h C n d v) (K : Keep h h' [a]) (E : Exa Z h a D) : Sta Z h' C n d v := by
  obtain ⟨cf, i, k, f, st, cell, h1, h2, h3, h4, h5, h6, h7⟩ := F
  obtain ⟨c, _, q1, -, -, q4, -⟩ := E
  have ne : st ≠ a := fun q => by
    subst q
    cases h5.symm.trans q1
    rw [q4] at h6; cases h6
  exact ⟨cf, i, k, f, st, cell, h1, h2, h3, h4, K.2.1 st cell h5 (ninS ne nin0), h6, h7⟩
theorem own_nneg {n : Nat} (h : n < 2 ^ 31) : ¬ (Int32.ofNat n < (0 : Int32)) := by
  rw [Int32.lt_iff_toInt_lt, toInt_of rfl h]
  have h0 : (0 : Int32).toInt = 0 := by decide
  omega
theorem pn_3 : plainName "java/lang/Record" = true := by first | (simp [plainName, overriddenIn]; done) | decide +kernel
theorem ef_3 (m : MethodId) (x0 : Addr) : entryFrame m #[(.ref x0)] 1 = mkF m 0 #[.val (.ref x0)] [] := by first | (simp [entryFrame, mkF, argsToLocals, Value.category]; done) | rfl
theorem d3_0 : decode jdk_30_method_1_code 0 = .ok (.aload_n 0, 1) := by decide +kernel
theorem d3_1 : decode jdk_30_method_1_code 1 = .ok (.invokespecial 1, 3) := by decide +kernel
theorem d3_4 : decode jdk_30_method_1_code 4 = .ok (.return_, 1) := by decide +kernel
def Q3 (Z : State) (a1 : Addr) (h0 : Heap) (n0 : Nat) (v : Option Value) (h : Heap) (L : List Loc) : Prop := v = none ∧ Fr n0 L ∧ h = h0
set_option maxRecDepth 65536 in
set_option maxHeartbeats 40000000 in
theorem rm3 (l : Launch) (Z : State) (a0 : Array Value) (hw : ∀ d ∈ tables_1, d.before a0 Z = true) (ws : List Jvm.Cond) (a1 : Addr) (h0 : Heap) (n0 : Nat) (Z0 : n0 ≤ h0.size) :
    MetFree l (⟨"java/lang/Record", "<init>", "()V"⟩ : MethodName) (head1 (Jvm.Cond.code (⟨"java/lang/Record", "<init>", "()V"⟩ : MethodName) jdk_30_method_1_code 1 none :: ws) ({ frames := 1, cells := 0, slots := 0, locals := 12 } : Room)) (fun aa_ U => aa_ = #[(.ref a1)] ∧ Z.Warmed39 U.vm ∧ U.heap = h0) (fun _ _ _ _ _ => True) (fun _ U o U' => ∃ v_ L_, o = .returned v_ ∧ Q3 Z a1 h0 n0 v_ U'.heap L_ ∧ FrameEnd U o U' L_ ({ frames := 1, cells := 0, slots := 0, locals := 12 } : Room).cells ({ frames := 1, cells := 0, slots := 0, locals := 12 } : Room).slots) := by
  refine MetFree.of_bodySF (plainFor_of_name pn_3) hisR ?_
  intro p e s m args below meth c s₁ Bd hml0 hP hK
  obtain ⟨rfl, hZ, hh⟩ := hP
  have hx := Bd.exec
  have hby := Bd.bytes
  have hml : c.maxLocals = 1 := hml0
  have hown : s.vm.findClass "java/lang/Record" = some m.cls := findClass_of_methodNamed Bd.named
  have hnm := (name_of_methodNamed Bd.named Bd.method).1
  have X0 : Stand p l e ({ frames := 1, cells := 0, slots := 0, locals := 12 } : Room) s m #[(.ref a1)] below meth c s₁ [] 0 0 := Stand.of_body Bd
  have e0 : s₁.heap = h0 := by rw [← hh, Bd.state]; rfl
  have N0 := Fr.nil n0
  have pre0 : ∀ t, Steps p.tables e below (s₁.setTop (mkF m 0 #[.val (.ref a1)] [])) t → Steps p.tables e below (s₁.setTop (entryFrame m #[(.ref a1)] 1)) t := fun t k_ => castTop (ef_3 m a1) k_
  have pre1 : ∀ t, Steps p.tables e below (s₁.setTop (mkF m 1 #[.val (.ref a1)] [(.ref a1)])) t → Steps p.tables e below _ t := fun t kt => pre0 t (by
    show Steps p.tables e below (s₁.setTop (mkF m 0 #[.val (.ref a1)] [])) _
    refine XS.aloadN X0.here hx rfl (hb hby d3_0) rfl rfl ?_
    exact kt)
  obtain ⟨T2, X2, e2, st2⟩ := initO X0 hx hZ hown (hw _ (List.mem_of_getElem? (i := 15) rfl)) (hw _ (List.mem_of_getElem? (i := 16) rfl)) (hw _ (List.mem_of_getElem? (i := 17) rfl)) e0 (g := (mkF m 1 #[.val (.ref a1)] [(.ref a1)])) rfl (by rw [hml]; rfl) rfl (hb hby d3_1) (by decide) (W := 0) (by show 2 * 0 + _ ≤ _; exact Nat.le_of_eq rfl) (by decide)
  obtain ⟨fs, hr, hrun, hended, hW, hsame⟩ := X2.leave (v := none) (fun _ => rfl)
  refine ⟨_, _, pre1 _ ?_, hrun, hended, _, _, rfl, ?_, ⟨_, rfl⟩, hW, hsame.mono (by decide) (by decide)⟩
  · show Steps p.tables e below (s₁.setTop (mkF m 1 #[.val (.ref a1)] [(.ref a1)])) _
    refine st2 _ ?_
    show Steps p.tables e below (T2.setTop (mkF m 4 #[.val (.ref a1)] [])) _
    exact X2.returnOut hx Bd.returns (hb hby d3_4) hr
  · show Q3 Z a1 h0 n0 _ T2.heap _
    rw [e2]
    exact ⟨rfl, N0, rfl⟩
theorem pn_11 : plainName "java/lang/String" = true := by first | (simp [plainName, overriddenIn]; done) | decide +kernel
theorem ef_11 (m : MethodId) (x0 : Addr) (x1 : Addr) : entryFrame m #[(.ref x0), (.ref x1)] 3 = mkF m 0 #[.val (.ref x0), .val (.ref x1), .unset] [] := by first | (simp [entryFrame, mkF, argsToLocals, Value.category]; done) | rfl
theorem d11_0 : decode jdk_42_method_66_code 0 = .ok (.aload_n 0, 1) := by decide +kernel
theorem d11_1 : decode jdk_42_method_66_code 1 = .ok (.aload_n 1, 1) := by decide +kernel
theorem d11_2 : decode jdk_42_method_66_code 2 = .ok (.if_acmp .ne 5, 3) := by decide +kernel
theorem d11_5 : decode jdk_42_method_66_code 5 = .ok (.iconst 1, 1) := by decide +kernel
theorem d11_6 : decode jdk_42_method_66_code 6 = .ok (.ireturn, 1) := by decide +kernel
def Q11 (Z : State)  (h0 : Heap) (n0 : Nat) (v : Option Value) (h : Heap) (L : List Loc) : Prop := v = some (.int (1 : Int32)) ∧ Fr n0 L ∧ h = h0
set_option maxRecDepth 65536 in
set_option maxHeartbeats 40000000 in
theorem rm11 (l : Launch) (Z : State) (a0 : Array Value) (hw : ∀ d ∈ tables_1, d.before a0 Z = true) (ws : List Jvm.Cond) (a1 : Addr) (h0 : Heap) (n0 : Nat) (Z0 : n0 ≤ h0.size) :
    MetFree l (⟨"java/lang/String", "equals", "(Ljava/lang/Object;)Z"⟩ : MethodName) (head1 (Jvm.Cond.code (⟨"java/lang/String", "equals", "(Ljava/lang/Object;)Z"⟩ : MethodName) jdk_42_method_66_code 3 (some .boolean) :: ws) ({ frames := 0, cells := 0, slots := 0, locals := 0 } : Room)) (fun aa_ U => aa_ = #[(.ref a1), (.ref a1)] ∧ Z.Warmed39 U.vm ∧ U.heap = h0) (fun _ _ _ _ _ => True) (fun _ U o U' => ∃ v_ L_, o = .returned v_ ∧ Q11 Z  h0 n0 v_ U'.heap L_ ∧ FrameEnd U o U' L_ ({ frames := 0, cells := 0, slots := 0, locals := 0 } : Room).cells ({ frames := 0, cells := 0, slots := 0, locals := 0 } : Room).slots) := by
  refine MetFree.of_bodySF (plainFor_of_name pn_11) hisR ?_
  intro p e s m args below meth c s₁ Bd hml0 hP hK
  obtain ⟨rfl, hZ, hh⟩ := hP
  have hx := Bd.exec
  have hby := Bd.bytes
  have hml : c.maxLocals = 3 := hml0
  have hown : s.vm.findClass "java/lang/String" = some m.cls := findClass_of_methodNamed Bd.named
  have hnm := (name_of_methodNamed Bd.named Bd.method).1
  have X0 : Stand p l e ({ frames := 0, cells := 0, slots := 0, locals := 0 } : Room) s m #[(.ref a1), (.ref a1)] below meth c s₁ [] 0 0 := Stand.of_body Bd
  have e0 : s₁.heap = h0 := by rw [← hh, Bd.state]; rfl
  have N0 := Fr.nil n0
  have pre0 : ∀ t, Steps p.tables e below (s₁.setTop (mkF m 0 #[.val (.ref a1), .val (.ref a1), .unset] [])) t → Steps p.tables e below (s₁.setTop (entryFrame m #[(.ref a1), (.ref a1)] 3)) t := fun t k_ => castTop (ef_11 m a1 a1) k_
  obtain ⟨fs, hr, hrun, hended, hW, hsame⟩ := X0.leave (v := some (.int (1 : Int32))) (fun h => by rw [Bd.returns] at h; cases h)
  refine ⟨_, _, pre0 _ ?_, hrun, hended, _, _, rfl, ?_, ⟨_, rfl⟩, hW, hsame.mono (by decide) (by decide)⟩
  · show Steps p.tables e below (s₁.setTop (mkF m 0 #[.val (.ref a1), .val (.ref a1), .unset] [])) _
    refine XS.aloadN X0.here hx rfl (hb hby d11_0) rfl rfl ?_
    show Steps p.tables e below (s₁.setTop (mkF m 1 #[.val (.ref a1), .val (.ref a1), .unset] [(.ref a1)])) _
    refine XS.aloadN X0.here hx rfl (hb hby d11_1) rfl rfl ?_
    show Steps p.tables e below (s₁.setTop (mkF m 2 #[.val (.ref a1), .val (.ref a1), .unset] [(.ref a1), (.ref a1)])) _
    refine Jvm.RoadKit.acmp (g := (mkF m 2 #[.val (.ref a1), .val (.ref a1), .unset] [(.ref a1), (.ref a1)])) X0 hx rfl rfl rfl (pc0 := 2) (pc' := 5) (same := true) rfl (hb hby d11_2) rfl (decide_eq_true rfl) (by decide) (by decide) ?_
    show Steps p.tables e below (s₁.setTop (mkF m 5 #[.val (.ref a1), .val (.ref a1), .unset] [])) _
    refine XS.iconst X0.here hx rfl (hb hby d11_5) ?_
    show Steps p.tables e below (s₁.setTop (mkF m 6 #[.val (.ref a1), .val (.ref a1), .unset] [(.int (1 : Int32))])) _
    exact retN X0 hx (t := .boolean) Bd.returns (by simp) (hb hby d11_6) hr
  · show Q11 Z  h0 n0 _ s₁.heap _
    rw [e0]
    exact ⟨rfl, N0, rfl⟩
theorem pn_13 : plainName "java/lang/StringLatin1" = true := by first | (simp [plainName, overriddenIn]; done) | decide +kernel
theorem ef_13 (m : MethodId) (x0 : Int32) : entryFrame m #[(.int x0)] 1 = mkF m 0 #[.val (.int x0)] [] := by first | (simp [entryFrame, mkF, argsToLocals, Value.category]; done) | rfl
theorem d13_0 : decode jdk_43_method_3_code 0 = .ok (.iload_n 0, 1) := by decide +kernel
theorem d13_1 : decode jdk_43_method_3_code 1 = .ok (.sipush 255, 3) := by decide +kernel
theorem d13_4 : decode jdk_43_method_3_code 4 = .ok (.if_icmp .gt 7, 3) := by decide +kernel
theorem d13_7 : decode jdk_43_method_3_code 7 = .ok (.iconst 1, 1) := by decide +kernel
theorem d13_8 : decode jdk_43_method_3_code 8 = .ok (.goto 4, 3) := by decide +kernel
theorem d13_12 : decode jdk_43_method_3_code 12 = .ok (.ireturn, 1) := by decide +kernel
def Q13 (Z : State)  (h0 : Heap) (n0 : Nat) (v : Option Value) (h : Heap) (L : List Loc) : Prop := v = some (.int (1 : Int32)) ∧ Fr n0 L ∧ h = h0
set_option maxRecDepth 65536 in
set_option maxHeartbeats 40000000 in
theorem rm13 (l : Launch) (Z : State) (a0 : Array Value) (hw : ∀ d ∈ tables_1, d.before a0 Z = true) (ws : List Jvm.Cond) (p1 : Int32) (h0 : Heap) (n0 : Nat) (Z0 : n0 ≤ h0.size) (hq : ¬ ((255 : Int32) < p1)) :
    MetFree l (⟨"java/lang/StringLatin1", "canEncode", "(C)Z"⟩ : MethodName) (head1 (Jvm.Cond.code (⟨"java/lang/StringLatin1", "canEncode", "(C)Z"⟩ : MethodName) jdk_43_method_3_code 1 (some .boolean) :: ws) ({ frames := 0, cells := 0, slots := 0, locals := 0 } : Room)) (fun aa_ U => aa_ = #[(.int p1)] ∧ Z.Warmed39 U.vm ∧ U.heap = h0) (fun _ _ _ _ _ => True) (fun _ U o U' => ∃ v_ L_, o = .returned v_ ∧ Q13 Z  h0 n0 v_ U'.heap L_ ∧ FrameEnd U o U' L_ ({ frames := 0, cells := 0, slots := 0, locals := 0 } : Room).cells ({ frames := 0, cells := 0, slots := 0, locals := 0 } : Room).slots) := by
  refine MetFree.of_bodySF (plainFor_of_name pn_13) hisR ?_
  intro p e s m args below meth c s₁ Bd hml0 hP hK
  obtain ⟨rfl, hZ, hh⟩ := hP
  have hx := Bd.exec
  have hby := Bd.bytes
  have hml : c.maxLocals = 1 := hml0
  have hown : s.vm.findClass "java/lang/StringLatin1" = some m.cls := findClass_of_methodNamed Bd.named
  have hnm := (name_of_methodNamed Bd.named Bd.method).1
  have X0 : Stand p l e ({ frames := 0, cells := 0, slots := 0, locals := 0 } : Room) s m #[(.int p1)] below meth c s₁ [] 0 0 := Stand.of_body Bd
  have e0 : s₁.heap = h0 := by rw [← hh, Bd.state]; rfl
  have N0 := Fr.nil n0
  have pre0 : ∀ t, Steps p.tables e below (s₁.setTop (mkF m 0 #[.val (.int p1)] [])) t → Steps p.tables e below (s₁.setTop (entryFrame m #[(.int p1)] 1)) t := fun t k_ => castTop (ef_13 m p1) k_
  obtain ⟨fs, hr, hrun, hended, hW, hsame⟩ := X0.leave (v := some (.int (1 : Int32))) (fun h => by rw [Bd.returns] at h; cases h)
  refine ⟨_, _, pre0 _ ?_, hrun, hended, _, _, rfl, ?_, ⟨_, rfl⟩, hW, hsame.mono (by decide) (by decide)⟩
  · show Steps p.tables e below (s₁.setTop (mkF m 0 #[.val (.int p1)] [])) _
    refine XS.iloadN X0.here hx rfl (hb hby d13_0) rfl ?_
    show Steps p.tables e below (s₁.setTop (mkF m 1 #[.val (.int p1)] [(.int p1)])) _
    refine XS.sipush X0.here hx rfl (hb hby d13_1) ?_
    have hc4 : ¬ ((255 : Int32) < p1) := hq
    show Steps p.tables e below (s₁.setTop (mkF m 4 #[.val (.int p1)] [(.int (255 : Int32)), (.int p1)])) _
    refine XS.icmpNo X0.here hx rfl (hb hby d13_4) rfl (flt hc4).2.2.1 ?_
    show Steps p.tables e below (s₁.setTop (mkF m 7 #[.val (.int p1)] [])) _
    refine XS.iconst X0.here hx rfl (hb hby d13_7) ?_
    show Steps p.tables e below (s₁.setTop (mkF m 8 #[.val (.int p1)] [(.int (1 : Int32))])) _
    refine XS.goto X0.here hx rfl (pc0 := 8) (pc' := 12) rfl (hb hby d13_8) (by decide) (by decide) ?_
    show Steps p.tables e below (s₁.setTop (mkF m 12 #[.val (.int p1)] [(.int (1 : Int32))])) _
    exact retN X0 hx (t := .boolean) Bd.returns (by simp) (hb hby d13_12) hr
  · show Q13 Z  h0 n0 _ s₁.heap _
    rw [e0]
    exact ⟨rfl, N0, rfl⟩
theorem pn_10 : plainName "java/lang/StringUTF16" = true := by first | (simp [plainName, overriddenIn]; done) | decide +kernel
theorem ef_10 (m : MethodId) (x0 : Addr) (x1 : Int32) : entryFrame m #[(.ref x0), (.int x1)] 2 = mkF m 0 #[.val (.ref x0), .val (.int x1)] [] := by first | (simp [entryFrame, mkF, argsToLocals, Value.category]; done) | rfl
theorem d10_0 : decode jdk_52_method_15_code 0 = .ok (.iload_n 1, 1) := by decide +kernel
theorem d10_1 : decode jdk_52_method_15_code 1 = .ok (.aload_n 0, 1) := by decide +kernel
theorem d10_2 : decode jdk_52_method_15_code 2 = .ok (.arraylength, 1) := by decide +kernel
theorem d10_3 : decode jdk_52_method_15_code 3 = .ok (.isub, 1) := by decide +kernel
theorem d10_4 : decode jdk_52_method_15_code 4 = .ok (.bipush 31, 2) := by decide +kernel
theorem d10_6 : decode jdk_52_method_15_code 6 = .ok (.iushr, 1) := by decide +kernel
theorem d10_7 : decode jdk_52_method_15_code 7 = .ok (.i2b, 1) := by decide +kernel
theorem d10_8 : decode jdk_52_method_15_code 8 = .ok (.ireturn, 1) := by decide +kernel
def Q10 (Z : State)  (h0 : Heap) (n0 : Nat) (v : Option Value) (h : Heap) (L : List Loc) : Prop := v = some (.int (0 : Int32)) ∧ Fr n0 L ∧ h = h0
set_option maxRecDepth 65536 in
set_option maxHeartbeats 40000000 in
theorem rm10 (l : Launch) (Z : State) (a0 : Array Value) (hw : ∀ d ∈ tables_1, d.before a0 Z = true) (ws : List Jvm.Cond) (b : Addr) (n : Nat) (cl : Cell) (h0 : Heap) (n0 : Nat) (Z0 : n0 ≤ h0.size) (Ar : Arr Z h0 b cl .byte) (Sz : cl.slots.size = n) (hn : n ≤ 3) :
    MetFree l (⟨"java/lang/StringUTF16", "coderFromArrayLen", "([BI)B"⟩ : MethodName) (head1 (Jvm.Cond.code (⟨"java/lang/StringUTF16", "coderFromArrayLen", "([BI)B"⟩ : MethodName) jdk_52_method_15_code 2 (some .byte) :: ws) ({ frames := 0, cells := 0, slots := 0, locals := 0 } : Room)) (fun aa_ U => aa_ = #[(.ref b), (.int (Int32.ofNat n))] ∧ Z.Warmed39 U.vm ∧ U.heap = h0) (fun _ _ _ _ _ => True) (fun _ U o U' => ∃ v_ L_, o = .returned v_ ∧ Q10 Z  h0 n0 v_ U'.heap L_ ∧ FrameEnd U o U' L_ ({ frames := 0, cells := 0, slots := 0, locals := 0 } : Room).cells ({ frames := 0, cells := 0, slots := 0, locals := 0 } : Room).slots) := by
  refine MetFree.of_bodySF (plainFor_of_name pn_10) hisR ?_
  intro p e s m args below meth c s₁ Bd hml0 hP hK
  obtain ⟨rfl, hZ, hh⟩ := hP
  have hx := Bd.exec
  have hby := Bd.bytes
  have hml : c.maxLocals = 2 := hml0
  have hown : s.vm.findClass "java/lang/StringUTF16" = some m.cls := findClass_of_methodNamed Bd.named
  have hnm := (name_of_methodNamed Bd.named Bd.method).1
  have X0 : Stand p l e ({ frames := 0, cells := 0, slots := 0, locals := 0 } : Room) s m #[(.ref b), (.int (Int32.ofNat n))] below meth c s₁ [] 0 0 := Stand.of_body Bd
  have e0 : s₁.heap = h0 := by rw [← hh, Bd.state]; rfl
  have N0 := Fr.nil n0
  have pre0 : ∀ t, Steps p.tables e below (s₁.setTop (mkF m 0 #[.val (.ref b), .val (.int (Int32.ofNat n))] [])) t → Steps p.tables e below (s₁.setTop (entryFrame m #[(.ref b), (.int (Int32.ofNat n))] 2)) t := fun t k_ => castTop (ef_10 m b (Int32.ofNat n)) k_
  have pre1 : ∀ t, Steps p.tables e below (s₁.setTop (mkF m 4 #[.val (.ref b), .val (.int (Int32.ofNat n))] [(.int ((Int32.ofNat n) - (Int32.ofNat n)))])) t → Steps p.tables e below _ t := fun t kt => pre0 t (by
    show Steps p.tables e below (s₁.setTop (mkF m 0 #[.val (.ref b), .val (.int (Int32.ofNat n))] [])) _
    refine XS.iloadN X0.here hx rfl (hb hby d10_0) rfl ?_
    show Steps p.tables e below (s₁.setTop (mkF m 1 #[.val (.ref b), .val (.int (Int32.ofNat n))] [(.int (Int32.ofNat n))])) _
    refine XS.aloadN X0.here hx rfl (hb hby d10_1) rfl rfl ?_
    show Steps p.tables e below (s₁.setTop (mkF m 2 #[.val (.ref b), .val (.int (Int32.ofNat n))] [(.ref b), (.int (Int32.ofNat n))])) _
    refine X0.arraylength hx (by rw [e0]; exact Ar.1) (State.isArrayOf_alike hZ.alike Ar.2.1) (g := (mkF m 2 #[.val (.ref b), .val (.int (Int32.ofNat n))] [(.ref b), (.int (Int32.ofNat n))])) rfl rfl (hb hby d10_2) _ ?_
    rw [len_of (by rw [Sz, clamp_of (c := n) rfl (by omega)] : cl.slots.size = (Int32.ofNat n).toNatClampNeg) (own_nneg (by omega))]
    show Steps p.tables e below (s₁.setTop (mkF m 3 #[.val (.ref b), .val (.int (Int32.ofNat n))] [(.int (Int32.ofNat n)), (.int (Int32.ofNat n))])) _
    refine XS.isub X0.here hx rfl (hb hby d10_3) rfl ?_
    exact kt)
  have hv2 : ((Int32.ofNat n) - (Int32.ofNat n)) = (0 : Int32) := Int32.sub_self _
  rw [hv2] at pre1
  have pre3 : ∀ t, Steps p.tables e below (s₁.setTop (mkF m 8 #[.val (.ref b), .val (.int (Int32.ofNat n))] [(.int ((((0 : Int32).toUInt32 >>> ((31 : Int32) &&& 31).toUInt32).toInt32).toInt8.toInt32))])) t → Steps p.tables e below _ t := fun t kt => pre1 t (by
    show Steps p.tables e below (s₁.setTop (mkF m 4 #[.val (.ref b), .val (.int (Int32.ofNat n))] [(.int (0 : Int32))])) _
    refine XS.bipush X0.here hx rfl (hb hby d10_4) ?_
    show Steps p.tables e below (s₁.setTop (mkF m 6 #[.val (.ref b), .val (.int (Int32.ofNat n))] [(.int (31 : Int32)), (.int (0 : Int32))])) _
    refine XS.iushr X0.here hx rfl (hb hby d10_6) rfl ?_
    show Steps p.tables e below (s₁.setTop (mkF m 7 #[.val (.ref b), .val (.int (Int32.ofNat n))] [(.int (((0 : Int32).toUInt32 >>> ((31 : Int32) &&& 31).toUInt32).toInt32))])) _
    refine XS.i2b X0.here hx rfl (hb hby d10_7) rfl ?_
    exact kt)
  have hv4 : ((((0 : Int32).toUInt32 >>> ((31 : Int32) &&& 31).toUInt32).toInt32).toInt8.toInt32) = (0 : Int32) := by decide
  rw [hv4] at pre3
  obtain ⟨fs, hr, hrun, hended, hW, hsame⟩ := X0.leave (v := some (.int (0 : Int32))) (fun h => by rw [Bd.returns] at h; cases h)
  refine ⟨_, _, pre3 _ ?_, hrun, hended, _, _, rfl, ?_, ⟨_, rfl⟩, hW, hsame.mono (by decide) (by decide)⟩
  · show Steps p.tables e below (s₁.setTop (mkF m 8 #[.val (.ref b), .val (.int (Int32.ofNat n))] [(.int (0 : Int32))])) _
    exact retN X0 hx (t := .byte) Bd.returns (by simp) (hb hby d10_8) hr
  · show Q10 Z  h0 n0 _ s₁.heap _
    rw [e0]
    exact ⟨rfl, N0, rfl⟩
theorem pn_9 : plainName "java/lang/StringUTF16" = true := by first | (simp [plainName, overriddenIn]; done) | decide +kernel
theorem ef_9n2 (m : MethodId) (x0 : Addr) (x1 : Int32) (x2 : Addr) (x3 : Int32) (x4 : Int32) : entryFrame m #[(.ref x0), (.int x1), (.ref x2), (.int x3), (.int x4)] 7 = mkF m 0 #[.val (.ref x0), .val (.int x1), .val (.ref x2), .val (.int x3), .val (.int x4), .unset, .unset] [] := by first | (simp [entryFrame, mkF, argsToLocals, Value.category]; done) | rfl
theorem d9_0 : decode jdk_52_method_21_code 0 = .ok (.iconst 0, 1) := by decide +kernel
theorem d9_1 : decode jdk_52_method_21_code 1 = .ok (.istore 5, 2) := by decide +kernel
theorem d9_3 : decode jdk_52_method_21_code 3 = .ok (.iload 5, 2) := by decide +kernel
theorem d9_5 : decode jdk_52_method_21_code 5 = .ok (.iload 4, 2) := by decide +kernel
theorem d9_7 : decode jdk_52_method_21_code 7 = .ok (.if_icmp .ge 37, 3) := by decide +kernel
theorem d9_10 : decode jdk_52_method_21_code 10 = .ok (.aload_n 0, 1) := by decide +kernel
theorem d9_11 : decode jdk_52_method_21_code 11 = .ok (.iload_n 1, 1) := by decide +kernel
theorem d9_12 : decode jdk_52_method_21_code 12 = .ok (.caload, 1) := by decide +kernel
theorem d9_13 : decode jdk_52_method_21_code 13 = .ok (.istore 6, 2) := by decide +kernel
theorem d9_15 : decode jdk_52_method_21_code 15 = .ok (.iload 6, 2) := by decide +kernel
theorem d9_17 : decode jdk_52_method_21_code 17 = .ok (.sipush 255, 3) := by decide +kernel
theorem d9_20 : decode jdk_52_method_21_code 20 = .ok (.if_icmp .le 6, 3) := by decide +kernel
theorem d9_26 : decode jdk_52_method_21_code 26 = .ok (.aload_n 2, 1) := by decide +kernel
theorem d9_27 : decode jdk_52_method_21_code 27 = .ok (.iload_n 3, 1) := by decide +kernel
theorem d9_28 : decode jdk_52_method_21_code 28 = .ok (.iload 6, 2) := by decide +kernel
theorem d9_30 : decode jdk_52_method_21_code 30 = .ok (.i2b, 1) := by decide +kernel
theorem d9_31 : decode jdk_52_method_21_code 31 = .ok (.bastore, 1) := by decide +kernel
theorem d9_32 : decode jdk_52_method_21_code 32 = .ok (.iinc 1 1, 3) := by decide +kernel
theorem d9_35 : decode jdk_52_method_21_code 35 = .ok (.iinc 3 1, 3) := by decide +kernel
theorem d9_38 : decode jdk_52_method_21_code 38 = .ok (.iinc 5 1, 3) := by decide +kernel
theorem d9_41 : decode jdk_52_method_21_code 41 = .ok (.goto (-38), 3) := by decide +kernel
theorem d9_44 : decode jdk_52_method_21_code 44 = .ok (.iload 4, 2) := by decide +kernel
theorem d9_46 : decode jdk_52_method_21_code 46 = .ok (.ireturn, 1) := by decide +kernel
def Q9n2 (Z : State) (b : Addr) (h0 : Heap) (n0 : Nat) (v : Option Value) (h : Heap) (L : List Loc) : Prop := v = some (.int (2 : Int32)) ∧ Fr n0 L ∧ Keep h0 h [b] ∧ ∃ f', own_A Z h b .byte 2 f'
set_option maxRecDepth 65536 in
set_option maxHeartbeats 40000000 in
theorem rm9n2 (l : Launch) (Z : State) (a0 : Array Value) (hw : ∀ d ∈ tables_1, d.before a0 Z = true) (ws : List Jvm.Cond) (ca : Addr) (b : Addr) (f : Nat → Int32) (h0 : Heap) (n0 : Nat) (Z0 : n0 ≤ h0.size) (CA : own_A Z h0 ca .char 2 f) (BB : own_A Z h0 b .byte 2 (fun _ => 0)) (nb : ca ≠ b) (gb : n0 ≤ b) (hs : ∀ j, j < 2 → ¬ ((255 : Int32) < f j)) :
    MetFree l (⟨"java/lang/StringUTF16", "compress", "([CI[BII)I"⟩ : MethodName) (head1 (Jvm.Cond.code (⟨"java/lang/StringUTF16", "compress", "([CI[BII)I"⟩ : MethodName) jdk_52_method_21_code 7 (some .int) :: ws) ({ frames := 0, cells := 0, slots := 0, locals := 0 } : Room)) (fun aa_ U => aa_ = #[(.ref ca), (.int (0 : Int32)), (.ref b), (.int (0 : Int32)), (.int (2 : Int32))] ∧ Z.Warmed39 U.vm ∧ U.heap = h0) (fun _ _ _ _ _ => True) (fun _ U o U' => ∃ v_ L_, o = .returned v_ ∧ Q9n2 Z b h0 n0 v_ U'.heap L_ ∧ FrameEnd U o U' L_ ({ frames := 0, cells := 0, slots := 0, locals := 0 } : Room).cells ({ frames := 0, cells := 0, slots := 0, locals := 0 } : Room).slots) := by
  refine MetFree.of_bodySF (plainFor_of_name pn_9) hisR ?_
  intro p e s m args below meth c s₁ Bd hml0 hP hK
  obtain ⟨rfl, hZ, hh⟩ := hP
  have hx := Bd.exec
  have hby := Bd.bytes
  have hml : c.maxLocals = 7 := hml0
  have hown : s.vm.findClass "java/lang/StringUTF16" = some m.cls := findClass_of_methodNamed Bd.named
  have hnm := (name_of_methodNamed Bd.named Bd.method).1
  have X0 : Stand p l e ({ frames := 0, cells := 0, slots := 0, locals := 0 } : Room) s m #[(.ref ca), (.int (0 : Int32)), (.ref b), (.int (0 : Int32)), (.int (2 : Int32))] below meth c s₁ [] 0 0 := Stand.of_body Bd
  have e0 : s₁.heap = h0 := by rw [← hh, Bd.state]; rfl
  have N0 := Fr.nil n0
  have pre0 : ∀ t, Steps p.tables e below (s₁.setTop (mkF m 0 #[.val (.ref ca), .val (.int (0 : Int32)), .val (.ref b), .val (.int (0 : Int32)), .val (.int (2 : Int32)), .unset, .unset] [])) t → Steps p.tables e below (s₁.setTop (entryFrame m #[(.ref ca), (.int (0 : Int32)), (.ref b), (.int (0 : Int32)), (.int (2 : Int32))] 7)) t := fun t k_ => castTop (ef_9n2 m ca (0 : Int32) b (0 : Int32) (2 : Int32)) k_
  obtain ⟨cc, Ac, Sc, Hc⟩ := CA
  have pre1 : ∀ t, Steps p.tables e below (s₁.setTop (mkF m 12 #[.val (.ref ca), .val (.int (0 : Int32)), .val (.ref b), .val (.int (0 : Int32)), .val (.int (2 : Int32)), .val (.int (0 : Int32)), .unset] [(.int (0 : Int32)), (.ref ca)])) t → Steps p.tables e below _ t := fun t kt => pre0 t (by
    show Steps p.tables e below (s₁.setTop (mkF m 0 #[.val (.ref ca), .val (.int (0 : Int32)), .val (.ref b), .val (.int (0 : Int32)), .val (.int (2 : Int32)), .unset, .unset] [])) _
    refine XS.iconst X0.here hx rfl (hb hby d9_0) ?_
    show Steps p.tables e below (s₁.setTop (mkF m 1 #[.val (.ref ca), .val (.int (0 : Int32)), .val (.ref b), .val (.int (0 : Int32)), .val (.int (2 : Int32)), .unset, .unset] [(.int (0 : Int32))])) _
    refine XS.istore X0.here hx rfl (hb hby d9_1) rfl (l' := #[.val (.ref ca), .val (.int (0 : Int32)), .val (.ref b), .val (.int (0 : Int32)), .val (.int (2 : Int32)), .val (.int (0 : Int32)), .unset]) rfl ?_
    show Steps p.tables e below (s₁.setTop (mkF m 3 #[.val (.ref ca), .val (.int (0 : Int32)), .val (.ref b), .val (.int (0 : Int32)), .val (.int (2 : Int32)), .val (.int (0 : Int32)), .unset] [])) _
    refine XS.iload X0.here hx rfl (hb hby d9_3) rfl ?_
    show Steps p.tables e below (s₁.setTop (mkF m 5 #[.val (.ref ca), .val (.int (0 : Int32)), .val (.ref b), .val (.int (0 : Int32)), .val (.int (2 : Int32)), .val (.int (0 : Int32)), .unset] [(.int (0 : Int32))])) _
    refine XS.iload X0.here hx rfl (hb hby d9_5) rfl ?_
    have hc7 : (0 : Int32) < (2 : Int32) := by decide
    show Steps p.tables e below (s₁.setTop (mkF m 7 #[.val (.ref ca), .val (.int (0 : Int32)), .val (.ref b), .val (.int (0 : Int32)), .val (.int (2 : Int32)), .val (.int (0 : Int32)), .unset] [(.int (2 : Int32)), (.int (0 : Int32))])) _
    refine XS.icmpNo X0.here hx rfl (hb hby d9_7) rfl (tlt hc7).2.1 ?_
    show Steps p.tables e below (s₁.setTop (mkF m 10 #[.val (.ref ca), .val (.int (0 : Int32)), .val (.ref b), .val (.int (0 : Int32)), .val (.int (2 : Int32)), .val (.int (0 : Int32)), .unset] [])) _
    refine XS.aloadN X0.here hx rfl (hb hby d9_10) rfl rfl ?_
    show Steps p.tables e below (s₁.setTop (mkF m 11 #[.val (.ref ca), .val (.int (0 : Int32)), .val (.ref b), .val (.int (0 : Int32)), .val (.int (2 : Int32)), .val (.int (0 : Int32)), .unset] [(.ref ca)])) _
    refine XS.iloadN X0.here hx rfl (hb hby d9_11) rfl ?_
    exact kt)
  have Ac0 := Ac
  have pre2 : ∀ t, Steps p.tables e below (s₁.setTop (mkF m 31 #[.val (.ref ca), .val (.int (0 : Int32)), .val (.ref b), .val (.int (0 : Int32)), .val (.int (2 : Int32)), .val (.int (0 : Int32)), .val (.int (f 0))] [(.int ((f 0).toInt8.toInt32)), (.int (0 : Int32)), (.ref b)])) t → Steps p.tables e below _ t := fun t kt => pre1 t (by
    show Steps p.tables e below (s₁.setTop (mkF m 12 #[.val (.ref ca), .val (.int (0 : Int32)), .val (.ref b), .val (.int (0 : Int32)), .val (.int (2 : Int32)), .val (.int (0 : Int32)), .unset] [(.int (0 : Int32)), (.ref ca)])) _
    refine X0.caload hx (j := (0 : Int32)) (v := (.int (f 0))) (by rw [e0]; exact Ac0.1) (State.isArrayOf_alike hZ.alike Ac0.2.1) Ac0.2.2 (within (c := 0) rfl (by omega) (by omega)) (Hc 0 (by decide)) (g := (mkF m 12 #[.val (.ref ca), .val (.int (0 : Int32)), .val (.ref b), .val (.int (0 : Int32)), .val (.int (2 : Int32)), .val (.int (0 : Int32)), .unset] [(.int (0 : Int32)), (.ref ca)])) rfl rfl (hb hby d9_12) _ ?_
    show Steps p.tables e below (s₁.setTop (mkF m 13 #[.val (.ref ca), .val (.int (0 : Int32)), .val (.ref b), .val (.int (0 : Int32)), .val (.int (2 : Int32)), .val (.int (0 : Int32)), .unset] [(.int (f 0))])) _
    refine XS.istore X0.here hx rfl (hb hby d9_13) rfl (l' := #[.val (.ref ca), .val (.int (0 : Int32)), .val (.ref b), .val (.int (0 : Int32)), .val (.int (2 : Int32)), .val (.int (0 : Int32)), .val (.int (f 0))]) rfl ?_
    show Steps p.tables e below (s₁.setTop (mkF m 15 #[.val (.ref ca), .val (.int (0 : Int32)), .val (.ref b), .val (.int (0 : Int32)), .val (.int (2 : Int32)), .val (.int (0 : Int32)), .val (.int (f 0))] [])) _
    refine XS.iload X0.here hx rfl (hb hby d9_15) rfl ?_
    show Steps p.tables e below (s₁.setTop (mkF m 17 #[.val (.ref ca), .val (.int (0 : Int32)), .val (.ref b), .val (.int (0 : Int32)), .val (.int (2 : Int32)), .val (.int (0 : Int32)), .val (.int (f 0))] [(.int (f 0))])) _
    refine XS.sipush X0.here hx rfl (hb hby d9_17) ?_
    have hc20 : ¬ ((255 : Int32) < (f 0)) := hs 0 (by decide)
    show Steps p.tables e below (s₁.setTop (mkF m 20 #[.val (.ref ca), .val (.int (0 : Int32)), .val (.ref b), .val (.int (0 : Int32)), .val (.int (2 : Int32)), .val (.int (0 : Int32)), .val (.int (f 0))] [(.int (255 : Int32)), (.int (f 0))])) _
    refine XS.icmpYes X0.here hx rfl (pc0 := 20) (pc' := 26) rfl (hb hby d9_20) rfl (flt hc20).2.2.2 (by decide) (by decide) ?_
    show Steps p.tables e below (s₁.setTop (mkF m 26 #[.val (.ref ca), .val (.int (0 : Int32)), .val (.ref b), .val (.int (0 : Int32)), .val (.int (2 : Int32)), .val (.int (0 : Int32)), .val (.int (f 0))] [])) _
    refine XS.aloadN X0.here hx rfl (hb hby d9_26) rfl rfl ?_
    show Steps p.tables e below (s₁.setTop (mkF m 27 #[.val (.ref ca), .val (.int (0 : Int32)), .val (.ref b), .val (.int (0 : Int32)), .val (.int (2 : Int32)), .val (.int (0 : Int32)), .val (.int (f 0))] [(.ref b)])) _
    refine XS.iloadN X0.here hx rfl (hb hby d9_27) rfl ?_
    show Steps p.tables e below (s₁.setTop (mkF m 28 #[.val (.ref ca), .val (.int (0 : Int32)), .val (.ref b), .val (.int (0 : Int32)), .val (.int (2 : Int32)), .val (.int (0 : Int32)), .val (.int (f 0))] [(.int (0 : Int32)), (.ref b)])) _
    refine XS.iload X0.here hx rfl (hb hby d9_28) rfl ?_
    show Steps p.tables e below (s₁.setTop (mkF m 30 #[.val (.ref ca), .val (.int (0 : Int32)), .val (.ref b), .val (.int (0 : Int32)), .val (.int (2 : Int32)), .val (.int (0 : Int32)), .val (.int (f 0))] [(.int (f 0)), (.int (0 : Int32)), (.ref b)])) _
    refine XS.i2b X0.here hx rfl (hb hby d9_30) rfl ?_
    exact kt)
  obtain ⟨cb0, Ab0, Sb0, Hb0⟩ := id BB
  obtain ⟨T3, h3, X3, e3, W3, st3⟩ := stB X0 hx hZ e0 Ab0 (j := (0 : Int32)) (within (c := 0) rfl (by omega) (by omega)) (g := (mkF m 31 #[.val (.ref ca), .val (.int (0 : Int32)), .val (.ref b), .val (.int (0 : Int32)), .val (.int (2 : Int32)), .val (.int (0 : Int32)), .val (.int (f 0))] [(.int ((f 0).toInt8.toInt32)), (.int (0 : Int32)), (.ref b)])) rfl rfl (hb hby d9_31)
  have N3 := Fr.snoc X3 N0 gb
  have Zs3 : n0 ≤ h3.size := Nat.le_trans Z0 (Nat.le_of_eq W3.size.symm)
  have Kp3 : Keep h0 h3 [b] := (Keep.refl h0 [b]).wr W3 (Or.inl (List.mem_of_getElem? (i := 0) rfl))
  have BB0 := own_A_set BB (show Wr _ _ _ 0 (.int (nar .byte _)) from W3)
  have pre4 : ∀ t, Steps p.tables e below (T3.setTop (mkF m 3 #[.val (.ref ca), .val (.int ((0 : Int32) + (1 : Int32))), .val (.ref b), .val (.int ((0 : Int32) + (1 : Int32))), .val (.int (2 : Int32)), .val (.int ((0 : Int32) + (1 : Int32))), .val (.int (f 0))] [])) t → Steps p.tables e below _ t := fun t kt => pre2 t (by
    show Steps p.tables e below (s₁.setTop (mkF m 31 #[.val (.ref ca), .val (.int (0 : Int32)), .val (.ref b), .val (.int (0 : Int32)), .val (.int (2 : Int32)), .val (.int (0 : Int32)), .val (.int (f 0))] [(.int ((f 0).toInt8.toInt32)), (.int (0 : Int32)), (.ref b)])) _
    refine st3 _ ?_
    show Steps p.tables e below (T3.setTop (mkF m 32 #[.val (.ref ca), .val (.int (0 : Int32)), .val (.ref b), .val (.int (0 : Int32)), .val (.int (2 : Int32)), .val (.int (0 : Int32)), .val (.int (f 0))] [])) _
    refine XS.iinc X3.here hx rfl (hb hby d9_32) rfl (l' := #[.val (.ref ca), .val (.int ((0 : Int32) + (1 : Int32))), .val (.ref b), .val (.int (0 : Int32)), .val (.int (2 : Int32)), .val (.int (0 : Int32)), .val (.int (f 0))]) rfl ?_
    show Steps p.tables e below (T3.setTop (mkF m 35 #[.val (.ref ca), .val (.int ((0 : Int32) + (1 : Int32))), .val (.ref b), .val (.int (0 : Int32)), .val (.int (2 : Int32)), .val (.int (0 : Int32)), .val (.int (f 0))] [])) _
    refine XS.iinc X3.here hx rfl (hb hby d9_35) rfl (l' := #[.val (.ref ca), .val (.int ((0 : Int32) + (1 : Int32))), .val (.ref b), .val (.int ((0 : Int32) + (1 : Int32))), .val (.int (2 : Int32)), .val (.int (0 : Int32)), .val (.int (f 0))]) rfl ?_
    show Steps p.tables e below (T3.setTop (mkF m 38 #[.val (.ref ca), .val (.int ((0 : Int32) + (1 : Int32))), .val (.ref b), .val (.int ((0 : Int32) + (1 : Int32))), .val (.int (2 : Int32)), .val (.int (0 : Int32)), .val (.int (f 0))] [])) _
    refine XS.iinc X3.here hx rfl (hb hby d9_38) rfl (l' := #[.val (.ref ca), .val (.int ((0 : Int32) + (1 : Int32))), .val (.ref b), .val (.int ((0 : Int32) + (1 : Int32))), .val (.int (2 : Int32)), .val (.int ((0 : Int32) + (1 : Int32))), .val (.int (f 0))]) rfl ?_
    show Steps p.tables e below (T3.setTop (mkF m 41 #[.val (.ref ca), .val (.int ((0 : Int32) + (1 : Int32))), .val (.ref b), .val (.int ((0 : Int32) + (1 : Int32))), .val (.int (2 : Int32)), .val (.int ((0 : Int32) + (1 : Int32))), .val (.int (f 0))] [])) _
    refine XS.goto X3.here hx rfl (pc0 := 41) (pc' := 3) rfl (hb hby d9_41) (by decide) (by decide) ?_
    exact kt)
  have hv5 : ((0 : Int32) + (1 : Int32)) = (1 : Int32) := by decide
  rw [hv5] at pre4
  have pre6 : ∀ t, Steps p.tables e below (T3.setTop (mkF m 12 #[.val (.ref ca), .val (.int (1 : Int32)), .val (.ref b), .val (.int (1 : Int32)), .val (.int (2 : Int32)), .val (.int (1 : Int32)), .val (.int (f 0))] [(.int (1 : Int32)), (.ref ca)])) t → Steps p.tables e below _ t := fun t kt => pre4 t (by
    show Steps p.tables e below (T3.setTop (mkF m 3 #[.val (.ref ca), .val (.int (1 : Int32)), .val (.ref b), .val (.int (1 : Int32)), .val (.int (2 : Int32)), .val (.int (1 : Int32)), .val (.int (f 0))] [])) _
    refine XS.iload X3.here hx rfl (hb hby d9_3) rfl ?_
    show Steps p.tables e below (T3.setTop (mkF m 5 #[.val (.ref ca), .val (.int (1 : Int32)), .val (.ref b), .val (.int (1 : Int32)), .val (.int (2 : Int32)), .val (.int (1 : Int32)), .val (.int (f 0))] [(.int (1 : Int32))])) _
    refine XS.iload X3.here hx rfl (hb hby d9_5) rfl ?_
    have hc7 : (1 : Int32) < (2 : Int32) := by decide
    show Steps p.tables e below (T3.setTop (mkF m 7 #[.val (.ref ca), .val (.int (1 : Int32)), .val (.ref b), .val (.int (1 : Int32)), .val (.int (2 : Int32)), .val (.int (1 : Int32)), .val (.int (f 0))] [(.int (2 : Int32)), (.int (1 : Int32))])) _
    refine XS.icmpNo X3.here hx rfl (hb hby d9_7) rfl (tlt hc7).2.1 ?_
    show Steps p.tables e below (T3.setTop (mkF m 10 #[.val (.ref ca), .val (.int (1 : Int32)), .val (.ref b), .val (.int (1 : Int32)), .val (.int (2 : Int32)), .val (.int (1 : Int32)), .val (.int (f 0))] [])) _
    refine XS.aloadN X3.here hx rfl (hb hby d9_10) rfl rfl ?_
    show Steps p.tables e below (T3.setTop (mkF m 11 #[.val (.ref ca), .val (.int (1 : Int32)), .val (.ref b), .val (.int (1 : Int32)), .val (.int (2 : Int32)), .val (.int (1 : Int32)), .val (.int (f 0))] [(.ref ca)])) _
    refine XS.iloadN X3.here hx rfl (hb hby d9_11) rfl ?_
    exact kt)
  have Ac1 := (Arr.other W3 Ac nb)
  have pre7 : ∀ t, Steps p.tables e below (T3.setTop (mkF m 31 #[.val (.ref ca), .val (.int (1 : Int32)), .val (.ref b), .val (.int (1 : Int32)), .val (.int (2 : Int32)), .val (.int (1 : Int32)), .val (.int (f 1))] [(.int ((f 1).toInt8.toInt32)), (.int (1 : Int32)), (.ref b)])) t → Steps p.tables e below _ t := fun t kt => pre6 t (by
    show Steps p.tables e below (T3.setTop (mkF m 12 #[.val (.ref ca), .val (.int (1 : Int32)), .val (.ref b), .val (.int (1 : Int32)), .val (.int (2 : Int32)), .val (.int (1 : Int32)), .val (.int (f 0))] [(.int (1 : Int32)), (.ref ca)])) _
    refine X3.caload hx (j := (1 : Int32)) (v := (.int (f 1))) (by rw [e3]; exact Ac1.1) (State.isArrayOf_alike hZ.alike Ac1.2.1) Ac1.2.2 (within (c := 1) rfl (by omega) (by omega)) (Hc 1 (by decide)) (g := (mkF m 12 #[.val (.ref ca), .val (.int (1 : Int32)), .val (.ref b), .val (.int (1 : Int32)), .val (.int (2 : Int32)), .val (.int (1 : Int32)), .val (.int (f 0))] [(.int (1 : Int32)), (.ref ca)])) rfl rfl (hb hby d9_12) _ ?_
    show Steps p.tables e below (T3.setTop (mkF m 13 #[.val (.ref ca), .val (.int (1 : Int32)), .val (.ref b), .val (.int (1 : Int32)), .val (.int (2 : Int32)), .val (.int (1 : Int32)), .val (.int (f 0))] [(.int (f 1))])) _
    refine XS.istore X3.here hx rfl (hb hby d9_13) rfl (l' := #[.val (.ref ca), .val (.int (1 : Int32)), .val (.ref b), .val (.int (1 : Int32)), .val (.int (2 : Int32)), .val (.int (1 : Int32)), .val (.int (f 1))]) rfl ?_
    show Steps p.tables e below (T3.setTop (mkF m 15 #[.val (.ref ca), .val (.int (1 : Int32)), .val (.ref b), .val (.int (1 : Int32)), .val (.int (2 : Int32)), .val (.int (1 : Int32)), .val (.int (f 1))] [])) _
    refine XS.iload X3.here hx rfl (hb hby d9_15) rfl ?_
    show Steps p.tables e below (T3.setTop (mkF m 17 #[.val (.ref ca), .val (.int (1 : Int32)), .val (.ref b), .val (.int (1 : Int32)), .val (.int (2 : Int32)), .val (.int (1 : Int32)), .val (.int (f 1))] [(.int (f 1))])) _
    refine XS.sipush X3.here hx rfl (hb hby d9_17) ?_
    have hc20 : ¬ ((255 : Int32) < (f 1)) := hs 1 (by decide)
    show Steps p.tables e below (T3.setTop (mkF m 20 #[.val (.ref ca), .val (.int (1 : Int32)), .val (.ref b), .val (.int (1 : Int32)), .val (.int (2 : Int32)), .val (.int (1 : Int32)), .val (.int (f 1))] [(.int (255 : Int32)), (.int (f 1))])) _
    refine XS.icmpYes X3.here hx rfl (pc0 := 20) (pc' := 26) rfl (hb hby d9_20) rfl (flt hc20).2.2.2 (by decide) (by decide) ?_
    show Steps p.tables e below (T3.setTop (mkF m 26 #[.val (.ref ca), .val (.int (1 : Int32)), .val (.ref b), .val (.int (1 : Int32)), .val (.int (2 : Int32)), .val (.int (1 : Int32)), .val (.int (f 1))] [])) _
    refine XS.aloadN X3.here hx rfl (hb hby d9_26) rfl rfl ?_
    show Steps p.tables e below (T3.setTop (mkF m 27 #[.val (.ref ca), .val (.int (1 : Int32)), .val (.ref b), .val (.int (1 : Int32)), .val (.int (2 : Int32)), .val (.int (1 : Int32)), .val (.int (f 1))] [(.ref b)])) _
    refine XS.iloadN X3.here hx rfl (hb hby d9_27) rfl ?_
    show Steps p.tables e below (T3.setTop (mkF m 28 #[.val (.ref ca), .val (.int (1 : Int32)), .val (.ref b), .val (.int (1 : Int32)), .val (.int (2 : Int32)), .val (.int (1 : Int32)), .val (.int (f 1))] [(.int (1 : Int32)), (.ref b)])) _
    refine XS.iload X3.here hx rfl (hb hby d9_28) rfl ?_
    show Steps p.tables e below (T3.setTop (mkF m 30 #[.val (.ref ca), .val (.int (1 : Int32)), .val (.ref b), .val (.int (1 : Int32)), .val (.int (2 : Int32)), .val (.int (1 : Int32)), .val (.int (f 1))] [(.int (f 1)), (.int (1 : Int32)), (.ref b)])) _
    refine XS.i2b X3.here hx rfl (hb hby d9_30) rfl ?_
    exact kt)
  obtain ⟨cb1, Ab1, Sb1, Hb1⟩ := id BB0
  obtain ⟨T8, h8, X8, e8, W8, st8⟩ := stB X3 hx hZ e3 Ab1 (j := (1 : Int32)) (within (c := 1) rfl (by omega) (by omega)) (g := (mkF m 31 #[.val (.ref ca), .val (.int (1 : Int32)), .val (.ref b), .val (.int (1 : Int32)), .val (.int (2 : Int32)), .val (.int (1 : Int32)), .val (.int (f 1))] [(.int ((f 1).toInt8.toInt32)), (.int (1 : Int32)), (.ref b)])) rfl rfl (hb hby d9_31)
  have N8 := Fr.snoc X8 N3 gb
  have Zs8 : n0 ≤ h8.size := Nat.le_trans Zs3 (Nat.le_of_eq W8.size.symm)
  have Kp8 : Keep h0 h8 [b] := Kp3.wr W8 (Or.inl (List.mem_of_getElem? (i := 0) rfl))
  have BB1 := own_A_set BB0 (show Wr _ _ _ 1 (.int (nar .byte _)) from W8)
  have pre9 : ∀ t, Steps p.tables e below (T8.setTop (mkF m 3 #[.val (.ref ca), .val (.int ((1 : Int32) + (1 : Int32))), .val (.ref b), .val (.int ((1 : Int32) + (1 : Int32))), .val (.int (2 : Int32)), .val (.int ((1 : Int32) + (1 : Int32))), .val (.int (f 1))] [])) t → Steps p.tables e below _ t := fun t kt => pre7 t (by
    show Steps p.tables e below (T3.setTop (mkF m 31 #[.val (.ref ca), .val (.int (1 : Int32)), .val (.ref b), .val (.int (1 : Int32)), .val (.int (2 : Int32)), .val (.int (1 : Int32)), .val (.int (f 1))] [(.int ((f 1).toInt8.toInt32)), (.int (1 : Int32)), (.ref b)])) _
    refine st8 _ ?_
    show Steps p.tables e below (T8.setTop (mkF m 32 #[.val (.ref ca), .val (.int (1 : Int32)), .val (.ref b), .val (.int (1 : Int32)), .val (.int (2 : Int32)), .val (.int (1 : Int32)), .val (.int (f 1))] [])) _
    refine XS.iinc X8.here hx rfl (hb hby d9_32) rfl (l' := #[.val (.ref ca), .val (.int ((1 : Int32) + (1 : Int32))), .val (.ref b), .val (.int (1 : Int32)), .val (.int (2 : Int32)), .val (.int (1 : Int32)), .val (.int (f 1))]) rfl ?_
    show Steps p.tables e below (T8.setTop (mkF m 35 #[.val (.ref ca), .val (.int ((1 : Int32) + (1 : Int32))), .val (.ref b), .val (.int (1 : Int32)), .val (.int (2 : Int32)), .val (.int (1 : Int32)), .val (.int (f 1))] [])) _
    refine XS.iinc X8.here hx rfl (hb hby d9_35) rfl (l' := #[.val (.ref ca), .val (.int ((1 : Int32) + (1 : Int32))), .val (.ref b), .val (.int ((1 : Int32) + (1 : Int32))), .val (.int (2 : Int32)), .val (.int (1 : Int32)), .val (.int (f 1))]) rfl ?_
    show Steps p.tables e below (T8.setTop (mkF m 38 #[.val (.ref ca), .val (.int ((1 : Int32) + (1 : Int32))), .val (.ref b), .val (.int ((1 : Int32) + (1 : Int32))), .val (.int (2 : Int32)), .val (.int (1 : Int32)), .val (.int (f 1))] [])) _
    refine XS.iinc X8.here hx rfl (hb hby d9_38) rfl (l' := #[.val (.ref ca), .val (.int ((1 : Int32) + (1 : Int32))), .val (.ref b), .val (.int ((1 : Int32) + (1 : Int32))), .val (.int (2 : Int32)), .val (.int ((1 : Int32) + (1 : Int32))), .val (.int (f 1))]) rfl ?_
    show Steps p.tables e below (T8.setTop (mkF m 41 #[.val (.ref ca), .val (.int ((1 : Int32) + (1 : Int32))), .val (.ref b), .val (.int ((1 : Int32) + (1 : Int32))), .val (.int (2 : Int32)), .val (.int ((1 : Int32) + (1 : Int32))), .val (.int (f 1))] [])) _
    refine XS.goto X8.here hx rfl (pc0 := 41) (pc' := 3) rfl (hb hby d9_41) (by decide) (by decide) ?_
    exact kt)
  have hv10 : ((1 : Int32) + (1 : Int32)) = (2 : Int32) := by decide
  rw [hv10] at pre9
  obtain ⟨fs, hr, hrun, hended, hW, hsame⟩ := X8.leave (v := some (.int (2 : Int32))) (fun h => by rw [Bd.returns] at h; cases h)
  refine ⟨_, _, pre9 _ ?_, hrun, hended, _, _, rfl, ?_, ⟨_, rfl⟩, hW, hsame.mono (by decide) (by decide)⟩
  · show Steps p.tables e below (T8.setTop (mkF m 3 #[.val (.ref ca), .val (.int (2 : Int32)), .val (.ref b), .val (.int (2 : Int32)), .val (.int (2 : Int32)), .val (.int (2 : Int32)), .val (.int (f 1))] [])) _
    refine XS.iload X8.here hx rfl (hb hby d9_3) rfl ?_
    show Steps p.tables e below (T8.setTop (mkF m 5 #[.val (.ref ca), .val (.int (2 : Int32)), .val (.ref b), .val (.int (2 : Int32)), .val (.int (2 : Int32)), .val (.int (2 : Int32)), .val (.int (f 1))] [(.int (2 : Int32))])) _
    refine XS.iload X8.here hx rfl (hb hby d9_5) rfl ?_
    have hc7 : ¬ ((2 : Int32) < (2 : Int32)) := by decide
    show Steps p.tables e below (T8.setTop (mkF m 7 #[.val (.ref ca), .val (.int (2 : Int32)), .val (.ref b), .val (.int (2 : Int32)), .val (.int (2 : Int32)), .val (.int (2 : Int32)), .val (.int (f 1))] [(.int (2 : Int32)), (.int (2 : Int32))])) _
    refine XS.icmpYes X8.here hx rfl (pc0 := 7) (pc' := 44) rfl (hb hby d9_7) rfl (flt hc7).2.1 (by decide) (by decide) ?_
    show Steps p.tables e below (T8.setTop (mkF m 44 #[.val (.ref ca), .val (.int (2 : Int32)), .val (.ref b), .val (.int (2 : Int32)), .val (.int (2 : Int32)), .val (.int (2 : Int32)), .val (.int (f 1))] [])) _
    refine XS.iload X8.here hx rfl (hb hby d9_44) rfl ?_
    show Steps p.tables e below (T8.setTop (mkF m 46 #[.val (.ref ca), .val (.int (2 : Int32)), .val (.ref b), .val (.int (2 : Int32)), .val (.int (2 : Int32)), .val (.int (2 : Int32)), .val (.int (f 1))] [(.int (2 : Int32))])) _
    exact retI X8 hx Bd.returns (hb hby d9_46) hr
  · show Q9n2 Z b h0 n0 _ T8.heap _
    rw [e8]
    exact ⟨rfl, N8, Kp8, _, BB1⟩
theorem ef_9n3 (m : MethodId) (x0 : Addr) (x1 : Int32) (x2 : Addr) (x3 : Int32) (x4 : Int32) : entryFrame m #[(.ref x0), (.int x1), (.ref x2), (.int x3), (.int x4)] 7 = mkF m 0 #[.val (.ref x0), .val (.int x1), .val (.ref x2), .val (.int x3), .val (.int x4), .unset, .unset] [] := by first | (simp [entryFrame, mkF, argsToLocals, Value.category]; done) | rfl
def Q9n3 (Z : State) (b : Addr) (h0 : Heap) (n0 : Nat) (v : Option Value) (h : Heap) (L : List Loc) : Prop := v = some (.int (3 : Int32)) ∧ Fr n0 L ∧ Keep h0 h [b] ∧ ∃ f', own_A Z h b .byte 3 f'
set_option maxRecDepth 65536 in
set_option maxHeartbeats 40000000 in
theorem rm9n3 (l : Launch) (Z : State) (a0 : Array Value) (hw : ∀ d ∈ tables_1, d.before a0 Z = true) (ws : List Jvm.Cond) (ca : Addr) (b : Addr) (f : Nat → Int32) (h0 : Heap) (n0 : Nat) (Z0 : n0 ≤ h0.size) (CA : own_A Z h0 ca .char 3 f) (BB : own_A Z h0 b .byte 3 (fun _ => 0)) (nb : ca ≠ b) (gb : n0 ≤ b) (hs : ∀ j, j < 3 → ¬ ((255 : Int32) < f j)) :
    MetFree l (⟨"java/lang/StringUTF16", "compress", "([CI[BII)I"⟩ : MethodName) (head1 (Jvm.Cond.code (⟨"java/lang/StringUTF16", "compress", "([CI[BII)I"⟩ : MethodName) jdk_52_method_21_code 7 (some .int) :: ws) ({ frames := 0, cells := 0, slots := 0, locals := 0 } : Room)) (fun aa_ U => aa_ = #[(.ref ca), (.int (0 : Int32)), (.ref b), (.int (0 : Int32)), (.int (3 : Int32))] ∧ Z.Warmed39 U.vm ∧ U.heap = h0) (fun _ _ _ _ _ => True) (fun _ U o U' => ∃ v_ L_, o = .returned v_ ∧ Q9n3 Z b h0 n0 v_ U'.heap L_ ∧ FrameEnd U o U' L_ ({ frames := 0, cells := 0, slots := 0, locals := 0 } : Room).cells ({ frames := 0, cells := 0, slots := 0, locals := 0 } : Room).slots) := by
  refine MetFree.of_bodySF (plainFor_of_name pn_9) hisR ?_
  intro p e s m args below meth c s₁ Bd hml0 hP hK
  obtain ⟨rfl, hZ, hh⟩ := hP
  have hx := Bd.exec
  have hby := Bd.bytes
  have hml : c.maxLocals = 7 := hml0
  have hown : s.vm.findClass "java/lang/StringUTF16" = some m.cls := findClass_of_methodNamed Bd.named
  have hnm := (name_of_methodNamed Bd.named Bd.method).1
  have X0 : Stand p l e ({ frames := 0, cells := 0, slots := 0, locals := 0 } : Room) s m #[(.ref ca), (.int (0 : Int32)), (.ref b), (.int (0 : Int32)), (.int (3 : Int32))] below meth c s₁ [] 0 0 := Stand.of_body Bd
  have e0 : s₁.heap = h0 := by rw [← hh, Bd.state]; rfl
  have N0 := Fr.nil n0
  have pre0 : ∀ t, Steps p.tables e below (s₁.setTop (mkF m 0 #[.val (.ref ca), .val (.int (0 : Int32)), .val (.ref b), .val (.int (0 : Int32)), .val (.int (3 : Int32)), .unset, .unset] [])) t → Steps p.tables e below (s₁.setTop (entryFrame m #[(.ref ca), (.int (0 : Int32)), (.ref b), (.int (0 : Int32)), (.int (3 : Int32))] 7)) t := fun t k_ => castTop (ef_9n3 m ca (0 : Int32) b (0 : Int32) (3 : Int32)) k_
  obtain ⟨cc, Ac, Sc, Hc⟩ := CA
  have pre1 : ∀ t, Steps p.tables e below (s₁.setTop (mkF m 12 #[.val (.ref ca), .val (.int (0 : Int32)), .val (.ref b), .val (.int (0 : Int32)), .val (.int (3 : Int32)), .val (.int (0 : Int32)), .unset] [(.int (0 : Int32)), (.ref ca)])) t → Steps p.tables e below _ t := fun t kt => pre0 t (by
    show Steps p.tables e below (s₁.setTop (mkF m 0 #[.val (.ref ca), .val (.int (0 : Int32)), .val (.ref b), .val (.int (0 : Int32)), .val (.int (3 : Int32)), .unset, .unset] [])) _
    refine XS.iconst X0.here hx rfl (hb hby d9_0) ?_
    show Steps p.tables e below (s₁.setTop (mkF m 1 #[.val (.ref ca), .val (.int (0 : Int32)), .val (.ref b), .val (.int (0 : Int32)), .val (.int (3 : Int32)), .unset, .unset] [(.int (0 : Int32))])) _
    refine XS.istore X0.here hx rfl (hb hby d9_1) rfl (l' := #[.val (.ref ca), .val (.int (0 : Int32)), .val (.ref b), .val (.int (0 : Int32)), .val (.int (3 : Int32)), .val (.int (0 : Int32)), .unset]) rfl ?_
    show Steps p.tables e below (s₁.setTop (mkF m 3 #[.val (.ref ca), .val (.int (0 : Int32)), .val (.ref b), .val (.int (0 : Int32)), .val (.int (3 : Int32)), .val (.int (0 : Int32)), .unset] [])) _
    refine XS.iload X0.here hx rfl (hb hby d9_3) rfl ?_
    show Steps p.tables e below (s₁.setTop (mkF m 5 #[.val (.ref ca), .val (.int (0 : Int32)), .val (.ref b), .val (.int (0 : Int32)), .val (.int (3 : Int32)), .val (.int (0 : Int32)), .unset] [(.int (0 : Int32))])) _
    refine XS.iload X0.here hx rfl (hb hby d9_5) rfl ?_
    have hc7 : (0 : Int32) < (3 : Int32) := by decide
    show Steps p.tables e below (s₁.setTop (mkF m 7 #[.val (.ref ca), .val (.int (0 : Int32)), .val (.ref b), .val (.int (0 : Int32)), .val (.int (3 : Int32)), .val (.int (0 : Int32)), .unset] [(.int (3 : Int32)), (.int (0 : Int32))])) _
    refine XS.icmpNo X0.here hx rfl (hb hby d9_7) rfl (tlt hc7).2.1 ?_
    show Steps p.tables e below (s₁.setTop (mkF m 10 #[.val (.ref ca), .val (.int (0 : Int32)), .val (.ref b), .val (.int (0 : Int32)), .val (.int (3 : Int32)), .val (.int (0 : Int32)), .unset] [])) _
    refine XS.aloadN X0.here hx rfl (hb hby d9_10) rfl rfl ?_
    show Steps p.tables e below (s₁.setTop (mkF m 11 #[.val (.ref ca), .val (.int (0 : Int32)), .val (.ref b), .val (.int (0 : Int32)), .val (.int (3 : Int32)), .val (.int (0 : Int32)), .unset] [(.ref ca)])) _
    refine XS.iloadN X0.here hx rfl (hb hby d9_11) rfl ?_
    exact kt)
  have Ac0 := Ac
  have pre2 : ∀ t, Steps p.tables e below (s₁.setTop (mkF m 31 #[.val (.ref ca), .val (.int (0 : Int32)), .val (.ref b), .val (.int (0 : Int32)), .val (.int (3 : Int32)), .val (.int (0 : Int32)), .val (.int (f 0))] [(.int ((f 0).toInt8.toInt32)), (.int (0 : Int32)), (.ref b)])) t → Steps p.tables e below _ t := fun t kt => pre1 t (by
    show Steps p.tables e below (s₁.setTop (mkF m 12 #[.val (.ref ca), .val (.int (0 : Int32)), .val (.ref b), .val (.int (0 : Int32)), .val (.int (3 : Int32)), .val (.int (0 : Int32)), .unset] [(.int (0 : Int32)), (.ref ca)])) _
    refine X0.caload hx (j := (0 : Int32)) (v := (.int (f 0))) (by rw [e0]; exact Ac0.1) (State.isArrayOf_alike hZ.alike Ac0.2.1) Ac0.2.2 (within (c := 0) rfl (by omega) (by omega)) (Hc 0 (by decide)) (g := (mkF m 12 #[.val (.ref ca), .val (.int (0 : Int32)), .val (.ref b), .val (.int (0 : Int32)), .val (.int (3 : Int32)), .val (.int (0 : Int32)), .unset] [(.int (0 : Int32)), (.ref ca)])) rfl rfl (hb hby d9_12) _ ?_
    show Steps p.tables e below (s₁.setTop (mkF m 13 #[.val (.ref ca), .val (.int (0 : Int32)), .val (.ref b), .val (.int (0 : Int32)), .val (.int (3 : Int32)), .val (.int (0 : Int32)), .unset] [(.int (f 0))])) _
    refine XS.istore X0.here hx rfl (hb hby d9_13) rfl (l' := #[.val (.ref ca), .val (.int (0 : Int32)), .val (.ref b), .val (.int (0 : Int32)), .val (.int (3 : Int32)), .val (.int (0 : Int32)), .val (.int (f 0))]) rfl ?_
    show Steps p.tables e below (s₁.setTop (mkF m 15 #[.val (.ref ca), .val (.int (0 : Int32)), .val (.ref b), .val (.int (0 : Int32)), .val (.int (3 : Int32)), .val (.int (0 : Int32)), .val (.int (f 0))] [])) _
    refine XS.iload X0.here hx rfl (hb hby d9_15) rfl ?_
    show Steps p.tables e below (s₁.setTop (mkF m 17 #[.val (.ref ca), .val (.int (0 : Int32)), .val (.ref b), .val (.int (0 : Int32)), .val (.int (3 : Int32)), .val (.int (0 : Int32)), .val (.int (f 0))] [(.int (f 0))])) _
    refine XS.sipush X0.here hx rfl (hb hby d9_17) ?_
    have hc20 : ¬ ((255 : Int32) < (f 0)) := hs 0 (by decide)
    show Steps p.tables e below (s₁.setTop (mkF m 20 #[.val (.ref ca), .val (.int (0 : Int32)), .val (.ref b), .val (.int (0 : Int32)), .val (.int (3 : Int32)), .val (.int (0 : Int32)), .val (.int (f 0))] [(.int (255 : Int32)), (.int (f 0))])) _
    refine XS.icmpYes X0.here hx rfl (pc0 := 20) (pc' := 26) rfl (hb hby d9_20) rfl (flt hc20).2.2.2 (by decide) (by decide) ?_
    show Steps p.tables e below (s₁.setTop (mkF m 26 #[.val (.ref ca), .val (.int (0 : Int32)), .val (.ref b), .val (.int (0 : Int32)), .val (.int (3 : Int32)), .val (.int (0 : Int32)), .val (.int (f 0))] [])) _
    refine XS.aloadN X0.here hx rfl (hb hby d9_26) rfl rfl ?_
    show Steps p.tables e below (s₁.setTop (mkF m 27 #[.val (.ref ca), .val (.int (0 : Int32)), .val (.ref b), .val (.int (0 : Int32)), .val (.int (3 : Int32)), .val (.int (0 : Int32)), .val (.int (f 0))] [(.ref b)])) _
    refine XS.iloadN X0.here hx rfl (hb hby d9_27) rfl ?_
    show Steps p.tables e below (s₁.setTop (mkF m 28 #[.val (.ref ca), .val (.int (0 : Int32)), .val (.ref b), .val (.int (0 : Int32)), .val (.int (3 : Int32)), .val (.int (0 : Int32)), .val (.int (f 0))] [(.int (0 : Int32)), (.ref b)])) _
    refine XS.iload X0.here hx rfl (hb hby d9_28) rfl ?_
    show Steps p.tables e below (s₁.setTop (mkF m 30 #[.val (.ref ca), .val (.int (0 : Int32)), .val (.ref b), .val (.int (0 : Int32)), .val (.int (3 : Int32)), .val (.int (0 : Int32)), .val (.int (f 0))] [(.int (f 0)), (.int (0 : Int32)), (.ref b)])) _
    refine XS.i2b X0.here hx rfl (hb hby d9_30) rfl ?_
    exact kt)
  obtain ⟨cb0, Ab0, Sb0, Hb0⟩ := id BB
  obtain ⟨T3, h3, X3, e3, W3, st3⟩ := stB X0 hx hZ e0 Ab0 (j := (0 : Int32)) (within (c := 0) rfl (by omega) (by omega)) (g := (mkF m 31 #[.val (.ref ca), .val (.int (0 : Int32)), .val (.ref b), .val (.int (0 : Int32)), .val (.int (3 : Int32)), .val (.int (0 : Int32)), .val (.int (f 0))] [(.int ((f 0).toInt8.toInt32)), (.int (0 : Int32)), (.ref b)])) rfl rfl (hb hby d9_31)
  have N3 := Fr.snoc X3 N0 gb
  have Zs3 : n0 ≤ h3.size := Nat.le_trans Z0 (Nat.le_of_eq W3.size.symm)
  have Kp3 : Keep h0 h3 [b] := (Keep.refl h0 [b]).wr W3 (Or.inl (List.mem_of_getElem? (i := 0) rfl))
  have BB0 := own_A_set BB (show Wr _ _ _ 0 (.int (nar .byte _)) from W3)
  have pre4 : ∀ t, Steps p.tables e below (T3.setTop (mkF m 3 #[.val (.ref ca), .val (.int ((0 : Int32) + (1 : Int32))), .val (.ref b), .val (.int ((0 : Int32) + (1 : Int32))), .val (.int (3 : Int32)), .val (.int ((0 : Int32) + (1 : Int32))), .val (.int (f 0))] [])) t → Steps p.tables e below _ t := fun t kt => pre2 t (by
    show Steps p.tables e below (s₁.setTop (mkF m 31 #[.val (.ref ca), .val (.int (0 : Int32)), .val (.ref b), .val (.int (0 : Int32)), .val (.int (3 : Int32)), .val (.int (0 : Int32)), .val (.int (f 0))] [(.int ((f 0).toInt8.toInt32)), (.int (0 : Int32)), (.ref b)])) _
    refine st3 _ ?_
    show Steps p.tables e below (T3.setTop (mkF m 32 #[.val (.ref ca), .val (.int (0 : Int32)), .val (.ref b), .val (.int (0 : Int32)), .val (.int (3 : Int32)), .val (.int (0 : Int32)), .val (.int (f 0))] [])) _
    refine XS.iinc X3.here hx rfl (hb hby d9_32) rfl (l' := #[.val (.ref ca), .val (.int ((0 : Int32) + (1 : Int32))), .val (.ref b), .val (.int (0 : Int32)), .val (.int (3 : Int32)), .val (.int (0 : Int32)), .val (.int (f 0))]) rfl ?_
    show Steps p.tables e below (T3.setTop (mkF m 35 #[.val (.ref ca), .val (.int ((0 : Int32) + (1 : Int32))), .val (.ref b), .val (.int (0 : Int32)), .val (.int (3 : Int32)), .val (.int (0 : Int32)), .val (.int (f 0))] [])) _
    refine XS.iinc X3.here hx rfl (hb hby d9_35) rfl (l' := #[.val (.ref ca), .val (.int ((0 : Int32) + (1 : Int32))), .val (.ref b), .val (.int ((0 : Int32) + (1 : Int32))), .val (.int (3 : Int32)), .val (.int (0 : Int32)), .val (.int (f 0))]) rfl ?_
    show Steps p.tables e below (T3.setTop (mkF m 38 #[.val (.ref ca), .val (.int ((0 : Int32) + (1 : Int32))), .val (.ref b), .val (.int ((0 : Int32) + (1 : Int32))), .val (.int (3 : Int32)), .val (.int (0 : Int32)), .val (.int (f 0))] [])) _
    refine XS.iinc X3.here hx rfl (hb hby d9_38) rfl (l' := #[.val (.ref ca), .val (.int ((0 : Int32) + (1 : Int32))), .val (.ref b), .val (.int ((0 : Int32) + (1 : Int32))), .val (.int (3 : Int32)), .val (.int ((0 : Int32) + (1 : Int32))), .val (.int (f 0))]) rfl ?_
    show Steps p.tables e below (T3.setTop (mkF m 41 #[.val (.ref ca), .val (.int ((0 : Int32) + (1 : Int32))), .val (.ref b), .val (.int ((0 : Int32) + (1 : Int32))), .val (.int (3 : Int32)), .val (.int ((0 : Int32) + (1 : Int32))), .val (.int (f 0))] [])) _
    refine XS.goto X3.here hx rfl (pc0 := 41) (pc' := 3) rfl (hb hby d9_41) (by decide) (by decide) ?_
    exact kt)
  have hv5 : ((0 : Int32) + (1 : Int32)) = (1 : Int32) := by decide
  rw [hv5] at pre4
  have pre6 : ∀ t, Steps p.tables e below (T3.setTop (mkF m 12 #[.val (.ref ca), .val (.int (1 : Int32)), .val (.ref b), .val (.int (1 : Int32)), .val (.int (3 : Int32)), .val (.int (1 : Int32)), .val (.int (f 0))] [(.int (1 : Int32)), (.ref ca)])) t → Steps p.tables e below _ t := fun t kt => pre4 t (by
    show Steps p.tables e below (T3.setTop (mkF m 3 #[.val (.ref ca), .val (.int (1 : Int32)), .val (.ref b), .val (.int (1 : Int32)), .val (.int (3 : Int32)), .val (.int (1 : Int32)), .val (.int (f 0))] [])) _
    refine XS.iload X3.here hx rfl (hb hby d9_3) rfl ?_
    show Steps p.tables e below (T3.setTop (mkF m 5 #[.val (.ref ca), .val (.int (1 : Int32)), .val (.ref b), .val (.int (1 : Int32)), .val (.int (3 : Int32)), .val (.int (1 : Int32)), .val (.int (f 0))] [(.int (1 : Int32))])) _
    refine XS.iload X3.here hx rfl (hb hby d9_5) rfl ?_
    have hc7 : (1 : Int32) < (3 : Int32) := by decide
    show Steps p.tables e below (T3.setTop (mkF m 7 #[.val (.ref ca), .val (.int (1 : Int32)), .val (.ref b), .val (.int (1 : Int32)), .val (.int (3 : Int32)), .val (.int (1 : Int32)), .val (.int (f 0))] [(.int (3 : Int32)), (.int (1 : Int32))])) _
    refine XS.icmpNo X3.here hx rfl (hb hby d9_7) rfl (tlt hc7).2.1 ?_
    show Steps p.tables e below (T3.setTop (mkF m 10 #[.val (.ref ca), .val (.int (1 : Int32)), .val (.ref b), .val (.int (1 : Int32)), .val (.int (3 : Int32)), .val (.int (1 : Int32)), .val (.int (f 0))] [])) _
    refine XS.aloadN X3.here hx rfl (hb hby d9_10) rfl rfl ?_
    show Steps p.tables e below (T3.setTop (mkF m 11 #[.val (.ref ca), .val (.int (1 : Int32)), .val (.ref b), .val (.int (1 : Int32)), .val (.int (3 : Int32)), .val (.int (1 : Int32)), .val (.int (f 0))] [(.ref ca)])) _
    refine XS.iloadN X3.here hx rfl (hb hby d9_11) rfl ?_
    exact kt)
  have Ac1 := (Arr.other W3 Ac nb)
  have pre7 : ∀ t, Steps p.tables e below (T3.setTop (mkF m 31 #[.val (.ref ca), .val (.int (1 : Int32)), .val (.ref b), .val (.int (1 : Int32)), .val (.int (3 : Int32)), .val (.int (1 : Int32)), .val (.int (f 1))] [(.int ((f 1).toInt8.toInt32)), (.int (1 : Int32)), (.ref b)])) t → Steps p.tables e below _ t := fun t kt => pre6 t (by
    show Steps p.tables e below (T3.setTop (mkF m 12 #[.val (.ref ca), .val (.int (1 : Int32)), .val (.ref b), .val (.int (1 : Int32)), .val (.int (3 : Int32)), .val (.int (1 : Int32)), .val (.int (f 0))] [(.int (1 : Int32)), (.ref ca)])) _
    refine X3.caload hx (j := (1 : Int32)) (v := (.int (f 1))) (by rw [e3]; exact Ac1.1) (State.isArrayOf_alike hZ.alike Ac1.2.1) Ac1.2.2 (within (c := 1) rfl (by omega) (by omega)) (Hc 1 (by decide)) (g := (mkF m 12 #[.val (.ref ca), .val (.int (1 : Int32)), .val (.ref b), .val (.int (1 : Int32)), .val (.int (3 : Int32)), .val (.int (1 : Int32)), .val (.int (f 0))] [(.int (1 : Int32)), (.ref ca)])) rfl rfl (hb hby d9_12) _ ?_
    show Steps p.tables e below (T3.setTop (mkF m 13 #[.val (.ref ca), .val (.int (1 : Int32)), .val (.ref b), .val (.int (1 : Int32)), .val (.int (3 : Int32)), .val (.int (1 : Int32)), .val (.int (f 0))] [(.int (f 1))])) _
    refine XS.istore X3.here hx rfl (hb hby d9_13) rfl (l' := #[.val (.ref ca), .val (.int (1 : Int32)), .val (.ref b), .val (.int (1 : Int32)), .val (.int (3 : Int32)), .val (.int (1 : Int32)), .val (.int (f 1))]) rfl ?_
    show Steps p.tables e below (T3.setTop (mkF m 15 #[.val (.ref ca), .val (.int (1 : Int32)), .val (.ref b), .val (.int (1 : Int32)), .val (.int (3 : Int32)), .val (.int (1 : Int32)), .val (.int (f 1))] [])) _
    refine XS.iload X3.here hx rfl (hb hby d9_15) rfl ?_
    show Steps p.tables e below (T3.setTop (mkF m 17 #[.val (.ref ca), .val (.int (1 : Int32)), .val (.ref b), .val (.int (1 : Int32)), .val (.int (3 : Int32)), .val (.int (1 : Int32)), .val (.int (f 1))] [(.int (f 1))])) _
    refine XS.sipush X3.here hx rfl (hb hby d9_17) ?_
    have hc20 : ¬ ((255 : Int32) < (f 1)) := hs 1 (by decide)
    show Steps p.tables e below (T3.setTop (mkF m 20 #[.val (.ref ca), .val (.int (1 : Int32)), .val (.ref b), .val (.int (1 : Int32)), .val (.int (3 : Int32)), .val (.int (1 : Int32)), .val (.int (f 1))] [(.int (255 : Int32)), (.int (f 1))])) _
    refine XS.icmpYes X3.here hx rfl (pc0 := 20) (pc' := 26) rfl (hb hby d9_20) rfl (flt hc20).2.2.2 (by decide) (by decide) ?_
    show Steps p.tables e below (T3.setTop (mkF m 26 #[.val (.ref ca), .val (.int (1 : Int32)), .val (.ref b), .val (.int (1 : Int32)), .val (.int (3 : Int32)), .val (.int (1 : Int32)), .val (.int (f 1))] [])) _
    refine XS.aloadN X3.here hx rfl (hb hby d9_26) rfl rfl ?_
    show Steps p.tables e below (T3.setTop (mkF m 27 #[.val (.ref ca), .val (.int (1 : Int32)), .val (.ref b), .val (.int (1 : Int32)), .val (.int (3 : Int32)), .val (.int (1 : Int32)), .val (.int (f 1))] [(.ref b)])) _
    refine XS.iloadN X3.here hx rfl (hb hby d9_27) rfl ?_
    show Steps p.tables e below (T3.setTop (mkF m 28 #[.val (.ref ca), .val (.int (1 : Int32)), .val (.ref b), .val (.int (1 : Int32)), .val (.int (3 : Int32)), .val (.int (1 : Int32)), .val (.int (f 1))] [(.int (1 : Int32)), (.ref b)])) _
    refine XS.iload X3.here hx rfl (hb hby d9_28) rfl ?_
    show Steps p.tables e below (T3.setTop (mkF m 30 #[.val (.ref ca), .val (.int (1 : Int32)), .val (.ref b), .val (.int (1 : Int32)), .val (.int (3 : Int32)), .val (.int (1 : Int32)), .val (.int (f 1))] [(.int (f 1)), (.int (1 : Int32)), (.ref b)])) _
    refine XS.i2b X3.here hx rfl (hb hby d9_30) rfl ?_
    exact kt)
  obtain ⟨cb1, Ab1, Sb1, Hb1⟩ := id BB0
  obtain ⟨T8, h8, X8, e8, W8, st8⟩ := stB X3 hx hZ e3 Ab1 (j := (1 : Int32)) (within (c := 1) rfl (by omega) (by omega)) (g := (mkF m 31 #[.val (.ref ca), .val (.int (1 : Int32)), .val (.ref b), .val (.int (1 : Int32)), .val (.int (3 : Int32)), .val (.int (1 : Int32)), .val (.int (f 1))] [(.int ((f 1).toInt8.toInt32)), (.int (1 : Int32)), (.ref b)])) rfl rfl (hb hby d9_31)
  have N8 := Fr.snoc X8 N3 gb
  have Zs8 : n0 ≤ h8.size := Nat.le_trans Zs3 (Nat.le_of_eq W8.size.symm)
  have Kp8 : Keep h0 h8 [b] := Kp3.wr W8 (Or.inl (List.mem_of_getElem? (i := 0) rfl))
  have BB1 := own_A_set BB0 (show Wr _ _ _ 1 (.int (nar .byte _)) from W8)
  have pre9 : ∀ t, Steps p.tables e below (T8.setTop (mkF m 3 #[.val (.ref ca), .val (.int ((1 : Int32) + (1 : Int32))), .val (.ref b), .val (.int ((1 : Int32) + (1 : Int32))), .val (.int (3 : Int32)), .val (.int ((1 : Int32) + (1 : Int32))), .val (.int (f 1))] [])) t → Steps p.tables e below _ t := fun t kt => pre7 t (by
    show Steps p.tables e below (T3.setTop (mkF m 31 #[.val (.ref ca), .val (.int (1 : Int32)), .val (.ref b), .val (.int (1 : Int32)), .val (.int (3 : Int32)), .val (.int (1 : Int32)), .val (.int (f 1))] [(.int ((f 1).toInt8.toInt32)), (.int (1 : Int32)), (.ref b)])) _
    refine st8 _ ?_
    show Steps p.tables e below (T8.setTop (mkF m 32 #[.val (.ref ca), .val (.int (1 : Int32)), .val (.ref b), .val (.int (1 : Int32)), .val (.int (3 : Int32)), .val (.int (1 : Int32)), .val (.int (f 1))] [])) _
    refine XS.iinc X8.here hx rfl (hb hby d9_32) rfl (l' := #[.val (.ref ca), .val (.int ((1 : Int32) + (1 : Int32))), .val (.ref b), .val (.int (1 : Int32)), .val (.int (3 : Int32)), .val (.int (1 : Int32)), .val (.int (f 1))]) rfl ?_
    show Steps p.tables e below (T8.setTop (mkF m 35 #[.val (.ref ca), .val (.int ((1 : Int32) + (1 : Int32))), .val (.ref b), .val (.int (1 : Int32)), .val (.int (3 : Int32)), .val (.int (1 : Int32)), .val (.int (f 1))] [])) _
    refine XS.iinc X8.here hx rfl (hb hby d9_35) rfl (l' := #[.val (.ref ca), .val (.int ((1 : Int32) + (1 : Int32))), .val (.ref b), .val (.int ((1 : Int32) + (1 : Int32))), .val (.int (3 : Int32)), .val (.int (1 : Int32)), .val (.int (f 1))]) rfl ?_
    show Steps p.tables e below (T8.setTop (mkF m 38 #[.val (.ref ca), .val (.int ((1 : Int32) + (1 : Int32))), .val (.ref b), .val (.int ((1 : Int32) + (1 : Int32))), .val (.int (3 : Int32)), .val (.int (1 : Int32)), .val (.int (f 1))] [])) _
    refine XS.iinc X8.here hx rfl (hb hby d9_38) rfl (l' := #[.val (.ref ca), .val (.int ((1 : Int32) + (1 : Int32))), .val (.ref b), .val (.int ((1 : Int32) + (1 : Int32))), .val (.int (3 : Int32)), .val (.int ((1 : Int32) + (1 : Int32))), .val (.int (f 1))]) rfl ?_
    show Steps p.tables e below (T8.setTop (mkF m 41 #[.val (.ref ca), .val (.int ((1 : Int32) + (1 : Int32))), .val (.ref b), .val (.int ((1 : Int32) + (1 : Int32))), .val (.int (3 : Int32)), .val (.int ((1 : Int32) + (1 : Int32))), .val (.int (f 1))] [])) _
    refine XS.goto X8.here hx rfl (pc0 := 41) (pc' := 3) rfl (hb hby d9_41) (by decide) (by decide) ?_
    exact kt)
  have hv10 : ((1 : Int32) + (1 : Int32)) = (2 : Int32) := by decide
  rw [hv10] at pre9
  have pre11 : ∀ t, Steps p.tables e below (T8.setTop (mkF m 12 #[.val (.ref ca), .val (.int (2 : Int32)), .val (.ref b), .val (.int (2 : Int32)), .val (.int (3 : Int32)), .val (.int (2 : Int32)), .val (.int (f 1))] [(.int (2 : Int32)), (.ref ca)])) t → Steps p.tables e below _ t := fun t kt => pre9 t (by
    show Steps p.tables e below (T8.setTop (mkF m 3 #[.val (.ref ca), .val (.int (2 : Int32)), .val (.ref b), .val (.int (2 : Int32)), .val (.int (3 : Int32)), .val (.int (2 : Int32)), .val (.int (f 1))] [])) _
    refine XS.iload X8.here hx rfl (hb hby d9_3) rfl ?_
    show Steps p.tables e below (T8.setTop (mkF m 5 #[.val (.ref ca), .val (.int (2 : Int32)), .val (.ref b), .val (.int (2 : Int32)), .val (.int (3 : Int32)), .val (.int (2 : Int32)), .val (.int (f 1))] [(.int (2 : Int32))])) _
    refine XS.iload X8.here hx rfl (hb hby d9_5) rfl ?_
    have hc7 : (2 : Int32) < (3 : Int32) := by decide
    show Steps p.tables e below (T8.setTop (mkF m 7 #[.val (.ref ca), .val (.int (2 : Int32)), .val (.ref b), .val (.int (2 : Int32)), .val (.int (3 : Int32)), .val (.int (2 : Int32)), .val (.int (f 1))] [(.int (3 : Int32)), (.int (2 : Int32))])) _
    refine XS.icmpNo X8.here hx rfl (hb hby d9_7) rfl (tlt hc7).2.1 ?_
    show Steps p.tables e below (T8.setTop (mkF m 10 #[.val (.ref ca), .val (.int (2 : Int32)), .val (.ref b), .val (.int (2 : Int32)), .val (.int (3 : Int32)), .val (.int (2 : Int32)), .val (.int (f 1))] [])) _
    refine XS.aloadN X8.here hx rfl (hb hby d9_10) rfl rfl ?_
    show Steps p.tables e below (T8.setTop (mkF m 11 #[.val (.ref ca), .val (.int (2 : Int32)), .val (.ref b), .val (.int (2 : Int32)), .val (.int (3 : Int32)), .val (.int (2 : Int32)), .val (.int (f 1))] [(.ref ca)])) _
    refine XS.iloadN X8.here hx rfl (hb hby d9_11) rfl ?_
    exact kt)
  have Ac2 := (Arr.other W8 (Arr.other W3 Ac nb) nb)
  have pre12 : ∀ t, Steps p.tables e below (T8.setTop (mkF m 31 #[.val (.ref ca), .val (.int (2 : Int32)), .val (.ref b), .val (.int (2 : Int32)), .val (.int (3 : Int32)), .val (.int (2 : Int32)), .val (.int (f 2))] [(.int ((f 2).toInt8.toInt32)), (.int (2 : Int32)), (.ref b)])) t → Steps p.tables e below _ t := fun t kt => pre11 t (by
    show Steps p.tables e below (T8.setTop (mkF m 12 #[.val (.ref ca), .val (.int (2 : Int32)), .val (.ref b), .val (.int (2 : Int32)), .val (.int (3 : Int32)), .val (.int (2 : Int32)), .val (.int (f 1))] [(.int (2 : Int32)), (.ref ca)])) _
    refine X8.caload hx (j := (2 : Int32)) (v := (.int (f 2))) (by rw [e8]; exact Ac2.1) (State.isArrayOf_alike hZ.alike Ac2.2.1) Ac2.2.2 (within (c := 2) rfl (by omega) (by omega)) (Hc 2 (by decide)) (g := (mkF m 12 #[.val (.ref ca), .val (.int (2 : Int32)), .val (.ref b), .val (.int (2 : Int32)), .val (.int (3 : Int32)), .val (.int (2 : Int32)), .val (.int (f 1))] [(.int (2 : Int32)), (.ref ca)])) rfl rfl (hb hby d9_12) _ ?_
    show Steps p.tables e below (T8.setTop (mkF m 13 #[.val (.ref ca), .val (.int (2 : Int32)), .val (.ref b), .val (.int (2 : Int32)), .val (.int (3 : Int32)), .val (.int (2 : Int32)), .val (.int (f 1))] [(.int (f 2))])) _
    refine XS.istore X8.here hx rfl (hb hby d9_13) rfl (l' := #[.val (.ref ca), .val (.int (2 : Int32)), .val (.ref b), .val (.int (2 : Int32)), .val (.int (3 : Int32)), .val (.int (2 : Int32)), .val (.int (f 2))]) rfl ?_
    show Steps p.tables e below (T8.setTop (mkF m 15 #[.val (.ref ca), .val (.int (2 : Int32)), .val (.ref b), .val (.int (2 : Int32)), .val (.int (3 : Int32)), .val (.int (2 : Int32)), .val (.int (f 2))] [])) _
    refine XS.iload X8.here hx rfl (hb hby d9_15) rfl ?_
    show Steps p.tables e below (T8.setTop (mkF m 17 #[.val (.ref ca), .val (.int (2 : Int32)), .val (.ref b), .val (.int (2 : Int32)), .val (.int (3 : Int32)), .val (.int (2 : Int32)), .val (.int (f 2))] [(.int (f 2))])) _
    refine XS.sipush X8.here hx rfl (hb hby d9_17) ?_
    have hc20 : ¬ ((255 : Int32) < (f 2)) := hs 2 (by decide)
    show Steps p.tables e below (T8.setTop (mkF m 20 #[.val (.ref ca), .val (.int (2 : Int32)), .val (.ref b), .val (.int (2 : Int32)), .val (.int (3 : Int32)), .val (.int (2 : Int32)), .val (.int (f 2))] [(.int (255 : Int32)), (.int (f 2))])) _
    refine XS.icmpYes X8.here hx rfl (pc0 := 20) (pc' := 26) rfl (hb hby d9_20) rfl (flt hc20).2.2.2 (by decide) (by decide) ?_
    show Steps p.tables e below (T8.setTop (mkF m 26 #[.val (.ref ca), .val (.int (2 : Int32)), .val (.ref b), .val (.int (2 : Int32)), .val (.int (3 : Int32)), .val (.int (2 : Int32)), .val (.int (f 2))] [])) _
    refine XS.aloadN X8.here hx rfl (hb hby d9_26) rfl rfl ?_
    show Steps p.tables e below (T8.setTop (mkF m 27 #[.val (.ref ca), .val (.int (2 : Int32)), .val (.ref b), .val (.int (2 : Int32)), .val (.int (3 : Int32)), .val (.int (2 : Int32)), .val (.int (f 2))] [(.ref b)])) _
    refine XS.iloadN X8.here hx rfl (hb hby d9_27) rfl ?_
    show Steps p.tables e below (T8.setTop (mkF m 28 #[.val (.ref ca), .val (.int (2 : Int32)), .val (.ref b), .val (.int (2 : Int32)), .val (.int (3 : Int32)), .val (.int (2 : Int32)), .val (.int (f 2))] [(.int (2 : Int32)), (.ref b)])) _
    refine XS.iload X8.here hx rfl (hb hby d9_28) rfl ?_
    show Steps p.tables e below (T8.setTop (mkF m 30 #[.val (.ref ca), .val (.int (2 : Int32)), .val (.ref b), .val (.int (2 : Int32)), .val (.int (3 : Int32)), .val (.int (2 : Int32)), .val (.int (f 2))] [(.int (f 2)), (.int (2 : Int32)), (.ref b)])) _
    refine XS.i2b X8.here hx rfl (hb hby d9_30) rfl ?_
    exact kt)
  obtain ⟨cb2, Ab2, Sb2, Hb2⟩ := id BB1
  obtain ⟨T13, h13, X13, e13, W13, st13⟩ := stB X8 hx hZ e8 Ab2 (j := (2 : Int32)) (within (c := 2) rfl (by omega) (by omega)) (g := (mkF m 31 #[.val (.ref ca), .val (.int (2 : Int32)), .val (.ref b), .val (.int (2 : Int32)), .val (.int (3 : Int32)), .val (.int (2 : Int32)), .val (.int (f 2))] [(.int ((f 2).toInt8.toInt32)), (.int (2 : Int32)), (.ref b)])) rfl rfl (hb hby d9_31)
  have N13 := Fr.snoc X13 N8 gb
  have Zs13 : n0 ≤ h13.size := Nat.le_trans Zs8 (Nat.le_of_eq W13.size.symm)
  have Kp13 : Keep h0 h13 [b] := Kp8.wr W13 (Or.inl (List.mem_of_getElem? (i := 0) rfl))
  have BB2 := own_A_set BB1 (show Wr _ _ _ 2 (.int (nar .byte _)) from W13)
  have pre14 : ∀ t, Steps p.tables e below (T13.setTop (mkF m 3 #[.val (.ref ca), .val (.int ((2 : Int32) + (1 : Int32))), .val (.ref b), .val (.int ((2 : Int32) + (1 : Int32))), .val (.int (3 : Int32)), .val (.int ((2 : Int32) + (1 : Int32))), .val (.int (f 2))] [])) t → Steps p.tables e below _ t := fun t kt => pre12 t (by
    show Steps p.tables e below (T8.setTop (mkF m 31 #[.val (.ref ca), .val (.int (2 : Int32)), .val (.ref b), .val (.int (2 : Int32)), .val (.int (3 : Int32)), .val (.int (2 : Int32)), .val (.int (f 2))] [(.int ((f 2).toInt8.toInt32)), (.int (2 : Int32)), (.ref b)])) _
    refine st13 _ ?_
    show Steps p.tables e below (T13.setTop (mkF m 32 #[.val (.ref ca), .val (.int (2 : Int32)), .val (.ref b), .val (.int (2 : Int32)), .val (.int (3 : Int32)), .val (.int (2 : Int32)), .val (.int (f 2))] [])) _
    refine XS.iinc X13.here hx rfl (hb hby d9_32) rfl (l' := #[.val (.ref ca), .val (.int ((2 : Int32) + (1 : Int32))), .val (.ref b), .val (.int (2 : Int32)), .val (.int (3 : Int32)), .val (.int (2 : Int32)), .val (.int (f 2))]) rfl ?_
    show Steps p.tables e below (T13.setTop (mkF m 35 #[.val (.ref ca), .val (.int ((2 : Int32) + (1 : Int32))), .val (.ref b), .val (.int (2 : Int32)), .val (.int (3 : Int32)), .val (.int (2 : Int32)), .val (.int (f 2))] [])) _
    refine XS.iinc X13.here hx rfl (hb hby d9_35) rfl (l' := #[.val (.ref ca), .val (.int ((2 : Int32) + (1 : Int32))), .val (.ref b), .val (.int ((2 : Int32) + (1 : Int32))), .val (.int (3 : Int32)), .val (.int (2 : Int32)), .val (.int (f 2))]) rfl ?_
    show Steps p.tables e below (T13.setTop (mkF m 38 #[.val (.ref ca), .val (.int ((2 : Int32) + (1 : Int32))), .val (.ref b), .val (.int ((2 : Int32) + (1 : Int32))), .val (.int (3 : Int32)), .val (.int (2 : Int32)), .val (.int (f 2))] [])) _
    refine XS.iinc X13.here hx rfl (hb hby d9_38) rfl (l' := #[.val (.ref ca), .val (.int ((2 : Int32) + (1 : Int32))), .val (.ref b), .val (.int ((2 : Int32) + (1 : Int32))), .val (.int (3 : Int32)), .val (.int ((2 : Int32) + (1 : Int32))), .val (.int (f 2))]) rfl ?_
    show Steps p.tables e below (T13.setTop (mkF m 41 #[.val (.ref ca), .val (.int ((2 : Int32) + (1 : Int32))), .val (.ref b), .val (.int ((2 : Int32) + (1 : Int32))), .val (.int (3 : Int32)), .val (.int ((2 : Int32) + (1 : Int32))), .val (.int (f 2))] [])) _
    refine XS.goto X13.here hx rfl (pc0 := 41) (pc' := 3) rfl (hb hby d9_41) (by decide) (by decide) ?_
    exact kt)
  have hv15 : ((2 : Int32) + (1 : Int32)) = (3 : Int32) := by decide
  rw [hv15] at pre14
  obtain ⟨fs, hr, hrun, hended, hW, hsame⟩ := X13.leave (v := some (.int (3 : Int32))) (fun h => by rw [Bd.returns] at h; cases h)
  refine ⟨_, _, pre14 _ ?_, hrun, hended, _, _, rfl, ?_, ⟨_, rfl⟩, hW, hsame.mono (by decide) (by decide)⟩
  · show Steps p.tables e below (T13.setTop (mkF m 3 #[.val (.ref ca), .val (.int (3 : Int32)), .val (.ref b), .val (.int (3 : Int32)), .val (.int (3 : Int32)), .val (.int (3 : Int32)), .val (.int (f 2))] [])) _
    refine XS.iload X13.here hx rfl (hb hby d9_3) rfl ?_
    show Steps p.tables e below (T13.setTop (mkF m 5 #[.val (.ref ca), .val (.int (3 : Int32)), .val (.ref b), .val (.int (3 : Int32)), .val (.int (3 : Int32)), .val (.int (3 : Int32)), .val (.int (f 2))] [(.int (3 : Int32))])) _
    refine XS.iload X13.here hx rfl (hb hby d9_5) rfl ?_
    have hc7 : ¬ ((3 : Int32) < (3 : Int32)) := by decide
    show Steps p.tables e below (T13.setTop (mkF m 7 #[.val (.ref ca), .val (.int (3 : Int32)), .val (.ref b), .val (.int (3 : Int32)), .val (.int (3 : Int32)), .val (.int (3 : Int32)), .val (.int (f 2))] [(.int (3 : Int32)), (.int (3 : Int32))])) _
    refine XS.icmpYes X13.here hx rfl (pc0 := 7) (pc' := 44) rfl (hb hby d9_7) rfl (flt hc7).2.1 (by decide) (by decide) ?_
    show Steps p.tables e below (T13.setTop (mkF m 44 #[.val (.ref ca), .val (.int (3 : Int32)), .val (.ref b), .val (.int (3 : Int32)), .val (.int (3 : Int32)), .val (.int (3 : Int32)), .val (.int (f 2))] [])) _
    refine XS.iload X13.here hx rfl (hb hby d9_44) rfl ?_
    show Steps p.tables e below (T13.setTop (mkF m 46 #[.val (.ref ca), .val (.int (3 : Int32)), .val (.ref b), .val (.int (3 : Int32)), .val (.int (3 : Int32)), .val (.int (3 : Int32)), .val (.int (f 2))] [(.int (3 : Int32))])) _
    exact retI X13 hx Bd.returns (hb hby d9_46) hr
  · show Q9n3 Z b h0 n0 _ T13.heap _
    rw [e13]
    exact ⟨rfl, N13, Kp13, _, BB2⟩
theorem pn_8 : plainName "java/lang/StringUTF16" = true := by first | (simp [plainName, overriddenIn]; done) | decide +kernel
theorem ef_8n2 (m : MethodId) (x0 : Addr) (x1 : Int32) (x2 : Int32) : entryFrame m #[(.ref x0), (.int x1), (.int x2)] 6 = mkF m 0 #[.val (.ref x0), .val (.int x1), .val (.int x2), .unset, .unset, .unset] [] := by first | (simp [entryFrame, mkF, argsToLocals, Value.category]; done) | rfl
theorem d8_0 : decode jdk_52_method_16_code 0 = .ok (.iload_n 2, 1) := by decide +kernel
theorem d8_1 : decode jdk_52_method_16_code 1 = .ok (.newarray .byte, 2) := by decide +kernel
theorem d8_3 : decode jdk_52_method_16_code 3 = .ok (.astore_n 3, 1) := by decide +kernel
theorem d8_4 : decode jdk_52_method_16_code 4 = .ok (.aload_n 0, 1) := by decide +kernel
theorem d8_5 : decode jdk_52_method_16_code 5 = .ok (.iload_n 1, 1) := by decide +kernel
theorem d8_6 : decode jdk_52_method_16_code 6 = .ok (.aload_n 3, 1) := by decide +kernel
theorem d8_7 : decode jdk_52_method_16_code 7 = .ok (.iconst 0, 1) := by decide +kernel
theorem d8_8 : decode jdk_52_method_16_code 8 = .ok (.iload_n 2, 1) := by decide +kernel
theorem pd_0 : parseMethodDescriptor "([CI[BII)I" = some ⟨[(.array .char), .int, (.array .byte), .int, .int], some .int⟩ := by decide +kernel
theorem d8_9 : decode jdk_52_method_16_code 9 = .ok (.invokestatic 115, 3) := by decide +kernel
theorem d8_12 : decode jdk_52_method_16_code 12 = .ok (.istore 4, 2) := by decide +kernel
theorem d8_14 : decode jdk_52_method_16_code 14 = .ok (.iload 4, 2) := by decide +kernel
theorem d8_16 : decode jdk_52_method_16_code 16 = .ok (.iload_n 2, 1) := by decide +kernel
theorem d8_17 : decode jdk_52_method_16_code 17 = .ok (.if_icmp .eq 40, 3) := by decide +kernel
theorem d8_57 : decode jdk_52_method_16_code 57 = .ok (.aload_n 3, 1) := by decide +kernel
theorem d8_58 : decode jdk_52_method_16_code 58 = .ok (.areturn, 1) := by decide +kernel
def Q8n2 (Z : State) (h0 : Heap) (n0 : Nat) (v : Option Value) (h : Heap) (L : List Loc) : Prop := ∃ b, v = some (.ref b) ∧ Fr n0 L ∧ Keep h0 h [] ∧ h0.size ≤ b ∧ ∃ f', own_A Z h b .byte 2 f'
set_option maxRecDepth 65536 in
set_option maxHeartbeats 40000000 in
theorem rm8n2 (l : Launch) (Z : State) (a0 : Array Value) (hw : ∀ d ∈ tables_1, d.before a0 Z = true) (ws : List Jvm.Cond) (ca : Addr) (f : Nat → Int32) (h0 : Heap) (n0 : Nat) (Z0 : n0 ≤ h0.size) (CA : own_A Z h0 ca .char 2 f) (hs : ∀ j, j < 2 → ¬ ((255 : Int32) < f j)) :
    MetFree l (⟨"java/lang/StringUTF16", "compress", "([CII)[B"⟩ : MethodName) (head1 (Jvm.Cond.code (⟨"java/lang/StringUTF16", "compress", "([CII)[B"⟩ : MethodName) jdk_52_method_16_code 6 (some (.array .byte)) :: ws) ({ frames := 1, cells := 1, slots := 2, locals := 18 } : Room)) (fun aa_ U => aa_ = #[(.ref ca), (.int (0 : Int32)), (.int (2 : Int32))] ∧ Z.Warmed39 U.vm ∧ U.heap = h0) (fun _ _ _ _ _ => True) (fun _ U o U' => ∃ v_ L_, o = .returned v_ ∧ Q8n2 Z  h0 n0 v_ U'.heap L_ ∧ FrameEnd U o U' L_ ({ frames := 1, cells := 1, slots := 2, locals := 18 } : Room).cells ({ frames := 1, cells := 1, slots := 2, locals := 18 } : Room).slots) := by
  refine MetFree.of_bodySF (plainFor_of_name pn_8) hisR ?_
  intro p e s m args below meth c s₁ Bd hml0 hP hK
  obtain ⟨rfl, hZ, hh⟩ := hP
  have hx := Bd.exec
  have hby := Bd.bytes
  have hml : c.maxLocals = 6 := hml0
  have hown : s.vm.findClass "java/lang/StringUTF16" = some m.cls := findClass_of_methodNamed Bd.named
  have hnm := (name_of_methodNamed Bd.named Bd.method).1
  have X0 : Stand p l e ({ frames := 1, cells := 1, slots := 2, locals := 18 } : Room) s m #[(.ref ca), (.int (0 : Int32)), (.int (2 : Int32))] below meth c s₁ [] 0 0 := Stand.of_body Bd
  have e0 : s₁.heap = h0 := by rw [← hh, Bd.state]; rfl
  have N0 := Fr.nil n0
  have pre0 : ∀ t, Steps p.tables e below (s₁.setTop (mkF m 0 #[.val (.ref ca), .val (.int (0 : Int32)), .val (.int (2 : Int32)), .unset, .unset, .unset] [])) t → Steps p.tables e below (s₁.setTop (entryFrame m #[(.ref ca), (.int (0 : Int32)), (.int (2 : Int32))] 6)) t := fun t k_ => castTop (ef_8n2 m ca (0 : Int32) (2 : Int32)) k_
  have pre1 : ∀ t, Steps p.tables e below (s₁.setTop (mkF m 1 #[.val (.ref ca), .val (.int (0 : Int32)), .val (.int (2 : Int32)), .unset, .unset, .unset] [(.int (2 : Int32))])) t → Steps p.tables e below _ t := fun t kt => pre0 t (by
    show Steps p.tables e below (s₁.setTop (mkF m 0 #[.val (.ref ca), .val (.int (0 : Int32)), .val (.int (2 : Int32)), .unset, .unset, .unset] [])) _
    refine XS.iloadN X0.here hx rfl (hb hby d8_0) rfl ?_
    exact kt)
  obtain ⟨T2, h2, k2, X2, e2, E2, A2, st2⟩ := newP X0 hx hZ (hw _ (List.mem_of_getElem? (i := 44) rfl)) e0 (g := (mkF m 1 #[.val (.ref ca), .val (.int (0 : Int32)), .val (.int (2 : Int32)), .unset, .unset, .unset] [(.int (2 : Int32))])) rfl (hb hby d8_1) rfl (by decide) (cap := 2) (by decide) (by decide) (by decide) (by decide)
  obtain ⟨b2, gb2⟩ : ∃ z, z = h0.size := ⟨_, rfl⟩
  rw [← gb2] at A2 st2
  have g_b2 : n0 ≤ b2 := Nat.le_trans Z0 (Nat.le_of_eq gb2.symm)
  have Zs2 : n0 ≤ h2.size := Nat.le_trans Z0 E2.1
  have sz_b2 : h0.size ≤ b2 := Nat.le_trans (Keep.refl h0 []).1 (Nat.le_of_eq gb2.symm)
  have Kp2 : Keep h0 h2 [] := (Keep.refl h0 []).ext E2
  have B0 : own_A Z h2 b2 .byte 2 (fun _ => 0) := own_A_new A2 rfl rfl
  have CA1 := own_A_ext CA E2
  have nb : ca ≠ b2 := by have q := own_A_lt CA; rw [gb2]; exact Nat.ne_of_lt q
  have pre3 : ∀ t, Steps p.tables e below (T2.setTop (mkF m 9 #[.val (.ref ca), .val (.int (0 : Int32)), .val (.int (2 : Int32)), .val (.ref b2), .unset, .unset] [(.int (2 : Int32)), (.int (0 : Int32)), (.ref b2), (.int (0 : Int32)), (.ref ca)])) t → Steps p.tables e below _ t := fun t kt => pre1 t (by
    show Steps p.tables e below (s₁.setTop (mkF m 1 #[.val (.ref ca), .val (.int (0 : Int32)), .val (.int (2 : Int32)), .unset, .unset, .unset] [(.int (2 : Int32))])) _
    refine st2 _ ?_
    show Steps p.tables e below (T2.setTop (mkF m 3 #[.val (.ref ca), .val (.int (0 : Int32)), .val (.int (2 : Int32)), .unset, .unset, .unset] [(.ref b2)])) _
    refine XS.astoreN X2.here hx rfl (hb hby d8_3) rfl rfl (l' := #[.val (.ref ca), .val (.int (0 : Int32)), .val (.int (2 : Int32)), .val (.ref b2), .unset, .unset]) rfl ?_
    show Steps p.tables e below (T2.setTop (mkF m 4 #[.val (.ref ca), .val (.int (0 : Int32)), .val (.int (2 : Int32)), .val (.ref b2), .unset, .unset] [])) _
    refine XS.aloadN X2.here hx rfl (hb hby d8_4) rfl rfl ?_
    show Steps p.tables e below (T2.setTop (mkF m 5 #[.val (.ref ca), .val (.int (0 : Int32)), .val (.int (2 : Int32)), .val (.ref b2), .unset, .unset] [(.ref ca)])) _
    refine XS.iloadN X2.here hx rfl (hb hby d8_5) rfl ?_
    show Steps p.tables e below (T2.setTop (mkF m 6 #[.val (.ref ca), .val (.int (0 : Int32)), .val (.int (2 : Int32)), .val (.ref b2), .unset, .unset] [(.int (0 : Int32)), (.ref ca)])) _
    refine XS.aloadN X2.here hx rfl (hb hby d8_6) rfl rfl ?_
    show Steps p.tables e below (T2.setTop (mkF m 7 #[.val (.ref ca), .val (.int (0 : Int32)), .val (.int (2 : Int32)), .val (.ref b2), .unset, .unset] [(.ref b2), (.int (0 : Int32)), (.ref ca)])) _
    refine XS.iconst X2.here hx rfl (hb hby d8_7) ?_
    show Steps p.tables e below (T2.setTop (mkF m 8 #[.val (.ref ca), .val (.int (0 : Int32)), .val (.int (2 : Int32)), .val (.ref b2), .unset, .unset] [(.int (0 : Int32)), (.ref b2), (.int (0 : Int32)), (.ref ca)])) _
    refine XS.iloadN X2.here hx rfl (hb hby d8_8) rfl ?_
    exact kt)
  obtain ⟨_, _, ⟨T4, L4, k4, n4⟩, -, X4, ⟨Lc4, hQ4, l4, y4, z4⟩, st4⟩ := Jvm.LawKit.callS X2 hx (y := (⟨"java/lang/StringUTF16", "compress", "([CI[BII)I"⟩ : MethodName)) hown (mvT hZ (hw _ (List.mem_of_getElem? (i := 45) rfl))) (mvT hZ (hw _ (List.mem_of_getElem? (i := 46) rfl))) (mvT hZ (hw _ (List.mem_of_getElem? (i := 42) rfl))) (mvT hZ (hw _ (List.mem_of_getElem? (i := 47) rfl))) (by decide) (backOf (W := 0) (rm9n2 l Z a0 hw [] ca b2 f h2 n0 Zs2 CA1 B0 nb g_b2 hs) hZ (hw _ (List.mem_of_getElem? (i := 47) rfl)) (hw _ (List.mem_of_getElem? (i := 42) rfl)) (by decide) (by decide)) (g := (mkF m 9 #[.val (.ref ca), .val (.int (0 : Int32)), .val (.int (2 : Int32)), .val (.ref b2), .unset, .unset] [(.int (2 : Int32)), (.int (0 : Int32)), (.ref b2), (.int (0 : Int32)), (.ref ca)])) rfl (by rw [hml]; rfl) (argsL := [(.ref ca), (.int (0 : Int32)), (.ref b2), (.int (0 : Int32)), (.int (2 : Int32))]) (rest := []) (lenOf pd_0 rfl) rfl (by show 2 * 0 + _ ≤ _; exact Nat.le_of_eq rfl) (hb hby d8_9) (fun _ _ => ⟨rfl, e2, (by decide : 1 + 0 ≤ _), (by decide : 2 + 0 ≤ _)⟩)
  dsimp only [Pt.U, Pt.locs, Pt.cells, Pt.slots] at X4 l4 y4 z4 st4 hQ4
  subst l4 y4 z4
  obtain ⟨rfl, N4q, Kc, f', Bf⟩ := hQ4
  have N4 := Fr.app N0 N4q
  have Kd : Keep h0 T4.heap [] := Kp2.trans Kc (allS (Or.inr sz_b2) all0)
  obtain ⟨fs, hr, hrun, hended, hW, hsame⟩ := X4.leave (v := some (.ref b2)) (fun h => by rw [Bd.returns] at h; cases h)
  refine ⟨_, _, pre3 _ ?_, hrun, hended, _, _, rfl, ?_, ⟨_, rfl⟩, hW, hsame.mono (by decide) (by decide)⟩
  · show Steps p.tables e below (T2.setTop (mkF m 9 #[.val (.ref ca), .val (.int (0 : Int32)), .val (.int (2 : Int32)), .val (.ref b2), .unset, .unset] [(.int (2 : Int32)), (.int (0 : Int32)), (.ref b2), (.int (0 : Int32)), (.ref ca)])) _
    refine st4 _ ?_
    show Steps p.tables e below (T4.setTop (mkF m 12 #[.val (.ref ca), .val (.int (0 : Int32)), .val (.int (2 : Int32)), .val (.ref b2), .unset, .unset] [(.int (2 : Int32))])) _
    refine XS.istore X4.here hx rfl (hb hby d8_12) rfl (l' := #[.val (.ref ca), .val (.int (0 : Int32)), .val (.int (2 : Int32)), .val (.ref b2), .val (.int (2 : Int32)), .unset]) rfl ?_
    show Steps p.tables e below (T4.setTop (mkF m 14 #[.val (.ref ca), .val (.int (0 : Int32)), .val (.int (2 : Int32)), .val (.ref b2), .val (.int (2 : Int32)), .unset] [])) _
    refine XS.iload X4.here hx rfl (hb hby d8_14) rfl ?_
    show Steps p.tables e below (T4.setTop (mkF m 16 #[.val (.ref ca), .val (.int (0 : Int32)), .val (.int (2 : Int32)), .val (.ref b2), .val (.int (2 : Int32)), .unset] [(.int (2 : Int32))])) _
    refine XS.iloadN X4.here hx rfl (hb hby d8_16) rfl ?_
    have hc17 : (2 : Int32) = (2 : Int32) := rfl
    show Steps p.tables e below (T4.setTop (mkF m 17 #[.val (.ref ca), .val (.int (0 : Int32)), .val (.int (2 : Int32)), .val (.ref b2), .val (.int (2 : Int32)), .unset] [(.int (2 : Int32)), (.int (2 : Int32))])) _
    refine XS.icmpYes X4.here hx rfl (pc0 := 17) (pc' := 57) rfl (hb hby d8_17) rfl (teq hc17).1 (by decide) (by decide) ?_
    show Steps p.tables e below (T4.setTop (mkF m 57 #[.val (.ref ca), .val (.int (0 : Int32)), .val (.int (2 : Int32)), .val (.ref b2), .val (.int (2 : Int32)), .unset] [])) _
    refine XS.aloadN X4.here hx rfl (hb hby d8_57) rfl rfl ?_
    show Steps p.tables e below (T4.setTop (mkF m 58 #[.val (.ref ca), .val (.int (0 : Int32)), .val (.int (2 : Int32)), .val (.ref b2), .val (.int (2 : Int32)), .unset] [(.ref b2)])) _
    jvm_step X4.here [X4.here.top, hx, (hb hby d8_58), X4.method', Bd.returns, Value.isRef, FieldType.isReference]
    first | (intro acts; rw [hr _ acts rfl rfl rfl]) | rw [hr _ _ rfl rfl rfl]
    exact Steps.refl _
  · exact ⟨b2, rfl, N4, Kd, sz_b2, _, Bf⟩
theorem ef_8n3 (m : MethodId) (x0 : Addr) (x1 : Int32) (x2 : Int32) : entryFrame m #[(.ref x0), (.int x1), (.int x2)] 6 = mkF m 0 #[.val (.ref x0), .val (.int x1), .val (.int x2), .unset, .unset, .unset] [] := by first | (simp [entryFrame, mkF, argsToLocals, Value.category]; done) | rfl
def Q8n3 (Z : State) (h0 : Heap) (n0 : Nat) (v : Option Value) (h : Heap) (L : List Loc) : Prop := ∃ b, v = some (.ref b) ∧ Fr n0 L ∧ Keep h0 h [] ∧ h0.size ≤ b ∧ ∃ f', own_A Z h b .byte 3 f'
set_option maxRecDepth 65536 in
set_option maxHeartbeats 40000000 in
theorem rm8n3 (l : Launch) (Z : State) (a0 : Array Value) (hw : ∀ d ∈ tables_1, d.before a0 Z = true) (ws : List Jvm.Cond) (ca : Addr) (f : Nat → Int32) (h0 : Heap) (n0 : Nat) (Z0 : n0 ≤ h0.size) (CA : own_A Z h0 ca .char 3 f) (hs : ∀ j, j < 3 → ¬ ((255 : Int32) < f j)) :
    MetFree l (⟨"java/lang/StringUTF16", "compress", "([CII)[B"⟩ : MethodName) (head1 (Jvm.Cond.code (⟨"java/lang/StringUTF16", "compress", "([CII)[B"⟩ : MethodName) jdk_52_method_16_code 6 (some (.array .byte)) :: ws) ({ frames := 1, cells := 1, slots := 3, locals := 18 } : Room)) (fun aa_ U => aa_ = #[(.ref ca), (.int (0 : Int32)), (.int (3 : Int32))] ∧ Z.Warmed39 U.vm ∧ U.heap = h0) (fun _ _ _ _ _ => True) (fun _ U o U' => ∃ v_ L_, o = .returned v_ ∧ Q8n3 Z  h0 n0 v_ U'.heap L_ ∧ FrameEnd U o U' L_ ({ frames := 1, cells := 1, slots := 3, locals := 18 } : Room).cells ({ frames := 1, cells := 1, slots := 3, locals := 18 } : Room).slots) := by
  refine MetFree.of_bodySF (plainFor_of_name pn_8) hisR ?_
  intro p e s m args below meth c s₁ Bd hml0 hP hK
  obtain ⟨rfl, hZ, hh⟩ := hP
  have hx := Bd.exec
  have hby := Bd.bytes
  have hml : c.maxLocals = 6 := hml0
  have hown : s.vm.findClass "java/lang/StringUTF16" = some m.cls := findClass_of_methodNamed Bd.named
  have hnm := (name_of_methodNamed Bd.named Bd.method).1
  have X0 : Stand p l e ({ frames := 1, cells := 1, slots := 3, locals := 18 } : Room) s m #[(.ref ca), (.int (0 : Int32)), (.int (3 : Int32))] below meth c s₁ [] 0 0 := Stand.of_body Bd
  have e0 : s₁.heap = h0 := by rw [← hh, Bd.state]; rfl
  have N0 := Fr.nil n0
  have pre0 : ∀ t, Steps p.tables e below (s₁.setTop (mkF m 0 #[.val (.ref ca), .val (.int (0 : Int32)), .val (.int (3 : Int32)), .unset, .unset, .unset] [])) t → Steps p.tables e below (s₁.setTop (entryFrame m #[(.ref ca), (.int (0 : Int32)), (.int (3 : Int32))] 6)) t := fun t k_ => castTop (ef_8n3 m ca (0 : Int32) (3 : Int32)) k_
  have pre1 : ∀ t, Steps p.tables e below (s₁.setTop (mkF m 1 #[.val (.ref ca), .val (.int (0 : Int32)), .val (.int (3 : Int32)), .unset, .unset, .unset] [(.int (3 : Int32))])) t → Steps p.tables e below _ t := fun t kt => pre0 t (by
    show Steps p.tables e below (s₁.setTop (mkF m 0 #[.val (.ref ca), .val (.int (0 : Int32)), .val (.int (3 : Int32)), .unset, .unset, .unset] [])) _
    refine XS.iloadN X0.here hx rfl (hb hby d8_0) rfl ?_
    exact kt)
  obtain ⟨T2, h2, k2, X2, e2, E2, A2, st2⟩ := newP X0 hx hZ (hw _ (List.mem_of_getElem? (i := 44) rfl)) e0 (g := (mkF m 1 #[.val (.ref ca), .val (.int (0 : Int32)), .val (.int (3 : Int32)), .unset, .unset, .unset] [(.int (3 : Int32))])) rfl (hb hby d8_1) rfl (by decide) (cap := 3) (by decide) (by decide) (by decide) (by decide)
  obtain ⟨b2, gb2⟩ : ∃ z, z = h0.size := ⟨_, rfl⟩
  rw [← gb2] at A2 st2
  have g_b2 : n0 ≤ b2 := Nat.le_trans Z0 (Nat.le_of_eq gb2.symm)
  have Zs2 : n0 ≤ h2.size := Nat.le_trans Z0 E2.1
  have sz_b2 : h0.size ≤ b2 := Nat.le_trans (Keep.refl h0 []).1 (Nat.le_of_eq gb2.symm)
  have Kp2 : Keep h0 h2 [] := (Keep.refl h0 []).ext E2
  have B0 : own_A Z h2 b2 .byte 3 (fun _ => 0) := own_A_new A2 rfl rfl
  have CA1 := own_A_ext CA E2
  have nb : ca ≠ b2 := by have q := own_A_lt CA; rw [gb2]; exact Nat.ne_of_lt q
  have pre3 : ∀ t, Steps p.tables e below (T2.setTop (mkF m 9 #[.val (.ref ca), .val (.int (0 : Int32)), .val (.int (3 : Int32)), .val (.ref b2), .unset, .unset] [(.int (3 : Int32)), (.int (0 : Int32)), (.ref b2), (.int (0 : Int32)), (.ref ca)])) t → Steps p.tables e below _ t := fun t kt => pre1 t (by
    show Steps p.tables e below (s₁.setTop (mkF m 1 #[.val (.ref ca), .val (.int (0 : Int32)), .val (.int (3 : Int32)), .unset, .unset, .unset] [(.int (3 : Int32))])) _
    refine st2 _ ?_
    show Steps p.tables e below (T2.setTop (mkF m 3 #[.val (.ref ca), .val (.int (0 : Int32)), .val (.int (3 : Int32)), .unset, .unset, .unset] [(.ref b2)])) _
    refine XS.astoreN X2.here hx rfl (hb hby d8_3) rfl rfl (l' := #[.val (.ref ca), .val (.int (0 : Int32)), .val (.int (3 : Int32)), .val (.ref b2), .unset, .unset]) rfl ?_
    show Steps p.tables e below (T2.setTop (mkF m 4 #[.val (.ref ca), .val (.int (0 : Int32)), .val (.int (3 : Int32)), .val (.ref b2), .unset, .unset] [])) _
    refine XS.aloadN X2.here hx rfl (hb hby d8_4) rfl rfl ?_
    show Steps p.tables e below (T2.setTop (mkF m 5 #[.val (.ref ca), .val (.int (0 : Int32)), .val (.int (3 : Int32)), .val (.ref b2), .unset, .unset] [(.ref ca)])) _
    refine XS.iloadN X2.here hx rfl (hb hby d8_5) rfl ?_
    show Steps p.tables e below (T2.setTop (mkF m 6 #[.val (.ref ca), .val (.int (0 : Int32)), .val (.int (3 : Int32)), .val (.ref b2), .unset, .unset] [(.int (0 : Int32)), (.ref ca)])) _
    refine XS.aloadN X2.here hx rfl (hb hby d8_6) rfl rfl ?_
    show Steps p.tables e below (T2.setTop (mkF m 7 #[.val (.ref ca), .val (.int (0 : Int32)), .val (.int (3 : Int32)), .val (.ref b2), .unset, .unset] [(.ref b2), (.int (0 : Int32)), (.ref ca)])) _
    refine XS.iconst X2.here hx rfl (hb hby d8_7) ?_
    show Steps p.tables e below (T2.setTop (mkF m 8 #[.val (.ref ca), .val (.int (0 : Int32)), .val (.int (3 : Int32)), .val (.ref b2), .unset, .unset] [(.int (0 : Int32)), (.ref b2), (.int (0 : Int32)), (.ref ca)])) _
    refine XS.iloadN X2.here hx rfl (hb hby d8_8) rfl ?_
    exact kt)
  obtain ⟨_, _, ⟨T4, L4, k4, n4⟩, -, X4, ⟨Lc4, hQ4, l4, y4, z4⟩, st4⟩ := Jvm.LawKit.callS X2 hx (y := (⟨"java/lang/StringUTF16", "compress", "([CI[BII)I"⟩ : MethodName)) hown (mvT hZ (hw _ (List.mem_of_getElem? (i := 45) rfl))) (mvT hZ (hw _ (List.mem_of_getElem? (i := 46) rfl))) (mvT hZ (hw _ (List.mem_of_getElem? (i := 42) rfl))) (mvT hZ (hw _ (List.mem_of_getElem? (i := 47) rfl))) (by decide) (backOf (W := 0) (rm9n3 l Z a0 hw [] ca b2 f h2 n0 Zs2 CA1 B0 nb g_b2 hs) hZ (hw _ (List.mem_of_getElem? (i := 47) rfl)) (hw _ (List.mem_of_getElem? (i := 42) rfl)) (by decide) (by decide)) (g := (mkF m 9 #[.val (.ref ca), .val (.int (0 : Int32)), .val (.int (3 : Int32)), .val (.ref b2), .unset, .unset] [(.int (3 : Int32)), (.int (0 : Int32)), (.ref b2), (.int (0 : Int32)), (.ref ca)])) rfl (by rw [hml]; rfl) (argsL := [(.ref ca), (.int (0 : Int32)), (.ref b2), (.int (0 : Int32)), (.int (3 : Int32))]) (rest := []) (lenOf pd_0 rfl) rfl (by show 2 * 0 + _ ≤ _; exact Nat.le_of_eq rfl) (hb hby d8_9) (fun _ _ => ⟨rfl, e2, (by decide : 1 + 0 ≤ _), (by decide : 3 + 0 ≤ _)⟩)
  dsimp only [Pt.U, Pt.locs, Pt.cells, Pt.slots] at X4 l4 y4 z4 st4 hQ4
  subst l4 y4 z4
  obtain ⟨rfl, N4q, Kc, f', Bf⟩ := hQ4
  have N4 := Fr.app N0 N4q
  have Kd : Keep h0 T4.heap [] := Kp2.trans Kc (allS (Or.inr sz_b2) all0)
  obtain ⟨fs, hr, hrun, hended, hW, hsame⟩ := X4.leave (v := some (.ref b2)) (fun h => by rw [Bd.returns] at h; cases h)
  refine ⟨_, _, pre3 _ ?_, hrun, hended, _, _, rfl, ?_, ⟨_, rfl⟩, hW, hsame.mono (by decide) (by decide)⟩
  · show Steps p.tables e below (T2.setTop (mkF m 9 #[.val (.ref ca), .val (.int (0 : Int32)), .val (.int (3 : Int32)), .val (.ref b2), .unset, .unset] [(.int (3 : Int32)), (.int (0 : Int32)), (.ref b2), (.int (0 : Int32)), (.ref ca)])) _
    refine st4 _ ?_
    show Steps p.tables e below (T4.setTop (mkF m 12 #[.val (.ref ca), .val (.int (0 : Int32)), .val (.int (3 : Int32)), .val (.ref b2), .unset, .unset] [(.int (3 : Int32))])) _
    refine XS.istore X4.here hx rfl (hb hby d8_12) rfl (l' := #[.val (.ref ca), .val (.int (0 : Int32)), .val (.int (3 : Int32)), .val (.ref b2), .val (.int (3 : Int32)), .unset]) rfl ?_
    show Steps p.tables e below (T4.setTop (mkF m 14 #[.val (.ref ca), .val (.int (0 : Int32)), .val (.int (3 : Int32)), .val (.ref b2), .val (.int (3 : Int32)), .unset] [])) _
    refine XS.iload X4.here hx rfl (hb hby d8_14) rfl ?_
    show Steps p.tables e below (T4.setTop (mkF m 16 #[.val (.ref ca), .val (.int (0 : Int32)), .val (.int (3 : Int32)), .val (.ref b2), .val (.int (3 : Int32)), .unset] [(.int (3 : Int32))])) _
    refine XS.iloadN X4.here hx rfl (hb hby d8_16) rfl ?_
    have hc17 : (3 : Int32) = (3 : Int32) := rfl
    show Steps p.tables e below (T4.setTop (mkF m 17 #[.val (.ref ca), .val (.int (0 : Int32)), .val (.int (3 : Int32)), .val (.ref b2), .val (.int (3 : Int32)), .unset] [(.int (3 : Int32)), (.int (3 : Int32))])) _
    refine XS.icmpYes X4.here hx rfl (pc0 := 17) (pc' := 57) rfl (hb hby d8_17) rfl (teq hc17).1 (by decide) (by decide) ?_
    show Steps p.tables e below (T4.setTop (mkF m 57 #[.val (.ref ca), .val (.int (0 : Int32)), .val (.int (3 : Int32)), .val (.ref b2), .val (.int (3 : Int32)), .unset] [])) _
    refine XS.aloadN X4.here hx rfl (hb hby d8_57) rfl rfl ?_
    show Steps p.tables e below (T4.setTop (mkF m 58 #[.val (.ref ca), .val (.int (0 : Int32)), .val (.int (3 : Int32)), .val (.ref b2), .val (.int (3 : Int32)), .unset] [(.ref b2)])) _
    jvm_step X4.here [X4.here.top, hx, (hb hby d8_58), X4.method', Bd.returns, Value.isRef, FieldType.isReference]
    first | (intro acts; rw [hr _ acts rfl rfl rfl]) | rw [hr _ _ rfl rfl rfl]
    exact Steps.refl _
  · exact ⟨b2, rfl, N4, Kd, sz_b2, _, Bf⟩
theorem pn_7 : plainName "java/lang/String" = true := by first | (simp [plainName, overriddenIn]; done) | decide +kernel
theorem ef_7n2 (m : MethodId) (x0 : Addr) (x1 : Addr) (x2 : Int32) (x3 : Int32) : entryFrame m #[(.ref x0), (.ref x1), (.int x2), (.int x3), .null] 6 = mkF m 0 #[.val (.ref x0), .val (.ref x1), .val (.int x2), .val (.int x3), .val .null, .unset] [] := by first | (simp [entryFrame, mkF, argsToLocals, Value.category]; done) | rfl
theorem d7_0 : decode jdk_42_method_149_code 0 = .ok (.aload_n 0, 1) := by decide +kernel
theorem d7_1 : decode jdk_42_method_149_code 1 = .ok (.invokespecial 1, 3) := by decide +kernel
theorem d7_4 : decode jdk_42_method_149_code 4 = .ok (.iload_n 3, 1) := by decide +kernel
theorem d7_5 : decode jdk_42_method_149_code 5 = .ok (.ifCond .ne 22, 3) := by decide +kernel
theorem d7_27 : decode jdk_42_method_149_code 27 = .ok (.getstatic 38, 3) := by decide +kernel
theorem d7_30 : decode jdk_42_method_149_code 30 = .ok (.ifCond .eq 28, 3) := by decide +kernel
theorem d7_33 : decode jdk_42_method_149_code 33 = .ok (.aload_n 1, 1) := by decide +kernel
theorem d7_34 : decode jdk_42_method_149_code 34 = .ok (.iload_n 2, 1) := by decide +kernel
theorem d7_35 : decode jdk_42_method_149_code 35 = .ok (.iload_n 3, 1) := by decide +kernel
theorem pd_1 : parseMethodDescriptor "([CII)[B" = some ⟨[(.array .char), .int, .int], some (.array .byte)⟩ := by decide +kernel
theorem d7_36 : decode jdk_42_method_149_code 36 = .ok (.invokestatic 177, 3) := by decide +kernel
theorem d7_39 : decode jdk_42_method_149_code 39 = .ok (.astore 5, 2) := by decide +kernel
theorem d7_41 : decode jdk_42_method_149_code 41 = .ok (.aload_n 0, 1) := by decide +kernel
theorem d7_42 : decode jdk_42_method_149_code 42 = .ok (.aload 5, 2) := by decide +kernel
theorem d7_44 : decode jdk_42_method_149_code 44 = .ok (.iload_n 3, 1) := by decide +kernel
theorem pd_2 : parseMethodDescriptor "([BI)B" = some ⟨[(.array .byte), .int], some .byte⟩ := by decide +kernel
theorem d7_45 : decode jdk_42_method_149_code 45 = .ok (.invokestatic 47, 3) := by decide +kernel
theorem d7_48 : decode jdk_42_method_149_code 48 = .ok (.putfield 15, 3) := by decide +kernel
theorem d7_51 : decode jdk_42_method_149_code 51 = .ok (.aload_n 0, 1) := by decide +kernel
theorem d7_52 : decode jdk_42_method_149_code 52 = .ok (.aload 5, 2) := by decide +kernel
theorem d7_54 : decode jdk_42_method_149_code 54 = .ok (.putfield 9, 3) := by decide +kernel
theorem d7_57 : decode jdk_42_method_149_code 57 = .ok (.return_, 1) := by decide +kernel
def Q7n2 (Z : State) (a1 : Addr) (h0 : Heap) (n0 : Nat) (v : Option Value) (h : Heap) (L : List Loc) : Prop := v = none ∧ Fr n0 L ∧ Keep h0 h [a1] ∧ Exa Z h a1 "java/lang/String"
set_option maxRecDepth 65536 in
set_option maxHeartbeats 40000000 in
theorem rm7n2 (l : Launch) (Z : State) (a0 : Array Value) (hw : ∀ d ∈ tables_1, d.before a0 Z = true) (ws : List Jvm.Cond) (a1 : Addr) (ca : Addr) (f : Nat → Int32) (G1 : Int32) (h0 : Heap) (n0 : Nat) (Z0 : n0 ≤ h0.size) (Ea : Exa Z h0 a1 "java/lang/String") (Fv : Fld Z h0 a1 "java/lang/String" "value" "[B" .null) (Fc : Fld Z h0 a1 "java/lang/String" "coder" "B" (.int (0 : Int32))) (ga : n0 ≤ a1) (CA : own_A Z h0 ca .char 2 f) (hs : ∀ j, j < 2 → ¬ ((255 : Int32) < f j)) (O2 : Sta Z h0 "java/lang/String" "COMPACT_STRINGS" "Z" (.int G1)) (P5 : ¬ (G1 = (0 : Int32))) :
    MetFree l (⟨"java/lang/String", "<init>", "([CIILjava/lang/Void;)V"⟩ : MethodName) (head1 (Jvm.Cond.code (⟨"java/lang/String", "<init>", "([CIILjava/lang/Void;)V"⟩ : MethodName) jdk_42_method_149_code 6 none :: ws) ({ frames := 2, cells := 1, slots := 2, locals := 35 } : Room)) (fun aa_ U => aa_ = #[(.ref a1), (.ref ca), (.int (0 : Int32)), (.int (2 : Int32)), .null] ∧ Z.Warmed39 U.vm ∧ U.heap = h0) (fun _ _ _ _ _ => True) (fun _ U o U' => ∃ v_ L_, o = .returned v_ ∧ Q7n2 Z a1 h0 n0 v_ U'.heap L_ ∧ FrameEnd U o U' L_ ({ frames := 2, cells := 1, slots := 2, locals := 35 } : Room).cells ({ frames := 2, cells := 1, slots := 2, locals := 35 } : Room).slots) := by
  refine MetFree.of_bodySF (plainFor_of_name pn_7) hisR ?_
  intro p e s m args below meth c s₁ Bd hml0 hP hK
  obtain ⟨rfl, hZ, hh⟩ := hP
  have hx := Bd.exec
  have hby := Bd.bytes
  have hml : c.maxLocals = 6 := hml0
  have hown : s.vm.findClass "java/lang/String" = some m.cls := findClass_of_methodNamed Bd.named
  have hnm := (name_of_methodNamed Bd.named Bd.method).1
  have X0 : Stand p l e ({ frames := 2, cells := 1, slots := 2, locals := 35 } : Room) s m #[(.ref a1), (.ref ca), (.int (0 : Int32)), (.int (2 : Int32)), .null] below meth c s₁ [] 0 0 := Stand.of_body Bd
  have e0 : s₁.heap = h0 := by rw [← hh, Bd.state]; rfl
  have N0 := Fr.nil n0
  have pre0 : ∀ t, Steps p.tables e below (s₁.setTop (mkF m 0 #[.val (.ref a1), .val (.ref ca), .val (.int (0 : Int32)), .val (.int (2 : Int32)), .val .null, .unset] [])) t → Steps p.tables e below (s₁.setTop (entryFrame m #[(.ref a1), (.ref ca), (.int (0 : Int32)), (.int (2 : Int32)), .null] 6)) t := fun t k_ => castTop (ef_7n2 m a1 ca (0 : Int32) (2 : Int32)) k_
  have pre1 : ∀ t, Steps p.tables e below (s₁.setTop (mkF m 1 #[.val (.ref a1), .val (.ref ca), .val (.int (0 : Int32)), .val (.int (2 : Int32)), .val .null, .unset] [(.ref a1)])) t → Steps p.tables e below _ t := fun t kt => pre0 t (by
    show Steps p.tables e below (s₁.setTop (mkF m 0 #[.val (.ref a1), .val (.ref ca), .val (.int (0 : Int32)), .val (.int (2 : Int32)), .val .null, .unset] [])) _
    refine XS.aloadN X0.here hx rfl (hb hby d7_0) rfl rfl ?_
    exact kt)
  obtain ⟨T2, X2, e2, st2⟩ := initO X0 hx hZ hown (hw _ (List.mem_of_getElem? (i := 38) rfl)) (hw _ (List.mem_of_getElem? (i := 16) rfl)) (hw _ (List.mem_of_getElem? (i := 17) rfl)) e0 (g := (mkF m 1 #[.val (.ref a1), .val (.ref ca), .val (.int (0 : Int32)), .val (.int (2 : Int32)), .val .null, .unset] [(.ref a1)])) rfl (by rw [hml]; rfl) rfl (hb hby d7_1) (by decide) (W := 0) (by show 2 * 0 + _ ≤ _; exact Nat.le_of_eq rfl) (by decide)
  have pre3 : ∀ t, Steps p.tables e below (T2.setTop (mkF m 27 #[.val (.ref a1), .val (.ref ca), .val (.int (0 : Int32)), .val (.int (2 : Int32)), .val .null, .unset] [])) t → Steps p.tables e below _ t := fun t kt => pre1 t (by
    show Steps p.tables e below (s₁.setTop (mkF m 1 #[.val (.ref a1), .val (.ref ca), .val (.int (0 : Int32)), .val (.int (2 : Int32)), .val .null, .unset] [(.ref a1)])) _
    refine st2 _ ?_
    show Steps p.tables e below (T2.setTop (mkF m 4 #[.val (.ref a1), .val (.ref ca), .val (.int (0 : Int32)), .val (.int (2 : Int32)), .val .null, .unset] [])) _
    refine XS.iloadN X2.here hx rfl (hb hby d7_4) rfl ?_
    have hc5 : ¬ ((2 : Int32) = (0 : Int32)) := by decide
    show Steps p.tables e below (T2.setTop (mkF m 5 #[.val (.ref a1), .val (.ref ca), .val (.int (0 : Int32)), .val (.int (2 : Int32)), .val .null, .unset] [(.int (2 : Int32))])) _
    refine XS.ifYes X2.here hx rfl (pc0 := 5) (pc' := 27) rfl (hb hby d7_5) rfl ((if0 _ _).trans (feq hc5).2) (by decide) (by decide) ?_
    exact kt)
  obtain ⟨T4, X4, e4, st4⟩ := getS X2 hx hZ hown (hw _ (List.mem_of_getElem? (i := 39) rfl)) Via.refl e2 O2 (g := (mkF m 27 #[.val (.ref a1), .val (.ref ca), .val (.int (0 : Int32)), .val (.int (2 : Int32)), .val .null, .unset] [])) rfl (hb hby d7_27) (host := "")
  have pre5 : ∀ t, Steps p.tables e below (T4.setTop (mkF m 36 #[.val (.ref a1), .val (.ref ca), .val (.int (0 : Int32)), .val (.int (2 : Int32)), .val .null, .unset] [(.int (2 : Int32)), (.int (0 : Int32)), (.ref ca)])) t → Steps p.tables e below _ t := fun t kt => pre3 t (by
    show Steps p.tables e below (T2.setTop (mkF m 27 #[.val (.ref a1), .val (.ref ca), .val (.int (0 : Int32)), .val (.int (2 : Int32)), .val .null, .unset] [])) _
    refine st4 _ ?_
    have hc30 : ¬ (G1 = (0 : Int32)) := P5
    show Steps p.tables e below (T4.setTop (mkF m 30 #[.val (.ref a1), .val (.ref ca), .val (.int (0 : Int32)), .val (.int (2 : Int32)), .val .null, .unset] [(.int G1)])) _
    refine XS.ifNo X4.here hx rfl (hb hby d7_30) rfl ((if0 _ _).trans (feq hc30).1) ?_
    show Steps p.tables e below (T4.setTop (mkF m 33 #[.val (.ref a1), .val (.ref ca), .val (.int (0 : Int32)), .val (.int (2 : Int32)), .val .null, .unset] [])) _
    refine XS.aloadN X4.here hx rfl (hb hby d7_33) rfl rfl ?_
    show Steps p.tables e below (T4.setTop (mkF m 34 #[.val (.ref a1), .val (.ref ca), .val (.int (0 : Int32)), .val (.int (2 : Int32)), .val .null, .unset] [(.ref ca)])) _
    refine XS.iloadN X4.here hx rfl (hb hby d7_34) rfl ?_
    show Steps p.tables e below (T4.setTop (mkF m 35 #[.val (.ref a1), .val (.ref ca), .val (.int (0 : Int32)), .val (.int (2 : Int32)), .val .null, .unset] [(.int (0 : Int32)), (.ref ca)])) _
    refine XS.iloadN X4.here hx rfl (hb hby d7_35) rfl ?_
    exact kt)
  obtain ⟨_, _, ⟨T6, L6, k6, n6⟩, -, X6, ⟨Lc6, hQ6, l6, y6, z6⟩, st6⟩ := Jvm.LawKit.callS X4 hx (y := (⟨"java/lang/StringUTF16", "compress", "([CII)[B"⟩ : MethodName)) hown (mvT hZ (hw _ (List.mem_of_getElem? (i := 40) rfl))) (mvT hZ (hw _ (List.mem_of_getElem? (i := 41) rfl))) (mvT hZ (hw _ (List.mem_of_getElem? (i := 42) rfl))) (mvT hZ (hw _ (List.mem_of_getElem? (i := 43) rfl))) (by decide) (backOf (W := 0) (rm8n2 l Z a0 hw [] ca f h0 n0 Z0 CA hs) hZ (hw _ (List.mem_of_getElem? (i := 43) rfl)) (hw _ (List.mem_of_getElem? (i := 42) rfl)) (by decide) (by decide)) (g := (mkF m 36 #[.val (.ref a1), .val (.ref ca), .val (.int (0 : Int32)), .val (.int (2 : Int32)), .val .null, .unset] [(.int (2 : Int32)), (.int (0 : Int32)), (.ref ca)])) rfl (by rw [hml]; rfl) (argsL := [(.ref ca), (.int (0 : Int32)), (.int (2 : Int32))]) (rest := []) (lenOf pd_1 rfl) rfl (by show 2 * 0 + _ ≤ _; exact Nat.le_of_eq rfl) (hb hby d7_36) (fun _ _ => ⟨rfl, e4, (by decide : 0 + 1 ≤ _), (by decide : 0 + 2 ≤ _)⟩)
  dsimp only [Pt.U, Pt.locs, Pt.cells, Pt.slots] at X6 l6 y6 z6 st6 hQ6
  subst l6 y6 z6
  obtain ⟨bn, rfl, N6q, Kb, sb, f', Bf⟩ := hQ6
  have N6 := Fr.app N0 N6q
  have Kg : Keep h0 T6.heap [a1] := (Keep.refl h0 [a1]).trans Kb all0
  have Zb : n0 ≤ T6.heap.size := Nat.le_trans Z0 Kb.1
  obtain ⟨cb, Ab, Sb, Hb⟩ := Bf
  have pre7 : ∀ t, Steps p.tables e below (T6.setTop (mkF m 45 #[.val (.ref a1), .val (.ref ca), .val (.int (0 : Int32)), .val (.int (2 : Int32)), .val .null, .val (.ref bn)] [(.int (2 : Int32)), (.ref bn), (.ref a1)])) t → Steps p.tables e below _ t := fun t kt => pre5 t (by
    show Steps p.tables e below (T4.setTop (mkF m 36 #[.val (.ref a1), .val (.ref ca), .val (.int (0 : Int32)), .val (.int (2 : Int32)), .val .null, .unset] [(.int (2 : Int32)), (.int (0 : Int32)), (.ref ca)])) _
    refine st6 _ ?_
    show Steps p.tables e below (T6.setTop (mkF m 39 #[.val (.ref a1), .val (.ref ca), .val (.int (0 : Int32)), .val (.int (2 : Int32)), .val .null, .unset] [(.ref bn)])) _
    refine XS.astore X6.here hx rfl (hb hby d7_39) rfl rfl (l' := #[.val (.ref a1), .val (.ref ca), .val (.int (0 : Int32)), .val (.int (2 : Int32)), .val .null, .val (.ref bn)]) rfl ?_
    show Steps p.tables e below (T6.setTop (mkF m 41 #[.val (.ref a1), .val (.ref ca), .val (.int (0 : Int32)), .val (.int (2 : Int32)), .val .null, .val (.ref bn)] [])) _
    refine XS.aloadN X6.here hx rfl (hb hby d7_41) rfl rfl ?_
    show Steps p.tables e below (T6.setTop (mkF m 42 #[.val (.ref a1), .val (.ref ca), .val (.int (0 : Int32)), .val (.int (2 : Int32)), .val .null, .val (.ref bn)] [(.ref a1)])) _
    refine XS.aload X6.here hx rfl (hb hby d7_42) rfl rfl ?_
    show Steps p.tables e below (T6.setTop (mkF m 44 #[.val (.ref a1), .val (.ref ca), .val (.int (0 : Int32)), .val (.int (2 : Int32)), .val .null, .val (.ref bn)] [(.ref bn), (.ref a1)])) _
    refine XS.iloadN X6.here hx rfl (hb hby d7_44) rfl ?_
    exact kt)
  obtain ⟨_, _, ⟨T8, L8, k8, n8⟩, -, X8, ⟨Lc8, hQ8, l8, y8, z8⟩, st8⟩ := Jvm.LawKit.callS X6 hx (y := (⟨"java/lang/StringUTF16", "coderFromArrayLen", "([BI)B"⟩ : MethodName)) hown (mvT hZ (hw _ (List.mem_of_getElem? (i := 48) rfl))) (mvT hZ (hw _ (List.mem_of_getElem? (i := 49) rfl))) (mvT hZ (hw _ (List.mem_of_getElem? (i := 42) rfl))) (mvT hZ (hw _ (List.mem_of_getElem? (i := 50) rfl))) (by decide) (backOf (W := 1) (rm10 l Z a0 hw [] bn 2 cb T6.heap n0 Zb Ab Sb (by decide)) hZ (hw _ (List.mem_of_getElem? (i := 50) rfl)) (hw _ (List.mem_of_getElem? (i := 42) rfl)) (by decide) (by decide)) (g := (mkF m 45 #[.val (.ref a1), .val (.ref ca), .val (.int (0 : Int32)), .val (.int (2 : Int32)), .val .null, .val (.ref bn)] [(.int (2 : Int32)), (.ref bn), (.ref a1)])) rfl (by rw [hml]; rfl) (argsL := [(.ref bn), (.int (2 : Int32))]) (rest := [(.ref a1)]) (lenOf pd_2 rfl) rfl (by show 2 * 0 + _ ≤ _; exact Nat.le_of_eq rfl) (hb hby d7_45) (fun _ _ => ⟨rfl, rfl, (by decide : 1 + 0 ≤ _), (by decide : 2 + 0 ≤ _)⟩)
  dsimp only [Pt.U, Pt.locs, Pt.cells, Pt.slots] at X8 l8 y8 z8 st8 hQ8
  subst l8 y8 z8
  obtain ⟨rfl, N8q, e8⟩ := hQ8
  have N8 := Fr.app N6 N8q
  have pre9 : ∀ t, Steps p.tables e below (T8.setTop (mkF m 48 #[.val (.ref a1), .val (.ref ca), .val (.int (0 : Int32)), .val (.int (2 : Int32)), .val .null, .val (.ref bn)] [(.int (0 : Int32)), (.ref a1)])) t → Steps p.tables e below _ t := fun t kt => pre7 t (by
    show Steps p.tables e below (T6.setTop (mkF m 45 #[.val (.ref a1), .val (.ref ca), .val (.int (0 : Int32)), .val (.int (2 : Int32)), .val .null, .val (.ref bn)] [(.int (2 : Int32)), (.ref bn), (.ref a1)])) _
    refine st8 _ ?_
    exact kt)
  obtain ⟨T10, h10, X10, e10, W10, st10⟩ := putFN X8 hx hZ hown (hw _ (List.mem_of_getElem? (i := 51) rfl)) Via.refl e8 (Fc.keep Kb nin0) (Ea.keep Kb) (Or.inr ⟨(hw _ (List.mem_of_getElem? (i := 52) rfl)), rfl, hnm⟩) (hw _ (List.mem_of_getElem? (i := 28) rfl)) (ty := .byte) (v' := .int (nar .byte (0 : Int32))) (by decide) rfl (fits_nar_byte _) (g := (mkF m 48 #[.val (.ref a1), .val (.ref ca), .val (.int (0 : Int32)), .val (.int (2 : Int32)), .val .null, .val (.ref bn)] [(.int (0 : Int32)), (.ref a1)])) rfl rfl (hb hby d7_48)
  have Fw10 := (Fc.keep Kb nin0).same W10
  have N10 := Fr.snoc X10 N8 ga
  have Zs10 : n0 ≤ h10.size := Nat.le_trans Zb (Nat.le_of_eq W10.size.symm)
  have Kp10 : Keep h0 h10 [a1] := Kg.wr W10 (Or.inl (List.mem_of_getElem? (i := 0) rfl))
  have Ec := (Ea.keep Kb).wr W10
  have Fvc := ((Fv.keep Kb nin0).other W10 (Or.inr (slot_ne (Or.inr (hw _ (List.mem_of_getElem? (i := 54) rfl))) (Or.inr (hw _ (List.mem_of_getElem? (i := 52) rfl))) (by decide) (t := (.array .byte)) (t' := .byte) (by decide) (by decide))))
  have pre11 : ∀ t, Steps p.tables e below (T10.setTop (mkF m 54 #[.val (.ref a1), .val (.ref ca), .val (.int (0 : Int32)), .val (.int (2 : Int32)), .val .null, .val (.ref bn)] [(.ref bn), (.ref a1)])) t → Steps p.tables e below _ t := fun t kt => pre9 t (by
    show Steps p.tables e below (T8.setTop (mkF m 48 #[.val (.ref a1), .val (.ref ca), .val (.int (0 : Int32)), .val (.int (2 : Int32)), .val .null, .val (.ref bn)] [(.int (0 : Int32)), (.ref a1)])) _
    refine st10 _ ?_
    show Steps p.tables e below (T10.setTop (mkF m 51 #[.val (.ref a1), .val (.ref ca), .val (.int (0 : Int32)), .val (.int (2 : Int32)), .val .null, .val (.ref bn)] [])) _
    refine XS.aloadN X10.here hx rfl (hb hby d7_51) rfl rfl ?_
    show Steps p.tables e below (T10.setTop (mkF m 52 #[.val (.ref a1), .val (.ref ca), .val (.int (0 : Int32)), .val (.int (2 : Int32)), .val .null, .val (.ref bn)] [(.ref a1)])) _
    refine XS.aload X10.here hx rfl (hb hby d7_52) rfl rfl ?_
    exact kt)
  obtain ⟨T12, h12, X12, e12, W12, st12⟩ := putF X10 hx hZ hown (host := "") (Or.inl (hw _ (List.mem_of_getElem? (i := 53) rfl))) Via.refl e10 Fvc Ec (Or.inr ⟨(hw _ (List.mem_of_getElem? (i := 54) rfl)), rfl, hnm⟩) (hw _ (List.mem_of_getElem? (i := 28) rfl)) (ty := (.array .byte)) (by decide) rfl rfl (g := (mkF m 54 #[.val (.ref a1), .val (.ref ca), .val (.int (0 : Int32)), .val (.int (2 : Int32)), .val .null, .val (.ref bn)] [(.ref bn), (.ref a1)])) rfl rfl (hb hby d7_54)
  have Fw12 := Fvc.same W12
  have N12 := Fr.snoc X12 N10 ga
  have Zs12 : n0 ≤ h12.size := Nat.le_trans Zs10 (Nat.le_of_eq W12.size.symm)
  have Kp12 : Keep h0 h12 [a1] := Kp10.wr W12 (Or.inl (List.mem_of_getElem? (i := 0) rfl))
  have Ed := Ec.wr W12
  obtain ⟨fs, hr, hrun, hended, hW, hsame⟩ := X12.leave (v := none) (fun _ => rfl)
  refine ⟨_, _, pre11 _ ?_, hrun, hended, _, _, rfl, ?_, ⟨_, rfl⟩, hW, hsame.mono (by decide) (by decide)⟩
  · show Steps p.tables e below (T10.setTop (mkF m 54 #[.val (.ref a1), .val (.ref ca), .val (.int (0 : Int32)), .val (.int (2 : Int32)), .val .null, .val (.ref bn)] [(.ref bn), (.ref a1)])) _
    refine st12 _ ?_
    show Steps p.tables e below (T12.setTop (mkF m 57 #[.val (.ref a1), .val (.ref ca), .val (.int (0 : Int32)), .val (.int (2 : Int32)), .val .null, .val (.ref bn)] [])) _
    exact X12.returnOut hx Bd.returns (hb hby d7_57) hr
  · show Q7n2 Z a1 h0 n0 _ T12.heap _
    rw [e12]
    exact ⟨rfl, N12, Kp12, Ed⟩
theorem ef_7n3 (m : MethodId) (x0 : Addr) (x1 : Addr) (x2 : Int32) (x3 : Int32) : entryFrame m #[(.ref x0), (.ref x1), (.int x2), (.int x3), .null] 6 = mkF m 0 #[.val (.ref x0), .val (.ref x1), .val (.int x2), .val (.int x3), .val .null, .unset] [] := by first | (simp [entryFrame, mkF, argsToLocals, Value.category]; done) | rfl
def Q7n3 (Z : State) (a1 : Addr) (h0 : Heap) (n0 : Nat) (v : Option Value) (h : Heap) (L : List Loc) : Prop := v = none ∧ Fr n0 L ∧ Keep h0 h [a1] ∧ Exa Z h a1 "java/lang/String"
set_option maxRecDepth 65536 in
set_option maxHeartbeats 40000000 in
theorem rm7n3 (l : Launch) (Z : State) (a0 : Array Value) (hw : ∀ d ∈ tables_1, d.before a0 Z = true) (ws : List Jvm.Cond) (a1 : Addr) (ca : Addr) (f : Nat → Int32) (G1 : Int32) (h0 : Heap) (n0 : Nat) (Z0 : n0 ≤ h0.size) (Ea : Exa Z h0 a1 "java/lang/String") (Fv : Fld Z h0 a1 "java/lang/String" "value" "[B" .null) (Fc : Fld Z h0 a1 "java/lang/String" "coder" "B" (.int (0 : Int32))) (ga : n0 ≤ a1) (CA : own_A Z h0 ca .char 3 f) (hs : ∀ j, j < 3 → ¬ ((255 : Int32) < f j)) (O2 : Sta Z h0 "java/lang/String" "COMPACT_STRINGS" "Z" (.int G1)) (P5 : ¬ (G1 = (0 : Int32))) :
    MetFree l (⟨"java/lang/String", "<init>", "([CIILjava/lang/Void;)V"⟩ : MethodName) (head1 (Jvm.Cond.code (⟨"java/lang/String", "<init>", "([CIILjava/lang/Void;)V"⟩ : MethodName) jdk_42_method_149_code 6 none :: ws) ({ frames := 2, cells := 1, slots := 3, locals := 35 } : Room)) (fun aa_ U => aa_ = #[(.ref a1), (.ref ca), (.int (0 : Int32)), (.int (3 : Int32)), .null] ∧ Z.Warmed39 U.vm ∧ U.heap = h0) (fun _ _ _ _ _ => True) (fun _ U o U' => ∃ v_ L_, o = .returned v_ ∧ Q7n3 Z a1 h0 n0 v_ U'.heap L_ ∧ FrameEnd U o U' L_ ({ frames := 2, cells := 1, slots := 3, locals := 35 } : Room).cells ({ frames := 2, cells := 1, slots := 3, locals := 35 } : Room).slots) := by
  refine MetFree.of_bodySF (plainFor_of_name pn_7) hisR ?_
  intro p e s m args below meth c s₁ Bd hml0 hP hK
  obtain ⟨rfl, hZ, hh⟩ := hP
  have hx := Bd.exec
  have hby := Bd.bytes
  have hml : c.maxLocals = 6 := hml0
  have hown : s.vm.findClass "java/lang/String" = some m.cls := findClass_of_methodNamed Bd.named
  have hnm := (name_of_methodNamed Bd.named Bd.method).1
  have X0 : Stand p l e ({ frames := 2, cells := 1, slots := 3, locals := 35 } : Room) s m #[(.ref a1), (.ref ca), (.int (0 : Int32)), (.int (3 : Int32)), .null] below meth c s₁ [] 0 0 := Stand.of_body Bd
  have e0 : s₁.heap = h0 := by rw [← hh, Bd.state]; rfl
  have N0 := Fr.nil n0
  have pre0 : ∀ t, Steps p.tables e below (s₁.setTop (mkF m 0 #[.val (.ref a1), .val (.ref ca), .val (.int (0 : Int32)), .val (.int (3 : Int32)), .val .null, .unset] [])) t → Steps p.tables e below (s₁.setTop (entryFrame m #[(.ref a1), (.ref ca), (.int (0 : Int32)), (.int (3 : Int32)), .null] 6)) t := fun t k_ => castTop (ef_7n3 m a1 ca (0 : Int32) (3 : Int32)) k_
  have pre1 : ∀ t, Steps p.tables e below (s₁.setTop (mkF m 1 #[.val (.ref a1), .val (.ref ca), .val (.int (0 : Int32)), .val (.int (3 : Int32)), .val .null, .unset] [(.ref a1)])) t → Steps p.tables e below _ t := fun t kt => pre0 t (by
    show Steps p.tables e below (s₁.setTop (mkF m 0 #[.val (.ref a1), .val (.ref ca), .val (.int (0 : Int32)), .val (.int (3 : Int32)), .val .null, .unset] [])) _
    refine XS.aloadN X0.here hx rfl (hb hby d7_0) rfl rfl ?_
    exact kt)
  obtain ⟨T2, X2, e2, st2⟩ := initO X0 hx hZ hown (hw _ (List.mem_of_getElem? (i := 38) rfl)) (hw _ (List.mem_of_getElem? (i := 16) rfl)) (hw _ (List.mem_of_getElem? (i := 17) rfl)) e0 (g := (mkF m 1 #[.val (.ref a1), .val (.ref ca), .val (.int (0 : Int32)), .val (.int (3 : Int32)), .val .null, .unset] [(.ref a1)])) rfl (by rw [hml]; rfl) rfl (hb hby d7_1) (by decide) (W := 0) (by show 2 * 0 + _ ≤ _; exact Nat.le_of_eq rfl) (by decide)
  have pre3 : ∀ t, Steps p.tables e below (T2.setTop (mkF m 27 #[.val (.ref a1), .val (.ref ca), .val (.int (0 : Int32)), .val (.int (3 : Int32)), .val .null, .unset] [])) t → Steps p.tables e below _ t := fun t kt => pre1 t (by
    show Steps p.tables e below (s₁.setTop (mkF m 1 #[.val (.ref a1), .val (.ref ca), .val (.int (0 : Int32)), .val (.int (3 : Int32)), .val .null, .unset] [(.ref a1)])) _
    refine st2 _ ?_
    show Steps p.tables e below (T2.setTop (mkF m 4 #[.val (.ref a1), .val (.ref ca), .val (.int (0 : Int32)), .val (.int (3 : Int32)), .val .null, .unset] [])) _
    refine XS.iloadN X2.here hx rfl (hb hby d7_4) rfl ?_
    have hc5 : ¬ ((3 : Int32) = (0 : Int32)) := by decide
    show Steps p.tables e below (T2.setTop (mkF m 5 #[.val (.ref a1), .val (.ref ca), .val (.int (0 : Int32)), .val (.int (3 : Int32)), .val .null, .unset] [(.int (3 : Int32))])) _
    refine XS.ifYes X2.here hx rfl (pc0 := 5) (pc' := 27) rfl (hb hby d7_5) rfl ((if0 _ _).trans (feq hc5).2) (by decide) (by decide) ?_
    exact kt)
  obtain ⟨T4, X4, e4, st4⟩ := getS X2 hx hZ hown (hw _ (List.mem_of_getElem? (i := 39) rfl)) Via.refl e2 O2 (g := (mkF m 27 #[.val (.ref a1), .val (.ref ca), .val (.int (0 : Int32)), .val (.int (3 : Int32)), .val .null, .unset] [])) rfl (hb hby d7_27) (host := "")
  have pre5 : ∀ t, Steps p.tables e below (T4.setTop (mkF m 36 #[.val (.ref a1), .val (.ref ca), .val (.int (0 : Int32)), .val (.int (3 : Int32)), .val .null, .unset] [(.int (3 : Int32)), (.int (0 : Int32)), (.ref ca)])) t → Steps p.tables e below _ t := fun t kt => pre3 t (by
    show Steps p.tables e below (T2.setTop (mkF m 27 #[.val (.ref a1), .val (.ref ca), .val (.int (0 : Int32)), .val (.int (3 : Int32)), .val .null, .unset] [])) _
    refine st4 _ ?_
    have hc30 : ¬ (G1 = (0 : Int32)) := P5
    show Steps p.tables e below (T4.setTop (mkF m 30 #[.val (.ref a1), .val (.ref ca), .val (.int (0 : Int32)), .val (.int (3 : Int32)), .val .null, .unset] [(.int G1)])) _
    refine XS.ifNo X4.here hx rfl (hb hby d7_30) rfl ((if0 _ _).trans (feq hc30).1) ?_
    show Steps p.tables e below (T4.setTop (mkF m 33 #[.val (.ref a1), .val (.ref ca), .val (.int (0 : Int32)), .val (.int (3 : Int32)), .val .null, .unset] [])) _
    refine XS.aloadN X4.here hx rfl (hb hby d7_33) rfl rfl ?_
    show Steps p.tables e below (T4.setTop (mkF m 34 #[.val (.ref a1), .val (.ref ca), .val (.int (0 : Int32)), .val (.int (3 : Int32)), .val .null, .unset] [(.ref ca)])) _
    refine XS.iloadN X4.here hx rfl (hb hby d7_34) rfl ?_
    show Steps p.tables e below (T4.setTop (mkF m 35 #[.val (.ref a1), .val (.ref ca), .val (.int (0 : Int32)), .val (.int (3 : Int32)), .val .null, .unset] [(.int (0 : Int32)), (.ref ca)])) _
    refine XS.iloadN X4.here hx rfl (hb hby d7_35) rfl ?_
    exact kt)
  obtain ⟨_, _, ⟨T6, L6, k6, n6⟩, -, X6, ⟨Lc6, hQ6, l6, y6, z6⟩, st6⟩ := Jvm.LawKit.callS X4 hx (y := (⟨"java/lang/StringUTF16", "compress", "([CII)[B"⟩ : MethodName)) hown (mvT hZ (hw _ (List.mem_of_getElem? (i := 40) rfl))) (mvT hZ (hw _ (List.mem_of_getElem? (i := 41) rfl))) (mvT hZ (hw _ (List.mem_of_getElem? (i := 42) rfl))) (mvT hZ (hw _ (List.mem_of_getElem? (i := 43) rfl))) (by decide) (backOf (W := 0) (rm8n3 l Z a0 hw [] ca f h0 n0 Z0 CA hs) hZ (hw _ (List.mem_of_getElem? (i := 43) rfl)) (hw _ (List.mem_of_getElem? (i := 42) rfl)) (by decide) (by decide)) (g := (mkF m 36 #[.val (.ref a1), .val (.ref ca), .val (.int (0 : Int32)), .val (.int (3 : Int32)), .val .null, .unset] [(.int (3 : Int32)), (.int (0 : Int32)), (.ref ca)])) rfl (by rw [hml]; rfl) (argsL := [(.ref ca), (.int (0 : Int32)), (.int (3 : Int32))]) (rest := []) (lenOf pd_1 rfl) rfl (by show 2 * 0 + _ ≤ _; exact Nat.le_of_eq rfl) (hb hby d7_36) (fun _ _ => ⟨rfl, e4, (by decide : 0 + 1 ≤ _), (by decide : 0 + 3 ≤ _)⟩)
  dsimp only [Pt.U, Pt.locs, Pt.cells, Pt.slots] at X6 l6 y6 z6 st6 hQ6
  subst l6 y6 z6
  obtain ⟨bn, rfl, N6q, Kb, sb, f', Bf⟩ := hQ6
  have N6 := Fr.app N0 N6q
  have Kg : Keep h0 T6.heap [a1] := (Keep.refl h0 [a1]).trans Kb all0
  have Zb : n0 ≤ T6.heap.size := Nat.le_trans Z0 Kb.1
  obtain ⟨cb, Ab, Sb, Hb⟩ := Bf
  have pre7 : ∀ t, Steps p.tables e below (T6.setTop (mkF m 45 #[.val (.ref a1), .val (.ref ca), .val (.int (0 : Int32)), .val (.int (3 : Int32)), .val .null, .val (.ref bn)] [(.int (3 : Int32)), (.ref bn), (.ref a1)])) t → Steps p.tables e below _ t := fun t kt => pre5 t (by
    show Steps p.tables e below (T4.setTop (mkF m 36 #[.val (.ref a1), .val (.ref ca), .val (.int (0 : Int32)), .val (.int (3 : Int32)), .val .null, .unset] [(.int (3 : Int32)), (.int (0 : Int32)), (.ref ca)])) _
    refine st6 _ ?_
    show Steps p.tables e below (T6.setTop (mkF m 39 #[.val (.ref a1), .val (.ref ca), .val (.int (0 : Int32)), .val (.int (3 : Int32)), .val .null, .unset] [(.ref bn)])) _
    refine XS.astore X6.here hx rfl (hb hby d7_39) rfl rfl (l' := #[.val (.ref a1), .val (.ref ca), .val (.int (0 : Int32)), .val (.int (3 : Int32)), .val .null, .val (.ref bn)]) rfl ?_
    show Steps p.tables e below (T6.setTop (mkF m 41 #[.val (.ref a1), .val (.ref ca), .val (.int (0 : Int32)), .val (.int (3 : Int32)), .val .null, .val (.ref bn)] [])) _
    refine XS.aloadN X6.here hx rfl (hb hby d7_41) rfl rfl ?_
    show Steps p.tables e below (T6.setTop (mkF m 42 #[.val (.ref a1), .val (.ref ca), .val (.int (0 : Int32)), .val (.int (3 : Int32)), .val .null, .val (.ref bn)] [(.ref a1)])) _
    refine XS.aload X6.here hx rfl (hb hby d7_42) rfl rfl ?_
    show Steps p.tables e below (T6.setTop (mkF m 44 #[.val (.ref a1), .val (.ref ca), .val (.int (0 : Int32)), .val (.int (3 : Int32)), .val .null, .val (.ref bn)] [(.ref bn), (.ref a1)])) _
    refine XS.iloadN X6.here hx rfl (hb hby d7_44) rfl ?_
    exact kt)
  obtain ⟨_, _, ⟨T8, L8, k8, n8⟩, -, X8, ⟨Lc8, hQ8, l8, y8, z8⟩, st8⟩ := Jvm.LawKit.callS X6 hx (y := (⟨"java/lang/StringUTF16", "coderFromArrayLen", "([BI)B"⟩ : MethodName)) hown (mvT hZ (hw _ (List.mem_of_getElem? (i := 48) rfl))) (mvT hZ (hw _ (List.mem_of_getElem? (i := 49) rfl))) (mvT hZ (hw _ (List.mem_of_getElem? (i := 42) rfl))) (mvT hZ (hw _ (List.mem_of_getElem? (i := 50) rfl))) (by decide) (backOf (W := 1) (rm10 l Z a0 hw [] bn 3 cb T6.heap n0 Zb Ab Sb (by decide)) hZ (hw _ (List.mem_of_getElem? (i := 50) rfl)) (hw _ (List.mem_of_getElem? (i := 42) rfl)) (by decide) (by decide)) (g := (mkF m 45 #[.val (.ref a1), .val (.ref ca), .val (.int (0 : Int32)), .val (.int (3 : Int32)), .val .null, .val (.ref bn)] [(.int (3 : Int32)), (.ref bn), (.ref a1)])) rfl (by rw [hml]; rfl) (argsL := [(.ref bn), (.int (3 : Int32))]) (rest := [(.ref a1)]) (lenOf pd_2 rfl) rfl (by show 2 * 0 + _ ≤ _; exact Nat.le_of_eq rfl) (hb hby d7_45) (fun _ _ => ⟨rfl, rfl, (by decide : 1 + 0 ≤ _), (by decide : 3 + 0 ≤ _)⟩)
  dsimp only [Pt.U, Pt.locs, Pt.cells, Pt.slots] at X8 l8 y8 z8 st8 hQ8
  subst l8 y8 z8
  obtain ⟨rfl, N8q, e8⟩ := hQ8
  have N8 := Fr.app N6 N8q
  have pre9 : ∀ t, Steps p.tables e below (T8.setTop (mkF m 48 #[.val (.ref a1), .val (.ref ca), .val (.int (0 : Int32)), .val (.int (3 : Int32)), .val .null, .val (.ref bn)] [(.int (0 : Int32)), (.ref a1)])) t → Steps p.tables e below _ t := fun t kt => pre7 t (by
    show Steps p.tables e below (T6.setTop (mkF m 45 #[.val (.ref a1), .val (.ref ca), .val (.int (0 : Int32)), .val (.int (3 : Int32)), .val .null, .val (.ref bn)] [(.int (3 : Int32)), (.ref bn), (.ref a1)])) _
    refine st8 _ ?_
    exact kt)
  obtain ⟨T10, h10, X10, e10, W10, st10⟩ := putFN X8 hx hZ hown (hw _ (List.mem_of_getElem? (i := 51) rfl)) Via.refl e8 (Fc.keep Kb nin0) (Ea.keep Kb) (Or.inr ⟨(hw _ (List.mem_of_getElem? (i := 52) rfl)), rfl, hnm⟩) (hw _ (List.mem_of_getElem? (i := 28) rfl)) (ty := .byte) (v' := .int (nar .byte (0 : Int32))) (by decide) rfl (fits_nar_byte _) (g := (mkF m 48 #[.val (.ref a1), .val (.ref ca), .val (.int (0 : Int32)), .val (.int (3 : Int32)), .val .null, .val (.ref bn)] [(.int (0 : Int32)), (.ref a1)])) rfl rfl (hb hby d7_48)
  have Fw10 := (Fc.keep Kb nin0).same W10
  have N10 := Fr.snoc X10 N8 ga
  have Zs10 : n0 ≤ h10.size := Nat.le_trans Zb (Nat.le_of_eq W10.size.symm)
  have Kp10 : Keep h0 h10 [a1] := Kg.wr W10 (Or.inl (List.mem_of_getElem? (i := 0) rfl))
  have Ec := (Ea.keep Kb).wr W10
  have Fvc := ((Fv.keep Kb nin0).other W10 (Or.inr (slot_ne (Or.inr (hw _ (List.mem_of_getElem? (i := 54) rfl))) (Or.inr (hw _ (List.mem_of_getElem? (i := 52) rfl))) (by decide) (t := (.array .byte)) (t' := .byte) (by decide) (by decide))))
  have pre11 : ∀ t, Steps p.tables e below (T10.setTop (mkF m 54 #[.val (.ref a1), .val (.ref ca), .val (.int (0 : Int32)), .val (.int (3 : Int32)), .val .null, .val (.ref bn)] [(.ref bn), (.ref a1)])) t → Steps p.tables e below _ t := fun t kt => pre9 t (by
    show Steps p.tables e below (T8.setTop (mkF m 48 #[.val (.ref a1), .val (.ref ca), .val (.int (0 : Int32)), .val (.int (3 : Int32)), .val .null, .val (.ref bn)] [(.int (0 : Int32)), (.ref a1)])) _
    refine st10 _ ?_
    show Steps p.tables e below (T10.setTop (mkF m 51 #[.val (.ref a1), .val (.ref ca), .val (.int (0 : Int32)), .val (.int (3 : Int32)), .val .null, .val (.ref bn)] [])) _
    refine XS.aloadN X10.here hx rfl (hb hby d7_51) rfl rfl ?_
    show Steps p.tables e below (T10.setTop (mkF m 52 #[.val (.ref a1), .val (.ref ca), .val (.int (0 : Int32)), .val (.int (3 : Int32)), .val .null, .val (.ref bn)] [(.ref a1)])) _
    refine XS.aload X10.here hx rfl (hb hby d7_52) rfl rfl ?_
    exact kt)
  obtain ⟨T12, h12, X12, e12, W12, st12⟩ := putF X10 hx hZ hown (host := "") (Or.inl (hw _ (List.mem_of_getElem? (i := 53) rfl))) Via.refl e10 Fvc Ec (Or.inr ⟨(hw _ (List.mem_of_getElem? (i := 54) rfl)), rfl, hnm⟩) (hw _ (List.mem_of_getElem? (i := 28) rfl)) (ty := (.array .byte)) (by decide) rfl rfl (g := (mkF m 54 #[.val (.ref a1), .val (.ref ca), .val (.int (0 : Int32)), .val (.int (3 : Int32)), .val .null, .val (.ref bn)] [(.ref bn), (.ref a1)])) rfl rfl (hb hby d7_54)
  have Fw12 := Fvc.same W12
  have N12 := Fr.snoc X12 N10 ga
  have Zs12 : n0 ≤ h12.size := Nat.le_trans Zs10 (Nat.le_of_eq W12.size.symm)
  have Kp12 : Keep h0 h12 [a1] := Kp10.wr W12 (Or.inl (List.mem_of_getElem? (i := 0) rfl))
  have Ed := Ec.wr W12
  obtain ⟨fs, hr, hrun, hended, hW, hsame⟩ := X12.leave (v := none) (fun _ => rfl)
  refine ⟨_, _, pre11 _ ?_, hrun, hended, _, _, rfl, ?_, ⟨_, rfl⟩, hW, hsame.mono (by decide) (by decide)⟩
  · show Steps p.tables e below (T10.setTop (mkF m 54 #[.val (.ref a1), .val (.ref ca), .val (.int (0 : Int32)), .val (.int (3 : Int32)), .val .null, .val (.ref bn)] [(.ref bn), (.ref a1)])) _
    refine st12 _ ?_
    show Steps p.tables e below (T12.setTop (mkF m 57 #[.val (.ref a1), .val (.ref ca), .val (.int (0 : Int32)), .val (.int (3 : Int32)), .val .null, .val (.ref bn)] [])) _
    exact X12.returnOut hx Bd.returns (hb hby d7_57) hr
  · show Q7n3 Z a1 h0 n0 _ T12.heap _
    rw [e12]
    exact ⟨rfl, N12, Kp12, Ed⟩
theorem pn_6 : plainName "java/lang/String" = true := by first | (simp [plainName, overriddenIn]; done) | decide +kernel
theorem ef_6n2 (m : MethodId) (x0 : Addr) (x1 : Addr) : entryFrame m #[(.ref x0), (.ref x1)] 2 = mkF m 0 #[.val (.ref x0), .val (.ref x1)] [] := by first | (simp [entryFrame, mkF, argsToLocals, Value.category]; done) | rfl
theorem d6_0 : decode jdk_42_method_3_code 0 = .ok (.aload_n 0, 1) := by decide +kernel
theorem d6_1 : decode jdk_42_method_3_code 1 = .ok (.aload_n 1, 1) := by decide +kernel
theorem d6_2 : decode jdk_42_method_3_code 2 = .ok (.iconst 0, 1) := by decide +kernel
theorem d6_3 : decode jdk_42_method_3_code 3 = .ok (.aload_n 1, 1) := by decide +kernel
theorem d6_4 : decode jdk_42_method_3_code 4 = .ok (.arraylength, 1) := by decide +kernel
theorem d6_5 : decode jdk_42_method_3_code 5 = .ok (.aconst_null, 1) := by decide +kernel
theorem pd_3 : parseMethodDescriptor "([CIILjava/lang/Void;)V" = some ⟨[(.array .char), .int, .int, (.object "java/lang/Void")], none⟩ := by decide +kernel
theorem d6_6 : decode jdk_42_method_3_code 6 = .ok (.invokespecial 27, 3) := by decide +kernel
theorem d6_9 : decode jdk_42_method_3_code 9 = .ok (.return_, 1) := by decide +kernel
def Q6n2 (Z : State) (a1 : Addr) (h0 : Heap) (n0 : Nat) (v : Option Value) (h : Heap) (L : List Loc) : Prop := v = none ∧ Fr n0 L ∧ Keep h0 h [a1] ∧ Exa Z h a1 "java/lang/String"
set_option maxRecDepth 65536 in
set_option maxHeartbeats 40000000 in
theorem rm6n2 (l : Launch) (Z : State) (a0 : Array Value) (hw : ∀ d ∈ tables_1, d.before a0 Z = true) (ws : List Jvm.Cond) (a1 : Addr) (ca : Addr) (f : Nat → Int32) (G1 : Int32) (h0 : Heap) (n0 : Nat) (Z0 : n0 ≤ h0.size) (Ea : Exa Z h0 a1 "java/lang/String") (Fv : Fld Z h0 a1 "java/lang/String" "value" "[B" .null) (Fc : Fld Z h0 a1 "java/lang/String" "coder" "B" (.int (0 : Int32))) (ga : n0 ≤ a1) (CA : own_A Z h0 ca .char 2 f) (hs : ∀ j, j < 2 → ¬ ((255 : Int32) < f j)) (O2 : Sta Z h0 "java/lang/String" "COMPACT_STRINGS" "Z" (.int G1)) (P5 : ¬ (G1 = (0 : Int32))) :
    MetFree l (⟨"java/lang/String", "<init>", "([C)V"⟩ : MethodName) (head1 (Jvm.Cond.code (⟨"java/lang/String", "<init>", "([C)V"⟩ : MethodName) jdk_42_method_3_code 2 none :: ws) ({ frames := 3, cells := 1, slots := 2, locals := 52 } : Room)) (fun aa_ U => aa_ = #[(.ref a1), (.ref ca)] ∧ Z.Warmed39 U.vm ∧ U.heap = h0) (fun _ _ _ _ _ => True) (fun _ U o U' => ∃ v_ L_, o = .returned v_ ∧ Q6n2 Z a1 h0 n0 v_ U'.heap L_ ∧ FrameEnd U o U' L_ ({ frames := 3, cells := 1, slots := 2, locals := 52 } : Room).cells ({ frames := 3, cells := 1, slots := 2, locals := 52 } : Room).slots) := by
  refine MetFree.of_bodySF (plainFor_of_name pn_6) hisR ?_
  intro p e s m args below meth c s₁ Bd hml0 hP hK
  obtain ⟨rfl, hZ, hh⟩ := hP
  have hx := Bd.exec
  have hby := Bd.bytes
  have hml : c.maxLocals = 2 := hml0
  have hown : s.vm.findClass "java/lang/String" = some m.cls := findClass_of_methodNamed Bd.named
  have hnm := (name_of_methodNamed Bd.named Bd.method).1
  have X0 : Stand p l e ({ frames := 3, cells := 1, slots := 2, locals := 52 } : Room) s m #[(.ref a1), (.ref ca)] below meth c s₁ [] 0 0 := Stand.of_body Bd
  have e0 : s₁.heap = h0 := by rw [← hh, Bd.state]; rfl
  have N0 := Fr.nil n0
  have pre0 : ∀ t, Steps p.tables e below (s₁.setTop (mkF m 0 #[.val (.ref a1), .val (.ref ca)] [])) t → Steps p.tables e below (s₁.setTop (entryFrame m #[(.ref a1), (.ref ca)] 2)) t := fun t k_ => castTop (ef_6n2 m a1 ca) k_
  obtain ⟨cc, Ac, Sc, Hc⟩ := CA
  have CA : own_A Z h0 ca .char 2 f := ⟨cc, Ac, Sc, Hc⟩
  have pre1 : ∀ t, Steps p.tables e below (s₁.setTop (mkF m 6 #[.val (.ref a1), .val (.ref ca)] [.null, (.int (2 : Int32)), (.int (0 : Int32)), (.ref ca), (.ref a1)])) t → Steps p.tables e below _ t := fun t kt => pre0 t (by
    show Steps p.tables e below (s₁.setTop (mkF m 0 #[.val (.ref a1), .val (.ref ca)] [])) _
    refine XS.aloadN X0.here hx rfl (hb hby d6_0) rfl rfl ?_
    show Steps p.tables e below (s₁.setTop (mkF m 1 #[.val (.ref a1), .val (.ref ca)] [(.ref a1)])) _
    refine XS.aloadN X0.here hx rfl (hb hby d6_1) rfl rfl ?_
    show Steps p.tables e below (s₁.setTop (mkF m 2 #[.val (.ref a1), .val (.ref ca)] [(.ref ca), (.ref a1)])) _
    refine XS.iconst X0.here hx rfl (hb hby d6_2) ?_
    show Steps p.tables e below (s₁.setTop (mkF m 3 #[.val (.ref a1), .val (.ref ca)] [(.int (0 : Int32)), (.ref ca), (.ref a1)])) _
    refine XS.aloadN X0.here hx rfl (hb hby d6_3) rfl rfl ?_
    show Steps p.tables e below (s₁.setTop (mkF m 4 #[.val (.ref a1), .val (.ref ca)] [(.ref ca), (.int (0 : Int32)), (.ref ca), (.ref a1)])) _
    refine X0.arraylength hx (by rw [e0]; exact Ac.1) (State.isArrayOf_alike hZ.alike Ac.2.1) (g := (mkF m 4 #[.val (.ref a1), .val (.ref ca)] [(.ref ca), (.int (0 : Int32)), (.ref ca), (.ref a1)])) rfl rfl (hb hby d6_4) _ ?_
    rw [len_of (by rw [Sc]; rfl : cc.slots.size = (2 : Int32).toNatClampNeg) (by decide)]
    show Steps p.tables e below (s₁.setTop (mkF m 5 #[.val (.ref a1), .val (.ref ca)] [(.int (2 : Int32)), (.int (0 : Int32)), (.ref ca), (.ref a1)])) _
    refine XS.aconstNull X0.here hx rfl (hb hby d6_5) ?_
    exact kt)
  obtain ⟨_, _, ⟨T2, L2, k2, n2⟩, -, X2, ⟨Lc2, hQ2, l2, y2, z2⟩, st2⟩ := X0.specialBack hx (y := (⟨"java/lang/String", "<init>", "([CIILjava/lang/Void;)V"⟩ : MethodName)) rfl hown (mvT hZ (hw _ (List.mem_of_getElem? (i := 34) rfl))) (mvT hZ (hw _ (List.mem_of_getElem? (i := 35) rfl))) (mvT hZ (hw _ (List.mem_of_getElem? (i := 37) rfl))) (by decide) (backOf (W := 0) (rm7n2 l Z a0 hw [] a1 ca f G1 h0 n0 Z0 Ea Fv Fc ga CA hs O2 P5) hZ (hw _ (List.mem_of_getElem? (i := 37) rfl)) (hw _ (List.mem_of_getElem? (i := 29) rfl)) (by decide) (by decide)) (g := (mkF m 6 #[.val (.ref a1), .val (.ref ca)] [.null, (.int (2 : Int32)), (.int (0 : Int32)), (.ref ca), (.ref a1)])) rfl (by rw [hml]; rfl) (Steps.refl _) (a := a1) (argsL := [(.ref ca), (.int (0 : Int32)), (.int (2 : Int32)), .null]) (rest := []) (lenOf pd_3 rfl) rfl (by show 2 * 0 + _ ≤ _; exact Nat.le_of_eq rfl) (hb hby d6_6) (fun _ _ => ⟨rfl, e0, (by decide : 0 + 1 ≤ _), (by decide : 0 + 2 ≤ _)⟩)
  dsimp only [Pt.U, Pt.locs, Pt.cells, Pt.slots] at X2 l2 y2 z2 st2 hQ2
  subst l2 y2 z2
  obtain ⟨rfl, N2q, Kq, Eq⟩ := hQ2
  have N2 := Fr.app N0 N2q
  obtain ⟨fs, hr, hrun, hended, hW, hsame⟩ := X2.leave (v := none) (fun _ => rfl)
  refine ⟨_, _, pre1 _ ?_, hrun, hended, _, _, rfl, ?_, ⟨_, rfl⟩, hW, hsame.mono (by decide) (by decide)⟩
  · show Steps p.tables e below (s₁.setTop (mkF m 6 #[.val (.ref a1), .val (.ref ca)] [.null, (.int (2 : Int32)), (.int (0 : Int32)), (.ref ca), (.ref a1)])) _
    refine st2.trans ?_
    show Steps p.tables e below (T2.setTop (mkF m 9 #[.val (.ref a1), .val (.ref ca)] [])) _
    exact X2.returnOut hx Bd.returns (hb hby d6_9) hr
  · exact ⟨rfl, N2, Kq, Eq⟩
theorem ef_6n3 (m : MethodId) (x0 : Addr) (x1 : Addr) : entryFrame m #[(.ref x0), (.ref x1)] 2 = mkF m 0 #[.val (.ref x0), .val (.ref x1)] [] := by first | (simp [entryFrame, mkF, argsToLocals, Value.category]; done) | rfl
def Q6n3 (Z : State) (a1 : Addr) (h0 : Heap) (n0 : Nat) (v : Option Value) (h : Heap) (L : List Loc) : Prop := v = none ∧ Fr n0 L ∧ Keep h0 h [a1] ∧ Exa Z h a1 "java/lang/String"
set_option maxRecDepth 65536 in
set_option maxHeartbeats 40000000 in
theorem rm6n3 (l : Launch) (Z : State) (a0 : Array Value) (hw : ∀ d ∈ tables_1, d.before a0 Z = true) (ws : List Jvm.Cond) (a1 : Addr) (ca : Addr) (f : Nat → Int32) (G1 : Int32) (h0 : Heap) (n0 : Nat) (Z0 : n0 ≤ h0.size) (Ea : Exa Z h0 a1 "java/lang/String") (Fv : Fld Z h0 a1 "java/lang/String" "value" "[B" .null) (Fc : Fld Z h0 a1 "java/lang/String" "coder" "B" (.int (0 : Int32))) (ga : n0 ≤ a1) (CA : own_A Z h0 ca .char 3 f) (hs : ∀ j, j < 3 → ¬ ((255 : Int32) < f j)) (O2 : Sta Z h0 "java/lang/String" "COMPACT_STRINGS" "Z" (.int G1)) (P5 : ¬ (G1 = (0 : Int32))) :
    MetFree l (⟨"java/lang/String", "<init>", "([C)V"⟩ : MethodName) (head1 (Jvm.Cond.code (⟨"java/lang/String", "<init>", "([C)V"⟩ : MethodName) jdk_42_method_3_code 2 none :: ws) ({ frames := 3, cells := 1, slots := 3, locals := 52 } : Room)) (fun aa_ U => aa_ = #[(.ref a1), (.ref ca)] ∧ Z.Warmed39 U.vm ∧ U.heap = h0) (fun _ _ _ _ _ => True) (fun _ U o U' => ∃ v_ L_, o = .returned v_ ∧ Q6n3 Z a1 h0 n0 v_ U'.heap L_ ∧ FrameEnd U o U' L_ ({ frames := 3, cells := 1, slots := 3, locals := 52 } : Room).cells ({ frames := 3, cells := 1, slots := 3, locals := 52 } : Room).slots) := by
  refine MetFree.of_bodySF (plainFor_of_name pn_6) hisR ?_
  intro p e s m args below meth c s₁ Bd hml0 hP hK
  obtain ⟨rfl, hZ, hh⟩ := hP
  have hx := Bd.exec
  have hby := Bd.bytes
  have hml : c.maxLocals = 2 := hml0
  have hown : s.vm.findClass "java/lang/String" = some m.cls := findClass_of_methodNamed Bd.named
  have hnm := (name_of_methodNamed Bd.named Bd.method).1
  have X0 : Stand p l e ({ frames := 3, cells := 1, slots := 3, locals := 52 } : Room) s m #[(.ref a1), (.ref ca)] below meth c s₁ [] 0 0 := Stand.of_body Bd
  have e0 : s₁.heap = h0 := by rw [← hh, Bd.state]; rfl
  have N0 := Fr.nil n0
  have pre0 : ∀ t, Steps p.tables e below (s₁.setTop (mkF m 0 #[.val (.ref a1), .val (.ref ca)] [])) t → Steps p.tables e below (s₁.setTop (entryFrame m #[(.ref a1), (.ref ca)] 2)) t := fun t k_ => castTop (ef_6n3 m a1 ca) k_
  obtain ⟨cc, Ac, Sc, Hc⟩ := CA
  have CA : own_A Z h0 ca .char 3 f := ⟨cc, Ac, Sc, Hc⟩
  have pre1 : ∀ t, Steps p.tables e below (s₁.setTop (mkF m 6 #[.val (.ref a1), .val (.ref ca)] [.null, (.int (3 : Int32)), (.int (0 : Int32)), (.ref ca), (.ref a1)])) t → Steps p.tables e below _ t := fun t kt => pre0 t (by
    show Steps p.tables e below (s₁.setTop (mkF m 0 #[.val (.ref a1), .val (.ref ca)] [])) _
    refine XS.aloadN X0.here hx rfl (hb hby d6_0) rfl rfl ?_
    show Steps p.tables e below (s₁.setTop (mkF m 1 #[.val (.ref a1), .val (.ref ca)] [(.ref a1)])) _
    refine XS.aloadN X0.here hx rfl (hb hby d6_1) rfl rfl ?_
    show Steps p.tables e below (s₁.setTop (mkF m 2 #[.val (.ref a1), .val (.ref ca)] [(.ref ca), (.ref a1)])) _
    refine XS.iconst X0.here hx rfl (hb hby d6_2) ?_
    show Steps p.tables e below (s₁.setTop (mkF m 3 #[.val (.ref a1), .val (.ref ca)] [(.int (0 : Int32)), (.ref ca), (.ref a1)])) _
    refine XS.aloadN X0.here hx rfl (hb hby d6_3) rfl rfl ?_
    show Steps p.tables e below (s₁.setTop (mkF m 4 #[.val (.ref a1), .val (.ref ca)] [(.ref ca), (.int (0 : Int32)), (.ref ca), (.ref a1)])) _
    refine X0.arraylength hx (by rw [e0]; exact Ac.1) (State.isArrayOf_alike hZ.alike Ac.2.1) (g := (mkF m 4 #[.val (.ref a1), .val (.ref ca)] [(.ref ca), (.int (0 : Int32)), (.ref ca), (.ref a1)])) rfl rfl (hb hby d6_4) _ ?_
    rw [len_of (by rw [Sc]; rfl : cc.slots.size = (3 : Int32).toNatClampNeg) (by decide)]
    show Steps p.tables e below (s₁.setTop (mkF m 5 #[.val (.ref a1), .val (.ref ca)] [(.int (3 : Int32)), (.int (0 : Int32)), (.ref ca), (.ref a1)])) _
    refine XS.aconstNull X0.here hx rfl (hb hby d6_5) ?_
    exact kt)
  obtain ⟨_, _, ⟨T2, L2, k2, n2⟩, -, X2, ⟨Lc2, hQ2, l2, y2, z2⟩, st2⟩ := X0.specialBack hx (y := (⟨"java/lang/String", "<init>", "([CIILjava/lang/Void;)V"⟩ : MethodName)) rfl hown (mvT hZ (hw _ (List.mem_of_getElem? (i := 34) rfl))) (mvT hZ (hw _ (List.mem_of_getElem? (i := 35) rfl))) (mvT hZ (hw _ (List.mem_of_getElem? (i := 37) rfl))) (by decide) (backOf (W := 0) (rm7n3 l Z a0 hw [] a1 ca f G1 h0 n0 Z0 Ea Fv Fc ga CA hs O2 P5) hZ (hw _ (List.mem_of_getElem? (i := 37) rfl)) (hw _ (List.mem_of_getElem? (i := 29) rfl)) (by decide) (by decide)) (g := (mkF m 6 #[.val (.ref a1), .val (.ref ca)] [.null, (.int (3 : Int32)), (.int (0 : Int32)), (.ref ca), (.ref a1)])) rfl (by rw [hml]; rfl) (Steps.refl _) (a := a1) (argsL := [(.ref ca), (.int (0 : Int32)), (.int (3 : Int32)), .null]) (rest := []) (lenOf pd_3 rfl) rfl (by show 2 * 0 + _ ≤ _; exact Nat.le_of_eq rfl) (hb hby d6_6) (fun _ _ => ⟨rfl, e0, (by decide : 0 + 1 ≤ _), (by decide : 0 + 3 ≤ _)⟩)
  dsimp only [Pt.U, Pt.locs, Pt.cells, Pt.slots] at X2 l2 y2 z2 st2 hQ2
  subst l2 y2 z2
  obtain ⟨rfl, N2q, Kq, Eq⟩ := hQ2
  have N2 := Fr.app N0 N2q
  obtain ⟨fs, hr, hrun, hended, hW, hsame⟩ := X2.leave (v := none) (fun _ => rfl)
  refine ⟨_, _, pre1 _ ?_, hrun, hended, _, _, rfl, ?_, ⟨_, rfl⟩, hW, hsame.mono (by decide) (by decide)⟩
  · show Steps p.tables e below (s₁.setTop (mkF m 6 #[.val (.ref a1), .val (.ref ca)] [.null, (.int (3 : Int32)), (.int (0 : Int32)), (.ref ca), (.ref a1)])) _
    refine st2.trans ?_
    show Steps p.tables e below (T2.setTop (mkF m 9 #[.val (.ref a1), .val (.ref ca)] [])) _
    exact X2.returnOut hx Bd.returns (hb hby d6_9) hr
  · exact ⟨rfl, N2, Kq, Eq⟩
theorem pn_15 : plainName "java/lang/String" = true := by first | (simp [plainName, overriddenIn]; done) | decide +kernel
theorem ef_15 (m : MethodId) (x0 : Addr) (x1 : Addr) (x2 : Int32) : entryFrame m #[(.ref x0), (.ref x1), (.int x2)] 3 = mkF m 0 #[.val (.ref x0), .val (.ref x1), .val (.int x2)] [] := by first | (simp [entryFrame, mkF, argsToLocals, Value.category]; done) | rfl
theorem d15_0 : decode jdk_42_method_151_code 0 = .ok (.aload_n 0, 1) := by decide +kernel
theorem d15_1 : decode jdk_42_method_151_code 1 = .ok (.invokespecial 1, 3) := by decide +kernel
theorem d15_4 : decode jdk_42_method_151_code 4 = .ok (.aload_n 0, 1) := by decide +kernel
theorem d15_5 : decode jdk_42_method_151_code 5 = .ok (.aload_n 1, 1) := by decide +kernel
theorem d15_6 : decode jdk_42_method_151_code 6 = .ok (.putfield 9, 3) := by decide +kernel
theorem d15_9 : decode jdk_42_method_151_code 9 = .ok (.aload_n 0, 1) := by decide +kernel
theorem d15_10 : decode jdk_42_method_151_code 10 = .ok (.iload_n 2, 1) := by decide +kernel
theorem d15_11 : decode jdk_42_method_151_code 11 = .ok (.putfield 15, 3) := by decide +kernel
theorem d15_14 : decode jdk_42_method_151_code 14 = .ok (.return_, 1) := by decide +kernel
def Q15 (Z : State) (a1 : Addr) (h0 : Heap) (n0 : Nat) (v : Option Value) (h : Heap) (L : List Loc) : Prop := v = none ∧ Fr n0 L ∧ Keep h0 h [a1] ∧ Exa Z h a1 "java/lang/String"
set_option maxRecDepth 65536 in
set_option maxHeartbeats 40000000 in
theorem rm15 (l : Launch) (Z : State) (a0 : Array Value) (hw : ∀ d ∈ tables_1, d.before a0 Z = true) (ws : List Jvm.Cond) (a1 : Addr) (b : Addr) (h0 : Heap) (n0 : Nat) (Z0 : n0 ≤ h0.size) (Ea : Exa Z h0 a1 "java/lang/String") (Fv : Fld Z h0 a1 "java/lang/String" "value" "[B" .null) (Fc : Fld Z h0 a1 "java/lang/String" "coder" "B" (.int (0 : Int32))) (ga : n0 ≤ a1) :
    MetFree l (⟨"java/lang/String", "<init>", "([BB)V"⟩ : MethodName) (head1 (Jvm.Cond.code (⟨"java/lang/String", "<init>", "([BB)V"⟩ : MethodName) jdk_42_method_151_code 3 none :: ws) ({ frames := 1, cells := 0, slots := 0, locals := 12 } : Room)) (fun aa_ U => aa_ = #[(.ref a1), (.ref b), (.int (0 : Int32))] ∧ Z.Warmed39 U.vm ∧ U.heap = h0) (fun _ _ _ _ _ => True) (fun _ U o U' => ∃ v_ L_, o = .returned v_ ∧ Q15 Z a1 h0 n0 v_ U'.heap L_ ∧ FrameEnd U o U' L_ ({ frames := 1, cells := 0, slots := 0, locals := 12 } : Room).cells ({ frames := 1, cells := 0, slots := 0, locals := 12 } : Room).slots) := by
  refine MetFree.of_bodySF (plainFor_of_name pn_15) hisR ?_
  intro p e s m args below meth c s₁ Bd hml0 hP hK
  obtain ⟨rfl, hZ, hh⟩ := hP
  have hx := Bd.exec
  have hby := Bd.bytes
  have hml : c.maxLocals = 3 := hml0
  have hown : s.vm.findClass "java/lang/String" = some m.cls := findClass_of_methodNamed Bd.named
  have hnm := (name_of_methodNamed Bd.named Bd.method).1
  have X0 : Stand p l e ({ frames := 1, cells := 0, slots := 0, locals := 12 } : Room) s m #[(.ref a1), (.ref b), (.int (0 : Int32))] below meth c s₁ [] 0 0 := Stand.of_body Bd
  have e0 : s₁.heap = h0 := by rw [← hh, Bd.state]; rfl
  have N0 := Fr.nil n0
  have pre0 : ∀ t, Steps p.tables e below (s₁.setTop (mkF m 0 #[.val (.ref a1), .val (.ref b), .val (.int (0 : Int32))] [])) t → Steps p.tables e below (s₁.setTop (entryFrame m #[(.ref a1), (.ref b), (.int (0 : Int32))] 3)) t := fun t k_ => castTop (ef_15 m a1 b (0 : Int32)) k_
  have pre1 : ∀ t, Steps p.tables e below (s₁.setTop (mkF m 1 #[.val (.ref a1), .val (.ref b), .val (.int (0 : Int32))] [(.ref a1)])) t → Steps p.tables e below _ t := fun t kt => pre0 t (by
    show Steps p.tables e below (s₁.setTop (mkF m 0 #[.val (.ref a1), .val (.ref b), .val (.int (0 : Int32))] [])) _
    refine XS.aloadN X0.here hx rfl (hb hby d15_0) rfl rfl ?_
    exact kt)
  obtain ⟨T2, X2, e2, st2⟩ := initO X0 hx hZ hown (hw _ (List.mem_of_getElem? (i := 38) rfl)) (hw _ (List.mem_of_getElem? (i := 16) rfl)) (hw _ (List.mem_of_getElem? (i := 17) rfl)) e0 (g := (mkF m 1 #[.val (.ref a1), .val (.ref b), .val (.int (0 : Int32))] [(.ref a1)])) rfl (by rw [hml]; rfl) rfl (hb hby d15_1) (by decide) (W := 0) (by show 2 * 0 + _ ≤ _; exact Nat.le_of_eq rfl) (by decide)
  have pre3 : ∀ t, Steps p.tables e below (T2.setTop (mkF m 6 #[.val (.ref a1), .val (.ref b), .val (.int (0 : Int32))] [(.ref b), (.ref a1)])) t → Steps p.tables e below _ t := fun t kt => pre1 t (by
    show Steps p.tables e below (s₁.setTop (mkF m 1 #[.val (.ref a1), .val (.ref b), .val (.int (0 : Int32))] [(.ref a1)])) _
    refine st2 _ ?_
    show Steps p.tables e below (T2.setTop (mkF m 4 #[.val (.ref a1), .val (.ref b), .val (.int (0 : Int32))] [])) _
    refine XS.aloadN X2.here hx rfl (hb hby d15_4) rfl rfl ?_
    show Steps p.tables e below (T2.setTop (mkF m 5 #[.val (.ref a1), .val (.ref b), .val (.int (0 : Int32))] [(.ref a1)])) _
    refine XS.aloadN X2.here hx rfl (hb hby d15_5) rfl rfl ?_
    exact kt)
  obtain ⟨T4, h4, X4, e4, W4, st4⟩ := putF X2 hx hZ hown (host := "") (Or.inl (hw _ (List.mem_of_getElem? (i := 53) rfl))) Via.refl e2 Fv Ea (Or.inr ⟨(hw _ (List.mem_of_getElem? (i := 54) rfl)), rfl, hnm⟩) (hw _ (List.mem_of_getElem? (i := 28) rfl)) (ty := (.array .byte)) (by decide) rfl rfl (g := (mkF m 6 #[.val (.ref a1), .val (.ref b), .val (.int (0 : Int32))] [(.ref b), (.ref a1)])) rfl rfl (hb hby d15_6)
  have Fw4 := Fv.same W4
  have N4 := Fr.snoc X4 N0 ga
  have Zs4 : n0 ≤ h4.size := Nat.le_trans Z0 (Nat.le_of_eq W4.size.symm)
  have Kp4 : Keep h0 h4 [a1] := (Keep.refl h0 [a1]).wr W4 (Or.inl (List.mem_of_getElem? (i := 0) rfl))
  have Ec := Ea.wr W4
  have Fcc := (Fc.other W4 (Or.inr (slot_ne (Or.inr (hw _ (List.mem_of_getElem? (i := 52) rfl))) (Or.inr (hw _ (List.mem_of_getElem? (i := 54) rfl))) (by decide) (t := .byte) (t' := (.array .byte)) (by decide) (by decide))))
  have pre5 : ∀ t, Steps p.tables e below (T4.setTop (mkF m 11 #[.val (.ref a1), .val (.ref b), .val (.int (0 : Int32))] [(.int (0 : Int32)), (.ref a1)])) t → Steps p.tables e below _ t := fun t kt => pre3 t (by
    show Steps p.tables e below (T2.setTop (mkF m 6 #[.val (.ref a1), .val (.ref b), .val (.int (0 : Int32))] [(.ref b), (.ref a1)])) _
    refine st4 _ ?_
    show Steps p.tables e below (T4.setTop (mkF m 9 #[.val (.ref a1), .val (.ref b), .val (.int (0 : Int32))] [])) _
    refine XS.aloadN X4.here hx rfl (hb hby d15_9) rfl rfl ?_
    show Steps p.tables e below (T4.setTop (mkF m 10 #[.val (.ref a1), .val (.ref b), .val (.int (0 : Int32))] [(.ref a1)])) _
    refine XS.iloadN X4.here hx rfl (hb hby d15_10) rfl ?_
    exact kt)
  obtain ⟨T6, h6, X6, e6, W6, st6⟩ := putFN X4 hx hZ hown (hw _ (List.mem_of_getElem? (i := 51) rfl)) Via.refl e4 Fcc Ec (Or.inr ⟨(hw _ (List.mem_of_getElem? (i := 52) rfl)), rfl, hnm⟩) (hw _ (List.mem_of_getElem? (i := 28) rfl)) (ty := .byte) (v' := .int (nar .byte (0 : Int32))) (by decide) rfl (fits_nar_byte _) (g := (mkF m 11 #[.val (.ref a1), .val (.ref b), .val (.int (0 : Int32))] [(.int (0 : Int32)), (.ref a1)])) rfl rfl (hb hby d15_11)
  have Fw6 := Fcc.same W6
  have N6 := Fr.snoc X6 N4 ga
  have Zs6 : n0 ≤ h6.size := Nat.le_trans Zs4 (Nat.le_of_eq W6.size.symm)
  have Kp6 : Keep h0 h6 [a1] := Kp4.wr W6 (Or.inl (List.mem_of_getElem? (i := 0) rfl))
  have Ed := Ec.wr W6
  obtain ⟨fs, hr, hrun, hended, hW, hsame⟩ := X6.leave (v := none) (fun _ => rfl)
  refine ⟨_, _, pre5 _ ?_, hrun, hended, _, _, rfl, ?_, ⟨_, rfl⟩, hW, hsame.mono (by decide) (by decide)⟩
  · show Steps p.tables e below (T4.setTop (mkF m 11 #[.val (.ref a1), .val (.ref b), .val (.int (0 : Int32))] [(.int (0 : Int32)), (.ref a1)])) _
    refine st6 _ ?_
    show Steps p.tables e below (T6.setTop (mkF m 14 #[.val (.ref a1), .val (.ref b), .val (.int (0 : Int32))] [])) _
    exact X6.returnOut hx Bd.returns (hb hby d15_14) hr
  · show Q15 Z a1 h0 n0 _ T6.heap _
    rw [e6]
    exact ⟨rfl, N6, Kp6, Ed⟩
theorem pn_14 : plainName "java/lang/StringLatin1" = true := by first | (simp [plainName, overriddenIn]; done) | decide +kernel
theorem ef_14 (m : MethodId) (x0 : Int32) : entryFrame m #[(.int x0)] 1 = mkF m 0 #[.val (.int x0)] [] := by first | (simp [entryFrame, mkF, argsToLocals, Value.category]; done) | rfl
theorem d14_0 : decode jdk_43_method_46_code 0 = .ok (.iconst 1, 1) := by decide +kernel
theorem d14_1 : decode jdk_43_method_46_code 1 = .ok (.newarray .byte, 2) := by decide +kernel
theorem d14_3 : decode jdk_43_method_46_code 3 = .ok (.dup, 1) := by decide +kernel
theorem d14_4 : decode jdk_43_method_46_code 4 = .ok (.iconst 0, 1) := by decide +kernel
theorem d14_5 : decode jdk_43_method_46_code 5 = .ok (.iload_n 0, 1) := by decide +kernel
theorem d14_6 : decode jdk_43_method_46_code 6 = .ok (.i2b, 1) := by decide +kernel
theorem d14_7 : decode jdk_43_method_46_code 7 = .ok (.bastore, 1) := by decide +kernel
theorem d14_8 : decode jdk_43_method_46_code 8 = .ok (.areturn, 1) := by decide +kernel
def Q14 (Z : State) (h0 : Heap) (n0 : Nat) (v : Option Value) (h : Heap) (L : List Loc) : Prop := ∃ b, v = some (.ref b) ∧ Fr n0 L ∧ Keep h0 h [] ∧ h0.size ≤ b
set_option maxRecDepth 65536 in
set_option maxHeartbeats 40000000 in
theorem rm14 (l : Launch) (Z : State) (a0 : Array Value) (hw : ∀ d ∈ tables_1, d.before a0 Z = true) (ws : List Jvm.Cond) (p1 : Int32) (h0 : Heap) (n0 : Nat) (Z0 : n0 ≤ h0.size) :
    MetFree l (⟨"java/lang/StringLatin1", "toBytes", "(C)[B"⟩ : MethodName) (head1 (Jvm.Cond.code (⟨"java/lang/StringLatin1", "toBytes", "(C)[B"⟩ : MethodName) jdk_43_method_46_code 1 (some (.array .byte)) :: ws) ({ frames := 0, cells := 1, slots := 1, locals := 0 } : Room)) (fun aa_ U => aa_ = #[(.int p1)] ∧ Z.Warmed39 U.vm ∧ U.heap = h0) (fun _ _ _ _ _ => True) (fun _ U o U' => ∃ v_ L_, o = .returned v_ ∧ Q14 Z  h0 n0 v_ U'.heap L_ ∧ FrameEnd U o U' L_ ({ frames := 0, cells := 1, slots := 1, locals := 0 } : Room).cells ({ frames := 0, cells := 1, slots := 1, locals := 0 } : Room).slots) := by
  refine MetFree.of_bodySF (plainFor_of_name pn_14) hisR ?_
  intro p e s m args below meth c s₁ Bd hml0 hP hK
  obtain ⟨rfl, hZ, hh⟩ := hP
  have hx := Bd.exec
  have hby := Bd.bytes
  have hml : c.maxLocals = 1 := hml0
  have hown : s.vm.findClass "java/lang/StringLatin1" = some m.cls := findClass_of_methodNamed Bd.named
  have hnm := (name_of_methodNamed Bd.named Bd.method).1
  have X0 : Stand p l e ({ frames := 0, cells := 1, slots := 1, locals := 0 } : Room) s m #[(.int p1)] below meth c s₁ [] 0 0 := Stand.of_body Bd
  have e0 : s₁.heap = h0 := by rw [← hh, Bd.state]; rfl
  have N0 := Fr.nil n0
  have pre0 : ∀ t, Steps p.tables e below (s₁.setTop (mkF m 0 #[.val (.int p1)] [])) t → Steps p.tables e below (s₁.setTop (entryFrame m #[(.int p1)] 1)) t := fun t k_ => castTop (ef_14 m p1) k_
  have pre1 : ∀ t, Steps p.tables e below (s₁.setTop (mkF m 1 #[.val (.int p1)] [(.int (1 : Int32))])) t → Steps p.tables e below _ t := fun t kt => pre0 t (by
    show Steps p.tables e below (s₁.setTop (mkF m 0 #[.val (.int p1)] [])) _
    refine XS.iconst X0.here hx rfl (hb hby d14_0) ?_
    exact kt)
  obtain ⟨T2, h2, k2, X2, e2, E2, A2, st2⟩ := newP X0 hx hZ (hw _ (List.mem_of_getElem? (i := 44) rfl)) e0 (g := (mkF m 1 #[.val (.int p1)] [(.int (1 : Int32))])) rfl (hb hby d14_1) rfl (by decide) (cap := 1) (by decide) (by decide) (by decide) (by decide)
  obtain ⟨b2, gb2⟩ : ∃ z, z = h0.size := ⟨_, rfl⟩
  rw [← gb2] at A2 st2
  have g_b2 : n0 ≤ b2 := Nat.le_trans Z0 (Nat.le_of_eq gb2.symm)
  have Zs2 : n0 ≤ h2.size := Nat.le_trans Z0 E2.1
  have sz_b2 : h0.size ≤ b2 := Nat.le_trans (Keep.refl h0 []).1 (Nat.le_of_eq gb2.symm)
  have Kp2 : Keep h0 h2 [] := (Keep.refl h0 []).ext E2
  obtain ⟨cb, Ab, Sb, Hb⟩ : own_A Z h2 b2 .byte 1 (fun _ => 0) := own_A_new A2 rfl rfl
  have pre3 : ∀ t, Steps p.tables e below (T2.setTop (mkF m 7 #[.val (.int p1)] [(.int (p1.toInt8.toInt32)), (.int (0 : Int32)), (.ref b2), (.ref b2)])) t → Steps p.tables e below _ t := fun t kt => pre1 t (by
    show Steps p.tables e below (s₁.setTop (mkF m 1 #[.val (.int p1)] [(.int (1 : Int32))])) _
    refine st2 _ ?_
    show Steps p.tables e below (T2.setTop (mkF m 3 #[.val (.int p1)] [(.ref b2)])) _
    refine XS.dup X2.here hx rfl (hb hby d14_3) rfl rfl ?_
    show Steps p.tables e below (T2.setTop (mkF m 4 #[.val (.int p1)] [(.ref b2), (.ref b2)])) _
    refine XS.iconst X2.here hx rfl (hb hby d14_4) ?_
    show Steps p.tables e below (T2.setTop (mkF m 5 #[.val (.int p1)] [(.int (0 : Int32)), (.ref b2), (.ref b2)])) _
    refine XS.iloadN X2.here hx rfl (hb hby d14_5) rfl ?_
    show Steps p.tables e below (T2.setTop (mkF m 6 #[.val (.int p1)] [(.int p1), (.int (0 : Int32)), (.ref b2), (.ref b2)])) _
    refine XS.i2b X2.here hx rfl (hb hby d14_6) rfl ?_
    exact kt)
  obtain ⟨T4, h4, X4, e4, W4, st4⟩ := stB X2 hx hZ e2 Ab (j := (0 : Int32)) (within (c := 0) rfl (by omega) (by omega)) (g := (mkF m 7 #[.val (.int p1)] [(.int (p1.toInt8.toInt32)), (.int (0 : Int32)), (.ref b2), (.ref b2)])) rfl rfl (hb hby d14_7)
  have N4 := Fr.snoc X4 N0 g_b2
  have Zs4 : n0 ≤ h4.size := Nat.le_trans Zs2 (Nat.le_of_eq W4.size.symm)
  have Kp4 : Keep h0 h4 [] := Kp2.wr W4 (Or.inr sz_b2)
  obtain ⟨fs, hr, hrun, hended, hW, hsame⟩ := X4.leave (v := some (.ref b2)) (fun h => by rw [Bd.returns] at h; cases h)
  refine ⟨_, _, pre3 _ ?_, hrun, hended, _, _, rfl, ?_, ⟨_, rfl⟩, hW, hsame.mono (by decide) (by decide)⟩
  · show Steps p.tables e below (T2.setTop (mkF m 7 #[.val (.int p1)] [(.int (p1.toInt8.toInt32)), (.int (0 : Int32)), (.ref b2), (.ref b2)])) _
    refine st4 _ ?_
    show Steps p.tables e below (T4.setTop (mkF m 8 #[.val (.int p1)] [(.ref b2)])) _
    jvm_step X4.here [X4.here.top, hx, (hb hby d14_8), X4.method', Bd.returns, Value.isRef, FieldType.isReference]
    first | (intro acts; rw [hr _ acts rfl rfl rfl]) | rw [hr _ _ rfl rfl rfl]
    exact Steps.refl _
  · show Q14 Z  h0 n0 _ T4.heap _
    rw [e4]
    exact ⟨b2, rfl, N4, Kp4, sz_b2⟩
theorem pn_12 : plainName "java/lang/String" = true := by first | (simp [plainName, overriddenIn]; done) | decide +kernel
theorem ef_12 (m : MethodId) (x0 : Int32) : entryFrame m #[(.int x0)] 1 = mkF m 0 #[.val (.int x0)] [] := by first | (simp [entryFrame, mkF, argsToLocals, Value.category]; done) | rfl
theorem d12_0 : decode jdk_42_method_139_code 0 = .ok (.getstatic 38, 3) := by decide +kernel
theorem d12_3 : decode jdk_42_method_139_code 3 = .ok (.ifCond .eq 23, 3) := by decide +kernel
theorem d12_6 : decode jdk_42_method_139_code 6 = .ok (.iload_n 0, 1) := by decide +kernel
theorem pd_4 : parseMethodDescriptor "(C)Z" = some ⟨[.char], some .boolean⟩ := by decide +kernel
theorem d12_7 : decode jdk_42_method_139_code 7 = .ok (.invokestatic 1015, 3) := by decide +kernel
theorem d12_10 : decode jdk_42_method_139_code 10 = .ok (.ifCond .eq 16, 3) := by decide +kernel
theorem d12_13 : decode jdk_42_method_139_code 13 = .ok (.new 10, 3) := by decide +kernel
theorem d12_16 : decode jdk_42_method_139_code 16 = .ok (.dup, 1) := by decide +kernel
theorem d12_17 : decode jdk_42_method_139_code 17 = .ok (.iload_n 0, 1) := by decide +kernel
theorem pd_5 : parseMethodDescriptor "(C)[B" = some ⟨[.char], some (.array .byte)⟩ := by decide +kernel
theorem d12_18 : decode jdk_42_method_139_code 18 = .ok (.invokestatic 1018, 3) := by decide +kernel
theorem d12_21 : decode jdk_42_method_139_code 21 = .ok (.iconst 0, 1) := by decide +kernel
theorem pd_6 : parseMethodDescriptor "([BB)V" = some ⟨[(.array .byte), .byte], none⟩ := by decide +kernel
theorem d12_22 : decode jdk_42_method_139_code 22 = .ok (.invokespecial 209, 3) := by decide +kernel
theorem d12_25 : decode jdk_42_method_139_code 25 = .ok (.areturn, 1) := by decide +kernel
def Q12 (Z : State) (h0 : Heap) (n0 : Nat) (v : Option Value) (h : Heap) (L : List Loc) : Prop := ∃ b, v = some (.ref b) ∧ Fr n0 L ∧ Keep h0 h [] ∧ h0.size ≤ b ∧ Exa Z h b "java/lang/String"
set_option maxRecDepth 65536 in
set_option maxHeartbeats 40000000 in
theorem rm12 (l : Launch) (Z : State) (a0 : Array Value) (hw : ∀ d ∈ tables_1, d.before a0 Z = true) (ws : List Jvm.Cond) (p1 : Int32) (G1 : Int32) (h0 : Heap) (n0 : Nat) (Z0 : n0 ≤ h0.size) (hq : ¬ ((255 : Int32) < p1)) (O2 : Sta Z h0 "java/lang/String" "COMPACT_STRINGS" "Z" (.int G1)) (P5 : ¬ (G1 = (0 : Int32))) :
    MetFree l (⟨"java/lang/String", "valueOf", "(C)Ljava/lang/String;"⟩ : MethodName) (head1 (Jvm.Cond.code (⟨"java/lang/String", "valueOf", "(C)Ljava/lang/String;"⟩ : MethodName) jdk_42_method_139_code 1 (some (.object "java/lang/String")) :: ws) ({ frames := 2, cells := 2, slots := 5, locals := 30 } : Room)) (fun aa_ U => aa_ = #[(.int p1)] ∧ Z.Warmed39 U.vm ∧ U.heap = h0) (fun _ _ _ _ _ => True) (fun _ U o U' => ∃ v_ L_, o = .returned v_ ∧ Q12 Z  h0 n0 v_ U'.heap L_ ∧ FrameEnd U o U' L_ ({ frames := 2, cells := 2, slots := 5, locals := 30 } : Room).cells ({ frames := 2, cells := 2, slots := 5, locals := 30 } : Room).slots) := by
  refine MetFree.of_bodySF (plainFor_of_name pn_12) hisR ?_
  intro p e s m args below meth c s₁ Bd hml0 hP hK
  obtain ⟨rfl, hZ, hh⟩ := hP
  have hx := Bd.exec
  have hby := Bd.bytes
  have hml : c.maxLocals = 1 := hml0
  have hown : s.vm.findClass "java/lang/String" = some m.cls := findClass_of_methodNamed Bd.named
  have hnm := (name_of_methodNamed Bd.named Bd.method).1
  have X0 : Stand p l e ({ frames := 2, cells := 2, slots := 5, locals := 30 } : Room) s m #[(.int p1)] below meth c s₁ [] 0 0 := Stand.of_body Bd
  have e0 : s₁.heap = h0 := by rw [← hh, Bd.state]; rfl
  have N0 := Fr.nil n0
  have pre0 : ∀ t, Steps p.tables e below (s₁.setTop (mkF m 0 #[.val (.int p1)] [])) t → Steps p.tables e below (s₁.setTop (entryFrame m #[(.int p1)] 1)) t := fun t k_ => castTop (ef_12 m p1) k_
  obtain ⟨T1, X1, e1, st1⟩ := getS X0 hx hZ hown (hw _ (List.mem_of_getElem? (i := 39) rfl)) Via.refl e0 O2 (g := (mkF m 0 #[.val (.int p1)] [])) rfl (hb hby d12_0) (host := "")
  have pre2 : ∀ t, Steps p.tables e below (T1.setTop (mkF m 7 #[.val (.int p1)] [(.int p1)])) t → Steps p.tables e below _ t := fun t kt => pre0 t (by
    show Steps p.tables e below (s₁.setTop (mkF m 0 #[.val (.int p1)] [])) _
    refine st1 _ ?_
    have hc3 : ¬ (G1 = (0 : Int32)) := P5
    show Steps p.tables e below (T1.setTop (mkF m 3 #[.val (.int p1)] [(.int G1)])) _
    refine XS.ifNo X1.here hx rfl (hb hby d12_3) rfl ((if0 _ _).trans (feq hc3).1) ?_
    show Steps p.tables e below (T1.setTop (mkF m 6 #[.val (.int p1)] [])) _
    refine XS.iloadN X1.here hx rfl (hb hby d12_6) rfl ?_
    exact kt)
  obtain ⟨_, _, ⟨T3, L3, k3, n3⟩, -, X3, ⟨Lc3, hQ3, l3, y3, z3⟩, st3⟩ := Jvm.LawKit.callS X1 hx (y := (⟨"java/lang/StringLatin1", "canEncode", "(C)Z"⟩ : MethodName)) hown (mvT hZ (hw _ (List.mem_of_getElem? (i := 63) rfl))) (mvT hZ (hw _ (List.mem_of_getElem? (i := 64) rfl))) (mvT hZ (hw _ (List.mem_of_getElem? (i := 65) rfl))) (mvT hZ (hw _ (List.mem_of_getElem? (i := 66) rfl))) (by decide) (backOf (W := 0) (rm13 l Z a0 hw [] p1 h0 n0 Z0 hq) hZ (hw _ (List.mem_of_getElem? (i := 66) rfl)) (hw _ (List.mem_of_getElem? (i := 65) rfl)) (by decide) (by decide)) (g := (mkF m 7 #[.val (.int p1)] [(.int p1)])) rfl (by rw [hml]; rfl) (argsL := [(.int p1)]) (rest := []) (lenOf pd_4 rfl) rfl (by show 2 * 0 + _ ≤ _; exact Nat.le_of_eq rfl) (hb hby d12_7) (fun _ _ => ⟨rfl, e1, (by decide : 0 + 0 ≤ _), (by decide : 0 + 0 ≤ _)⟩)
  dsimp only [Pt.U, Pt.locs, Pt.cells, Pt.slots] at X3 l3 y3 z3 st3 hQ3
  subst l3 y3 z3
  obtain ⟨rfl, N3q, e3⟩ := hQ3
  have N3 := Fr.app N0 N3q
  have pre4 : ∀ t, Steps p.tables e below (T3.setTop (mkF m 13 #[.val (.int p1)] [])) t → Steps p.tables e below _ t := fun t kt => pre2 t (by
    show Steps p.tables e below (T1.setTop (mkF m 7 #[.val (.int p1)] [(.int p1)])) _
    refine st3 _ ?_
    have hc10 : ¬ ((1 : Int32) = (0 : Int32)) := by decide
    show Steps p.tables e below (T3.setTop (mkF m 10 #[.val (.int p1)] [(.int (1 : Int32))])) _
    refine XS.ifNo X3.here hx rfl (hb hby d12_10) rfl ((if0 _ _).trans (feq hc10).1) ?_
    exact kt)
  obtain ⟨T5, h5, X5, e5, E5, A5, D5, -, st5⟩ := newO X3 hx hZ hown (hw _ (List.mem_of_getElem? (i := 67) rfl)) (hw _ (List.mem_of_getElem? (i := 28) rfl)) (hw _ (List.mem_of_getElem? (i := 29) rfl)) e3 (g := (mkF m 13 #[.val (.int p1)] [])) rfl (hb hby d12_13) (by decide) (by decide)
  obtain ⟨b5, gb5⟩ : ∃ z, z = h0.size := ⟨_, rfl⟩
  rw [← gb5] at A5 D5 st5
  have g_b5 : n0 ≤ b5 := Nat.le_trans Z0 (Nat.le_of_eq gb5.symm)
  have Zs5 : n0 ≤ h5.size := Nat.le_trans Z0 E5.1
  have sz_b5 : h0.size ≤ b5 := Nat.le_trans (Keep.refl h0 []).1 (Nat.le_of_eq gb5.symm)
  have Kp5 : Keep h0 h5 [] := (Keep.refl h0 []).ext E5
  have Eas := A5
  have Fvs : Fld Z h5 b5 "java/lang/String" "value" "[B" .null := D5 (Or.inr (hw _ (List.mem_of_getElem? (i := 54) rfl))) (ty := (.array .byte)) (by decide)
  have Fcs : Fld Z h5 b5 "java/lang/String" "coder" "B" (.int (0 : Int32)) := D5 (Or.inr (hw _ (List.mem_of_getElem? (i := 52) rfl))) (ty := .byte) (by decide)
  have pre6 : ∀ t, Steps p.tables e below (T5.setTop (mkF m 18 #[.val (.int p1)] [(.int p1), (.ref b5), (.ref b5)])) t → Steps p.tables e below _ t := fun t kt => pre4 t (by
    show Steps p.tables e below (T3.setTop (mkF m 13 #[.val (.int p1)] [])) _
    refine st5 _ ?_
    show Steps p.tables e below (T5.setTop (mkF m 16 #[.val (.int p1)] [(.ref b5)])) _
    refine XS.dup X5.here hx rfl (hb hby d12_16) rfl rfl ?_
    show Steps p.tables e below (T5.setTop (mkF m 17 #[.val (.int p1)] [(.ref b5), (.ref b5)])) _
    refine XS.iloadN X5.here hx rfl (hb hby d12_17) rfl ?_
    exact kt)
  obtain ⟨_, _, ⟨T7, L7, k7, n7⟩, -, X7, ⟨Lc7, hQ7, l7, y7, z7⟩, st7⟩ := Jvm.LawKit.callS X5 hx (y := (⟨"java/lang/StringLatin1", "toBytes", "(C)[B"⟩ : MethodName)) hown (mvT hZ (hw _ (List.mem_of_getElem? (i := 68) rfl))) (mvT hZ (hw _ (List.mem_of_getElem? (i := 69) rfl))) (mvT hZ (hw _ (List.mem_of_getElem? (i := 65) rfl))) (mvT hZ (hw _ (List.mem_of_getElem? (i := 70) rfl))) (by decide) (backOf (W := 2) (rm14 l Z a0 hw [] p1 h5 n0 Zs5) hZ (hw _ (List.mem_of_getElem? (i := 70) rfl)) (hw _ (List.mem_of_getElem? (i := 65) rfl)) (by decide) (by decide)) (g := (mkF m 18 #[.val (.int p1)] [(.int p1), (.ref b5), (.ref b5)])) rfl (by rw [hml]; rfl) (argsL := [(.int p1)]) (rest := [(.ref b5), (.ref b5)]) (lenOf pd_5 rfl) rfl (by show 2 * 0 + _ ≤ _; exact Nat.le_of_eq rfl) (hb hby d12_18) (fun _ _ => ⟨rfl, e5, (by decide : 1 + 1 ≤ _), (by decide : 4 + 1 ≤ _)⟩)
  dsimp only [Pt.U, Pt.locs, Pt.cells, Pt.slots] at X7 l7 y7 z7 st7 hQ7
  subst l7 y7 z7
  obtain ⟨bt, rfl, N7q, Kt, szt⟩ := hQ7
  have N7 := Fr.app N3 N7q
  have Zt : n0 ≤ T7.heap.size := Nat.le_trans Zs5 Kt.1
  have Kt0 : Keep h0 T7.heap [] := Kp5.trans Kt all0
  have pre8 : ∀ t, Steps p.tables e below (T7.setTop (mkF m 22 #[.val (.int p1)] [(.int (0 : Int32)), (.ref bt), (.ref b5), (.ref b5)])) t → Steps p.tables e below _ t := fun t kt => pre6 t (by
    show Steps p.tables e below (T5.setTop (mkF m 18 #[.val (.int p1)] [(.int p1), (.ref b5), (.ref b5)])) _
    refine st7 _ ?_
    show Steps p.tables e below (T7.setTop (mkF m 21 #[.val (.int p1)] [(.ref bt), (.ref b5), (.ref b5)])) _
    refine XS.iconst X7.here hx rfl (hb hby d12_21) ?_
    exact kt)
  obtain ⟨_, _, ⟨T9, L9, k9, n9⟩, -, X9, ⟨Lc9, hQ9, l9, y9, z9⟩, st9⟩ := X7.specialBack hx (y := (⟨"java/lang/String", "<init>", "([BB)V"⟩ : MethodName)) rfl hown (mvT hZ (hw _ (List.mem_of_getElem? (i := 71) rfl))) (mvT hZ (hw _ (List.mem_of_getElem? (i := 72) rfl))) (mvT hZ (hw _ (List.mem_of_getElem? (i := 73) rfl))) (by decide) (backOf (W := 1) (rm15 l Z a0 hw [] b5 bt T7.heap n0 Zt (Eas.keep Kt) (Fvs.keep Kt nin0) (Fcs.keep Kt nin0) g_b5) hZ (hw _ (List.mem_of_getElem? (i := 73) rfl)) (hw _ (List.mem_of_getElem? (i := 29) rfl)) (by decide) (by decide)) (g := (mkF m 22 #[.val (.int p1)] [(.int (0 : Int32)), (.ref bt), (.ref b5), (.ref b5)])) rfl (by rw [hml]; rfl) (Steps.refl _) (a := b5) (argsL := [(.ref bt), (.int (0 : Int32))]) (rest := [(.ref b5)]) (lenOf pd_6 rfl) rfl (by show 2 * 0 + _ ≤ _; exact Nat.le_of_eq rfl) (hb hby d12_22) (fun _ _ => ⟨rfl, rfl, (by decide : 2 + 0 ≤ _), (by decide : 5 + 0 ≤ _)⟩)
  dsimp only [Pt.U, Pt.locs, Pt.cells, Pt.slots] at X9 l9 y9 z9 st9 hQ9
  subst l9 y9 z9
  obtain ⟨rfl, N9q, Ki, Ei⟩ := hQ9
  have N9 := Fr.app N7 N9q
  have Ki0 : Keep h0 T9.heap [] := Kt0.trans Ki (allS (Or.inr sz_b5) all0)
  obtain ⟨fs, hr, hrun, hended, hW, hsame⟩ := X9.leave (v := some (.ref b5)) (fun h => by rw [Bd.returns] at h; cases h)
  refine ⟨_, _, pre8 _ ?_, hrun, hended, _, _, rfl, ?_, ⟨_, rfl⟩, hW, hsame.mono (by decide) (by decide)⟩
  · show Steps p.tables e below (T7.setTop (mkF m 22 #[.val (.int p1)] [(.int (0 : Int32)), (.ref bt), (.ref b5), (.ref b5)])) _
    refine st9.trans ?_
    show Steps p.tables e below (T9.setTop (mkF m 25 #[.val (.int p1)] [(.ref b5)])) _
    jvm_step X9.here [X9.here.top, hx, (hb hby d12_25), X9.method', Bd.returns, Value.isRef, FieldType.isReference]
    first | (intro acts; rw [hr _ acts rfl rfl rfl]) | rw [hr _ _ rfl rfl rfl]
    exact Steps.refl _
  · exact ⟨b5, rfl, N9, Ki0, sz_b5, Ei⟩
def Q2 (Z : State) (a1 : Addr) (acc : Value) (h0 : Heap) (n0 : Nat) (v : Option Value) (h : Heap) (L : List Loc) : Prop := v = none ∧ Fr n0 L ∧ Keep h0 h [a1] ∧ Exa Z h a1 "com/example/haulway/haulway/bridge/Caller" ∧ Fld Z h a1 "com/example/haulway/haulway/bridge/Caller" "account" "Ljava/lang/String;" acc ∧ Fld Z h a1 "com/example/haulway/haulway/bridge/Caller" "network" "Z" (.int (0 : Int32))
theorem pn_2 : plainName "com/example/haulway/haulway/bridge/Caller" = true := by first | (simp [plainName, overriddenIn]; done) | decide +kernel
theorem ef_2n (m : MethodId) (x0 : Addr) (x2 : Int32) : entryFrame m #[(.ref x0), .null, (.int x2)] 3 = mkF m 0 #[.val (.ref x0), .val .null, .val (.int x2)] [] := by first | (simp [entryFrame, mkF, argsToLocals, Value.category]; done) | rfl
theorem d2_0 : decode prog_23_method_1_code 0 = .ok (.aload_n 0, 1) := by decide +kernel
theorem pd_7 : parseMethodDescriptor "()V" = some ⟨[], none⟩ := by decide +kernel
theorem d2_1 : decode prog_23_method_1_code 1 = .ok (.invokespecial 1, 3) := by decide +kernel
theorem d2_4 : decode prog_23_method_1_code 4 = .ok (.aload_n 0, 1) := by decide +kernel
theorem d2_5 : decode prog_23_method_1_code 5 = .ok (.aload_n 1, 1) := by decide +kernel
theorem d2_6 : decode prog_23_method_1_code 6 = .ok (.putfield 7, 3) := by decide +kernel
theorem d2_9 : decode prog_23_method_1_code 9 = .ok (.aload_n 0, 1) := by decide +kernel
theorem d2_10 : decode prog_23_method_1_code 10 = .ok (.iload_n 2, 1) := by decide +kernel
theorem d2_11 : decode prog_23_method_1_code 11 = .ok (.putfield 13, 3) := by decide +kernel
theorem d2_14 : decode prog_23_method_1_code 14 = .ok (.return_, 1) := by decide +kernel
set_option maxRecDepth 65536 in
set_option maxHeartbeats 40000000 in
theorem rm2n (l : Launch) (Z : State) (a0 : Array Value) (hw : ∀ d ∈ tables_1, d.before a0 Z = true) (ws : List Jvm.Cond) (a1 : Addr) (h0 : Heap) (n0 : Nat) (Z0 : n0 ≤ h0.size) (Ea : Exa Z h0 a1 "com/example/haulway/haulway/bridge/Caller") (Fa : Fld Z h0 a1 "com/example/haulway/haulway/bridge/Caller" "account" "Ljava/lang/String;" .null) (Fn : Fld Z h0 a1 "com/example/haulway/haulway/bridge/Caller" "network" "Z" (.int (0 : Int32))) (ga : n0 ≤ a1) :
    MetFree l (⟨"com/example/haulway/haulway/bridge/Caller", "<init>", "(Ljava/lang/String;Z)V"⟩ : MethodName) (head1 (Jvm.Cond.code (⟨"com/example/haulway/haulway/bridge/Caller", "<init>", "(Ljava/lang/String;Z)V"⟩ : MethodName) prog_23_method_1_code 3 none :: ws) ({ frames := 2, cells := 0, slots := 0, locals := 24 } : Room)) (fun aa_ U => aa_ = #[(.ref a1), .null, (.int (0 : Int32))] ∧ Z.Warmed39 U.vm ∧ U.heap = h0) (fun _ _ _ _ _ => True) (fun _ U o U' => ∃ v_ L_, o = .returned v_ ∧ Q2 Z a1 .null h0 n0 v_ U'.heap L_ ∧ FrameEnd U o U' L_ ({ frames := 2, cells := 0, slots := 0, locals := 24 } : Room).cells ({ frames := 2, cells := 0, slots := 0, locals := 24 } : Room).slots) := by
  refine MetFree.of_bodySF (plainFor_of_name pn_2) hisR ?_
  intro p e s m args below meth c s₁ Bd hml0 hP hK
  obtain ⟨rfl, hZ, hh⟩ := hP
  have hx := Bd.exec
  have hby := Bd.bytes
  have hml : c.maxLocals = 3 := hml0
  have hown : s.vm.findClass "com/example/haulway/haulway/bridge/Caller" = some m.cls := findClass_of_methodNamed Bd.named
  have hnm := (name_of_methodNamed Bd.named Bd.method).1
  have X0 : Stand p l e ({ frames := 2, cells := 0, slots := 0, locals := 24 } : Room) s m #[(.ref a1), .null, (.int (0 : Int32))] below meth c s₁ [] 0 0 := Stand.of_body Bd
  have e0 : s₁.heap = h0 := by rw [← hh, Bd.state]; rfl
  have N0 := Fr.nil n0
  have pre0 : ∀ t, Steps p.tables e below (s₁.setTop (mkF m 0 #[.val (.ref a1), .val .null, .val (.int (0 : Int32))] [])) t → Steps p.tables e below (s₁.setTop (entryFrame m #[(.ref a1), .null, (.int (0 : Int32))] 3)) t := fun t k_ => castTop (ef_2n m a1 (0 : Int32)) k_
  have pre1 : ∀ t, Steps p.tables e below (s₁.setTop (mkF m 1 #[.val (.ref a1), .val .null, .val (.int (0 : Int32))] [(.ref a1)])) t → Steps p.tables e below _ t := fun t kt => pre0 t (by
    show Steps p.tables e below (s₁.setTop (mkF m 0 #[.val (.ref a1), .val .null, .val (.int (0 : Int32))] [])) _
    refine XS.aloadN X0.here hx rfl (hb hby d2_0) rfl rfl ?_
    exact kt)
  obtain ⟨_, _, ⟨T2, L2, k2, n2⟩, -, X2, ⟨Lc2, hQ2, l2, y2, z2⟩, st2⟩ := X0.specialBack hx (y := (⟨"java/lang/Record", "<init>", "()V"⟩ : MethodName)) rfl hown (mvT hZ (hw _ (List.mem_of_getElem? (i := 10) rfl))) (mvT hZ (hw _ (List.mem_of_getElem? (i := 11) rfl))) (mvT hZ (hw _ (List.mem_of_getElem? (i := 14) rfl))) (by decide) (backOf (W := 0) (rm3 l Z a0 hw [] a1 h0 n0 Z0) hZ (hw _ (List.mem_of_getElem? (i := 14) rfl)) (hw _ (List.mem_of_getElem? (i := 13) rfl)) (by decide) (by decide)) (g := (mkF m 1 #[.val (.ref a1), .val .null, .val (.int (0 : Int32))] [(.ref a1)])) rfl (by rw [hml]; rfl) (Steps.refl _) (a := a1) (argsL := []) (rest := []) (lenOf pd_7 rfl) rfl (by show 2 * 0 + _ ≤ _; exact Nat.le_of_eq rfl) (hb hby d2_1) (fun _ _ => ⟨rfl, e0, (by decide : 0 + 0 ≤ _), (by decide : 0 + 0 ≤ _)⟩)
  dsimp only [Pt.U, Pt.locs, Pt.cells, Pt.slots] at X2 l2 y2 z2 st2 hQ2
  subst l2 y2 z2
  obtain ⟨rfl, N2q, e2⟩ := hQ2
  have N2 := Fr.app N0 N2q
  have pre3 : ∀ t, Steps p.tables e below (T2.setTop (mkF m 6 #[.val (.ref a1), .val .null, .val (.int (0 : Int32))] [.null, (.ref a1)])) t → Steps p.tables e below _ t := fun t kt => pre1 t (by
    show Steps p.tables e below (s₁.setTop (mkF m 1 #[.val (.ref a1), .val .null, .val (.int (0 : Int32))] [(.ref a1)])) _
    refine st2.trans ?_
    show Steps p.tables e below (T2.setTop (mkF m 4 #[.val (.ref a1), .val .null, .val (.int (0 : Int32))] [])) _
    refine XS.aloadN X2.here hx rfl (hb hby d2_4) rfl rfl ?_
    show Steps p.tables e below (T2.setTop (mkF m 5 #[.val (.ref a1), .val .null, .val (.int (0 : Int32))] [(.ref a1)])) _
    refine XS.aloadN X2.here hx rfl (hb hby d2_5) rfl rfl ?_
    exact kt)
  obtain ⟨T4, h4, X4, e4, W4, st4⟩ := putF X2 hx hZ hown (host := "") (Or.inl (hw _ (List.mem_of_getElem? (i := 18) rfl))) Via.refl e2 Fa Ea (Or.inr ⟨(hw _ (List.mem_of_getElem? (i := 19) rfl)), rfl, hnm⟩) (hw _ (List.mem_of_getElem? (i := 5) rfl)) (ty := (.object "java/lang/String")) (by decide) rfl rfl (g := (mkF m 6 #[.val (.ref a1), .val .null, .val (.int (0 : Int32))] [.null, (.ref a1)])) rfl rfl (hb hby d2_6)
  have Fw4 := Fa.same W4
  have N4 := Fr.snoc X4 N2 ga
  have Zs4 : n0 ≤ h4.size := Nat.le_trans Z0 (Nat.le_of_eq W4.size.symm)
  have Kp4 : Keep h0 h4 [a1] := (Keep.refl h0 [a1]).wr W4 (Or.inl (List.mem_of_getElem? (i := 0) rfl))
  have Ec := Ea.wr W4
  have Fnc := (Fn.other W4 (Or.inr (slot_ne (Or.inr (hw _ (List.mem_of_getElem? (i := 21) rfl))) (Or.inr (hw _ (List.mem_of_getElem? (i := 19) rfl))) (by decide) (t := .boolean) (t' := (.object "java/lang/String")) (by decide) (by decide))))
  have Fac := Fw4
  have pre5 : ∀ t, Steps p.tables e below (T4.setTop (mkF m 11 #[.val (.ref a1), .val .null, .val (.int (0 : Int32))] [(.int (0 : Int32)), (.ref a1)])) t → Steps p.tables e below _ t := fun t kt => pre3 t (by
    show Steps p.tables e below (T2.setTop (mkF m 6 #[.val (.ref a1), .val .null, .val (.int (0 : Int32))] [.null, (.ref a1)])) _
    refine st4 _ ?_
    show Steps p.tables e below (T4.setTop (mkF m 9 #[.val (.ref a1), .val .null, .val (.int (0 : Int32))] [])) _
    refine XS.aloadN X4.here hx rfl (hb hby d2_9) rfl rfl ?_
    show Steps p.tables e below (T4.setTop (mkF m 10 #[.val (.ref a1), .val .null, .val (.int (0 : Int32))] [(.ref a1)])) _
    refine XS.iloadN X4.here hx rfl (hb hby d2_10) rfl ?_
    exact kt)
  obtain ⟨T6, h6, X6, e6, W6, st6⟩ := putFN X4 hx hZ hown (hw _ (List.mem_of_getElem? (i := 20) rfl)) Via.refl e4 Fnc Ec (Or.inr ⟨(hw _ (List.mem_of_getElem? (i := 21) rfl)), rfl, hnm⟩) (hw _ (List.mem_of_getElem? (i := 5) rfl)) (ty := .boolean) (v' := .int (nar .boolean (0 : Int32))) (by decide) rfl (fits_nar_bool _) (g := (mkF m 11 #[.val (.ref a1), .val .null, .val (.int (0 : Int32))] [(.int (0 : Int32)), (.ref a1)])) rfl rfl (hb hby d2_11)
  have Fw6 := Fnc.same W6
  have N6 := Fr.snoc X6 N4 ga
  have Zs6 : n0 ≤ h6.size := Nat.le_trans Zs4 (Nat.le_of_eq W6.size.symm)
  have Kp6 : Keep h0 h6 [a1] := Kp4.wr W6 (Or.inl (List.mem_of_getElem? (i := 0) rfl))
  have Ed := Ec.wr W6
  have Fad := (Fac.other W6 (Or.inr (slot_ne (Or.inr (hw _ (List.mem_of_getElem? (i := 19) rfl))) (Or.inr (hw _ (List.mem_of_getElem? (i := 21) rfl))) (by decide) (t := (.object "java/lang/String")) (t' := .boolean) (by decide) (by decide))))
  have Fnd : Fld Z h6 a1 "com/example/haulway/haulway/bridge/Caller" "network" "Z" (.int (0 : Int32)) := Fw6
  obtain ⟨fs, hr, hrun, hended, hW, hsame⟩ := X6.leave (v := none) (fun _ => rfl)
  refine ⟨_, _, pre5 _ ?_, hrun, hended, _, _, rfl, ?_, ⟨_, rfl⟩, hW, hsame.mono (by decide) (by decide)⟩
  · show Steps p.tables e below (T4.setTop (mkF m 11 #[.val (.ref a1), .val .null, .val (.int (0 : Int32))] [(.int (0 : Int32)), (.ref a1)])) _
    refine st6 _ ?_
    show Steps p.tables e below (T6.setTop (mkF m 14 #[.val (.ref a1), .val .null, .val (.int (0 : Int32))] [])) _
    exact X6.returnOut hx Bd.returns (hb hby d2_14) hr
  · show Q2 Z a1 .null h0 n0 _ T6.heap _
    rw [e6]
    exact ⟨rfl, N6, Kp6, Ed, Fad, Fnd⟩
theorem ef_2r (m : MethodId) (x0 : Addr) (x1 : Addr) (x2 : Int32) : entryFrame m #[(.ref x0), (.ref x1), (.int x2)] 3 = mkF m 0 #[.val (.ref x0), .val (.ref x1), .val (.int x2)] [] := by first | (simp [entryFrame, mkF, argsToLocals, Value.category]; done) | rfl
set_option maxRecDepth 65536 in
set_option maxHeartbeats 40000000 in
theorem rm2r (l : Launch) (Z : State) (a0 : Array Value) (hw : ∀ d ∈ tables_1, d.before a0 Z = true) (ws : List Jvm.Cond) (a1 : Addr) (acc : Addr) (h0 : Heap) (n0 : Nat) (Z0 : n0 ≤ h0.size) (Ea : Exa Z h0 a1 "com/example/haulway/haulway/bridge/Caller") (Fa : Fld Z h0 a1 "com/example/haulway/haulway/bridge/Caller" "account" "Ljava/lang/String;" .null) (Fn : Fld Z h0 a1 "com/example/haulway/haulway/bridge/Caller" "network" "Z" (.int (0 : Int32))) (ga : n0 ≤ a1) :
    MetFree l (⟨"com/example/haulway/haulway/bridge/Caller", "<init>", "(Ljava/lang/String;Z)V"⟩ : MethodName) (head1 (Jvm.Cond.code (⟨"com/example/haulway/haulway/bridge/Caller", "<init>", "(Ljava/lang/String;Z)V"⟩ : MethodName) prog_23_method_1_code 3 none :: ws) ({ frames := 2, cells := 0, slots := 0, locals := 24 } : Room)) (fun aa_ U => aa_ = #[(.ref a1), (.ref acc), (.int (0 : Int32))] ∧ Z.Warmed39 U.vm ∧ U.heap = h0) (fun _ _ _ _ _ => True) (fun _ U o U' => ∃ v_ L_, o = .returned v_ ∧ Q2 Z a1 (.ref acc) h0 n0 v_ U'.heap L_ ∧ FrameEnd U o U' L_ ({ frames := 2, cells := 0, slots := 0, locals := 24 } : Room).cells ({ frames := 2, cells := 0, slots := 0, locals := 24 } : Room).slots) := by
  refine MetFree.of_bodySF (plainFor_of_name pn_2) hisR ?_
  intro p e s m args below meth c s₁ Bd hml0 hP hK
  obtain ⟨rfl, hZ, hh⟩ := hP
  have hx := Bd.exec
  have hby := Bd.bytes
  have hml : c.maxLocals = 3 := hml0
  have hown : s.vm.findClass "com/example/haulway/haulway/bridge/Caller" = some m.cls := findClass_of_methodNamed Bd.named
  have hnm := (name_of_methodNamed Bd.named Bd.method).1
  have X0 : Stand p l e ({ frames := 2, cells := 0, slots := 0, locals := 24 } : Room) s m #[(.ref a1), (.ref acc), (.int (0 : Int32))] below meth c s₁ [] 0 0 := Stand.of_body Bd
  have e0 : s₁.heap = h0 := by rw [← hh, Bd.state]; rfl
  have N0 := Fr.nil n0
  have pre0 : ∀ t, Steps p.tables e below (s₁.setTop (mkF m 0 #[.val (.ref a1), .val (.ref acc), .val (.int (0 : Int32))] [])) t → Steps p.tables e below (s₁.setTop (entryFrame m #[(.ref a1), (.ref acc), (.int (0 : Int32))] 3)) t := fun t k_ => castTop (ef_2r m a1 acc (0 : Int32)) k_
  have pre1 : ∀ t, Steps p.tables e below (s₁.setTop (mkF m 1 #[.val (.ref a1), .val (.ref acc), .val (.int (0 : Int32))] [(.ref a1)])) t → Steps p.tables e below _ t := fun t kt => pre0 t (by
    show Steps p.tables e below (s₁.setTop (mkF m 0 #[.val (.ref a1), .val (.ref acc), .val (.int (0 : Int32))] [])) _
    refine XS.aloadN X0.here hx rfl (hb hby d2_0) rfl rfl ?_
    exact kt)
  obtain ⟨_, _, ⟨T2, L2, k2, n2⟩, -, X2, ⟨Lc2, hQ2, l2, y2, z2⟩, st2⟩ := X0.specialBack hx (y := (⟨"java/lang/Record", "<init>", "()V"⟩ : MethodName)) rfl hown (mvT hZ (hw _ (List.mem_of_getElem? (i := 10) rfl))) (mvT hZ (hw _ (List.mem_of_getElem? (i := 11) rfl))) (mvT hZ (hw _ (List.mem_of_getElem? (i := 14) rfl))) (by decide) (backOf (W := 0) (rm3 l Z a0 hw [] a1 h0 n0 Z0) hZ (hw _ (List.mem_of_getElem? (i := 14) rfl)) (hw _ (List.mem_of_getElem? (i := 13) rfl)) (by decide) (by decide)) (g := (mkF m 1 #[.val (.ref a1), .val (.ref acc), .val (.int (0 : Int32))] [(.ref a1)])) rfl (by rw [hml]; rfl) (Steps.refl _) (a := a1) (argsL := []) (rest := []) (lenOf pd_7 rfl) rfl (by show 2 * 0 + _ ≤ _; exact Nat.le_of_eq rfl) (hb hby d2_1) (fun _ _ => ⟨rfl, e0, (by decide : 0 + 0 ≤ _), (by decide : 0 + 0 ≤ _)⟩)
  dsimp only [Pt.U, Pt.locs, Pt.cells, Pt.slots] at X2 l2 y2 z2 st2 hQ2
  subst l2 y2 z2
  obtain ⟨rfl, N2q, e2⟩ := hQ2
  have N2 := Fr.app N0 N2q
  have pre3 : ∀ t, Steps p.tables e below (T2.setTop (mkF m 6 #[.val (.ref a1), .val (.ref acc), .val (.int (0 : Int32))] [(.ref acc), (.ref a1)])) t → Steps p.tables e below _ t := fun t kt => pre1 t (by
    show Steps p.tables e below (s₁.setTop (mkF m 1 #[.val (.ref a1), .val (.ref acc), .val (.int (0 : Int32))] [(.ref a1)])) _
    refine st2.trans ?_
    show Steps p.tables e below (T2.setTop (mkF m 4 #[.val (.ref a1), .val (.ref acc), .val (.int (0 : Int32))] [])) _
    refine XS.aloadN X2.here hx rfl (hb hby d2_4) rfl rfl ?_
    show Steps p.tables e below (T2.setTop (mkF m 5 #[.val (.ref a1), .val (.ref acc), .val (.int (0 : Int32))] [(.ref a1)])) _
    refine XS.aloadN X2.here hx rfl (hb hby d2_5) rfl rfl ?_
    exact kt)
  obtain ⟨T4, h4, X4, e4, W4, st4⟩ := putF X2 hx hZ hown (host := "") (Or.inl (hw _ (List.mem_of_getElem? (i := 18) rfl))) Via.refl e2 Fa Ea (Or.inr ⟨(hw _ (List.mem_of_getElem? (i := 19) rfl)), rfl, hnm⟩) (hw _ (List.mem_of_getElem? (i := 5) rfl)) (ty := (.object "java/lang/String")) (by decide) rfl rfl (g := (mkF m 6 #[.val (.ref a1), .val (.ref acc), .val (.int (0 : Int32))] [(.ref acc), (.ref a1)])) rfl rfl (hb hby d2_6)
  have Fw4 := Fa.same W4
  have N4 := Fr.snoc X4 N2 ga
  have Zs4 : n0 ≤ h4.size := Nat.le_trans Z0 (Nat.le_of_eq W4.size.symm)
  have Kp4 : Keep h0 h4 [a1] := (Keep.refl h0 [a1]).wr W4 (Or.inl (List.mem_of_getElem? (i := 0) rfl))
  have Ec := Ea.wr W4
  have Fnc := (Fn.other W4 (Or.inr (slot_ne (Or.inr (hw _ (List.mem_of_getElem? (i := 21) rfl))) (Or.inr (hw _ (List.mem_of_getElem? (i := 19) rfl))) (by decide) (t := .boolean) (t' := (.object "java/lang/String")) (by decide) (by decide))))
  have Fac := Fw4
  have pre5 : ∀ t, Steps p.tables e below (T4.setTop (mkF m 11 #[.val (.ref a1), .val (.ref acc), .val (.int (0 : Int32))] [(.int (0 : Int32)), (.ref a1)])) t → Steps p.tables e below _ t := fun t kt => pre3 t (by
    show Steps p.tables e below (T2.setTop (mkF m 6 #[.val (.ref a1), .val (.ref acc), .val (.int (0 : Int32))] [(.ref acc), (.ref a1)])) _
    refine st4 _ ?_
    show Steps p.tables e below (T4.setTop (mkF m 9 #[.val (.ref a1), .val (.ref acc), .val (.int (0 : Int32))] [])) _
    refine XS.aloadN X4.here hx rfl (hb hby d2_9) rfl rfl ?_
    show Steps p.tables e below (T4.setTop (mkF m 10 #[.val (.ref a1), .val (.ref acc), .val (.int (0 : Int32))] [(.ref a1)])) _
    refine XS.iloadN X4.here hx rfl (hb hby d2_10) rfl ?_
    exact kt)
  obtain ⟨T6, h6, X6, e6, W6, st6⟩ := putFN X4 hx hZ hown (hw _ (List.mem_of_getElem? (i := 20) rfl)) Via.refl e4 Fnc Ec (Or.inr ⟨(hw _ (List.mem_of_getElem? (i := 21) rfl)), rfl, hnm⟩) (hw _ (List.mem_of_getElem? (i := 5) rfl)) (ty := .boolean) (v' := .int (nar .boolean (0 : Int32))) (by decide) rfl (fits_nar_bool _) (g := (mkF m 11 #[.val (.ref a1), .val (.ref acc), .val (.int (0 : Int32))] [(.int (0 : Int32)), (.ref a1)])) rfl rfl (hb hby d2_11)
  have Fw6 := Fnc.same W6
  have N6 := Fr.snoc X6 N4 ga
  have Zs6 : n0 ≤ h6.size := Nat.le_trans Zs4 (Nat.le_of_eq W6.size.symm)
  have Kp6 : Keep h0 h6 [a1] := Kp4.wr W6 (Or.inl (List.mem_of_getElem? (i := 0) rfl))
  have Ed := Ec.wr W6
  have Fad := (Fac.other W6 (Or.inr (slot_ne (Or.inr (hw _ (List.mem_of_getElem? (i := 19) rfl))) (Or.inr (hw _ (List.mem_of_getElem? (i := 21) rfl))) (by decide) (t := (.object "java/lang/String")) (t' := .boolean) (by decide) (by decide))))
  have Fnd : Fld Z h6 a1 "com/example/haulway/haulway/bridge/Caller" "network" "Z" (.int (0 : Int32)) := Fw6
  obtain ⟨fs, hr, hrun, hended, hW, hsame⟩ := X6.leave (v := none) (fun _ => rfl)
  refine ⟨_, _, pre5 _ ?_, hrun, hended, _, _, rfl, ?_, ⟨_, rfl⟩, hW, hsame.mono (by decide) (by decide)⟩
  · show Steps p.tables e below (T4.setTop (mkF m 11 #[.val (.ref a1), .val (.ref acc), .val (.int (0 : Int32))] [(.int (0 : Int32)), (.ref a1)])) _
    refine st6 _ ?_
    show Steps p.tables e below (T6.setTop (mkF m 14 #[.val (.ref a1), .val (.ref acc), .val (.int (0 : Int32))] [])) _
    exact X6.returnOut hx Bd.returns (hb hby d2_14) hr
  · show Q2 Z a1 (.ref acc) h0 n0 _ T6.heap _
    rw [e6]
    exact ⟨rfl, N6, Kp6, Ed, Fad, Fnd⟩
def Q5 (Z : State) (acc : Value) (h0 : Heap) (n0 : Nat) (v : Option Value) (h : Heap) (L : List Loc) : Prop := v = some acc ∧ Fr n0 L ∧ h = h0
theorem pn_5 : plainName "com/example/haulway/haulway/bridge/Caller" = true := by first | (simp [plainName, overriddenIn]; done) | decide +kernel
theorem ef_5n (m : MethodId) (x0 : Addr) : entryFrame m #[(.ref x0)] 1 = mkF m 0 #[.val (.ref x0)] [] := by first | (simp [entryFrame, mkF, argsToLocals, Value.category]; done) | rfl
theorem d5_0 : decode prog_23_method_2_code 0 = .ok (.aload_n 0, 1) := by decide +kernel
theorem d5_1 : decode prog_23_method_2_code 1 = .ok (.getfield 13, 3) := by decide +kernel
theorem d5_4 : decode prog_23_method_2_code 4 = .ok (.ifCond .eq 16, 3) := by decide +kernel
theorem d5_20 : decode prog_23_method_2_code 20 = .ok (.aload_n 0, 1) := by decide +kernel
theorem d5_21 : decode prog_23_method_2_code 21 = .ok (.getfield 7, 3) := by decide +kernel
theorem d5_24 : decode prog_23_method_2_code 24 = .ok (.areturn, 1) := by decide +kernel
set_option maxRecDepth 65536 in
set_option maxHeartbeats 40000000 in
theorem rm5n (l : Launch) (Z : State) (a0 : Array Value) (hw : ∀ d ∈ tables_1, d.before a0 Z = true) (ws : List Jvm.Cond) (a1 : Addr) (h0 : Heap) (n0 : Nat) (Z0 : n0 ≤ h0.size) (Fa : Fld Z h0 a1 "com/example/haulway/haulway/bridge/Caller" "account" "Ljava/lang/String;" .null) (Fn : Fld Z h0 a1 "com/example/haulway/haulway/bridge/Caller" "network" "Z" (.int (0 : Int32))) :
    MetFree l (⟨"com/example/haulway/haulway/bridge/Caller", "depositor", "()Ljava/lang/String;"⟩ : MethodName) (head1 (Jvm.Cond.code (⟨"com/example/haulway/haulway/bridge/Caller", "depositor", "()Ljava/lang/String;"⟩ : MethodName) prog_23_method_2_code 1 (some (.object "java/lang/String")) :: ws) ({ frames := 0, cells := 0, slots := 0, locals := 0 } : Room)) (fun aa_ U => aa_ = #[(.ref a1)] ∧ Z.Warmed39 U.vm ∧ U.heap = h0) (fun _ _ _ _ _ => True) (fun _ U o U' => ∃ v_ L_, o = .returned v_ ∧ Q5 Z .null h0 n0 v_ U'.heap L_ ∧ FrameEnd U o U' L_ ({ frames := 0, cells := 0, slots := 0, locals := 0 } : Room).cells ({ frames := 0, cells := 0, slots := 0, locals := 0 } : Room).slots) := by
  refine MetFree.of_bodySF (plainFor_of_name pn_5) hisR ?_
  intro p e s m args below meth c s₁ Bd hml0 hP hK
  obtain ⟨rfl, hZ, hh⟩ := hP
  have hx := Bd.exec
  have hby := Bd.bytes
  have hml : c.maxLocals = 1 := hml0
  have hown : s.vm.findClass "com/example/haulway/haulway/bridge/Caller" = some m.cls := findClass_of_methodNamed Bd.named
  have hnm := (name_of_methodNamed Bd.named Bd.method).1
  have X0 : Stand p l e ({ frames := 0, cells := 0, slots := 0, locals := 0 } : Room) s m #[(.ref a1)] below meth c s₁ [] 0 0 := Stand.of_body Bd
  have e0 : s₁.heap = h0 := by rw [← hh, Bd.state]; rfl
  have N0 := Fr.nil n0
  have pre0 : ∀ t, Steps p.tables e below (s₁.setTop (mkF m 0 #[.val (.ref a1)] [])) t → Steps p.tables e below (s₁.setTop (entryFrame m #[(.ref a1)] 1)) t := fun t k_ => castTop (ef_5n m a1) k_
  have pre1 : ∀ t, Steps p.tables e below (s₁.setTop (mkF m 1 #[.val (.ref a1)] [(.ref a1)])) t → Steps p.tables e below _ t := fun t kt => pre0 t (by
    show Steps p.tables e below (s₁.setTop (mkF m 0 #[.val (.ref a1)] [])) _
    refine XS.aloadN X0.here hx rfl (hb hby d5_0) rfl rfl ?_
    exact kt)
  obtain ⟨T2, X2, e2, st2⟩ := getF X0 hx hZ hown (host := "") (Or.inl (hw _ (List.mem_of_getElem? (i := 20) rfl))) Via.refl e0 Fn (g := (mkF m 1 #[.val (.ref a1)] [(.ref a1)])) rfl rfl (hb hby d5_1)
  have pre3 : ∀ t, Steps p.tables e below (T2.setTop (mkF m 21 #[.val (.ref a1)] [(.ref a1)])) t → Steps p.tables e below _ t := fun t kt => pre1 t (by
    show Steps p.tables e below (s₁.setTop (mkF m 1 #[.val (.ref a1)] [(.ref a1)])) _
    refine st2 _ ?_
    have hc4 : (0 : Int32) = (0 : Int32) := rfl
    show Steps p.tables e below (T2.setTop (mkF m 4 #[.val (.ref a1)] [(.int (0 : Int32))])) _
    refine XS.ifYes X2.here hx rfl (pc0 := 4) (pc' := 20) rfl (hb hby d5_4) rfl ((if0 _ _).trans (teq hc4).1) (by decide) (by decide) ?_
    show Steps p.tables e below (T2.setTop (mkF m 20 #[.val (.ref a1)] [])) _
    refine XS.aloadN X2.here hx rfl (hb hby d5_20) rfl rfl ?_
    exact kt)
  obtain ⟨T4, X4, e4, st4⟩ := getF X2 hx hZ hown (host := "") (Or.inl (hw _ (List.mem_of_getElem? (i := 18) rfl))) Via.refl e2 Fa (g := (mkF m 21 #[.val (.ref a1)] [(.ref a1)])) rfl rfl (hb hby d5_21)
  obtain ⟨fs, hr, hrun, hended, hW, hsame⟩ := X4.leave (v := some .null) (fun h => by rw [Bd.returns] at h; cases h)
  refine ⟨_, _, pre3 _ ?_, hrun, hended, _, _, rfl, ?_, ⟨_, rfl⟩, hW, hsame.mono (by decide) (by decide)⟩
  · show Steps p.tables e below (T2.setTop (mkF m 21 #[.val (.ref a1)] [(.ref a1)])) _
    refine st4 _ ?_
    show Steps p.tables e below (T4.setTop (mkF m 24 #[.val (.ref a1)] [.null])) _
    jvm_step X4.here [X4.here.top, hx, (hb hby d5_24), X4.method', Bd.returns, Value.isRef, FieldType.isReference]
    first | (intro acts; rw [hr _ acts rfl rfl rfl]) | rw [hr _ _ rfl rfl rfl]
    exact Steps.refl _
  · show Q5 Z .null h0 n0 _ T4.heap _
    rw [e4]
    exact ⟨rfl, N0, rfl⟩
theorem ef_5r (m : MethodId) (x0 : Addr) : entryFrame m #[(.ref x0)] 1 = mkF m 0 #[.val (.ref x0)] [] := by first | (simp [entryFrame, mkF, argsToLocals, Value.category]; done) | rfl
set_option maxRecDepth 65536 in
set_option maxHeartbeats 40000000 in
theorem rm5r (l : Launch) (Z : State) (a0 : Array Value) (hw : ∀ d ∈ tables_1, d.before a0 Z = true) (ws : List Jvm.Cond) (a1 : Addr) (acc : Addr) (h0 : Heap) (n0 : Nat) (Z0 : n0 ≤ h0.size) (Fa : Fld Z h0 a1 "com/example/haulway/haulway/bridge/Caller" "account" "Ljava/lang/String;" (.ref acc)) (Fn : Fld Z h0 a1 "com/example/haulway/haulway/bridge/Caller" "network" "Z" (.int (0 : Int32))) :
    MetFree l (⟨"com/example/haulway/haulway/bridge/Caller", "depositor", "()Ljava/lang/String;"⟩ : MethodName) (head1 (Jvm.Cond.code (⟨"com/example/haulway/haulway/bridge/Caller", "depositor", "()Ljava/lang/String;"⟩ : MethodName) prog_23_method_2_code 1 (some (.object "java/lang/String")) :: ws) ({ frames := 0, cells := 0, slots := 0, locals := 0 } : Room)) (fun aa_ U => aa_ = #[(.ref a1)] ∧ Z.Warmed39 U.vm ∧ U.heap = h0) (fun _ _ _ _ _ => True) (fun _ U o U' => ∃ v_ L_, o = .returned v_ ∧ Q5 Z (.ref acc) h0 n0 v_ U'.heap L_ ∧ FrameEnd U o U' L_ ({ frames := 0, cells := 0, slots := 0, locals := 0 } : Room).cells ({ frames := 0, cells := 0, slots := 0, locals := 0 } : Room).slots) := by
  refine MetFree.of_bodySF (plainFor_of_name pn_5) hisR ?_
  intro p e s m args below meth c s₁ Bd hml0 hP hK
  obtain ⟨rfl, hZ, hh⟩ := hP
  have hx := Bd.exec
  have hby := Bd.bytes
  have hml : c.maxLocals = 1 := hml0
  have hown : s.vm.findClass "com/example/haulway/haulway/bridge/Caller" = some m.cls := findClass_of_methodNamed Bd.named
  have hnm := (name_of_methodNamed Bd.named Bd.method).1
  have X0 : Stand p l e ({ frames := 0, cells := 0, slots := 0, locals := 0 } : Room) s m #[(.ref a1)] below meth c s₁ [] 0 0 := Stand.of_body Bd
  have e0 : s₁.heap = h0 := by rw [← hh, Bd.state]; rfl
  have N0 := Fr.nil n0
  have pre0 : ∀ t, Steps p.tables e below (s₁.setTop (mkF m 0 #[.val (.ref a1)] [])) t → Steps p.tables e below (s₁.setTop (entryFrame m #[(.ref a1)] 1)) t := fun t k_ => castTop (ef_5r m a1) k_
  have pre1 : ∀ t, Steps p.tables e below (s₁.setTop (mkF m 1 #[.val (.ref a1)] [(.ref a1)])) t → Steps p.tables e below _ t := fun t kt => pre0 t (by
    show Steps p.tables e below (s₁.setTop (mkF m 0 #[.val (.ref a1)] [])) _
    refine XS.aloadN X0.here hx rfl (hb hby d5_0) rfl rfl ?_
    exact kt)
  obtain ⟨T2, X2, e2, st2⟩ := getF X0 hx hZ hown (host := "") (Or.inl (hw _ (List.mem_of_getElem? (i := 20) rfl))) Via.refl e0 Fn (g := (mkF m 1 #[.val (.ref a1)] [(.ref a1)])) rfl rfl (hb hby d5_1)
  have pre3 : ∀ t, Steps p.tables e below (T2.setTop (mkF m 21 #[.val (.ref a1)] [(.ref a1)])) t → Steps p.tables e below _ t := fun t kt => pre1 t (by
    show Steps p.tables e below (s₁.setTop (mkF m 1 #[.val (.ref a1)] [(.ref a1)])) _
    refine st2 _ ?_
    have hc4 : (0 : Int32) = (0 : Int32) := rfl
    show Steps p.tables e below (T2.setTop (mkF m 4 #[.val (.ref a1)] [(.int (0 : Int32))])) _
    refine XS.ifYes X2.here hx rfl (pc0 := 4) (pc' := 20) rfl (hb hby d5_4) rfl ((if0 _ _).trans (teq hc4).1) (by decide) (by decide) ?_
    show Steps p.tables e below (T2.setTop (mkF m 20 #[.val (.ref a1)] [])) _
    refine XS.aloadN X2.here hx rfl (hb hby d5_20) rfl rfl ?_
    exact kt)
  obtain ⟨T4, X4, e4, st4⟩ := getF X2 hx hZ hown (host := "") (Or.inl (hw _ (List.mem_of_getElem? (i := 18) rfl))) Via.refl e2 Fa (g := (mkF m 21 #[.val (.ref a1)] [(.ref a1)])) rfl rfl (hb hby d5_21)
  obtain ⟨fs, hr, hrun, hended, hW, hsame⟩ := X4.leave (v := some (.ref acc)) (fun h => by rw [Bd.returns] at h; cases h)
  refine ⟨_, _, pre3 _ ?_, hrun, hended, _, _, rfl, ?_, ⟨_, rfl⟩, hW, hsame.mono (by decide) (by decide)⟩
  · show Steps p.tables e below (T2.setTop (mkF m 21 #[.val (.ref a1)] [(.ref a1)])) _
    refine st4 _ ?_
    show Steps p.tables e below (T4.setTop (mkF m 24 #[.val (.ref a1)] [(.ref acc)])) _
    jvm_step X4.here [X4.here.top, hx, (hb hby d5_24), X4.method', Bd.returns, Value.isRef, FieldType.isReference]
    first | (intro acts; rw [hr _ acts rfl rfl rfl]) | rw [hr _ _ rfl rfl rfl]
    exact Steps.refl _
  · show Q5 Z (.ref acc) h0 n0 _ T4.heap _
    rw [e4]
    exact ⟨rfl, N0, rfl⟩

theorem own_IB_warm {Z s : State} {vm : Vm} {Ts : List String} (I : IB Z s.vm Ts) (h : s.WarmedH vm) : IB Z vm Ts := by
  obtain ⟨more, e, hm⟩ := I; exact ⟨more, h.interned_eq.trans e, hm⟩
theorem own_c8 (x : Int32) : ¬ ((255 : Int32) < ((x &&& (255 : Int32)).toUInt32.toUInt16.toUInt32.toInt32)) := by
  obtain ⟨n, h, hb⟩ := own_mask x 255 (k := 8) (by decide) (by decide)
  rw [h]
  have H : ∀ i, i < 256 → ¬ ((255 : Int32) < ((Int32.ofNat i).toUInt32.toUInt16.toUInt32.toInt32)) := by decide +kernel
  exact H n hb
theorem own_c8n (x : Int32) : ¬ ((255 : Int32) < nar .char ((x &&& (255 : Int32)).toUInt32.toUInt16.toUInt32.toInt32)) := by
  obtain ⟨n, h, hb⟩ := own_mask x 255 (k := 8) (by decide) (by decide)
  rw [h]
  have H : ∀ i, i < 256 → ¬ ((255 : Int32) < nar .char ((Int32.ofNat i).toUInt32.toUInt16.toUInt32.toInt32)) := by decide +kernel
  exact H n hb
theorem own_notzero {args : Array Value} {s : State} {t : Term} {G : Int32} (e : t.eval args s none [] s = some (.int G)) (h : (Cond.not (Cond.eq t (Term.int 0))).before args s = true) : ¬ (G = (0 : Int32)) := by
  intro q
  subst q
  have h2 := Cond.before_iff.mp h
  simp [Cond.value, e, Term.int_eval] at h2
theorem ef_7n0 (m : MethodId) (x0 : Addr) (x1 : Addr) (x2 : Int32) (x3 : Int32) : entryFrame m #[(.ref x0), (.ref x1), (.int x2), (.int x3), .null] 6 = mkF m 0 #[.val (.ref x0), .val (.ref x1), .val (.int x2), .val (.int x3), .val .null, .unset] [] := by first | (simp [entryFrame, mkF, argsToLocals, Value.category]; done) | rfl
theorem d7_8 : decode jdk_42_method_149_code 8 = .ok (.aload_n 0, 1) := by decide +kernel
theorem d7_9 : decode jdk_42_method_149_code 9 = .ok (.ldc 7, 2) := by decide +kernel
theorem d7_11 : decode jdk_42_method_149_code 11 = .ok (.getfield 9, 3) := by decide +kernel
theorem d7_14 : decode jdk_42_method_149_code 14 = .ok (.putfield 9, 3) := by decide +kernel
theorem d7_17 : decode jdk_42_method_149_code 17 = .ok (.aload_n 0, 1) := by decide +kernel
theorem d7_18 : decode jdk_42_method_149_code 18 = .ok (.ldc 7, 2) := by decide +kernel
theorem d7_20 : decode jdk_42_method_149_code 20 = .ok (.getfield 15, 3) := by decide +kernel
theorem d7_23 : decode jdk_42_method_149_code 23 = .ok (.putfield 15, 3) := by decide +kernel
theorem d7_26 : decode jdk_42_method_149_code 26 = .ok (.return_, 1) := by decide +kernel
def Q7n0 (Z : State) (a1 : Addr) (h0 : Heap) (n0 : Nat) (v : Option Value) (h : Heap) (vm : Vm) (L : List Loc) : Prop := v = none ∧ Fr n0 L ∧ Keep h0 h [a1] ∧ Exa Z h a1 "java/lang/String"
set_option maxRecDepth 65536 in
set_option maxHeartbeats 40000000 in
theorem rm7n0 (l : Launch) (Z : State) (a0 : Array Value) (hw : ∀ d ∈ tables_1, d.before a0 Z = true) (ws : List Jvm.Cond) (a1 : Addr) (ca : Addr) (h0 : Heap) (n0 : Nat) (Z0 : n0 ≤ h0.size) (Ea : Exa Z h0 a1 "java/lang/String") (Fv : Fld Z h0 a1 "java/lang/String" "value" "[B" .null) (Fc : Fld Z h0 a1 "java/lang/String" "coder" "B" (.int (0 : Int32))) (ga : n0 ≤ a1) (KZ : ∀ (b : Addr) (cl : Cell), Z.heap[b]? = some cl → h0[b]? = some cl) (hh7 : Jvm.Lit.constHeld Z "java/lang/String" 7) (hcw : Jvm.Lit.compactW.before a0 Z = true) :
    MetFree l (⟨"java/lang/String", "<init>", "([CIILjava/lang/Void;)V"⟩ : MethodName) (head1 (Jvm.Cond.code (⟨"java/lang/String", "<init>", "([CIILjava/lang/Void;)V"⟩ : MethodName) jdk_42_method_149_code 6 none :: ws) ({ frames := 1, cells := 2, slots := 4, locals := 12 } : Room)) (fun aa_ U => aa_ = #[(.ref a1), (.ref ca), (.int (0 : Int32)), (.int (0 : Int32)), .null] ∧ Z.Warmed39 U.vm ∧ U.heap = h0 ∧ IB Z U.vm []) (fun _ _ _ _ _ => True) (fun _ U o U' => ∃ v_ L_, o = .returned v_ ∧ Q7n0 Z a1 h0 n0 v_ U'.heap U'.vm L_ ∧ ReturnedEndW U o U' L_ ({ frames := 1, cells := 2, slots := 4, locals := 12 } : Room).cells ({ frames := 1, cells := 2, slots := 4, locals := 12 } : Room).slots) := by
  refine MetFree.of_bodySF (plainFor_of_name pn_7) hisR ?_
  intro p e s m args below meth c s₁ Bd hml0 hP hK
  obtain ⟨rfl, hZ, hh, hIb⟩ := hP
  have hx := Bd.exec
  have hby := Bd.bytes
  have hml : c.maxLocals = 6 := hml0
  have hown : s.vm.findClass "java/lang/String" = some m.cls := findClass_of_methodNamed Bd.named
  have hnm := (name_of_methodNamed Bd.named Bd.method).1
  have X0 : Stand p l e ({ frames := 1, cells := 2, slots := 4, locals := 12 } : Room) s m #[(.ref a1), (.ref ca), (.int (0 : Int32)), (.int (0 : Int32)), .null] below meth c s₁ [] 0 0 := Stand.of_body Bd
  have e0 : s₁.heap = h0 := by rw [← hh, Bd.state]; rfl
  have N0 := Fr.nil n0
  have pre0 : ∀ t, Steps p.tables e below (s₁.setTop (mkF m 0 #[.val (.ref a1), .val (.ref ca), .val (.int (0 : Int32)), .val (.int (0 : Int32)), .val .null, .unset] [])) t → Steps p.tables e below (s₁.setTop (entryFrame m #[(.ref a1), (.ref ca), (.int (0 : Int32)), (.int (0 : Int32)), .null] 6)) t := fun t k_ => castTop (ef_7n0 m a1 ca (0 : Int32) (0 : Int32)) k_
  have wS : ∀ a ∈ Bundle.stringAtoms, a.before a0 Z = true := fun d hd => by
    simp only [Bundle.stringAtoms, List.mem_cons, List.not_mem_nil, or_false] at hd
    rcases hd with rfl | rfl | rfl | rfl | rfl | rfl | rfl
    · exact (hw _ (List.mem_of_getElem? (i := 29) rfl))
    · exact (hw _ (List.mem_of_getElem? (i := 28) rfl))
    · exact (hw _ (List.mem_of_getElem? (i := 44) rfl))
    · exact (hw _ (List.mem_of_getElem? (i := 54) rfl))
    · exact (hw _ (List.mem_of_getElem? (i := 52) rfl))
    · exact (hw _ (List.mem_of_getElem? (i := 75) rfl))
    · exact (hw _ (List.mem_of_getElem? (i := 76) rfl))
  have pre1 : ∀ t, Steps p.tables e below (s₁.setTop (mkF m 1 #[.val (.ref a1), .val (.ref ca), .val (.int (0 : Int32)), .val (.int (0 : Int32)), .val .null, .unset] [(.ref a1)])) t → Steps p.tables e below _ t := fun t kt => pre0 t (by
    show Steps p.tables e below (s₁.setTop (mkF m 0 #[.val (.ref a1), .val (.ref ca), .val (.int (0 : Int32)), .val (.int (0 : Int32)), .val .null, .unset] [])) _
    refine XS.aloadN X0.here hx rfl (hb hby d7_0) rfl rfl ?_
    exact kt)
  obtain ⟨T2, X2, e2, st2⟩ := initO X0 hx hZ hown (hw _ (List.mem_of_getElem? (i := 38) rfl)) (hw _ (List.mem_of_getElem? (i := 16) rfl)) (hw _ (List.mem_of_getElem? (i := 17) rfl)) e0 (g := (mkF m 1 #[.val (.ref a1), .val (.ref ca), .val (.int (0 : Int32)), .val (.int (0 : Int32)), .val .null, .unset] [(.ref a1)])) rfl (by rw [hml]; rfl) rfl (hb hby d7_1) (by decide) (W := 0) (by show 2 * 0 + _ ≤ _; exact Nat.le_of_eq rfl) (by decide)
  have pre3 : ∀ t, Steps p.tables e below (T2.setTop (mkF m 9 #[.val (.ref a1), .val (.ref ca), .val (.int (0 : Int32)), .val (.int (0 : Int32)), .val .null, .unset] [(.ref a1)])) t → Steps p.tables e below _ t := fun t kt => pre1 t (by
    show Steps p.tables e below (s₁.setTop (mkF m 1 #[.val (.ref a1), .val (.ref ca), .val (.int (0 : Int32)), .val (.int (0 : Int32)), .val .null, .unset] [(.ref a1)])) _
    refine st2 _ ?_
    show Steps p.tables e below (T2.setTop (mkF m 4 #[.val (.ref a1), .val (.ref ca), .val (.int (0 : Int32)), .val (.int (0 : Int32)), .val .null, .unset] [])) _
    refine XS.iloadN X2.here hx rfl (hb hby d7_4) rfl ?_
    have hc5 : (0 : Int32) = (0 : Int32) := rfl
    show Steps p.tables e below (T2.setTop (mkF m 5 #[.val (.ref a1), .val (.ref ca), .val (.int (0 : Int32)), .val (.int (0 : Int32)), .val .null, .unset] [(.int (0 : Int32))])) _
    refine XS.ifNo X2.here hx rfl (hb hby d7_5) rfl ((if0 _ _).trans (teq hc5).2) ?_
    show Steps p.tables e below (T2.setTop (mkF m 8 #[.val (.ref a1), .val (.ref ca), .val (.int (0 : Int32)), .val (.int (0 : Int32)), .val .null, .unset] [])) _
    refine XS.aloadN X2.here hx rfl (hb hby d7_8) rfl rfl ?_
    exact kt)
  obtain ⟨as4, T4, h4, ks4, bb4, kk4, X4, e4, E4, Sj4, hj4, hz4, how4, Ex4, Fd4, Fw4, -, -, -, I4, Li4, st4⟩ := ldcSVL (s := s) (vm0 := s.vm) (text := "") (show Stand p l e ({ frames := 1, cells := 2, slots := 4, locals := 12 } : Room) (s.setVm s.vm) m #[(.ref a1), (.ref ca), (.int (0 : Int32)), (.int (0 : Int32)), .null] below meth c T2 _ _ _ from X2) hx hZ hown (hw _ (List.mem_of_getElem? (i := 74) rfl)) wS e2 (State.WarmedH.since (State.WarmedH.refl s) 0) (Nat.zero_le _) (Fr.nil _) (fun b_ cl_ q_ => by rw [hh]; exact KZ b_ cl_ q_) (Ts := []) hIb (by decide) hh7 hcw (z := (0 : Int32)) ⟨by decide, rfl⟩ (by decide) (by decide) (g := (mkF m 9 #[.val (.ref a1), .val (.ref ca), .val (.int (0 : Int32)), .val (.int (0 : Int32)), .val .null, .unset] [(.ref a1)])) rfl (hb hby d7_9) (n := 0) (by decide) (by decide) (by decide) (by decide)
  have Zs4 : n0 ≤ h4.size := Nat.le_trans Z0 E4.1
  have Kp4 : Keep h0 h4 [a1] := (Keep.refl h0 [a1]).ext E4
  have Si4 : s.Since T4.vm h4.size := ⟨Sj4.1, Sj4.2.mono hj4⟩
  have pre5 : ∀ t, Steps p.tables e below (T4.setTop (mkF m 11 #[.val (.ref a1), .val (.ref ca), .val (.int (0 : Int32)), .val (.int (0 : Int32)), .val .null, .unset] [(.ref as4), (.ref a1)])) t → Steps p.tables e below _ t := fun t kt => pre3 t (by
    show Steps p.tables e below (T2.setTop (mkF m 9 #[.val (.ref a1), .val (.ref ca), .val (.int (0 : Int32)), .val (.int (0 : Int32)), .val .null, .unset] [(.ref a1)])) _
    refine st4 _ ?_
    exact kt)
  obtain ⟨T6, X6, e6, st6⟩ := getF X4 hx hz4 how4 (host := "") (Or.inl (hw _ (List.mem_of_getElem? (i := 53) rfl))) Via.refl e4 Fw4 (g := (mkF m 11 #[.val (.ref a1), .val (.ref ca), .val (.int (0 : Int32)), .val (.int (0 : Int32)), .val .null, .unset] [(.ref as4), (.ref a1)])) rfl rfl (hb hby d7_11)
  have pre7 : ∀ t, Steps p.tables e below (T6.setTop (mkF m 14 #[.val (.ref a1), .val (.ref ca), .val (.int (0 : Int32)), .val (.int (0 : Int32)), .val .null, .unset] [(.ref bb4), (.ref a1)])) t → Steps p.tables e below _ t := fun t kt => pre5 t (by
    show Steps p.tables e below (T4.setTop (mkF m 11 #[.val (.ref a1), .val (.ref ca), .val (.int (0 : Int32)), .val (.int (0 : Int32)), .val .null, .unset] [(.ref as4), (.ref a1)])) _
    refine st6 _ ?_
    exact kt)
  obtain ⟨T8, h8, X8, e8, W8, st8⟩ := putF X6 hx hz4 how4 (host := "") (Or.inl (hw _ (List.mem_of_getElem? (i := 53) rfl))) Via.refl e6 (Fv.ext E4) (Ea.ext E4) (Or.inr ⟨(hw _ (List.mem_of_getElem? (i := 54) rfl)), rfl, hnm⟩) (hw _ (List.mem_of_getElem? (i := 28) rfl)) (ty := (.array .byte)) (by decide) rfl rfl (g := (mkF m 14 #[.val (.ref a1), .val (.ref ca), .val (.int (0 : Int32)), .val (.int (0 : Int32)), .val .null, .unset] [(.ref bb4), (.ref a1)])) rfl rfl (hb hby d7_14)
  have Fw8 := (Fv.ext E4).same W8
  have N8 := Fr.snoc X8 N0 ga
  have Zs8 : n0 ≤ h8.size := Nat.le_trans Zs4 (Nat.le_of_eq W8.size.symm)
  have Kp8 : Keep h0 h8 [a1] := Kp4.wr W8 (Or.inl (List.mem_of_getElem? (i := 0) rfl))
  have Ec := (Ea.ext E4).wr W8
  have Fcc := ((Fc.ext E4).other W8 (Or.inr (slot_ne (Or.inr (hw _ (List.mem_of_getElem? (i := 52) rfl))) (Or.inr (hw _ (List.mem_of_getElem? (i := 54) rfl))) (by decide) (t := .byte) (t' := (.array .byte)) (by decide) (by decide))))
  have Fcs := (Fd4.other W8 (Or.inr (slot_ne (Or.inr (hw _ (List.mem_of_getElem? (i := 52) rfl))) (Or.inr (hw _ (List.mem_of_getElem? (i := 54) rfl))) (by decide) (t := .byte) (t' := (.array .byte)) (by decide) (by decide))))
  have pre9 : ∀ t, Steps p.tables e below (T8.setTop (mkF m 18 #[.val (.ref a1), .val (.ref ca), .val (.int (0 : Int32)), .val (.int (0 : Int32)), .val .null, .unset] [(.ref a1)])) t → Steps p.tables e below _ t := fun t kt => pre7 t (by
    show Steps p.tables e below (T6.setTop (mkF m 14 #[.val (.ref a1), .val (.ref ca), .val (.int (0 : Int32)), .val (.int (0 : Int32)), .val .null, .unset] [(.ref bb4), (.ref a1)])) _
    refine st8 _ ?_
    show Steps p.tables e below (T8.setTop (mkF m 17 #[.val (.ref a1), .val (.ref ca), .val (.int (0 : Int32)), .val (.int (0 : Int32)), .val .null, .unset] [])) _
    refine XS.aloadN X8.here hx rfl (hb hby d7_17) rfl rfl ?_
    exact kt)
  have pre10 : ∀ t, Steps p.tables e below (T8.setTop (mkF m 20 #[.val (.ref a1), .val (.ref ca), .val (.int (0 : Int32)), .val (.int (0 : Int32)), .val .null, .unset] [(.ref as4), (.ref a1)])) t → Steps p.tables e below _ t := fun t kt => pre9 t (by
    show Steps p.tables e below (T8.setTop (mkF m 18 #[.val (.ref a1), .val (.ref ca), .val (.int (0 : Int32)), .val (.int (0 : Int32)), .val .null, .unset] [(.ref a1)])) _
    refine ldcAgain (s := s) (vm0 := T4.vm) X8 hx hz4 how4 (hw _ (List.mem_of_getElem? (i := 74) rfl)) Li4 (g := (mkF m 18 #[.val (.ref a1), .val (.ref ca), .val (.int (0 : Int32)), .val (.int (0 : Int32)), .val .null, .unset] [(.ref a1)])) rfl (hb hby d7_18) _ ?_
    exact kt)
  obtain ⟨T11, X11, e11, st11⟩ := getF X8 hx hz4 how4 (host := "") (Or.inl (hw _ (List.mem_of_getElem? (i := 51) rfl))) Via.refl e8 Fcs (g := (mkF m 20 #[.val (.ref a1), .val (.ref ca), .val (.int (0 : Int32)), .val (.int (0 : Int32)), .val .null, .unset] [(.ref as4), (.ref a1)])) rfl rfl (hb hby d7_20)
  have pre12 : ∀ t, Steps p.tables e below (T11.setTop (mkF m 23 #[.val (.ref a1), .val (.ref ca), .val (.int (0 : Int32)), .val (.int (0 : Int32)), .val .null, .unset] [(.int (0 : Int32)), (.ref a1)])) t → Steps p.tables e below _ t := fun t kt => pre10 t (by
    show Steps p.tables e below (T8.setTop (mkF m 20 #[.val (.ref a1), .val (.ref ca), .val (.int (0 : Int32)), .val (.int (0 : Int32)), .val .null, .unset] [(.ref as4), (.ref a1)])) _
    refine st11 _ ?_
    exact kt)
  obtain ⟨T13, h13, X13, e13, W13, st13⟩ := putFN X11 hx hz4 how4 (hw _ (List.mem_of_getElem? (i := 51) rfl)) Via.refl e11 Fcc Ec (Or.inr ⟨(hw _ (List.mem_of_getElem? (i := 52) rfl)), rfl, hnm⟩) (hw _ (List.mem_of_getElem? (i := 28) rfl)) (ty := .byte) (v' := .int (nar .byte (0 : Int32))) (by decide) rfl (fits_nar_byte _) (g := (mkF m 23 #[.val (.ref a1), .val (.ref ca), .val (.int (0 : Int32)), .val (.int (0 : Int32)), .val .null, .unset] [(.int (0 : Int32)), (.ref a1)])) rfl rfl (hb hby d7_23)
  have Fw13 := Fcc.same W13
  have N13 := Fr.snoc X13 N8 ga
  have Zs13 : n0 ≤ h13.size := Nat.le_trans Zs8 (Nat.le_of_eq W13.size.symm)
  have Kp13 : Keep h0 h13 [a1] := Kp8.wr W13 (Or.inl (List.mem_of_getElem? (i := 0) rfl))
  have Ed := Ec.wr W13
  obtain ⟨fs, hr, hrun, hended, -, hW, hI, hsame⟩ := X13.leaveW Si4 (Nat.le_of_eq (by rw [e13]; exact W8.size.symm.trans W13.size.symm)) (v := none) (fun _ => rfl)
  refine ⟨_, _, pre12 _ ?_, hrun, hended, _, _, rfl, ?_, ⟨_, rfl⟩, hW, hI, hsame.mono (by decide) (by decide)⟩
  · show Steps p.tables e below (T11.setTop (mkF m 23 #[.val (.ref a1), .val (.ref ca), .val (.int (0 : Int32)), .val (.int (0 : Int32)), .val .null, .unset] [(.int (0 : Int32)), (.ref a1)])) _
    refine st13 _ ?_
    show Steps p.tables e below (T13.setTop (mkF m 26 #[.val (.ref a1), .val (.ref ca), .val (.int (0 : Int32)), .val (.int (0 : Int32)), .val .null, .unset] [])) _
    exact X13.returnOut hx Bd.returns (hb hby d7_26) hr
  · show Q7n0 Z a1 h0 n0 _ T13.heap _ _
    rw [e13]
    exact ⟨rfl, N13, Kp13, Ed⟩
theorem ef_6n0 (m : MethodId) (x0 : Addr) (x1 : Addr) : entryFrame m #[(.ref x0), (.ref x1)] 2 = mkF m 0 #[.val (.ref x0), .val (.ref x1)] [] := by first | (simp [entryFrame, mkF, argsToLocals, Value.category]; done) | rfl
def Q6n0 (Z : State) (a1 : Addr) (h0 : Heap) (n0 : Nat) (v : Option Value) (h : Heap) (vm : Vm) (L : List Loc) : Prop := v = none ∧ Fr n0 L ∧ Keep h0 h [a1] ∧ Exa Z h a1 "java/lang/String"
set_option maxRecDepth 65536 in
set_option maxHeartbeats 40000000 in
theorem rm6n0 (l : Launch) (Z : State) (a0 : Array Value) (hw : ∀ d ∈ tables_1, d.before a0 Z = true) (ws : List Jvm.Cond) (a1 : Addr) (ca : Addr) (h0 : Heap) (n0 : Nat) (Z0 : n0 ≤ h0.size) (Ea : Exa Z h0 a1 "java/lang/String") (Fv : Fld Z h0 a1 "java/lang/String" "value" "[B" .null) (Fc : Fld Z h0 a1 "java/lang/String" "coder" "B" (.int (0 : Int32))) (ga : n0 ≤ a1) (CA : own_A Z h0 ca .char 0 (fun _ => 0)) (KZ : ∀ (b : Addr) (cl : Cell), Z.heap[b]? = some cl → h0[b]? = some cl) (hh7 : Jvm.Lit.constHeld Z "java/lang/String" 7) (hcw : Jvm.Lit.compactW.before a0 Z = true) :
    MetFree l (⟨"java/lang/String", "<init>", "([C)V"⟩ : MethodName) (head1 (Jvm.Cond.code (⟨"java/lang/String", "<init>", "([C)V"⟩ : MethodName) jdk_42_method_3_code 2 none :: ws) ({ frames := 2, cells := 2, slots := 4, locals := 29 } : Room)) (fun aa_ U => aa_ = #[(.ref a1), (.ref ca)] ∧ Z.Warmed39 U.vm ∧ U.heap = h0 ∧ IB Z U.vm []) (fun _ _ _ _ _ => True) (fun _ U o U' => ∃ v_ L_, o = .returned v_ ∧ Q6n0 Z a1 h0 n0 v_ U'.heap U'.vm L_ ∧ ReturnedEndW U o U' L_ ({ frames := 2, cells := 2, slots := 4, locals := 29 } : Room).cells ({ frames := 2, cells := 2, slots := 4, locals := 29 } : Room).slots) := by
  refine MetFree.of_bodySF (plainFor_of_name pn_6) hisR ?_
  intro p e s m args below meth c s₁ Bd hml0 hP hK
  obtain ⟨rfl, hZ, hh, hIb⟩ := hP
  have hx := Bd.exec
  have hby := Bd.bytes
  have hml : c.maxLocals = 2 := hml0
  have hown : s.vm.findClass "java/lang/String" = some m.cls := findClass_of_methodNamed Bd.named
  have hnm := (name_of_methodNamed Bd.named Bd.method).1
  have X0 : Stand p l e ({ frames := 2, cells := 2, slots := 4, locals := 29 } : Room) s m #[(.ref a1), (.ref ca)] below meth c s₁ [] 0 0 := Stand.of_body Bd
  have e0 : s₁.heap = h0 := by rw [← hh, Bd.state]; rfl
  have N0 := Fr.nil n0
  have pre0 : ∀ t, Steps p.tables e below (s₁.setTop (mkF m 0 #[.val (.ref a1), .val (.ref ca)] [])) t → Steps p.tables e below (s₁.setTop (entryFrame m #[(.ref a1), (.ref ca)] 2)) t := fun t k_ => castTop (ef_6n0 m a1 ca) k_
  obtain ⟨cc, Ac, Sc, Hc⟩ := CA
  have pre1 : ∀ t, Steps p.tables e below (s₁.setTop (mkF m 6 #[.val (.ref a1), .val (.ref ca)] [.null, (.int (0 : Int32)), (.int (0 : Int32)), (.ref ca), (.ref a1)])) t → Steps p.tables e below _ t := fun t kt => pre0 t (by
    show Steps p.tables e below (s₁.setTop (mkF m 0 #[.val (.ref a1), .val (.ref ca)] [])) _
    refine XS.aloadN X0.here hx rfl (hb hby d6_0) rfl rfl ?_
    show Steps p.tables e below (s₁.setTop (mkF m 1 #[.val (.ref a1), .val (.ref ca)] [(.ref a1)])) _
    refine XS.aloadN X0.here hx rfl (hb hby d6_1) rfl rfl ?_
    show Steps p.tables e below (s₁.setTop (mkF m 2 #[.val (.ref a1), .val (.ref ca)] [(.ref ca), (.ref a1)])) _
    refine XS.iconst X0.here hx rfl (hb hby d6_2) ?_
    show Steps p.tables e below (s₁.setTop (mkF m 3 #[.val (.ref a1), .val (.ref ca)] [(.int (0 : Int32)), (.ref ca), (.ref a1)])) _
    refine XS.aloadN X0.here hx rfl (hb hby d6_3) rfl rfl ?_
    show Steps p.tables e below (s₁.setTop (mkF m 4 #[.val (.ref a1), .val (.ref ca)] [(.ref ca), (.int (0 : Int32)), (.ref ca), (.ref a1)])) _
    refine X0.arraylength hx (by rw [e0]; exact Ac.1) (State.isArrayOf_alike hZ.alike Ac.2.1) (g := (mkF m 4 #[.val (.ref a1), .val (.ref ca)] [(.ref ca), (.int (0 : Int32)), (.ref ca), (.ref a1)])) rfl rfl (hb hby d6_4) _ ?_
    rw [len_of (by rw [Sc]; rfl : cc.slots.size = (0 : Int32).toNatClampNeg) (by decide)]
    show Steps p.tables e below (s₁.setTop (mkF m 5 #[.val (.ref a1), .val (.ref ca)] [(.int (0 : Int32)), (.int (0 : Int32)), (.ref ca), (.ref a1)])) _
    refine XS.aconstNull X0.here hx rfl (hb hby d6_5) ?_
    exact kt)
  obtain ⟨_, _, ⟨T2, L2, k2, n2⟩, -, Y2, Sj2, hg2, ⟨Lc2, hQ2, l2, y2, z2⟩, st2⟩ := Jvm.Stand.specialBackS (s := s.setVm s.vm) (show Stand p l e ({ frames := 2, cells := 2, slots := 4, locals := 29 } : Room) (s.setVm s.vm) m #[(.ref a1), (.ref ca)] below meth c s₁ _ _ _ from X0) hx (y := (⟨"java/lang/String", "<init>", "([CIILjava/lang/Void;)V"⟩ : MethodName)) rfl hown (mvT hZ (hw _ (List.mem_of_getElem? (i := 34) rfl))) (mvT hZ (hw _ (List.mem_of_getElem? (i := 35) rfl))) (mvT hZ (hw _ (List.mem_of_getElem? (i := 37) rfl))) (by decide) (own_backS (W := 0) (I := fun vm => IB Z vm []) (rm7n0 l Z a0 hw [] a1 ca h0 n0 Z0 Ea Fv Fc ga KZ hh7 hcw) hZ (hw _ (List.mem_of_getElem? (i := 37) rfl)) (hw _ (List.mem_of_getElem? (i := 29) rfl)) (by decide) (by decide)) (g := (mkF m 6 #[.val (.ref a1), .val (.ref ca)] [.null, (.int (0 : Int32)), (.int (0 : Int32)), (.ref ca), (.ref a1)])) rfl (by rw [hml]; rfl) (Steps.refl _) (a := a1) (argsL := [(.ref ca), (.int (0 : Int32)), (.int (0 : Int32)), .null]) (rest := []) (lenOf pd_3 rfl) rfl (by show 2 * 0 + _ ≤ _; exact Nat.le_of_eq rfl) (hb hby d6_6) (fun vm₁ hv => ⟨⟨rfl, e0, own_IB_warm (s := s.setVm s.vm) hIb hv⟩, (by decide : 0 + 2 ≤ _), (by decide : 0 + 4 ≤ _)⟩)
  dsimp only [Pt.U, Pt.locs, Pt.cells, Pt.slots] at Y2 Sj2 hg2 l2 y2 z2 st2 hQ2
  subst l2 y2 z2
  obtain ⟨rfl, N2q, Kq, Eq⟩ := hQ2
  have N2 := Fr.app N0 N2q
  obtain ⟨X2, Si2, hz2, how2⟩ := rebS (s := s) (vm0 := s.vm) (State.WarmedH.since (State.WarmedH.refl s) 0) (Nat.zero_le _) Y2 Sj2 hg2 hZ hown
  obtain ⟨fs, hr, hrun, hended, -, hW, hI, hsame⟩ := X2.leaveW Si2 (Nat.le_refl _) (v := none) (fun _ => rfl)
  refine ⟨_, _, pre1 _ ?_, hrun, hended, _, _, rfl, ?_, ⟨_, rfl⟩, hW, hI, hsame.mono (by decide) (by decide)⟩
  · show Steps p.tables e below (s₁.setTop (mkF m 6 #[.val (.ref a1), .val (.ref ca)] [.null, (.int (0 : Int32)), (.int (0 : Int32)), (.ref ca), (.ref a1)])) _
    refine st2.trans ?_
    show Steps p.tables e below (T2.setTop (mkF m 9 #[.val (.ref a1), .val (.ref ca)] [])) _
    exact X2.returnOut hx Bd.returns (hb hby d6_9) hr
  · exact ⟨rfl, N2, Kq, Eq⟩
theorem pn_1 : plainName "com/example/haulway/haulway/bridge/CallerDepositorPinLaw" = true := by first | (simp [plainName, overriddenIn]; done) | decide +kernel
theorem ef_1 (m : MethodId) (x0 : Int32) (x1 : Int32) (x2 : Int32) (x3 : Int32) : entryFrame m #[(.int x0), (.int x1), (.int x2), (.int x3)] 7 = mkF m 0 #[.val (.int x0), .val (.int x1), .val (.int x2), .val (.int x3), .unset, .unset, .unset] [] := by first | (simp [entryFrame, mkF, argsToLocals, Value.category]; done) | rfl
theorem d1_0 : decode method_2_code 0 = .ok (.iload_n 1, 1) := by decide +kernel
theorem d1_1 : decode method_2_code 1 = .ok (.sipush 255, 3) := by decide +kernel
theorem d1_4 : decode method_2_code 4 = .ok (.iand, 1) := by decide +kernel
theorem d1_5 : decode method_2_code 5 = .ok (.i2c, 1) := by decide +kernel
theorem d1_6 : decode method_2_code 6 = .ok (.istore 4, 2) := by decide +kernel
theorem d1_8 : decode method_2_code 8 = .ok (.iload_n 2, 1) := by decide +kernel
theorem d1_9 : decode method_2_code 9 = .ok (.sipush 255, 3) := by decide +kernel
theorem d1_12 : decode method_2_code 12 = .ok (.iand, 1) := by decide +kernel
theorem d1_13 : decode method_2_code 13 = .ok (.i2c, 1) := by decide +kernel
theorem d1_14 : decode method_2_code 14 = .ok (.istore 5, 2) := by decide +kernel
theorem d1_16 : decode method_2_code 16 = .ok (.iload_n 3, 1) := by decide +kernel
theorem d1_17 : decode method_2_code 17 = .ok (.sipush 255, 3) := by decide +kernel
theorem d1_20 : decode method_2_code 20 = .ok (.iand, 1) := by decide +kernel
theorem d1_21 : decode method_2_code 21 = .ok (.i2c, 1) := by decide +kernel
theorem d1_22 : decode method_2_code 22 = .ok (.istore 6, 2) := by decide +kernel
theorem d1_24 : decode method_2_code 24 = .ok (.iload_n 0, 1) := by decide +kernel
theorem d1_25 : decode method_2_code 25 = .ok (.ifCond .ne 5, 3) := by decide +kernel
theorem d1_28 : decode method_2_code 28 = .ok (.aconst_null, 1) := by decide +kernel
theorem d1_29 : decode method_2_code 29 = .ok (.areturn, 1) := by decide +kernel
theorem d1_30 : decode method_2_code 30 = .ok (.iload_n 0, 1) := by decide +kernel
theorem d1_31 : decode method_2_code 31 = .ok (.iconst 1, 1) := by decide +kernel
theorem d1_32 : decode method_2_code 32 = .ok (.if_icmp .ne 14, 3) := by decide +kernel
theorem d1_46 : decode method_2_code 46 = .ok (.iload_n 0, 1) := by decide +kernel
theorem d1_47 : decode method_2_code 47 = .ok (.iconst 2, 1) := by decide +kernel
theorem d1_48 : decode method_2_code 48 = .ok (.if_icmp .ne 9, 3) := by decide +kernel
theorem d1_51 : decode method_2_code 51 = .ok (.iload 4, 2) := by decide +kernel
theorem pd_8 : parseMethodDescriptor "(C)Ljava/lang/String;" = some ⟨[.char], some (.object "java/lang/String")⟩ := by decide +kernel
theorem d1_53 : decode method_2_code 53 = .ok (.invokestatic 12, 3) := by decide +kernel
theorem d1_56 : decode method_2_code 56 = .ok (.areturn, 1) := by decide +kernel
theorem d1_57 : decode method_2_code 57 = .ok (.iload_n 0, 1) := by decide +kernel
theorem d1_58 : decode method_2_code 58 = .ok (.iconst 3, 1) := by decide +kernel
theorem d1_59 : decode method_2_code 59 = .ok (.if_icmp .ne 24, 3) := by decide +kernel
theorem d1_62 : decode method_2_code 62 = .ok (.new 7, 3) := by decide +kernel
theorem d1_65 : decode method_2_code 65 = .ok (.dup, 1) := by decide +kernel
theorem d1_66 : decode method_2_code 66 = .ok (.iconst 2, 1) := by decide +kernel
theorem d1_67 : decode method_2_code 67 = .ok (.newarray .char, 2) := by decide +kernel
theorem d1_69 : decode method_2_code 69 = .ok (.dup, 1) := by decide +kernel
theorem d1_70 : decode method_2_code 70 = .ok (.iconst 0, 1) := by decide +kernel
theorem d1_71 : decode method_2_code 71 = .ok (.iload 4, 2) := by decide +kernel
theorem d1_73 : decode method_2_code 73 = .ok (.castore, 1) := by decide +kernel
theorem d1_74 : decode method_2_code 74 = .ok (.dup, 1) := by decide +kernel
theorem d1_75 : decode method_2_code 75 = .ok (.iconst 1, 1) := by decide +kernel
theorem d1_76 : decode method_2_code 76 = .ok (.iload 5, 2) := by decide +kernel
theorem d1_78 : decode method_2_code 78 = .ok (.castore, 1) := by decide +kernel
theorem pd_9 : parseMethodDescriptor "([C)V" = some ⟨[(.array .char)], none⟩ := by decide +kernel
theorem d1_79 : decode method_2_code 79 = .ok (.invokespecial 9, 3) := by decide +kernel
theorem d1_82 : decode method_2_code 82 = .ok (.areturn, 1) := by decide +kernel
theorem d1_83 : decode method_2_code 83 = .ok (.new 7, 3) := by decide +kernel
theorem d1_86 : decode method_2_code 86 = .ok (.dup, 1) := by decide +kernel
theorem d1_87 : decode method_2_code 87 = .ok (.iconst 3, 1) := by decide +kernel
theorem d1_88 : decode method_2_code 88 = .ok (.newarray .char, 2) := by decide +kernel
theorem d1_90 : decode method_2_code 90 = .ok (.dup, 1) := by decide +kernel
theorem d1_91 : decode method_2_code 91 = .ok (.iconst 0, 1) := by decide +kernel
theorem d1_92 : decode method_2_code 92 = .ok (.iload 4, 2) := by decide +kernel
theorem d1_94 : decode method_2_code 94 = .ok (.castore, 1) := by decide +kernel
theorem d1_95 : decode method_2_code 95 = .ok (.dup, 1) := by decide +kernel
theorem d1_96 : decode method_2_code 96 = .ok (.iconst 1, 1) := by decide +kernel
theorem d1_97 : decode method_2_code 97 = .ok (.iload 5, 2) := by decide +kernel
theorem d1_99 : decode method_2_code 99 = .ok (.castore, 1) := by decide +kernel
theorem d1_100 : decode method_2_code 100 = .ok (.dup, 1) := by decide +kernel
theorem d1_101 : decode method_2_code 101 = .ok (.iconst 2, 1) := by decide +kernel
theorem d1_102 : decode method_2_code 102 = .ok (.iload 6, 2) := by decide +kernel
theorem d1_104 : decode method_2_code 104 = .ok (.castore, 1) := by decide +kernel
theorem d1_105 : decode method_2_code 105 = .ok (.invokespecial 9, 3) := by decide +kernel
theorem d1_108 : decode method_2_code 108 = .ok (.areturn, 1) := by decide +kernel
def Q1 (Z : State) (h0 : Heap) (n0 : Nat) (v : Option Value) (h : Heap) (L : List Loc) : Prop := ∃ r : Value, v = some r ∧ Fr n0 L ∧ Keep h0 h [] ∧ (r = .null ∨ ∃ b, r = .ref b ∧ Exa Z h b "java/lang/String")
set_option maxRecDepth 65536 in
set_option maxHeartbeats 40000000 in
theorem rm1 (l : Launch) (Z : State) (a0 : Array Value) (hw : ∀ d ∈ tables_1, d.before a0 Z = true) (ws : List Jvm.Cond) (p1 : Int32) (p2 : Int32) (p3 : Int32) (p4 : Int32) (G1 : Int32) (h0 : Heap) (n0 : Nat) (Z0 : n0 ≤ h0.size) (hsel : ¬ (p1 = (1 : Int32))) (O2 : Sta Z h0 "java/lang/String" "COMPACT_STRINGS" "Z" (.int G1)) (P5 : ¬ (G1 = (0 : Int32))) :
    MetFree l (⟨"com/example/haulway/haulway/bridge/CallerDepositorPinLaw", "draw", "(IIII)Ljava/lang/String;"⟩ : MethodName) (head1 (Jvm.Cond.code (⟨"com/example/haulway/haulway/bridge/CallerDepositorPinLaw", "draw", "(IIII)Ljava/lang/String;"⟩ : MethodName) method_2_code 7 (some (.object "java/lang/String")) :: ws) ({ frames := 4, cells := 3, slots := 12, locals := 75 } : Room)) (fun aa_ U => aa_ = #[(.int p1), (.int p2), (.int p3), (.int p4)] ∧ Z.Warmed39 U.vm ∧ U.heap = h0) (fun _ _ _ _ _ => True) (fun _ U o U' => ∃ v_ L_, o = .returned v_ ∧ Q1 Z  h0 n0 v_ U'.heap L_ ∧ FrameEnd U o U' L_ ({ frames := 4, cells := 3, slots := 12, locals := 75 } : Room).cells ({ frames := 4, cells := 3, slots := 12, locals := 75 } : Room).slots) := by
  refine MetFree.of_bodySF (plainFor_of_name pn_1) hisR ?_
  intro p e s m args below meth c s₁ Bd hml0 hP hK
  obtain ⟨rfl, hZ, hh⟩ := hP
  have hx := Bd.exec
  have hby := Bd.bytes
  have hml : c.maxLocals = 7 := hml0
  have hown : s.vm.findClass "com/example/haulway/haulway/bridge/CallerDepositorPinLaw" = some m.cls := findClass_of_methodNamed Bd.named
  have hnm := (name_of_methodNamed Bd.named Bd.method).1
  have X0 : Stand p l e ({ frames := 4, cells := 3, slots := 12, locals := 75 } : Room) s m #[(.int p1), (.int p2), (.int p3), (.int p4)] below meth c s₁ [] 0 0 := Stand.of_body Bd
  have e0 : s₁.heap = h0 := by rw [← hh, Bd.state]; rfl
  have N0 := Fr.nil n0
  have pre0 : ∀ t, Steps p.tables e below (s₁.setTop (mkF m 0 #[.val (.int p1), .val (.int p2), .val (.int p3), .val (.int p4), .unset, .unset, .unset] [])) t → Steps p.tables e below (s₁.setTop (entryFrame m #[(.int p1), (.int p2), (.int p3), (.int p4)] 7)) t := fun t k_ => castTop (ef_1 m p1 p2 p3 p4) k_
  have pre1 : ∀ t, Steps p.tables e below (s₁.setTop (mkF m 24 #[.val (.int p1), .val (.int p2), .val (.int p3), .val (.int p4), .val (.int ((p2 &&& (255 : Int32)).toUInt32.toUInt16.toUInt32.toInt32)), .val (.int ((p3 &&& (255 : Int32)).toUInt32.toUInt16.toUInt32.toInt32)), .val (.int ((p4 &&& (255 : Int32)).toUInt32.toUInt16.toUInt32.toInt32))] [])) t → Steps p.tables e below _ t := fun t kt => pre0 t (by
    show Steps p.tables e below (s₁.setTop (mkF m 0 #[.val (.int p1), .val (.int p2), .val (.int p3), .val (.int p4), .unset, .unset, .unset] [])) _
    refine XS.iloadN X0.here hx rfl (hb hby d1_0) rfl ?_
    show Steps p.tables e below (s₁.setTop (mkF m 1 #[.val (.int p1), .val (.int p2), .val (.int p3), .val (.int p4), .unset, .unset, .unset] [(.int p2)])) _
    refine XS.sipush X0.here hx rfl (hb hby d1_1) ?_
    show Steps p.tables e below (s₁.setTop (mkF m 4 #[.val (.int p1), .val (.int p2), .val (.int p3), .val (.int p4), .unset, .unset, .unset] [(.int (255 : Int32)), (.int p2)])) _
    refine XS.iand X0.here hx rfl (hb hby d1_4) rfl ?_
    show Steps p.tables e below (s₁.setTop (mkF m 5 #[.val (.int p1), .val (.int p2), .val (.int p3), .val (.int p4), .unset, .unset, .unset] [(.int (p2 &&& (255 : Int32)))])) _
    refine XS.i2c X0.here hx rfl (hb hby d1_5) rfl ?_
    show Steps p.tables e below (s₁.setTop (mkF m 6 #[.val (.int p1), .val (.int p2), .val (.int p3), .val (.int p4), .unset, .unset, .unset] [(.int ((p2 &&& (255 : Int32)).toUInt32.toUInt16.toUInt32.toInt32))])) _
    refine XS.istore X0.here hx rfl (hb hby d1_6) rfl (l' := #[.val (.int p1), .val (.int p2), .val (.int p3), .val (.int p4), .val (.int ((p2 &&& (255 : Int32)).toUInt32.toUInt16.toUInt32.toInt32)), .unset, .unset]) rfl ?_
    show Steps p.tables e below (s₁.setTop (mkF m 8 #[.val (.int p1), .val (.int p2), .val (.int p3), .val (.int p4), .val (.int ((p2 &&& (255 : Int32)).toUInt32.toUInt16.toUInt32.toInt32)), .unset, .unset] [])) _
    refine XS.iloadN X0.here hx rfl (hb hby d1_8) rfl ?_
    show Steps p.tables e below (s₁.setTop (mkF m 9 #[.val (.int p1), .val (.int p2), .val (.int p3), .val (.int p4), .val (.int ((p2 &&& (255 : Int32)).toUInt32.toUInt16.toUInt32.toInt32)), .unset, .unset] [(.int p3)])) _
    refine XS.sipush X0.here hx rfl (hb hby d1_9) ?_
    show Steps p.tables e below (s₁.setTop (mkF m 12 #[.val (.int p1), .val (.int p2), .val (.int p3), .val (.int p4), .val (.int ((p2 &&& (255 : Int32)).toUInt32.toUInt16.toUInt32.toInt32)), .unset, .unset] [(.int (255 : Int32)), (.int p3)])) _
    refine XS.iand X0.here hx rfl (hb hby d1_12) rfl ?_
    show Steps p.tables e below (s₁.setTop (mkF m 13 #[.val (.int p1), .val (.int p2), .val (.int p3), .val (.int p4), .val (.int ((p2 &&& (255 : Int32)).toUInt32.toUInt16.toUInt32.toInt32)), .unset, .unset] [(.int (p3 &&& (255 : Int32)))])) _
    refine XS.i2c X0.here hx rfl (hb hby d1_13) rfl ?_
    show Steps p.tables e below (s₁.setTop (mkF m 14 #[.val (.int p1), .val (.int p2), .val (.int p3), .val (.int p4), .val (.int ((p2 &&& (255 : Int32)).toUInt32.toUInt16.toUInt32.toInt32)), .unset, .unset] [(.int ((p3 &&& (255 : Int32)).toUInt32.toUInt16.toUInt32.toInt32))])) _
    refine XS.istore X0.here hx rfl (hb hby d1_14) rfl (l' := #[.val (.int p1), .val (.int p2), .val (.int p3), .val (.int p4), .val (.int ((p2 &&& (255 : Int32)).toUInt32.toUInt16.toUInt32.toInt32)), .val (.int ((p3 &&& (255 : Int32)).toUInt32.toUInt16.toUInt32.toInt32)), .unset]) rfl ?_
    show Steps p.tables e below (s₁.setTop (mkF m 16 #[.val (.int p1), .val (.int p2), .val (.int p3), .val (.int p4), .val (.int ((p2 &&& (255 : Int32)).toUInt32.toUInt16.toUInt32.toInt32)), .val (.int ((p3 &&& (255 : Int32)).toUInt32.toUInt16.toUInt32.toInt32)), .unset] [])) _
    refine XS.iloadN X0.here hx rfl (hb hby d1_16) rfl ?_
    show Steps p.tables e below (s₁.setTop (mkF m 17 #[.val (.int p1), .val (.int p2), .val (.int p3), .val (.int p4), .val (.int ((p2 &&& (255 : Int32)).toUInt32.toUInt16.toUInt32.toInt32)), .val (.int ((p3 &&& (255 : Int32)).toUInt32.toUInt16.toUInt32.toInt32)), .unset] [(.int p4)])) _
    refine XS.sipush X0.here hx rfl (hb hby d1_17) ?_
    show Steps p.tables e below (s₁.setTop (mkF m 20 #[.val (.int p1), .val (.int p2), .val (.int p3), .val (.int p4), .val (.int ((p2 &&& (255 : Int32)).toUInt32.toUInt16.toUInt32.toInt32)), .val (.int ((p3 &&& (255 : Int32)).toUInt32.toUInt16.toUInt32.toInt32)), .unset] [(.int (255 : Int32)), (.int p4)])) _
    refine XS.iand X0.here hx rfl (hb hby d1_20) rfl ?_
    show Steps p.tables e below (s₁.setTop (mkF m 21 #[.val (.int p1), .val (.int p2), .val (.int p3), .val (.int p4), .val (.int ((p2 &&& (255 : Int32)).toUInt32.toUInt16.toUInt32.toInt32)), .val (.int ((p3 &&& (255 : Int32)).toUInt32.toUInt16.toUInt32.toInt32)), .unset] [(.int (p4 &&& (255 : Int32)))])) _
    refine XS.i2c X0.here hx rfl (hb hby d1_21) rfl ?_
    show Steps p.tables e below (s₁.setTop (mkF m 22 #[.val (.int p1), .val (.int p2), .val (.int p3), .val (.int p4), .val (.int ((p2 &&& (255 : Int32)).toUInt32.toUInt16.toUInt32.toInt32)), .val (.int ((p3 &&& (255 : Int32)).toUInt32.toUInt16.toUInt32.toInt32)), .unset] [(.int ((p4 &&& (255 : Int32)).toUInt32.toUInt16.toUInt32.toInt32))])) _
    refine XS.istore X0.here hx rfl (hb hby d1_22) rfl (l' := #[.val (.int p1), .val (.int p2), .val (.int p3), .val (.int p4), .val (.int ((p2 &&& (255 : Int32)).toUInt32.toUInt16.toUInt32.toInt32)), .val (.int ((p3 &&& (255 : Int32)).toUInt32.toUInt16.toUInt32.toInt32)), .val (.int ((p4 &&& (255 : Int32)).toUInt32.toUInt16.toUInt32.toInt32))]) rfl ?_
    exact kt)
  obtain ⟨u0, hu0⟩ : ∃ z : Int32, z = ((p2 &&& (255 : Int32)).toUInt32.toUInt16.toUInt32.toInt32) := ⟨_, rfl⟩
  rw [← hu0] at pre1
  have su0 : ¬ ((255 : Int32) < u0) := by rw [hu0]; exact own_c8 _
  have nu0 : ¬ ((255 : Int32) < nar .char u0) := by rw [hu0]; exact own_c8n _
  obtain ⟨u1, hu1⟩ : ∃ z : Int32, z = ((p3 &&& (255 : Int32)).toUInt32.toUInt16.toUInt32.toInt32) := ⟨_, rfl⟩
  rw [← hu1] at pre1
  have su1 : ¬ ((255 : Int32) < u1) := by rw [hu1]; exact own_c8 _
  have nu1 : ¬ ((255 : Int32) < nar .char u1) := by rw [hu1]; exact own_c8n _
  obtain ⟨u2, hu2⟩ : ∃ z : Int32, z = ((p4 &&& (255 : Int32)).toUInt32.toUInt16.toUInt32.toInt32) := ⟨_, rfl⟩
  rw [← hu2] at pre1
  have su2 : ¬ ((255 : Int32) < u2) := by rw [hu2]; exact own_c8 _
  have nu2 : ¬ ((255 : Int32) < nar .char u2) := by rw [hu2]; exact own_c8n _
  have pre2 : ∀ t, Steps p.tables e below (s₁.setTop (mkF m 25 #[.val (.int p1), .val (.int p2), .val (.int p3), .val (.int p4), .val (.int u0), .val (.int u1), .val (.int u2)] [(.int p1)])) t → Steps p.tables e below _ t := fun t kt => pre1 t (by
    show Steps p.tables e below (s₁.setTop (mkF m 24 #[.val (.int p1), .val (.int p2), .val (.int p3), .val (.int p4), .val (.int u0), .val (.int u1), .val (.int u2)] [])) _
    refine XS.iloadN X0.here hx rfl (hb hby d1_24) rfl ?_
    exact kt)
  by_cases hc25 : p1 = (0 : Int32)
  · obtain ⟨fs, hr, hrun, hended, hW, hsame⟩ := X0.leave (v := some .null) (fun h => by rw [Bd.returns] at h; cases h)
    refine ⟨_, _, pre2 _ ?_, hrun, hended, _, _, rfl, ?_, ⟨_, rfl⟩, hW, hsame.mono (by decide) (by decide)⟩
    · show Steps p.tables e below (s₁.setTop (mkF m 25 #[.val (.int p1), .val (.int p2), .val (.int p3), .val (.int p4), .val (.int u0), .val (.int u1), .val (.int u2)] [(.int p1)])) _
      refine XS.ifNo X0.here hx rfl (hb hby d1_25) rfl ((if0 _ _).trans (teq hc25).2) ?_
      show Steps p.tables e below (s₁.setTop (mkF m 28 #[.val (.int p1), .val (.int p2), .val (.int p3), .val (.int p4), .val (.int u0), .val (.int u1), .val (.int u2)] [])) _
      refine XS.aconstNull X0.here hx rfl (hb hby d1_28) ?_
      show Steps p.tables e below (s₁.setTop (mkF m 29 #[.val (.int p1), .val (.int p2), .val (.int p3), .val (.int p4), .val (.int u0), .val (.int u1), .val (.int u2)] [.null])) _
      jvm_step X0.here [X0.here.top, hx, (hb hby d1_29), X0.method', Bd.returns, Value.isRef, FieldType.isReference]
      first | (intro acts; rw [hr _ acts rfl rfl rfl]) | rw [hr _ _ rfl rfl rfl]
      exact Steps.refl _
    · show Q1 Z  h0 n0 _ s₁.heap _
      rw [e0]
      exact ⟨.null, rfl, N0, (Keep.refl h0 []), Or.inl rfl⟩
  · have pre3 : ∀ t, Steps p.tables e below (s₁.setTop (mkF m 48 #[.val (.int p1), .val (.int p2), .val (.int p3), .val (.int p4), .val (.int u0), .val (.int u1), .val (.int u2)] [(.int (2 : Int32)), (.int p1)])) t → Steps p.tables e below _ t := fun t kt => pre2 t (by
      show Steps p.tables e below (s₁.setTop (mkF m 25 #[.val (.int p1), .val (.int p2), .val (.int p3), .val (.int p4), .val (.int u0), .val (.int u1), .val (.int u2)] [(.int p1)])) _
      refine XS.ifYes X0.here hx rfl (pc0 := 25) (pc' := 30) rfl (hb hby d1_25) rfl ((if0 _ _).trans (feq hc25).2) (by decide) (by decide) ?_
      show Steps p.tables e below (s₁.setTop (mkF m 30 #[.val (.int p1), .val (.int p2), .val (.int p3), .val (.int p4), .val (.int u0), .val (.int u1), .val (.int u2)] [])) _
      refine XS.iloadN X0.here hx rfl (hb hby d1_30) rfl ?_
      show Steps p.tables e below (s₁.setTop (mkF m 31 #[.val (.int p1), .val (.int p2), .val (.int p3), .val (.int p4), .val (.int u0), .val (.int u1), .val (.int u2)] [(.int p1)])) _
      refine XS.iconst X0.here hx rfl (hb hby d1_31) ?_
      have hc32 : ¬ (p1 = (1 : Int32)) := hsel
      show Steps p.tables e below (s₁.setTop (mkF m 32 #[.val (.int p1), .val (.int p2), .val (.int p3), .val (.int p4), .val (.int u0), .val (.int u1), .val (.int u2)] [(.int (1 : Int32)), (.int p1)])) _
      refine XS.icmpYes X0.here hx rfl (pc0 := 32) (pc' := 46) rfl (hb hby d1_32) rfl (feq hc32).2 (by decide) (by decide) ?_
      show Steps p.tables e below (s₁.setTop (mkF m 46 #[.val (.int p1), .val (.int p2), .val (.int p3), .val (.int p4), .val (.int u0), .val (.int u1), .val (.int u2)] [])) _
      refine XS.iloadN X0.here hx rfl (hb hby d1_46) rfl ?_
      show Steps p.tables e below (s₁.setTop (mkF m 47 #[.val (.int p1), .val (.int p2), .val (.int p3), .val (.int p4), .val (.int u0), .val (.int u1), .val (.int u2)] [(.int p1)])) _
      refine XS.iconst X0.here hx rfl (hb hby d1_47) ?_
      exact kt)
    by_cases hc48 : p1 = (2 : Int32)
    · have pre4 : ∀ t, Steps p.tables e below (s₁.setTop (mkF m 53 #[.val (.int p1), .val (.int p2), .val (.int p3), .val (.int p4), .val (.int u0), .val (.int u1), .val (.int u2)] [(.int u0)])) t → Steps p.tables e below _ t := fun t kt => pre3 t (by
        show Steps p.tables e below (s₁.setTop (mkF m 48 #[.val (.int p1), .val (.int p2), .val (.int p3), .val (.int p4), .val (.int u0), .val (.int u1), .val (.int u2)] [(.int (2 : Int32)), (.int p1)])) _
        refine XS.icmpNo X0.here hx rfl (hb hby d1_48) rfl (teq hc48).2 ?_
        show Steps p.tables e below (s₁.setTop (mkF m 51 #[.val (.int p1), .val (.int p2), .val (.int p3), .val (.int p4), .val (.int u0), .val (.int u1), .val (.int u2)] [])) _
        refine XS.iload X0.here hx rfl (hb hby d1_51) rfl ?_
        exact kt)
      obtain ⟨_, _, ⟨T5, L5, k5, n5⟩, -, X5, ⟨Lc5, hQ5, l5, y5, z5⟩, st5⟩ := Jvm.LawKit.callS X0 hx (y := (⟨"java/lang/String", "valueOf", "(C)Ljava/lang/String;"⟩ : MethodName)) hown (mvT hZ (hw _ (List.mem_of_getElem? (i := 60) rfl))) (mvT hZ (hw _ (List.mem_of_getElem? (i := 61) rfl))) (mvT hZ (hw _ (List.mem_of_getElem? (i := 29) rfl))) (mvT hZ (hw _ (List.mem_of_getElem? (i := 62) rfl))) (by decide) (backOf (W := 0) (rm12 l Z a0 hw [] u0 G1 h0 n0 Z0 su0 O2 P5) hZ (hw _ (List.mem_of_getElem? (i := 62) rfl)) (hw _ (List.mem_of_getElem? (i := 29) rfl)) (by decide) (by decide)) (g := (mkF m 53 #[.val (.int p1), .val (.int p2), .val (.int p3), .val (.int p4), .val (.int u0), .val (.int u1), .val (.int u2)] [(.int u0)])) rfl (by rw [hml]; rfl) (argsL := [(.int u0)]) (rest := []) (lenOf pd_8 rfl) rfl (by show 2 * 0 + _ ≤ _; exact Nat.le_of_eq rfl) (hb hby d1_53) (fun _ _ => ⟨rfl, e0, (by decide : 0 + 2 ≤ _), (by decide : 0 + 5 ≤ _)⟩)
      dsimp only [Pt.U, Pt.locs, Pt.cells, Pt.slots] at X5 l5 y5 z5 st5 hQ5
      subst l5 y5 z5
      obtain ⟨bv, rfl, N5q, Kv, szv, Ev⟩ := hQ5
      have N5 := Fr.app N0 N5q
      obtain ⟨fs, hr, hrun, hended, hW, hsame⟩ := X5.leave (v := some (.ref bv)) (fun h => by rw [Bd.returns] at h; cases h)
      refine ⟨_, _, pre4 _ ?_, hrun, hended, _, _, rfl, ?_, ⟨_, rfl⟩, hW, hsame.mono (by decide) (by decide)⟩
      · show Steps p.tables e below (s₁.setTop (mkF m 53 #[.val (.int p1), .val (.int p2), .val (.int p3), .val (.int p4), .val (.int u0), .val (.int u1), .val (.int u2)] [(.int u0)])) _
        refine st5 _ ?_
        show Steps p.tables e below (T5.setTop (mkF m 56 #[.val (.int p1), .val (.int p2), .val (.int p3), .val (.int p4), .val (.int u0), .val (.int u1), .val (.int u2)] [(.ref bv)])) _
        jvm_step X5.here [X5.here.top, hx, (hb hby d1_56), X5.method', Bd.returns, Value.isRef, FieldType.isReference]
        first | (intro acts; rw [hr _ acts rfl rfl rfl]) | rw [hr _ _ rfl rfl rfl]
        exact Steps.refl _
      · exact ⟨.ref bv, rfl, N5, Kv, Or.inr ⟨bv, rfl, Ev⟩⟩
    · have pre6 : ∀ t, Steps p.tables e below (s₁.setTop (mkF m 59 #[.val (.int p1), .val (.int p2), .val (.int p3), .val (.int p4), .val (.int u0), .val (.int u1), .val (.int u2)] [(.int (3 : Int32)), (.int p1)])) t → Steps p.tables e below _ t := fun t kt => pre3 t (by
        show Steps p.tables e below (s₁.setTop (mkF m 48 #[.val (.int p1), .val (.int p2), .val (.int p3), .val (.int p4), .val (.int u0), .val (.int u1), .val (.int u2)] [(.int (2 : Int32)), (.int p1)])) _
        refine XS.icmpYes X0.here hx rfl (pc0 := 48) (pc' := 57) rfl (hb hby d1_48) rfl (feq hc48).2 (by decide) (by decide) ?_
        show Steps p.tables e below (s₁.setTop (mkF m 57 #[.val (.int p1), .val (.int p2), .val (.int p3), .val (.int p4), .val (.int u0), .val (.int u1), .val (.int u2)] [])) _
        refine XS.iloadN X0.here hx rfl (hb hby d1_57) rfl ?_
        show Steps p.tables e below (s₁.setTop (mkF m 58 #[.val (.int p1), .val (.int p2), .val (.int p3), .val (.int p4), .val (.int u0), .val (.int u1), .val (.int u2)] [(.int p1)])) _
        refine XS.iconst X0.here hx rfl (hb hby d1_58) ?_
        exact kt)
      by_cases hc59 : p1 = (3 : Int32)
      · have pre7 : ∀ t, Steps p.tables e below (s₁.setTop (mkF m 62 #[.val (.int p1), .val (.int p2), .val (.int p3), .val (.int p4), .val (.int u0), .val (.int u1), .val (.int u2)] [])) t → Steps p.tables e below _ t := fun t kt => pre6 t (by
          show Steps p.tables e below (s₁.setTop (mkF m 59 #[.val (.int p1), .val (.int p2), .val (.int p3), .val (.int p4), .val (.int u0), .val (.int u1), .val (.int u2)] [(.int (3 : Int32)), (.int p1)])) _
          refine XS.icmpNo X0.here hx rfl (hb hby d1_59) rfl (teq hc59).2 ?_
          exact kt)
        obtain ⟨T8, h8, X8, e8, E8, A8, D8, -, st8⟩ := newO X0 hx hZ hown (hw _ (List.mem_of_getElem? (i := 27) rfl)) (hw _ (List.mem_of_getElem? (i := 28) rfl)) (hw _ (List.mem_of_getElem? (i := 29) rfl)) e0 (g := (mkF m 62 #[.val (.int p1), .val (.int p2), .val (.int p3), .val (.int p4), .val (.int u0), .val (.int u1), .val (.int u2)] [])) rfl (hb hby d1_62) (by decide) (by decide)
        obtain ⟨b8, gb8⟩ : ∃ z, z = h0.size := ⟨_, rfl⟩
        rw [← gb8] at A8 D8 st8
        have g_b8 : n0 ≤ b8 := Nat.le_trans Z0 (Nat.le_of_eq gb8.symm)
        have Zs8 : n0 ≤ h8.size := Nat.le_trans Z0 E8.1
        have sz_b8 : h0.size ≤ b8 := Nat.le_trans (Keep.refl h0 []).1 (Nat.le_of_eq gb8.symm)
        have Kp8 : Keep h0 h8 [] := (Keep.refl h0 []).ext E8
        have Eas := A8
        have Fvs : Fld Z h8 b8 "java/lang/String" "value" "[B" .null := D8 (Or.inr (hw _ (List.mem_of_getElem? (i := 54) rfl))) (ty := (.array .byte)) (by decide)
        have Fcs : Fld Z h8 b8 "java/lang/String" "coder" "B" (.int (0 : Int32)) := D8 (Or.inr (hw _ (List.mem_of_getElem? (i := 52) rfl))) (ty := .byte) (by decide)
        have pre9 : ∀ t, Steps p.tables e below (T8.setTop (mkF m 67 #[.val (.int p1), .val (.int p2), .val (.int p3), .val (.int p4), .val (.int u0), .val (.int u1), .val (.int u2)] [(.int (2 : Int32)), (.ref b8), (.ref b8)])) t → Steps p.tables e below _ t := fun t kt => pre7 t (by
          show Steps p.tables e below (s₁.setTop (mkF m 62 #[.val (.int p1), .val (.int p2), .val (.int p3), .val (.int p4), .val (.int u0), .val (.int u1), .val (.int u2)] [])) _
          refine st8 _ ?_
          show Steps p.tables e below (T8.setTop (mkF m 65 #[.val (.int p1), .val (.int p2), .val (.int p3), .val (.int p4), .val (.int u0), .val (.int u1), .val (.int u2)] [(.ref b8)])) _
          refine XS.dup X8.here hx rfl (hb hby d1_65) rfl rfl ?_
          show Steps p.tables e below (T8.setTop (mkF m 66 #[.val (.int p1), .val (.int p2), .val (.int p3), .val (.int p4), .val (.int u0), .val (.int u1), .val (.int u2)] [(.ref b8), (.ref b8)])) _
          refine XS.iconst X8.here hx rfl (hb hby d1_66) ?_
          exact kt)
        obtain ⟨T10, h10, k10, X10, e10, E10, A10, st10⟩ := newP X8 hx hZ (hw _ (List.mem_of_getElem? (i := 30) rfl)) e8 (g := (mkF m 67 #[.val (.int p1), .val (.int p2), .val (.int p3), .val (.int p4), .val (.int u0), .val (.int u1), .val (.int u2)] [(.int (2 : Int32)), (.ref b8), (.ref b8)])) rfl (hb hby d1_67) rfl (by decide) (cap := 2) (by decide) (by decide) (by decide) (by decide)
        obtain ⟨b10, gb10⟩ : ∃ z, z = h8.size := ⟨_, rfl⟩
        rw [← gb10] at A10 st10
        have g_b10 : n0 ≤ b10 := Nat.le_trans Zs8 (Nat.le_of_eq gb10.symm)
        have Zs10 : n0 ≤ h10.size := Nat.le_trans Zs8 E10.1
        have sz_b10 : h0.size ≤ b10 := Nat.le_trans Kp8.1 (Nat.le_of_eq gb10.symm)
        have Kp10 : Keep h0 h10 [] := Kp8.ext E10
        have nes : b8 ≠ b10 := by have q := Eas.lt; rw [gb10]; exact Nat.ne_of_lt q
        have CA0 : own_A Z h10 b10 .char 2 (fun _ => 0) := own_A_new A10 rfl rfl
        have Ea0 := Eas.ext E10
        have Fv0 := Fvs.ext E10
        have Fc0 := Fcs.ext E10
        have pre11 : ∀ t, Steps p.tables e below (T10.setTop (mkF m 73 #[.val (.int p1), .val (.int p2), .val (.int p3), .val (.int p4), .val (.int u0), .val (.int u1), .val (.int u2)] [(.int u0), (.int (0 : Int32)), (.ref b10), (.ref b10), (.ref b8), (.ref b8)])) t → Steps p.tables e below _ t := fun t kt => pre9 t (by
          show Steps p.tables e below (T8.setTop (mkF m 67 #[.val (.int p1), .val (.int p2), .val (.int p3), .val (.int p4), .val (.int u0), .val (.int u1), .val (.int u2)] [(.int (2 : Int32)), (.ref b8), (.ref b8)])) _
          refine st10 _ ?_
          show Steps p.tables e below (T10.setTop (mkF m 69 #[.val (.int p1), .val (.int p2), .val (.int p3), .val (.int p4), .val (.int u0), .val (.int u1), .val (.int u2)] [(.ref b10), (.ref b8), (.ref b8)])) _
          refine XS.dup X10.here hx rfl (hb hby d1_69) rfl rfl ?_
          show Steps p.tables e below (T10.setTop (mkF m 70 #[.val (.int p1), .val (.int p2), .val (.int p3), .val (.int p4), .val (.int u0), .val (.int u1), .val (.int u2)] [(.ref b10), (.ref b10), (.ref b8), (.ref b8)])) _
          refine XS.iconst X10.here hx rfl (hb hby d1_70) ?_
          show Steps p.tables e below (T10.setTop (mkF m 71 #[.val (.int p1), .val (.int p2), .val (.int p3), .val (.int p4), .val (.int u0), .val (.int u1), .val (.int u2)] [(.int (0 : Int32)), (.ref b10), (.ref b10), (.ref b8), (.ref b8)])) _
          refine XS.iload X10.here hx rfl (hb hby d1_71) rfl ?_
          exact kt)
        obtain ⟨cl_0, Ar_0, Sz_0, -⟩ := id CA0
        obtain ⟨T12, h12, X12, e12, W12, st12⟩ := stC X10 hx hZ e10 Ar_0 (j := (0 : Int32)) (within (c := 0) rfl (by rw [Sz_0]; decide) (by rw [Sz_0]; decide)) (g := (mkF m 73 #[.val (.int p1), .val (.int p2), .val (.int p3), .val (.int p4), .val (.int u0), .val (.int u1), .val (.int u2)] [(.int u0), (.int (0 : Int32)), (.ref b10), (.ref b10), (.ref b8), (.ref b8)])) rfl rfl (hb hby d1_73)
        have N12 := Fr.snoc X12 N0 g_b10
        have Zs12 : n0 ≤ h12.size := Nat.le_trans Zs10 (Nat.le_of_eq W12.size.symm)
        have Kp12 : Keep h0 h12 [] := Kp10.wr W12 (Or.inr sz_b10)
        have CA1 := own_A_set CA0 (show Wr _ _ _ 0 (.int (nar .char u0)) from W12)
        have Ea1 := Ea0.wr W12
        have Fv1 := Fv0.other W12 (Or.inl nes)
        have Fc1 := Fc0.other W12 (Or.inl nes)
        have pre13 : ∀ t, Steps p.tables e below (T12.setTop (mkF m 78 #[.val (.int p1), .val (.int p2), .val (.int p3), .val (.int p4), .val (.int u0), .val (.int u1), .val (.int u2)] [(.int u1), (.int (1 : Int32)), (.ref b10), (.ref b10), (.ref b8), (.ref b8)])) t → Steps p.tables e below _ t := fun t kt => pre11 t (by
          show Steps p.tables e below (T10.setTop (mkF m 73 #[.val (.int p1), .val (.int p2), .val (.int p3), .val (.int p4), .val (.int u0), .val (.int u1), .val (.int u2)] [(.int u0), (.int (0 : Int32)), (.ref b10), (.ref b10), (.ref b8), (.ref b8)])) _
          refine st12 _ ?_
          show Steps p.tables e below (T12.setTop (mkF m 74 #[.val (.int p1), .val (.int p2), .val (.int p3), .val (.int p4), .val (.int u0), .val (.int u1), .val (.int u2)] [(.ref b10), (.ref b8), (.ref b8)])) _
          refine XS.dup X12.here hx rfl (hb hby d1_74) rfl rfl ?_
          show Steps p.tables e below (T12.setTop (mkF m 75 #[.val (.int p1), .val (.int p2), .val (.int p3), .val (.int p4), .val (.int u0), .val (.int u1), .val (.int u2)] [(.ref b10), (.ref b10), (.ref b8), (.ref b8)])) _
          refine XS.iconst X12.here hx rfl (hb hby d1_75) ?_
          show Steps p.tables e below (T12.setTop (mkF m 76 #[.val (.int p1), .val (.int p2), .val (.int p3), .val (.int p4), .val (.int u0), .val (.int u1), .val (.int u2)] [(.int (1 : Int32)), (.ref b10), (.ref b10), (.ref b8), (.ref b8)])) _
          refine XS.iload X12.here hx rfl (hb hby d1_76) rfl ?_
          exact kt)
        obtain ⟨cl_1, Ar_1, Sz_1, -⟩ := id CA1
        obtain ⟨T14, h14, X14, e14, W14, st14⟩ := stC X12 hx hZ e12 Ar_1 (j := (1 : Int32)) (within (c := 1) rfl (by rw [Sz_1]; decide) (by rw [Sz_1]; decide)) (g := (mkF m 78 #[.val (.int p1), .val (.int p2), .val (.int p3), .val (.int p4), .val (.int u0), .val (.int u1), .val (.int u2)] [(.int u1), (.int (1 : Int32)), (.ref b10), (.ref b10), (.ref b8), (.ref b8)])) rfl rfl (hb hby d1_78)
        have N14 := Fr.snoc X14 N12 g_b10
        have Zs14 : n0 ≤ h14.size := Nat.le_trans Zs12 (Nat.le_of_eq W14.size.symm)
        have Kp14 : Keep h0 h14 [] := Kp12.wr W14 (Or.inr sz_b10)
        have CA2 := own_A_set CA1 (show Wr _ _ _ 1 (.int (nar .char u1)) from W14)
        have Ea2 := Ea1.wr W14
        have Fv2 := Fv1.other W14 (Or.inl nes)
        have Fc2 := Fc1.other W14 (Or.inl nes)
        have hsf : ∀ j, j < 2 → ¬ ((255 : Int32) < (upd (upd (fun _ => 0) 0 (nar .char u0)) 1 (nar .char u1)) j) := by
          intro j hj
          have hj' : j = 0 ∨ j = 1 := by omega
          rcases hj' with rfl | rfl
          · exact nu0
          · exact nu1
        have pre15 : ∀ t, Steps p.tables e below (T14.setTop (mkF m 79 #[.val (.int p1), .val (.int p2), .val (.int p3), .val (.int p4), .val (.int u0), .val (.int u1), .val (.int u2)] [(.ref b10), (.ref b8), (.ref b8)])) t → Steps p.tables e below _ t := fun t kt => pre13 t (by
          show Steps p.tables e below (T12.setTop (mkF m 78 #[.val (.int p1), .val (.int p2), .val (.int p3), .val (.int p4), .val (.int u0), .val (.int u1), .val (.int u2)] [(.int u1), (.int (1 : Int32)), (.ref b10), (.ref b10), (.ref b8), (.ref b8)])) _
          refine st14 _ ?_
          exact kt)
        obtain ⟨_, _, ⟨T16, L16, k16, n16⟩, -, X16, ⟨Lc16, hQ16, l16, y16, z16⟩, st16⟩ := X14.specialBack hx (y := (⟨"java/lang/String", "<init>", "([C)V"⟩ : MethodName)) rfl hown (mvT hZ (hw _ (List.mem_of_getElem? (i := 31) rfl))) (mvT hZ (hw _ (List.mem_of_getElem? (i := 32) rfl))) (mvT hZ (hw _ (List.mem_of_getElem? (i := 33) rfl))) (by decide) (backOf (W := 1) (rm6n2 l Z a0 hw [] b8 b10 (upd (upd (fun _ => 0) 0 (nar .char u0)) 1 (nar .char u1)) G1 h14 n0 Zs14 Ea2 Fv2 Fc2 g_b8 CA2 hsf (own_Sta_keep O2 Kp14) P5) hZ (hw _ (List.mem_of_getElem? (i := 33) rfl)) (hw _ (List.mem_of_getElem? (i := 29) rfl)) (by decide) (by decide)) (g := (mkF m 79 #[.val (.int p1), .val (.int p2), .val (.int p3), .val (.int p4), .val (.int u0), .val (.int u1), .val (.int u2)] [(.ref b10), (.ref b8), (.ref b8)])) rfl (by rw [hml]; rfl) (Steps.refl _) (a := b8) (argsL := [(.ref b10)]) (rest := [(.ref b8)]) (lenOf pd_9 rfl) rfl (by show 2 * 0 + _ ≤ _; exact Nat.le_of_eq rfl) (hb hby d1_79) (fun _ _ => ⟨rfl, e14, (by decide : 2 + 1 ≤ _), (by decide : 6 + 2 ≤ _)⟩)
        dsimp only [Pt.U, Pt.locs, Pt.cells, Pt.slots] at X16 l16 y16 z16 st16 hQ16
        subst l16 y16 z16
        obtain ⟨rfl, N16q, Kq, Eq⟩ := hQ16
        have N16 := Fr.app N14 N16q
        have Ke : Keep h0 T16.heap [] := Kp14.trans Kq (allS (Or.inr sz_b8) all0)
        obtain ⟨fs, hr, hrun, hended, hW, hsame⟩ := X16.leave (v := some (.ref b8)) (fun h => by rw [Bd.returns] at h; cases h)
        refine ⟨_, _, pre15 _ ?_, hrun, hended, _, _, rfl, ?_, ⟨_, rfl⟩, hW, hsame.mono (by decide) (by decide)⟩
        · show Steps p.tables e below (T14.setTop (mkF m 79 #[.val (.int p1), .val (.int p2), .val (.int p3), .val (.int p4), .val (.int u0), .val (.int u1), .val (.int u2)] [(.ref b10), (.ref b8), (.ref b8)])) _
          refine st16.trans ?_
          show Steps p.tables e below (T16.setTop (mkF m 82 #[.val (.int p1), .val (.int p2), .val (.int p3), .val (.int p4), .val (.int u0), .val (.int u1), .val (.int u2)] [(.ref b8)])) _
          jvm_step X16.here [X16.here.top, hx, (hb hby d1_82), X16.method', Bd.returns, Value.isRef, FieldType.isReference]
          first | (intro acts; rw [hr _ acts rfl rfl rfl]) | rw [hr _ _ rfl rfl rfl]
          exact Steps.refl _
        · exact ⟨.ref b8, rfl, N16, Ke, Or.inr ⟨b8, rfl, Eq⟩⟩
      · have pre17 : ∀ t, Steps p.tables e below (s₁.setTop (mkF m 83 #[.val (.int p1), .val (.int p2), .val (.int p3), .val (.int p4), .val (.int u0), .val (.int u1), .val (.int u2)] [])) t → Steps p.tables e below _ t := fun t kt => pre6 t (by
          show Steps p.tables e below (s₁.setTop (mkF m 59 #[.val (.int p1), .val (.int p2), .val (.int p3), .val (.int p4), .val (.int u0), .val (.int u1), .val (.int u2)] [(.int (3 : Int32)), (.int p1)])) _
          refine XS.icmpYes X0.here hx rfl (pc0 := 59) (pc' := 83) rfl (hb hby d1_59) rfl (feq hc59).2 (by decide) (by decide) ?_
          exact kt)
        obtain ⟨T18, h18, X18, e18, E18, A18, D18, -, st18⟩ := newO X0 hx hZ hown (hw _ (List.mem_of_getElem? (i := 27) rfl)) (hw _ (List.mem_of_getElem? (i := 28) rfl)) (hw _ (List.mem_of_getElem? (i := 29) rfl)) e0 (g := (mkF m 83 #[.val (.int p1), .val (.int p2), .val (.int p3), .val (.int p4), .val (.int u0), .val (.int u1), .val (.int u2)] [])) rfl (hb hby d1_83) (by decide) (by decide)
        obtain ⟨b18, gb18⟩ : ∃ z, z = h0.size := ⟨_, rfl⟩
        rw [← gb18] at A18 D18 st18
        have g_b18 : n0 ≤ b18 := Nat.le_trans Z0 (Nat.le_of_eq gb18.symm)
        have Zs18 : n0 ≤ h18.size := Nat.le_trans Z0 E18.1
        have sz_b18 : h0.size ≤ b18 := Nat.le_trans (Keep.refl h0 []).1 (Nat.le_of_eq gb18.symm)
        have Kp18 : Keep h0 h18 [] := (Keep.refl h0 []).ext E18
        have Eas := A18
        have Fvs : Fld Z h18 b18 "java/lang/String" "value" "[B" .null := D18 (Or.inr (hw _ (List.mem_of_getElem? (i := 54) rfl))) (ty := (.array .byte)) (by decide)
        have Fcs : Fld Z h18 b18 "java/lang/String" "coder" "B" (.int (0 : Int32)) := D18 (Or.inr (hw _ (List.mem_of_getElem? (i := 52) rfl))) (ty := .byte) (by decide)
        have pre19 : ∀ t, Steps p.tables e below (T18.setTop (mkF m 88 #[.val (.int p1), .val (.int p2), .val (.int p3), .val (.int p4), .val (.int u0), .val (.int u1), .val (.int u2)] [(.int (3 : Int32)), (.ref b18), (.ref b18)])) t → Steps p.tables e below _ t := fun t kt => pre17 t (by
          show Steps p.tables e below (s₁.setTop (mkF m 83 #[.val (.int p1), .val (.int p2), .val (.int p3), .val (.int p4), .val (.int u0), .val (.int u1), .val (.int u2)] [])) _
          refine st18 _ ?_
          show Steps p.tables e below (T18.setTop (mkF m 86 #[.val (.int p1), .val (.int p2), .val (.int p3), .val (.int p4), .val (.int u0), .val (.int u1), .val (.int u2)] [(.ref b18)])) _
          refine XS.dup X18.here hx rfl (hb hby d1_86) rfl rfl ?_
          show Steps p.tables e below (T18.setTop (mkF m 87 #[.val (.int p1), .val (.int p2), .val (.int p3), .val (.int p4), .val (.int u0), .val (.int u1), .val (.int u2)] [(.ref b18), (.ref b18)])) _
          refine XS.iconst X18.here hx rfl (hb hby d1_87) ?_
          exact kt)
        obtain ⟨T20, h20, k20, X20, e20, E20, A20, st20⟩ := newP X18 hx hZ (hw _ (List.mem_of_getElem? (i := 30) rfl)) e18 (g := (mkF m 88 #[.val (.int p1), .val (.int p2), .val (.int p3), .val (.int p4), .val (.int u0), .val (.int u1), .val (.int u2)] [(.int (3 : Int32)), (.ref b18), (.ref b18)])) rfl (hb hby d1_88) rfl (by decide) (cap := 3) (by decide) (by decide) (by decide) (by decide)
        obtain ⟨b20, gb20⟩ : ∃ z, z = h18.size := ⟨_, rfl⟩
        rw [← gb20] at A20 st20
        have g_b20 : n0 ≤ b20 := Nat.le_trans Zs18 (Nat.le_of_eq gb20.symm)
        have Zs20 : n0 ≤ h20.size := Nat.le_trans Zs18 E20.1
        have sz_b20 : h0.size ≤ b20 := Nat.le_trans Kp18.1 (Nat.le_of_eq gb20.symm)
        have Kp20 : Keep h0 h20 [] := Kp18.ext E20
        have nes : b18 ≠ b20 := by have q := Eas.lt; rw [gb20]; exact Nat.ne_of_lt q
        have CA0 : own_A Z h20 b20 .char 3 (fun _ => 0) := own_A_new A20 rfl rfl
        have Ea0 := Eas.ext E20
        have Fv0 := Fvs.ext E20
        have Fc0 := Fcs.ext E20
        have pre21 : ∀ t, Steps p.tables e below (T20.setTop (mkF m 94 #[.val (.int p1), .val (.int p2), .val (.int p3), .val (.int p4), .val (.int u0), .val (.int u1), .val (.int u2)] [(.int u0), (.int (0 : Int32)), (.ref b20), (.ref b20), (.ref b18), (.ref b18)])) t → Steps p.tables e below _ t := fun t kt => pre19 t (by
          show Steps p.tables e below (T18.setTop (mkF m 88 #[.val (.int p1), .val (.int p2), .val (.int p3), .val (.int p4), .val (.int u0), .val (.int u1), .val (.int u2)] [(.int (3 : Int32)), (.ref b18), (.ref b18)])) _
          refine st20 _ ?_
          show Steps p.tables e below (T20.setTop (mkF m 90 #[.val (.int p1), .val (.int p2), .val (.int p3), .val (.int p4), .val (.int u0), .val (.int u1), .val (.int u2)] [(.ref b20), (.ref b18), (.ref b18)])) _
          refine XS.dup X20.here hx rfl (hb hby d1_90) rfl rfl ?_
          show Steps p.tables e below (T20.setTop (mkF m 91 #[.val (.int p1), .val (.int p2), .val (.int p3), .val (.int p4), .val (.int u0), .val (.int u1), .val (.int u2)] [(.ref b20), (.ref b20), (.ref b18), (.ref b18)])) _
          refine XS.iconst X20.here hx rfl (hb hby d1_91) ?_
          show Steps p.tables e below (T20.setTop (mkF m 92 #[.val (.int p1), .val (.int p2), .val (.int p3), .val (.int p4), .val (.int u0), .val (.int u1), .val (.int u2)] [(.int (0 : Int32)), (.ref b20), (.ref b20), (.ref b18), (.ref b18)])) _
          refine XS.iload X20.here hx rfl (hb hby d1_92) rfl ?_
          exact kt)
        obtain ⟨cl_0, Ar_0, Sz_0, -⟩ := id CA0
        obtain ⟨T22, h22, X22, e22, W22, st22⟩ := stC X20 hx hZ e20 Ar_0 (j := (0 : Int32)) (within (c := 0) rfl (by rw [Sz_0]; decide) (by rw [Sz_0]; decide)) (g := (mkF m 94 #[.val (.int p1), .val (.int p2), .val (.int p3), .val (.int p4), .val (.int u0), .val (.int u1), .val (.int u2)] [(.int u0), (.int (0 : Int32)), (.ref b20), (.ref b20), (.ref b18), (.ref b18)])) rfl rfl (hb hby d1_94)
        have N22 := Fr.snoc X22 N0 g_b20
        have Zs22 : n0 ≤ h22.size := Nat.le_trans Zs20 (Nat.le_of_eq W22.size.symm)
        have Kp22 : Keep h0 h22 [] := Kp20.wr W22 (Or.inr sz_b20)
        have CA1 := own_A_set CA0 (show Wr _ _ _ 0 (.int (nar .char u0)) from W22)
        have Ea1 := Ea0.wr W22
        have Fv1 := Fv0.other W22 (Or.inl nes)
        have Fc1 := Fc0.other W22 (Or.inl nes)
        have pre23 : ∀ t, Steps p.tables e below (T22.setTop (mkF m 99 #[.val (.int p1), .val (.int p2), .val (.int p3), .val (.int p4), .val (.int u0), .val (.int u1), .val (.int u2)] [(.int u1), (.int (1 : Int32)), (.ref b20), (.ref b20), (.ref b18), (.ref b18)])) t → Steps p.tables e below _ t := fun t kt => pre21 t (by
          show Steps p.tables e below (T20.setTop (mkF m 94 #[.val (.int p1), .val (.int p2), .val (.int p3), .val (.int p4), .val (.int u0), .val (.int u1), .val (.int u2)] [(.int u0), (.int (0 : Int32)), (.ref b20), (.ref b20), (.ref b18), (.ref b18)])) _
          refine st22 _ ?_
          show Steps p.tables e below (T22.setTop (mkF m 95 #[.val (.int p1), .val (.int p2), .val (.int p3), .val (.int p4), .val (.int u0), .val (.int u1), .val (.int u2)] [(.ref b20), (.ref b18), (.ref b18)])) _
          refine XS.dup X22.here hx rfl (hb hby d1_95) rfl rfl ?_
          show Steps p.tables e below (T22.setTop (mkF m 96 #[.val (.int p1), .val (.int p2), .val (.int p3), .val (.int p4), .val (.int u0), .val (.int u1), .val (.int u2)] [(.ref b20), (.ref b20), (.ref b18), (.ref b18)])) _
          refine XS.iconst X22.here hx rfl (hb hby d1_96) ?_
          show Steps p.tables e below (T22.setTop (mkF m 97 #[.val (.int p1), .val (.int p2), .val (.int p3), .val (.int p4), .val (.int u0), .val (.int u1), .val (.int u2)] [(.int (1 : Int32)), (.ref b20), (.ref b20), (.ref b18), (.ref b18)])) _
          refine XS.iload X22.here hx rfl (hb hby d1_97) rfl ?_
          exact kt)
        obtain ⟨cl_1, Ar_1, Sz_1, -⟩ := id CA1
        obtain ⟨T24, h24, X24, e24, W24, st24⟩ := stC X22 hx hZ e22 Ar_1 (j := (1 : Int32)) (within (c := 1) rfl (by rw [Sz_1]; decide) (by rw [Sz_1]; decide)) (g := (mkF m 99 #[.val (.int p1), .val (.int p2), .val (.int p3), .val (.int p4), .val (.int u0), .val (.int u1), .val (.int u2)] [(.int u1), (.int (1 : Int32)), (.ref b20), (.ref b20), (.ref b18), (.ref b18)])) rfl rfl (hb hby d1_99)
        have N24 := Fr.snoc X24 N22 g_b20
        have Zs24 : n0 ≤ h24.size := Nat.le_trans Zs22 (Nat.le_of_eq W24.size.symm)
        have Kp24 : Keep h0 h24 [] := Kp22.wr W24 (Or.inr sz_b20)
        have CA2 := own_A_set CA1 (show Wr _ _ _ 1 (.int (nar .char u1)) from W24)
        have Ea2 := Ea1.wr W24
        have Fv2 := Fv1.other W24 (Or.inl nes)
        have Fc2 := Fc1.other W24 (Or.inl nes)
        have pre25 : ∀ t, Steps p.tables e below (T24.setTop (mkF m 104 #[.val (.int p1), .val (.int p2), .val (.int p3), .val (.int p4), .val (.int u0), .val (.int u1), .val (.int u2)] [(.int u2), (.int (2 : Int32)), (.ref b20), (.ref b20), (.ref b18), (.ref b18)])) t → Steps p.tables e below _ t := fun t kt => pre23 t (by
          show Steps p.tables e below (T22.setTop (mkF m 99 #[.val (.int p1), .val (.int p2), .val (.int p3), .val (.int p4), .val (.int u0), .val (.int u1), .val (.int u2)] [(.int u1), (.int (1 : Int32)), (.ref b20), (.ref b20), (.ref b18), (.ref b18)])) _
          refine st24 _ ?_
          show Steps p.tables e below (T24.setTop (mkF m 100 #[.val (.int p1), .val (.int p2), .val (.int p3), .val (.int p4), .val (.int u0), .val (.int u1), .val (.int u2)] [(.ref b20), (.ref b18), (.ref b18)])) _
          refine XS.dup X24.here hx rfl (hb hby d1_100) rfl rfl ?_
          show Steps p.tables e below (T24.setTop (mkF m 101 #[.val (.int p1), .val (.int p2), .val (.int p3), .val (.int p4), .val (.int u0), .val (.int u1), .val (.int u2)] [(.ref b20), (.ref b20), (.ref b18), (.ref b18)])) _
          refine XS.iconst X24.here hx rfl (hb hby d1_101) ?_
          show Steps p.tables e below (T24.setTop (mkF m 102 #[.val (.int p1), .val (.int p2), .val (.int p3), .val (.int p4), .val (.int u0), .val (.int u1), .val (.int u2)] [(.int (2 : Int32)), (.ref b20), (.ref b20), (.ref b18), (.ref b18)])) _
          refine XS.iload X24.here hx rfl (hb hby d1_102) rfl ?_
          exact kt)
        obtain ⟨cl_2, Ar_2, Sz_2, -⟩ := id CA2
        obtain ⟨T26, h26, X26, e26, W26, st26⟩ := stC X24 hx hZ e24 Ar_2 (j := (2 : Int32)) (within (c := 2) rfl (by rw [Sz_2]; decide) (by rw [Sz_2]; decide)) (g := (mkF m 104 #[.val (.int p1), .val (.int p2), .val (.int p3), .val (.int p4), .val (.int u0), .val (.int u1), .val (.int u2)] [(.int u2), (.int (2 : Int32)), (.ref b20), (.ref b20), (.ref b18), (.ref b18)])) rfl rfl (hb hby d1_104)
        have N26 := Fr.snoc X26 N24 g_b20
        have Zs26 : n0 ≤ h26.size := Nat.le_trans Zs24 (Nat.le_of_eq W26.size.symm)
        have Kp26 : Keep h0 h26 [] := Kp24.wr W26 (Or.inr sz_b20)
        have CA3 := own_A_set CA2 (show Wr _ _ _ 2 (.int (nar .char u2)) from W26)
        have Ea3 := Ea2.wr W26
        have Fv3 := Fv2.other W26 (Or.inl nes)
        have Fc3 := Fc2.other W26 (Or.inl nes)
        have hsf : ∀ j, j < 3 → ¬ ((255 : Int32) < (upd (upd (upd (fun _ => 0) 0 (nar .char u0)) 1 (nar .char u1)) 2 (nar .char u2)) j) := by
          intro j hj
          have hj' : j = 0 ∨ j = 1 ∨ j = 2 := by omega
          rcases hj' with rfl | rfl | rfl
          · exact nu0
          · exact nu1
          · exact nu2
        have pre27 : ∀ t, Steps p.tables e below (T26.setTop (mkF m 105 #[.val (.int p1), .val (.int p2), .val (.int p3), .val (.int p4), .val (.int u0), .val (.int u1), .val (.int u2)] [(.ref b20), (.ref b18), (.ref b18)])) t → Steps p.tables e below _ t := fun t kt => pre25 t (by
          show Steps p.tables e below (T24.setTop (mkF m 104 #[.val (.int p1), .val (.int p2), .val (.int p3), .val (.int p4), .val (.int u0), .val (.int u1), .val (.int u2)] [(.int u2), (.int (2 : Int32)), (.ref b20), (.ref b20), (.ref b18), (.ref b18)])) _
          refine st26 _ ?_
          exact kt)
        obtain ⟨_, _, ⟨T28, L28, k28, n28⟩, -, X28, ⟨Lc28, hQ28, l28, y28, z28⟩, st28⟩ := X26.specialBack hx (y := (⟨"java/lang/String", "<init>", "([C)V"⟩ : MethodName)) rfl hown (mvT hZ (hw _ (List.mem_of_getElem? (i := 31) rfl))) (mvT hZ (hw _ (List.mem_of_getElem? (i := 32) rfl))) (mvT hZ (hw _ (List.mem_of_getElem? (i := 33) rfl))) (by decide) (backOf (W := 1) (rm6n3 l Z a0 hw [] b18 b20 (upd (upd (upd (fun _ => 0) 0 (nar .char u0)) 1 (nar .char u1)) 2 (nar .char u2)) G1 h26 n0 Zs26 Ea3 Fv3 Fc3 g_b18 CA3 hsf (own_Sta_keep O2 Kp26) P5) hZ (hw _ (List.mem_of_getElem? (i := 33) rfl)) (hw _ (List.mem_of_getElem? (i := 29) rfl)) (by decide) (by decide)) (g := (mkF m 105 #[.val (.int p1), .val (.int p2), .val (.int p3), .val (.int p4), .val (.int u0), .val (.int u1), .val (.int u2)] [(.ref b20), (.ref b18), (.ref b18)])) rfl (by rw [hml]; rfl) (Steps.refl _) (a := b18) (argsL := [(.ref b20)]) (rest := [(.ref b18)]) (lenOf pd_9 rfl) rfl (by show 2 * 0 + _ ≤ _; exact Nat.le_of_eq rfl) (hb hby d1_105) (fun _ _ => ⟨rfl, e26, (by decide : 2 + 1 ≤ _), (by decide : 7 + 3 ≤ _)⟩)
        dsimp only [Pt.U, Pt.locs, Pt.cells, Pt.slots] at X28 l28 y28 z28 st28 hQ28
        subst l28 y28 z28
        obtain ⟨rfl, N28q, Kq, Eq⟩ := hQ28
        have N28 := Fr.app N26 N28q
        have Ke : Keep h0 T28.heap [] := Kp26.trans Kq (allS (Or.inr sz_b18) all0)
        obtain ⟨fs, hr, hrun, hended, hW, hsame⟩ := X28.leave (v := some (.ref b18)) (fun h => by rw [Bd.returns] at h; cases h)
        refine ⟨_, _, pre27 _ ?_, hrun, hended, _, _, rfl, ?_, ⟨_, rfl⟩, hW, hsame.mono (by decide) (by decide)⟩
        · show Steps p.tables e below (T26.setTop (mkF m 105 #[.val (.int p1), .val (.int p2), .val (.int p3), .val (.int p4), .val (.int u0), .val (.int u1), .val (.int u2)] [(.ref b20), (.ref b18), (.ref b18)])) _
          refine st28.trans ?_
          show Steps p.tables e below (T28.setTop (mkF m 108 #[.val (.int p1), .val (.int p2), .val (.int p3), .val (.int p4), .val (.int u0), .val (.int u1), .val (.int u2)] [(.ref b18)])) _
          jvm_step X28.here [X28.here.top, hx, (hb hby d1_108), X28.method', Bd.returns, Value.isRef, FieldType.isReference]
          first | (intro acts; rw [hr _ acts rfl rfl rfl]) | rw [hr _ _ rfl rfl rfl]
          exact Steps.refl _
        · exact ⟨.ref b18, rfl, N28, Ke, Or.inr ⟨b18, rfl, Eq⟩⟩
theorem ef_1e (m : MethodId) (x0 : Int32) (x1 : Int32) (x2 : Int32) (x3 : Int32) : entryFrame m #[(.int x0), (.int x1), (.int x2), (.int x3)] 7 = mkF m 0 #[.val (.int x0), .val (.int x1), .val (.int x2), .val (.int x3), .unset, .unset, .unset] [] := by first | (simp [entryFrame, mkF, argsToLocals, Value.category]; done) | rfl
theorem d1_35 : decode method_2_code 35 = .ok (.new 7, 3) := by decide +kernel
theorem d1_38 : decode method_2_code 38 = .ok (.dup, 1) := by decide +kernel
theorem d1_39 : decode method_2_code 39 = .ok (.iconst 0, 1) := by decide +kernel
theorem d1_40 : decode method_2_code 40 = .ok (.newarray .char, 2) := by decide +kernel
theorem d1_42 : decode method_2_code 42 = .ok (.invokespecial 9, 3) := by decide +kernel
theorem d1_45 : decode method_2_code 45 = .ok (.areturn, 1) := by decide +kernel
def Q1e (Z : State) (h0 : Heap) (n0 : Nat) (v : Option Value) (h : Heap) (vm : Vm) (L : List Loc) : Prop := ∃ b, v = some (.ref b) ∧ Fr n0 L ∧ Keep h0 h [] ∧ Exa Z h b "java/lang/String"
set_option maxRecDepth 65536 in
set_option maxHeartbeats 40000000 in
theorem rm1e (l : Launch) (Z : State) (a0 : Array Value) (hw : ∀ d ∈ tables_1, d.before a0 Z = true) (ws : List Jvm.Cond) (p2 : Int32) (p3 : Int32) (p4 : Int32) (h0 : Heap) (n0 : Nat) (Z0 : n0 ≤ h0.size) (KZ : ∀ (b : Addr) (cl : Cell), Z.heap[b]? = some cl → h0[b]? = some cl) (hh7 : Jvm.Lit.constHeld Z "java/lang/String" 7) (hcw : Jvm.Lit.compactW.before a0 Z = true) :
    MetFree l (⟨"com/example/haulway/haulway/bridge/CallerDepositorPinLaw", "draw", "(IIII)Ljava/lang/String;"⟩ : MethodName) (head1 (Jvm.Cond.code (⟨"com/example/haulway/haulway/bridge/CallerDepositorPinLaw", "draw", "(IIII)Ljava/lang/String;"⟩ : MethodName) method_2_code 7 (some (.object "java/lang/String")) :: ws) ({ frames := 3, cells := 4, slots := 8, locals := 60 } : Room)) (fun aa_ U => aa_ = #[(.int (1 : Int32)), (.int p2), (.int p3), (.int p4)] ∧ Z.Warmed39 U.vm ∧ U.heap = h0 ∧ IB Z U.vm []) (fun _ _ _ _ _ => True) (fun _ U o U' => ∃ v_ L_, o = .returned v_ ∧ Q1e Z  h0 n0 v_ U'.heap U'.vm L_ ∧ ReturnedEndW U o U' L_ ({ frames := 3, cells := 4, slots := 8, locals := 60 } : Room).cells ({ frames := 3, cells := 4, slots := 8, locals := 60 } : Room).slots) := by
  refine MetFree.of_bodySF (plainFor_of_name pn_1) hisR ?_
  intro p e s m args below meth c s₁ Bd hml0 hP hK
  obtain ⟨rfl, hZ, hh, hIb⟩ := hP
  have hx := Bd.exec
  have hby := Bd.bytes
  have hml : c.maxLocals = 7 := hml0
  have hown : s.vm.findClass "com/example/haulway/haulway/bridge/CallerDepositorPinLaw" = some m.cls := findClass_of_methodNamed Bd.named
  have hnm := (name_of_methodNamed Bd.named Bd.method).1
  have X0 : Stand p l e ({ frames := 3, cells := 4, slots := 8, locals := 60 } : Room) s m #[(.int (1 : Int32)), (.int p2), (.int p3), (.int p4)] below meth c s₁ [] 0 0 := Stand.of_body Bd
  have e0 : s₁.heap = h0 := by rw [← hh, Bd.state]; rfl
  have N0 := Fr.nil n0
  have pre0 : ∀ t, Steps p.tables e below (s₁.setTop (mkF m 0 #[.val (.int (1 : Int32)), .val (.int p2), .val (.int p3), .val (.int p4), .unset, .unset, .unset] [])) t → Steps p.tables e below (s₁.setTop (entryFrame m #[(.int (1 : Int32)), (.int p2), (.int p3), (.int p4)] 7)) t := fun t k_ => castTop (ef_1e m (1 : Int32) p2 p3 p4) k_
  have pre1 : ∀ t, Steps p.tables e below (s₁.setTop (mkF m 35 #[.val (.int (1 : Int32)), .val (.int p2), .val (.int p3), .val (.int p4), .val (.int ((p2 &&& (255 : Int32)).toUInt32.toUInt16.toUInt32.toInt32)), .val (.int ((p3 &&& (255 : Int32)).toUInt32.toUInt16.toUInt32.toInt32)), .val (.int ((p4 &&& (255 : Int32)).toUInt32.toUInt16.toUInt32.toInt32))] [])) t → Steps p.tables e below _ t := fun t kt => pre0 t (by
    show Steps p.tables e below (s₁.setTop (mkF m 0 #[.val (.int (1 : Int32)), .val (.int p2), .val (.int p3), .val (.int p4), .unset, .unset, .unset] [])) _
    refine XS.iloadN X0.here hx rfl (hb hby d1_0) rfl ?_
    show Steps p.tables e below (s₁.setTop (mkF m 1 #[.val (.int (1 : Int32)), .val (.int p2), .val (.int p3), .val (.int p4), .unset, .unset, .unset] [(.int p2)])) _
    refine XS.sipush X0.here hx rfl (hb hby d1_1) ?_
    show Steps p.tables e below (s₁.setTop (mkF m 4 #[.val (.int (1 : Int32)), .val (.int p2), .val (.int p3), .val (.int p4), .unset, .unset, .unset] [(.int (255 : Int32)), (.int p2)])) _
    refine XS.iand X0.here hx rfl (hb hby d1_4) rfl ?_
    show Steps p.tables e below (s₁.setTop (mkF m 5 #[.val (.int (1 : Int32)), .val (.int p2), .val (.int p3), .val (.int p4), .unset, .unset, .unset] [(.int (p2 &&& (255 : Int32)))])) _
    refine XS.i2c X0.here hx rfl (hb hby d1_5) rfl ?_
    show Steps p.tables e below (s₁.setTop (mkF m 6 #[.val (.int (1 : Int32)), .val (.int p2), .val (.int p3), .val (.int p4), .unset, .unset, .unset] [(.int ((p2 &&& (255 : Int32)).toUInt32.toUInt16.toUInt32.toInt32))])) _
    refine XS.istore X0.here hx rfl (hb hby d1_6) rfl (l' := #[.val (.int (1 : Int32)), .val (.int p2), .val (.int p3), .val (.int p4), .val (.int ((p2 &&& (255 : Int32)).toUInt32.toUInt16.toUInt32.toInt32)), .unset, .unset]) rfl ?_
    show Steps p.tables e below (s₁.setTop (mkF m 8 #[.val (.int (1 : Int32)), .val (.int p2), .val (.int p3), .val (.int p4), .val (.int ((p2 &&& (255 : Int32)).toUInt32.toUInt16.toUInt32.toInt32)), .unset, .unset] [])) _
    refine XS.iloadN X0.here hx rfl (hb hby d1_8) rfl ?_
    show Steps p.tables e below (s₁.setTop (mkF m 9 #[.val (.int (1 : Int32)), .val (.int p2), .val (.int p3), .val (.int p4), .val (.int ((p2 &&& (255 : Int32)).toUInt32.toUInt16.toUInt32.toInt32)), .unset, .unset] [(.int p3)])) _
    refine XS.sipush X0.here hx rfl (hb hby d1_9) ?_
    show Steps p.tables e below (s₁.setTop (mkF m 12 #[.val (.int (1 : Int32)), .val (.int p2), .val (.int p3), .val (.int p4), .val (.int ((p2 &&& (255 : Int32)).toUInt32.toUInt16.toUInt32.toInt32)), .unset, .unset] [(.int (255 : Int32)), (.int p3)])) _
    refine XS.iand X0.here hx rfl (hb hby d1_12) rfl ?_
    show Steps p.tables e below (s₁.setTop (mkF m 13 #[.val (.int (1 : Int32)), .val (.int p2), .val (.int p3), .val (.int p4), .val (.int ((p2 &&& (255 : Int32)).toUInt32.toUInt16.toUInt32.toInt32)), .unset, .unset] [(.int (p3 &&& (255 : Int32)))])) _
    refine XS.i2c X0.here hx rfl (hb hby d1_13) rfl ?_
    show Steps p.tables e below (s₁.setTop (mkF m 14 #[.val (.int (1 : Int32)), .val (.int p2), .val (.int p3), .val (.int p4), .val (.int ((p2 &&& (255 : Int32)).toUInt32.toUInt16.toUInt32.toInt32)), .unset, .unset] [(.int ((p3 &&& (255 : Int32)).toUInt32.toUInt16.toUInt32.toInt32))])) _
    refine XS.istore X0.here hx rfl (hb hby d1_14) rfl (l' := #[.val (.int (1 : Int32)), .val (.int p2), .val (.int p3), .val (.int p4), .val (.int ((p2 &&& (255 : Int32)).toUInt32.toUInt16.toUInt32.toInt32)), .val (.int ((p3 &&& (255 : Int32)).toUInt32.toUInt16.toUInt32.toInt32)), .unset]) rfl ?_
    show Steps p.tables e below (s₁.setTop (mkF m 16 #[.val (.int (1 : Int32)), .val (.int p2), .val (.int p3), .val (.int p4), .val (.int ((p2 &&& (255 : Int32)).toUInt32.toUInt16.toUInt32.toInt32)), .val (.int ((p3 &&& (255 : Int32)).toUInt32.toUInt16.toUInt32.toInt32)), .unset] [])) _
    refine XS.iloadN X0.here hx rfl (hb hby d1_16) rfl ?_
    show Steps p.tables e below (s₁.setTop (mkF m 17 #[.val (.int (1 : Int32)), .val (.int p2), .val (.int p3), .val (.int p4), .val (.int ((p2 &&& (255 : Int32)).toUInt32.toUInt16.toUInt32.toInt32)), .val (.int ((p3 &&& (255 : Int32)).toUInt32.toUInt16.toUInt32.toInt32)), .unset] [(.int p4)])) _
    refine XS.sipush X0.here hx rfl (hb hby d1_17) ?_
    show Steps p.tables e below (s₁.setTop (mkF m 20 #[.val (.int (1 : Int32)), .val (.int p2), .val (.int p3), .val (.int p4), .val (.int ((p2 &&& (255 : Int32)).toUInt32.toUInt16.toUInt32.toInt32)), .val (.int ((p3 &&& (255 : Int32)).toUInt32.toUInt16.toUInt32.toInt32)), .unset] [(.int (255 : Int32)), (.int p4)])) _
    refine XS.iand X0.here hx rfl (hb hby d1_20) rfl ?_
    show Steps p.tables e below (s₁.setTop (mkF m 21 #[.val (.int (1 : Int32)), .val (.int p2), .val (.int p3), .val (.int p4), .val (.int ((p2 &&& (255 : Int32)).toUInt32.toUInt16.toUInt32.toInt32)), .val (.int ((p3 &&& (255 : Int32)).toUInt32.toUInt16.toUInt32.toInt32)), .unset] [(.int (p4 &&& (255 : Int32)))])) _
    refine XS.i2c X0.here hx rfl (hb hby d1_21) rfl ?_
    show Steps p.tables e below (s₁.setTop (mkF m 22 #[.val (.int (1 : Int32)), .val (.int p2), .val (.int p3), .val (.int p4), .val (.int ((p2 &&& (255 : Int32)).toUInt32.toUInt16.toUInt32.toInt32)), .val (.int ((p3 &&& (255 : Int32)).toUInt32.toUInt16.toUInt32.toInt32)), .unset] [(.int ((p4 &&& (255 : Int32)).toUInt32.toUInt16.toUInt32.toInt32))])) _
    refine XS.istore X0.here hx rfl (hb hby d1_22) rfl (l' := #[.val (.int (1 : Int32)), .val (.int p2), .val (.int p3), .val (.int p4), .val (.int ((p2 &&& (255 : Int32)).toUInt32.toUInt16.toUInt32.toInt32)), .val (.int ((p3 &&& (255 : Int32)).toUInt32.toUInt16.toUInt32.toInt32)), .val (.int ((p4 &&& (255 : Int32)).toUInt32.toUInt16.toUInt32.toInt32))]) rfl ?_
    show Steps p.tables e below (s₁.setTop (mkF m 24 #[.val (.int (1 : Int32)), .val (.int p2), .val (.int p3), .val (.int p4), .val (.int ((p2 &&& (255 : Int32)).toUInt32.toUInt16.toUInt32.toInt32)), .val (.int ((p3 &&& (255 : Int32)).toUInt32.toUInt16.toUInt32.toInt32)), .val (.int ((p4 &&& (255 : Int32)).toUInt32.toUInt16.toUInt32.toInt32))] [])) _
    refine XS.iloadN X0.here hx rfl (hb hby d1_24) rfl ?_
    have hc25 : ¬ ((1 : Int32) = (0 : Int32)) := by decide
    show Steps p.tables e below (s₁.setTop (mkF m 25 #[.val (.int (1 : Int32)), .val (.int p2), .val (.int p3), .val (.int p4), .val (.int ((p2 &&& (255 : Int32)).toUInt32.toUInt16.toUInt32.toInt32)), .val (.int ((p3 &&& (255 : Int32)).toUInt32.toUInt16.toUInt32.toInt32)), .val (.int ((p4 &&& (255 : Int32)).toUInt32.toUInt16.toUInt32.toInt32))] [(.int (1 : Int32))])) _
    refine XS.ifYes X0.here hx rfl (pc0 := 25) (pc' := 30) rfl (hb hby d1_25) rfl ((if0 _ _).trans (feq hc25).2) (by decide) (by decide) ?_
    show Steps p.tables e below (s₁.setTop (mkF m 30 #[.val (.int (1 : Int32)), .val (.int p2), .val (.int p3), .val (.int p4), .val (.int ((p2 &&& (255 : Int32)).toUInt32.toUInt16.toUInt32.toInt32)), .val (.int ((p3 &&& (255 : Int32)).toUInt32.toUInt16.toUInt32.toInt32)), .val (.int ((p4 &&& (255 : Int32)).toUInt32.toUInt16.toUInt32.toInt32))] [])) _
    refine XS.iloadN X0.here hx rfl (hb hby d1_30) rfl ?_
    show Steps p.tables e below (s₁.setTop (mkF m 31 #[.val (.int (1 : Int32)), .val (.int p2), .val (.int p3), .val (.int p4), .val (.int ((p2 &&& (255 : Int32)).toUInt32.toUInt16.toUInt32.toInt32)), .val (.int ((p3 &&& (255 : Int32)).toUInt32.toUInt16.toUInt32.toInt32)), .val (.int ((p4 &&& (255 : Int32)).toUInt32.toUInt16.toUInt32.toInt32))] [(.int (1 : Int32))])) _
    refine XS.iconst X0.here hx rfl (hb hby d1_31) ?_
    have hc32 : (1 : Int32) = (1 : Int32) := rfl
    show Steps p.tables e below (s₁.setTop (mkF m 32 #[.val (.int (1 : Int32)), .val (.int p2), .val (.int p3), .val (.int p4), .val (.int ((p2 &&& (255 : Int32)).toUInt32.toUInt16.toUInt32.toInt32)), .val (.int ((p3 &&& (255 : Int32)).toUInt32.toUInt16.toUInt32.toInt32)), .val (.int ((p4 &&& (255 : Int32)).toUInt32.toUInt16.toUInt32.toInt32))] [(.int (1 : Int32)), (.int (1 : Int32))])) _
    refine XS.icmpNo X0.here hx rfl (hb hby d1_32) rfl (teq hc32).2 ?_
    exact kt)
  obtain ⟨T2, h2, X2, e2, E2, A2, D2, -, st2⟩ := newO X0 hx hZ hown (hw _ (List.mem_of_getElem? (i := 27) rfl)) (hw _ (List.mem_of_getElem? (i := 28) rfl)) (hw _ (List.mem_of_getElem? (i := 29) rfl)) e0 (g := (mkF m 35 #[.val (.int (1 : Int32)), .val (.int p2), .val (.int p3), .val (.int p4), .val (.int ((p2 &&& (255 : Int32)).toUInt32.toUInt16.toUInt32.toInt32)), .val (.int ((p3 &&& (255 : Int32)).toUInt32.toUInt16.toUInt32.toInt32)), .val (.int ((p4 &&& (255 : Int32)).toUInt32.toUInt16.toUInt32.toInt32))] [])) rfl (hb hby d1_35) (by decide) (by decide)
  obtain ⟨b2, gb2⟩ : ∃ z, z = h0.size := ⟨_, rfl⟩
  rw [← gb2] at A2 D2 st2
  have g_b2 : n0 ≤ b2 := Nat.le_trans Z0 (Nat.le_of_eq gb2.symm)
  have Zs2 : n0 ≤ h2.size := Nat.le_trans Z0 E2.1
  have sz_b2 : h0.size ≤ b2 := Nat.le_trans (Keep.refl h0 []).1 (Nat.le_of_eq gb2.symm)
  have Kp2 : Keep h0 h2 [] := (Keep.refl h0 []).ext E2
  have Eas := A2
  have Fvs : Fld Z h2 b2 "java/lang/String" "value" "[B" .null := D2 (Or.inr (hw _ (List.mem_of_getElem? (i := 54) rfl))) (ty := (.array .byte)) (by decide)
  have Fcs : Fld Z h2 b2 "java/lang/String" "coder" "B" (.int (0 : Int32)) := D2 (Or.inr (hw _ (List.mem_of_getElem? (i := 52) rfl))) (ty := .byte) (by decide)
  have pre3 : ∀ t, Steps p.tables e below (T2.setTop (mkF m 40 #[.val (.int (1 : Int32)), .val (.int p2), .val (.int p3), .val (.int p4), .val (.int ((p2 &&& (255 : Int32)).toUInt32.toUInt16.toUInt32.toInt32)), .val (.int ((p3 &&& (255 : Int32)).toUInt32.toUInt16.toUInt32.toInt32)), .val (.int ((p4 &&& (255 : Int32)).toUInt32.toUInt16.toUInt32.toInt32))] [(.int (0 : Int32)), (.ref b2), (.ref b2)])) t → Steps p.tables e below _ t := fun t kt => pre1 t (by
    show Steps p.tables e below (s₁.setTop (mkF m 35 #[.val (.int (1 : Int32)), .val (.int p2), .val (.int p3), .val (.int p4), .val (.int ((p2 &&& (255 : Int32)).toUInt32.toUInt16.toUInt32.toInt32)), .val (.int ((p3 &&& (255 : Int32)).toUInt32.toUInt16.toUInt32.toInt32)), .val (.int ((p4 &&& (255 : Int32)).toUInt32.toUInt16.toUInt32.toInt32))] [])) _
    refine st2 _ ?_
    show Steps p.tables e below (T2.setTop (mkF m 38 #[.val (.int (1 : Int32)), .val (.int p2), .val (.int p3), .val (.int p4), .val (.int ((p2 &&& (255 : Int32)).toUInt32.toUInt16.toUInt32.toInt32)), .val (.int ((p3 &&& (255 : Int32)).toUInt32.toUInt16.toUInt32.toInt32)), .val (.int ((p4 &&& (255 : Int32)).toUInt32.toUInt16.toUInt32.toInt32))] [(.ref b2)])) _
    refine XS.dup X2.here hx rfl (hb hby d1_38) rfl rfl ?_
    show Steps p.tables e below (T2.setTop (mkF m 39 #[.val (.int (1 : Int32)), .val (.int p2), .val (.int p3), .val (.int p4), .val (.int ((p2 &&& (255 : Int32)).toUInt32.toUInt16.toUInt32.toInt32)), .val (.int ((p3 &&& (255 : Int32)).toUInt32.toUInt16.toUInt32.toInt32)), .val (.int ((p4 &&& (255 : Int32)).toUInt32.toUInt16.toUInt32.toInt32))] [(.ref b2), (.ref b2)])) _
    refine XS.iconst X2.here hx rfl (hb hby d1_39) ?_
    exact kt)
  obtain ⟨T4, h4, k4, X4, e4, E4, A4, st4⟩ := newP X2 hx hZ (hw _ (List.mem_of_getElem? (i := 30) rfl)) e2 (g := (mkF m 40 #[.val (.int (1 : Int32)), .val (.int p2), .val (.int p3), .val (.int p4), .val (.int ((p2 &&& (255 : Int32)).toUInt32.toUInt16.toUInt32.toInt32)), .val (.int ((p3 &&& (255 : Int32)).toUInt32.toUInt16.toUInt32.toInt32)), .val (.int ((p4 &&& (255 : Int32)).toUInt32.toUInt16.toUInt32.toInt32))] [(.int (0 : Int32)), (.ref b2), (.ref b2)])) rfl (hb hby d1_40) rfl (by decide) (cap := 0) (by decide) (by decide) (by decide) (by decide)
  obtain ⟨b4, gb4⟩ : ∃ z, z = h2.size := ⟨_, rfl⟩
  rw [← gb4] at A4 st4
  have g_b4 : n0 ≤ b4 := Nat.le_trans Zs2 (Nat.le_of_eq gb4.symm)
  have Zs4 : n0 ≤ h4.size := Nat.le_trans Zs2 E4.1
  have sz_b4 : h0.size ≤ b4 := Nat.le_trans Kp2.1 (Nat.le_of_eq gb4.symm)
  have Kp4 : Keep h0 h4 [] := Kp2.ext E4
  have nes : b2 ≠ b4 := by have q := Eas.lt; rw [gb4]; exact Nat.ne_of_lt q
  have CA0 : own_A Z h4 b4 .char 0 (fun _ => 0) := own_A_new A4 rfl rfl
  have Ea0 := Eas.ext E4
  have Fv0 := Fvs.ext E4
  have Fc0 := Fcs.ext E4
  have pre5 : ∀ t, Steps p.tables e below (T4.setTop (mkF m 42 #[.val (.int (1 : Int32)), .val (.int p2), .val (.int p3), .val (.int p4), .val (.int ((p2 &&& (255 : Int32)).toUInt32.toUInt16.toUInt32.toInt32)), .val (.int ((p3 &&& (255 : Int32)).toUInt32.toUInt16.toUInt32.toInt32)), .val (.int ((p4 &&& (255 : Int32)).toUInt32.toUInt16.toUInt32.toInt32))] [(.ref b4), (.ref b2), (.ref b2)])) t → Steps p.tables e below _ t := fun t kt => pre3 t (by
    show Steps p.tables e below (T2.setTop (mkF m 40 #[.val (.int (1 : Int32)), .val (.int p2), .val (.int p3), .val (.int p4), .val (.int ((p2 &&& (255 : Int32)).toUInt32.toUInt16.toUInt32.toInt32)), .val (.int ((p3 &&& (255 : Int32)).toUInt32.toUInt16.toUInt32.toInt32)), .val (.int ((p4 &&& (255 : Int32)).toUInt32.toUInt16.toUInt32.toInt32))] [(.int (0 : Int32)), (.ref b2), (.ref b2)])) _
    refine st4 _ ?_
    exact kt)
  obtain ⟨_, _, ⟨T6, L6, k6, n6⟩, -, Y6, Sj6, hg6, ⟨Lc6, hQ6, l6, y6, z6⟩, st6⟩ := Jvm.Stand.specialBackS (s := s.setVm s.vm) (show Stand p l e ({ frames := 3, cells := 4, slots := 8, locals := 60 } : Room) (s.setVm s.vm) m #[(.int (1 : Int32)), (.int p2), (.int p3), (.int p4)] below meth c T4 _ _ _ from X4) hx (y := (⟨"java/lang/String", "<init>", "([C)V"⟩ : MethodName)) rfl hown (mvT hZ (hw _ (List.mem_of_getElem? (i := 31) rfl))) (mvT hZ (hw _ (List.mem_of_getElem? (i := 32) rfl))) (mvT hZ (hw _ (List.mem_of_getElem? (i := 33) rfl))) (by decide) (own_backS (W := 1) (I := fun vm => IB Z vm []) (rm6n0 l Z a0 hw [] b2 b4 h4 n0 Zs4 Ea0 Fv0 Fc0 g_b2 CA0 (fun b_ cl_ q_ => Kp4.2.1 b_ cl_ (KZ b_ cl_ q_) nin0) hh7 hcw) hZ (hw _ (List.mem_of_getElem? (i := 33) rfl)) (hw _ (List.mem_of_getElem? (i := 29) rfl)) (by decide) (by decide)) (g := (mkF m 42 #[.val (.int (1 : Int32)), .val (.int p2), .val (.int p3), .val (.int p4), .val (.int ((p2 &&& (255 : Int32)).toUInt32.toUInt16.toUInt32.toInt32)), .val (.int ((p3 &&& (255 : Int32)).toUInt32.toUInt16.toUInt32.toInt32)), .val (.int ((p4 &&& (255 : Int32)).toUInt32.toUInt16.toUInt32.toInt32))] [(.ref b4), (.ref b2), (.ref b2)])) rfl (by rw [hml]; rfl) (Steps.refl _) (a := b2) (argsL := [(.ref b4)]) (rest := [(.ref b2)]) (lenOf pd_9 rfl) rfl (by show 2 * 0 + _ ≤ _; exact Nat.le_of_eq rfl) (hb hby d1_42) (fun vm₁ hv => ⟨⟨rfl, e4, own_IB_warm (s := s.setVm s.vm) hIb hv⟩, (by decide : 2 + 2 ≤ _), (by decide : 4 + 4 ≤ _)⟩)
  dsimp only [Pt.U, Pt.locs, Pt.cells, Pt.slots] at Y6 Sj6 hg6 l6 y6 z6 st6 hQ6
  subst l6 y6 z6
  obtain ⟨rfl, N6q, Kq, Eq⟩ := hQ6
  have N6 := Fr.app N0 N6q
  obtain ⟨X6, Si6, hz6, how6⟩ := rebS (s := s) (vm0 := s.vm) (State.WarmedH.since (State.WarmedH.refl s) 0) (Nat.zero_le _) Y6 Sj6 hg6 hZ hown
  have Ke : Keep h0 T6.heap [] := Kp4.trans Kq (allS (Or.inr sz_b2) all0)
  obtain ⟨fs, hr, hrun, hended, -, hW, hI, hsame⟩ := X6.leaveW Si6 (Nat.le_refl _) (v := some (.ref b2)) (fun h => by rw [Bd.returns] at h; cases h)
  refine ⟨_, _, pre5 _ ?_, hrun, hended, _, _, rfl, ?_, ⟨_, rfl⟩, hW, hI, hsame.mono (by decide) (by decide)⟩
  · show Steps p.tables e below (T4.setTop (mkF m 42 #[.val (.int (1 : Int32)), .val (.int p2), .val (.int p3), .val (.int p4), .val (.int ((p2 &&& (255 : Int32)).toUInt32.toUInt16.toUInt32.toInt32)), .val (.int ((p3 &&& (255 : Int32)).toUInt32.toUInt16.toUInt32.toInt32)), .val (.int ((p4 &&& (255 : Int32)).toUInt32.toUInt16.toUInt32.toInt32))] [(.ref b4), (.ref b2), (.ref b2)])) _
    refine st6.trans ?_
    show Steps p.tables e below (T6.setTop (mkF m 45 #[.val (.int (1 : Int32)), .val (.int p2), .val (.int p3), .val (.int p4), .val (.int ((p2 &&& (255 : Int32)).toUInt32.toUInt16.toUInt32.toInt32)), .val (.int ((p3 &&& (255 : Int32)).toUInt32.toUInt16.toUInt32.toInt32)), .val (.int ((p4 &&& (255 : Int32)).toUInt32.toUInt16.toUInt32.toInt32))] [(.ref b2)])) _
    jvm_step X6.here [X6.here.top, hx, (hb hby d1_45), X6.method', Bd.returns, Value.isRef, FieldType.isReference]
    first | (intro acts; rw [hr _ acts rfl rfl rfl]) | rw [hr _ _ rfl rfl rfl]
    exact Steps.refl _
  · exact ⟨b2, rfl, N6, Ke, Eq⟩
theorem pn_0 : plainName "com/example/haulway/haulway/bridge/CallerDepositorPinLaw" = true := by first | (simp [plainName, overriddenIn]; done) | decide +kernel
theorem ef_0 (m : MethodId) (x0 : Int32) (x1 : Int32) (x2 : Int32) (x3 : Int32) : entryFrame m #[(.int x0), (.int x1), (.int x2), (.int x3)] maxLocals = mkF m 0 #[.val (.int x0), .val (.int x1), .val (.int x2), .val (.int x3), .unset, .unset, .unset] [] := by first | (simp [entryFrame, mkF, argsToLocals, Value.category, maxLocals]; done) | rfl
theorem pd_10 : parseMethodDescriptor "(IIII)Ljava/lang/String;" = some ⟨[.int, .int, .int, .int], some (.object "java/lang/String")⟩ := by decide +kernel
theorem pd_11 : parseMethodDescriptor "(Ljava/lang/String;Z)V" = some ⟨[(.object "java/lang/String"), .boolean], none⟩ := by decide +kernel
theorem pd_12 : parseMethodDescriptor "()Ljava/lang/String;" = some ⟨[], some (.object "java/lang/String")⟩ := by decide +kernel
theorem pd_13 : parseMethodDescriptor "(Ljava/lang/Object;)Z" = some ⟨[(.object "java/lang/Object")], some .boolean⟩ := by decide +kernel
def Q0 (Z : State) (h0 : Heap) (n0 : Nat) (v : Option Value) (h : Heap) (L : List Loc) : Prop := v = some (.int (1 : Int32)) ∧ Fr n0 L
set_option maxRecDepth 65536 in
set_option maxHeartbeats 40000000 in
theorem rm0 (l : Launch) (Z : State) (a0 : Array Value) (hw : ∀ d ∈ tables_1, d.before a0 Z = true) (ws : List Jvm.Cond) (p1 : Int32) (p2 : Int32) (p3 : Int32) (p4 : Int32) (G1 : Int32) (h0 : Heap) (n0 : Nat) (Z0 : n0 ≤ h0.size) (O2 : Sta Z h0 "java/lang/String" "COMPACT_STRINGS" "Z" (.int G1)) (P5 : ¬ (G1 = (0 : Int32))) (KZ : ∀ (b : Addr) (cl : Cell), Z.heap[b]? = some cl → h0[b]? = some cl) (hh7 : Jvm.Lit.constHeld Z "java/lang/String" 7) (hcw : Jvm.Lit.compactW.before a0 Z = true) :
    MetFree l x (head1 (Jvm.Cond.code x code maxLocals ret :: ws) room_1) (fun aa_ U => aa_ = #[(.int p1), (.int p2), (.int p3), (.int p4)] ∧ Z.Warmed39 U.vm ∧ U.heap = h0 ∧ IB Z U.vm []) (fun _ _ _ _ _ => True) (fun _ U o U' => ∃ v_ L_, o = .returned v_ ∧ Q0 Z  h0 n0 v_ U'.heap L_ ∧ ReturnedEndW U o U' L_ room_1.cells room_1.slots) := by
  refine MetFree.of_bodySF (plainFor_of_name pn_0) hisR ?_
  intro p e s m args below meth c s₁ Bd hml0 hP hK
  obtain ⟨rfl, hZ, hh, hIb⟩ := hP
  have hx := Bd.exec
  have hby := Bd.bytes
  have hml : c.maxLocals = 7 := hml0
  have hown : s.vm.findClass "com/example/haulway/haulway/bridge/CallerDepositorPinLaw" = some m.cls := findClass_of_methodNamed Bd.named
  have hnm := (name_of_methodNamed Bd.named Bd.method).1
  have X0 : Stand p l e room_1 s m #[(.int p1), (.int p2), (.int p3), (.int p4)] below meth c s₁ [] 0 0 := Stand.of_body Bd
  have e0 : s₁.heap = h0 := by rw [← hh, Bd.state]; rfl
  have N0 := Fr.nil n0
  have pre0 : ∀ t, Steps p.tables e below (s₁.setTop (mkF m 0 #[.val (.int p1), .val (.int p2), .val (.int p3), .val (.int p4), .unset, .unset, .unset] [])) t → Steps p.tables e below (s₁.setTop (entryFrame m #[(.int p1), (.int p2), (.int p3), (.int p4)] maxLocals)) t := fun t k_ => castTop (ef_0 m p1 p2 p3 p4) k_
  have pre1 : ∀ t, Steps p.tables e below (s₁.setTop (mkF m 7 #[.val (.int p1), .val (.int p2), .val (.int p3), .val (.int p4), .unset, .unset, .unset] [(.int p4), (.int p3), (.int p2), (.int (p1 &&& (7 : Int32)))])) t → Steps p.tables e below _ t := fun t kt => pre0 t (by
    show Steps p.tables e below (s₁.setTop (mkF m 0 #[.val (.int p1), .val (.int p2), .val (.int p3), .val (.int p4), .unset, .unset, .unset] [])) _
    refine XS.iloadN X0.here hx rfl (hb hby at_0) rfl ?_
    show Steps p.tables e below (s₁.setTop (mkF m 1 #[.val (.int p1), .val (.int p2), .val (.int p3), .val (.int p4), .unset, .unset, .unset] [(.int p1)])) _
    refine XS.bipush X0.here hx rfl (hb hby at_1) ?_
    show Steps p.tables e below (s₁.setTop (mkF m 3 #[.val (.int p1), .val (.int p2), .val (.int p3), .val (.int p4), .unset, .unset, .unset] [(.int (7 : Int32)), (.int p1)])) _
    refine XS.iand X0.here hx rfl (hb hby at_3) rfl ?_
    show Steps p.tables e below (s₁.setTop (mkF m 4 #[.val (.int p1), .val (.int p2), .val (.int p3), .val (.int p4), .unset, .unset, .unset] [(.int (p1 &&& (7 : Int32)))])) _
    refine XS.iloadN X0.here hx rfl (hb hby at_4) rfl ?_
    show Steps p.tables e below (s₁.setTop (mkF m 5 #[.val (.int p1), .val (.int p2), .val (.int p3), .val (.int p4), .unset, .unset, .unset] [(.int p2), (.int (p1 &&& (7 : Int32)))])) _
    refine XS.iloadN X0.here hx rfl (hb hby at_5) rfl ?_
    show Steps p.tables e below (s₁.setTop (mkF m 6 #[.val (.int p1), .val (.int p2), .val (.int p3), .val (.int p4), .unset, .unset, .unset] [(.int p3), (.int p2), (.int (p1 &&& (7 : Int32)))])) _
    refine XS.iloadN X0.here hx rfl (hb hby at_6) rfl ?_
    exact kt)
  by_cases hsel : (p1 &&& (7 : Int32)) = (1 : Int32)
  · have hv2 : (p1 &&& (7 : Int32)) = (1 : Int32) := hsel
    rw [hv2] at pre1
    obtain ⟨_, _, ⟨T3, L3, k3, n3⟩, -, Y3, Sj3, hg3, ⟨Lc3, hQ3, l3, y3, z3⟩, st3⟩ := callSS (s := s.setVm s.vm) (show Stand p l e room_1 (s.setVm s.vm) m #[(.int p1), (.int p2), (.int p3), (.int p4)] below meth c s₁ _ _ _ from X0) hx (y := (⟨"com/example/haulway/haulway/bridge/CallerDepositorPinLaw", "draw", "(IIII)Ljava/lang/String;"⟩ : MethodName)) hown (mvT hZ (hw _ (List.mem_of_getElem? (i := 0) rfl))) (mvT hZ (hw _ (List.mem_of_getElem? (i := 1) rfl))) (mvT hZ (hw _ (List.mem_of_getElem? (i := 2) rfl))) (mvT hZ (hw _ (List.mem_of_getElem? (i := 3) rfl))) (by decide) (own_backS (W := 0) (I := fun vm => IB Z vm []) (rm1e l Z a0 hw [] p2 p3 p4 h0 n0 Z0 KZ hh7 hcw) hZ (hw _ (List.mem_of_getElem? (i := 3) rfl)) (hw _ (List.mem_of_getElem? (i := 2) rfl)) (by decide) (by decide)) (g := (mkF m 7 #[.val (.int p1), .val (.int p2), .val (.int p3), .val (.int p4), .unset, .unset, .unset] [(.int p4), (.int p3), (.int p2), (.int (1 : Int32))])) rfl (by rw [hml]; rfl) (argsL := [(.int (1 : Int32)), (.int p2), (.int p3), (.int p4)]) (rest := []) (lenOf pd_10 rfl) rfl (by show 2 * 0 + _ ≤ _; exact Nat.le_of_eq rfl) (hb hby at_7) (fun vm₁ hv => ⟨⟨rfl, e0, own_IB_warm (s := s.setVm s.vm) hIb hv⟩, (by decide : 0 + 4 ≤ _), (by decide : 0 + 8 ≤ _)⟩)
    dsimp only [Pt.U, Pt.locs, Pt.cells, Pt.slots] at Y3 Sj3 hg3 l3 y3 z3 st3 hQ3
    subst l3 y3 z3
    obtain ⟨acc, rfl, N3q, Kd, Eb⟩ := hQ3
    have N3 := Fr.app N0 N3q
    obtain ⟨X3, Si3, hz3, how3⟩ := rebS (s := s) (vm0 := s.vm) (State.WarmedH.since (State.WarmedH.refl s) 0) (Nat.zero_le _) Y3 Sj3 hg3 hZ hown
    have Zd : n0 ≤ T3.heap.size := Nat.le_trans Z0 Kd.1
    have pre4 : ∀ t, Steps p.tables e below (T3.setTop (mkF m 12 #[.val (.int p1), .val (.int p2), .val (.int p3), .val (.int p4), .val (.ref acc), .unset, .unset] [])) t → Steps p.tables e below _ t := fun t kt => pre1 t (by
      show Steps p.tables e below (s₁.setTop (mkF m 7 #[.val (.int p1), .val (.int p2), .val (.int p3), .val (.int p4), .unset, .unset, .unset] [(.int p4), (.int p3), (.int p2), (.int (1 : Int32))])) _
      refine st3.trans ?_
      show Steps p.tables e below (T3.setTop (mkF m 10 #[.val (.int p1), .val (.int p2), .val (.int p3), .val (.int p4), .unset, .unset, .unset] [(.ref acc)])) _
      refine XS.astore X3.here hx rfl (hb hby at_10) rfl rfl (l' := #[.val (.int p1), .val (.int p2), .val (.int p3), .val (.int p4), .val (.ref acc), .unset, .unset]) rfl ?_
      exact kt)
    obtain ⟨T5, h5, X5, e5, E5, A5, D5, -, st5⟩ := newO X3 hx hz3 how3 (hw _ (List.mem_of_getElem? (i := 4) rfl)) (hw _ (List.mem_of_getElem? (i := 5) rfl)) (hw _ (List.mem_of_getElem? (i := 6) rfl)) rfl (g := (mkF m 12 #[.val (.int p1), .val (.int p2), .val (.int p3), .val (.int p4), .val (.ref acc), .unset, .unset] [])) rfl (hb hby at_12) (by decide) (by decide)
    obtain ⟨b5, gb5⟩ : ∃ z, z = T3.heap.size := ⟨_, rfl⟩
    rw [← gb5] at A5 D5 st5
    have g_b5 : n0 ≤ b5 := Nat.le_trans Zd (Nat.le_of_eq gb5.symm)
    have Zs5 : n0 ≤ h5.size := Nat.le_trans Zd E5.1
    have sz_b5 : h0.size ≤ b5 := Nat.le_trans Kd.1 (Nat.le_of_eq gb5.symm)
    have Kp5 : Keep h0 h5 [] := Kd.ext E5
    have EaC := A5
    have FaC : Fld Z h5 b5 "com/example/haulway/haulway/bridge/Caller" "account" "Ljava/lang/String;" .null := D5 (Or.inr (hw _ (List.mem_of_getElem? (i := 19) rfl))) (ty := (.object "java/lang/String")) (by decide)
    have FnC : Fld Z h5 b5 "com/example/haulway/haulway/bridge/Caller" "network" "Z" (.int (0 : Int32)) := D5 (Or.inr (hw _ (List.mem_of_getElem? (i := 21) rfl))) (ty := .boolean) (by decide)
    have EbC := Eb.ext E5
    have pre6 : ∀ t, Steps p.tables e below (T5.setTop (mkF m 19 #[.val (.int p1), .val (.int p2), .val (.int p3), .val (.int p4), .val (.ref acc), .unset, .unset] [(.int (0 : Int32)), (.ref acc), (.ref b5), (.ref b5)])) t → Steps p.tables e below _ t := fun t kt => pre4 t (by
      show Steps p.tables e below (T3.setTop (mkF m 12 #[.val (.int p1), .val (.int p2), .val (.int p3), .val (.int p4), .val (.ref acc), .unset, .unset] [])) _
      refine st5 _ ?_
      show Steps p.tables e below (T5.setTop (mkF m 15 #[.val (.int p1), .val (.int p2), .val (.int p3), .val (.int p4), .val (.ref acc), .unset, .unset] [(.ref b5)])) _
      refine XS.dup X5.here hx rfl (hb hby at_15) rfl rfl ?_
      show Steps p.tables e below (T5.setTop (mkF m 16 #[.val (.int p1), .val (.int p2), .val (.int p3), .val (.int p4), .val (.ref acc), .unset, .unset] [(.ref b5), (.ref b5)])) _
      refine XS.aload X5.here hx rfl (hb hby at_16) rfl rfl ?_
      show Steps p.tables e below (T5.setTop (mkF m 18 #[.val (.int p1), .val (.int p2), .val (.int p3), .val (.int p4), .val (.ref acc), .unset, .unset] [(.ref acc), (.ref b5), (.ref b5)])) _
      refine XS.iconst X5.here hx rfl (hb hby at_18) ?_
      exact kt)
    obtain ⟨_, _, ⟨T7, L7, k7, n7⟩, -, X7, ⟨Lc7, hQ7, l7, y7, z7⟩, st7⟩ := X5.specialBack hx (y := (⟨"com/example/haulway/haulway/bridge/Caller", "<init>", "(Ljava/lang/String;Z)V"⟩ : MethodName)) rfl how3 (mvT hz3 (hw _ (List.mem_of_getElem? (i := 7) rfl))) (mvT hz3 (hw _ (List.mem_of_getElem? (i := 8) rfl))) (mvT hz3 (hw _ (List.mem_of_getElem? (i := 9) rfl))) (by decide) (backOf (W := 1) (rm2r l Z a0 hw [] b5 acc h5 n0 Zs5 EaC FaC FnC g_b5) hz3 (hw _ (List.mem_of_getElem? (i := 9) rfl)) (hw _ (List.mem_of_getElem? (i := 6) rfl)) (by decide) (by decide)) (g := (mkF m 19 #[.val (.int p1), .val (.int p2), .val (.int p3), .val (.int p4), .val (.ref acc), .unset, .unset] [(.int (0 : Int32)), (.ref acc), (.ref b5), (.ref b5)])) rfl (by rw [hml]; rfl) (Steps.refl _) (a := b5) (argsL := [(.ref acc), (.int (0 : Int32))]) (rest := [(.ref b5)]) (lenOf pd_11 rfl) rfl (by show 2 * 0 + _ ≤ _; exact Nat.le_of_eq rfl) (hb hby at_19) (fun _ _ => ⟨rfl, e5, (by decide : 5 + 0 ≤ _), (by decide : 10 + 0 ≤ _)⟩)
    dsimp only [Pt.U, Pt.locs, Pt.cells, Pt.slots] at X7 l7 y7 z7 st7 hQ7
    subst l7 y7 z7
    obtain ⟨rfl, N7q, Kc, Ec, Fac, Fnc⟩ := hQ7
    have N7 := Fr.app N3 N7q
    have Zc : n0 ≤ T7.heap.size := Nat.le_trans Zs5 Kc.1
    have EbD := EbC.keep Kc
    have hszw : T3.heap.size ≤ T7.heap.size := Nat.le_trans E5.1 Kc.1
    have pre8 : ∀ t, Steps p.tables e below (T7.setTop (mkF m 26 #[.val (.int p1), .val (.int p2), .val (.int p3), .val (.int p4), .val (.ref acc), .val (.ref b5), .unset] [(.ref b5)])) t → Steps p.tables e below _ t := fun t kt => pre6 t (by
      show Steps p.tables e below (T5.setTop (mkF m 19 #[.val (.int p1), .val (.int p2), .val (.int p3), .val (.int p4), .val (.ref acc), .unset, .unset] [(.int (0 : Int32)), (.ref acc), (.ref b5), (.ref b5)])) _
      refine st7.trans ?_
      show Steps p.tables e below (T7.setTop (mkF m 22 #[.val (.int p1), .val (.int p2), .val (.int p3), .val (.int p4), .val (.ref acc), .unset, .unset] [(.ref b5)])) _
      refine XS.astore X7.here hx rfl (hb hby at_22) rfl rfl (l' := #[.val (.int p1), .val (.int p2), .val (.int p3), .val (.int p4), .val (.ref acc), .val (.ref b5), .unset]) rfl ?_
      show Steps p.tables e below (T7.setTop (mkF m 24 #[.val (.int p1), .val (.int p2), .val (.int p3), .val (.int p4), .val (.ref acc), .val (.ref b5), .unset] [])) _
      refine XS.aload X7.here hx rfl (hb hby at_24) rfl rfl ?_
      exact kt)
    obtain ⟨cq9, kq9, q9a, q9b, q9c⟩ := isOf hz3 rfl Ec
    obtain ⟨_, _, ⟨T9, L9, k9, n9⟩, -, X9, ⟨Lc9, hQ9, l9, y9, z9⟩, st9⟩ := X7.virtualBack hx (y := (⟨"com/example/haulway/haulway/bridge/Caller", "depositor", "()Ljava/lang/String;"⟩ : MethodName)) (z := (⟨"com/example/haulway/haulway/bridge/Caller", "depositor", "()Ljava/lang/String;"⟩ : MethodName)) how3 (mvT hz3 (hw _ (List.mem_of_getElem? (i := 22) rfl))) (mvT hz3 (hw _ (List.mem_of_getElem? (i := 23) rfl))) (notFace_of_selects (args := #[]) (mvT hz3 (hw _ (List.mem_of_getElem? (i := 25) rfl)))) (mvT hz3 (hw _ (List.mem_of_getElem? (i := 25) rfl))) (mvT hz3 (hw _ (List.mem_of_getElem? (i := 24) rfl))) (by decide) (backOf (W := 0) (rm5r l Z a0 hw [] b5 acc T7.heap n0 Zc Fac Fnc) hz3 (hw _ (List.mem_of_getElem? (i := 26) rfl)) (hw _ (List.mem_of_getElem? (i := 6) rfl)) (by decide) (by decide)) q9a q9c (g := (mkF m 26 #[.val (.int p1), .val (.int p2), .val (.int p3), .val (.int p4), .val (.ref acc), .val (.ref b5), .unset] [(.ref b5)])) rfl (by rw [hml]; rfl) (Steps.refl _) (argsL := []) (rest := []) (lenOf pd_12 rfl) rfl (by show 2 * 0 + _ ≤ _; exact Nat.le_of_eq rfl) (hb hby at_26) (fun _ _ => ⟨rfl, rfl, (by decide : 5 + 0 ≤ _), (by decide : 10 + 0 ≤ _)⟩)
    dsimp only [Pt.U, Pt.locs, Pt.cells, Pt.slots] at X9 l9 y9 z9 st9 hQ9
    subst l9 y9 z9
    obtain ⟨rfl, N9q, e9⟩ := hQ9
    have N9 := Fr.app N7 N9q
    have pre10 : ∀ t, Steps p.tables e below (T9.setTop (mkF m 58 #[.val (.int p1), .val (.int p2), .val (.int p3), .val (.int p4), .val (.ref acc), .val (.ref b5), .val (.ref acc)] [(.ref acc), (.ref acc)])) t → Steps p.tables e below _ t := fun t kt => pre8 t (by
      show Steps p.tables e below (T7.setTop (mkF m 26 #[.val (.int p1), .val (.int p2), .val (.int p3), .val (.int p4), .val (.ref acc), .val (.ref b5), .unset] [(.ref b5)])) _
      refine st9.trans ?_
      show Steps p.tables e below (T9.setTop (mkF m 29 #[.val (.int p1), .val (.int p2), .val (.int p3), .val (.int p4), .val (.ref acc), .val (.ref b5), .unset] [(.ref acc)])) _
      refine XS.astore X9.here hx rfl (hb hby at_29) rfl rfl (l' := #[.val (.int p1), .val (.int p2), .val (.int p3), .val (.int p4), .val (.ref acc), .val (.ref b5), .val (.ref acc)]) rfl ?_
      show Steps p.tables e below (T9.setTop (mkF m 31 #[.val (.int p1), .val (.int p2), .val (.int p3), .val (.int p4), .val (.ref acc), .val (.ref b5), .val (.ref acc)] [])) _
      refine XS.aload X9.here hx rfl (hb hby at_31) rfl rfl ?_
      show Steps p.tables e below (T9.setTop (mkF m 33 #[.val (.int p1), .val (.int p2), .val (.int p3), .val (.int p4), .val (.ref acc), .val (.ref b5), .val (.ref acc)] [(.ref acc)])) _
      refine XS.ifnonnullYes X9.here hx rfl (pc0 := 33) (pc' := 47) rfl (hb hby at_33) rfl (by decide) (by decide) ?_
      show Steps p.tables e below (T9.setTop (mkF m 47 #[.val (.int p1), .val (.int p2), .val (.int p3), .val (.int p4), .val (.ref acc), .val (.ref b5), .val (.ref acc)] [])) _
      refine XS.aload X9.here hx rfl (hb hby at_47) rfl rfl ?_
      show Steps p.tables e below (T9.setTop (mkF m 49 #[.val (.int p1), .val (.int p2), .val (.int p3), .val (.int p4), .val (.ref acc), .val (.ref b5), .val (.ref acc)] [(.ref acc)])) _
      refine XS.aload X9.here hx rfl (hb hby at_49) rfl rfl ?_
      show Steps p.tables e below (T9.setTop (mkF m 51 #[.val (.int p1), .val (.int p2), .val (.int p3), .val (.int p4), .val (.ref acc), .val (.ref b5), .val (.ref acc)] [(.ref acc), (.ref acc)])) _
      refine Jvm.RoadKit.acmp (g := (mkF m 51 #[.val (.int p1), .val (.int p2), .val (.int p3), .val (.int p4), .val (.ref acc), .val (.ref b5), .val (.ref acc)] [(.ref acc), (.ref acc)])) X9 hx rfl rfl rfl (pc0 := 51) (pc' := 54) (same := true) rfl (hb hby at_51) rfl (decide_eq_true rfl) (by decide) (by decide) ?_
      show Steps p.tables e below (T9.setTop (mkF m 54 #[.val (.int p1), .val (.int p2), .val (.int p3), .val (.int p4), .val (.ref acc), .val (.ref b5), .val (.ref acc)] [])) _
      refine XS.aload X9.here hx rfl (hb hby at_54) rfl rfl ?_
      show Steps p.tables e below (T9.setTop (mkF m 56 #[.val (.int p1), .val (.int p2), .val (.int p3), .val (.int p4), .val (.ref acc), .val (.ref b5), .val (.ref acc)] [(.ref acc)])) _
      refine XS.aload X9.here hx rfl (hb hby at_56) rfl rfl ?_
      exact kt)
    obtain ⟨cq11, kq11, q11a, q11b, q11c⟩ := isOf hz3 e9 EbD
    obtain ⟨_, _, ⟨T11, L11, k11, n11⟩, -, X11, ⟨Lc11, hQ11, l11, y11, z11⟩, st11⟩ := X9.virtualBack hx (y := (⟨"java/lang/String", "equals", "(Ljava/lang/Object;)Z"⟩ : MethodName)) (z := (⟨"java/lang/String", "equals", "(Ljava/lang/Object;)Z"⟩ : MethodName)) how3 (mvT hz3 (hw _ (List.mem_of_getElem? (i := 55) rfl))) (mvT hz3 (hw _ (List.mem_of_getElem? (i := 56) rfl))) (notFace_of_selects (args := #[]) (mvT hz3 (hw _ (List.mem_of_getElem? (i := 58) rfl)))) (mvT hz3 (hw _ (List.mem_of_getElem? (i := 58) rfl))) (mvT hz3 (hw _ (List.mem_of_getElem? (i := 57) rfl))) (by decide) (backOf (W := 0) (rm11 l Z a0 hw [] acc T7.heap n0 Zc) hz3 (hw _ (List.mem_of_getElem? (i := 59) rfl)) (hw _ (List.mem_of_getElem? (i := 29) rfl)) (by decide) (by decide)) q11a q11c (g := (mkF m 58 #[.val (.int p1), .val (.int p2), .val (.int p3), .val (.int p4), .val (.ref acc), .val (.ref b5), .val (.ref acc)] [(.ref acc), (.ref acc)])) rfl (by rw [hml]; rfl) (Steps.refl _) (argsL := [(.ref acc)]) (rest := []) (lenOf pd_13 rfl) rfl (by show 2 * 0 + _ ≤ _; exact Nat.le_of_eq rfl) (hb hby at_58) (fun _ _ => ⟨rfl, e9, (by decide : 5 + 0 ≤ _), (by decide : 10 + 0 ≤ _)⟩)
    dsimp only [Pt.U, Pt.locs, Pt.cells, Pt.slots] at X11 l11 y11 z11 st11 hQ11
    subst l11 y11 z11
    obtain ⟨rfl, N11q, e11⟩ := hQ11
    have N11 := Fr.app N9 N11q
    obtain ⟨fs, hr, hrun, hended, -, hW, hI, hsame⟩ := X11.leaveW Si3 (by rw [e11]; exact hszw) (v := some (.int (1 : Int32))) (fun h => by rw [Bd.returns] at h; cases h)
    refine ⟨_, _, pre10 _ ?_, hrun, hended, _, _, rfl, ?_, ⟨_, rfl⟩, hW, hI, hsame.mono (by decide) (by decide)⟩
    · show Steps p.tables e below (T9.setTop (mkF m 58 #[.val (.int p1), .val (.int p2), .val (.int p3), .val (.int p4), .val (.ref acc), .val (.ref b5), .val (.ref acc)] [(.ref acc), (.ref acc)])) _
      refine st11.trans ?_
      have hc61 : ¬ ((1 : Int32) = (0 : Int32)) := by decide
      show Steps p.tables e below (T11.setTop (mkF m 61 #[.val (.int p1), .val (.int p2), .val (.int p3), .val (.int p4), .val (.ref acc), .val (.ref b5), .val (.ref acc)] [(.int (1 : Int32))])) _
      refine XS.ifNo X11.here hx rfl (hb hby at_61) rfl ((if0 _ _).trans (feq hc61).1) ?_
      show Steps p.tables e below (T11.setTop (mkF m 64 #[.val (.int p1), .val (.int p2), .val (.int p3), .val (.int p4), .val (.ref acc), .val (.ref b5), .val (.ref acc)] [])) _
      refine XS.iconst X11.here hx rfl (hb hby at_64) ?_
      show Steps p.tables e below (T11.setTop (mkF m 65 #[.val (.int p1), .val (.int p2), .val (.int p3), .val (.int p4), .val (.ref acc), .val (.ref b5), .val (.ref acc)] [(.int (1 : Int32))])) _
      refine XS.goto X11.here hx rfl (pc0 := 65) (pc' := 69) rfl (hb hby at_65) (by decide) (by decide) ?_
      show Steps p.tables e below (T11.setTop (mkF m 69 #[.val (.int p1), .val (.int p2), .val (.int p3), .val (.int p4), .val (.ref acc), .val (.ref b5), .val (.ref acc)] [(.int (1 : Int32))])) _
      exact retN X11 hx (t := .boolean) Bd.returns (by simp) (hb hby at_69) hr
    · exact ⟨rfl, N11⟩
  · obtain ⟨_, _, ⟨T12, L12, k12, n12⟩, -, X12, ⟨Lc12, hQ12, l12, y12, z12⟩, st12⟩ := Jvm.LawKit.callS X0 hx (y := (⟨"com/example/haulway/haulway/bridge/CallerDepositorPinLaw", "draw", "(IIII)Ljava/lang/String;"⟩ : MethodName)) hown (mvT hZ (hw _ (List.mem_of_getElem? (i := 0) rfl))) (mvT hZ (hw _ (List.mem_of_getElem? (i := 1) rfl))) (mvT hZ (hw _ (List.mem_of_getElem? (i := 2) rfl))) (mvT hZ (hw _ (List.mem_of_getElem? (i := 3) rfl))) (by decide) (backOf (W := 0) (rm1 l Z a0 hw [] (p1 &&& (7 : Int32)) p2 p3 p4 G1 h0 n0 Z0 hsel O2 P5) hZ (hw _ (List.mem_of_getElem? (i := 3) rfl)) (hw _ (List.mem_of_getElem? (i := 2) rfl)) (by decide) (by decide)) (g := (mkF m 7 #[.val (.int p1), .val (.int p2), .val (.int p3), .val (.int p4), .unset, .unset, .unset] [(.int p4), (.int p3), (.int p2), (.int (p1 &&& (7 : Int32)))])) rfl (by rw [hml]; rfl) (argsL := [(.int (p1 &&& (7 : Int32))), (.int p2), (.int p3), (.int p4)]) (rest := []) (lenOf pd_10 rfl) rfl (by show 2 * 0 + _ ≤ _; exact Nat.le_of_eq rfl) (hb hby at_7) (fun _ _ => ⟨rfl, e0, (by decide : 0 + 3 ≤ _), (by decide : 0 + 12 ≤ _)⟩)
    dsimp only [Pt.U, Pt.locs, Pt.cells, Pt.slots] at X12 l12 y12 z12 st12 hQ12
    subst l12 y12 z12
    obtain ⟨rv, rfl, N12q, Kd, Rv⟩ := hQ12
    have N12 := Fr.app N0 N12q
    have Zd : n0 ≤ T12.heap.size := Nat.le_trans Z0 Kd.1
    rcases Rv with rfl | ⟨acc, rfl, Eb⟩
    · have pre13 : ∀ t, Steps p.tables e below (T12.setTop (mkF m 12 #[.val (.int p1), .val (.int p2), .val (.int p3), .val (.int p4), .val .null, .unset, .unset] [])) t → Steps p.tables e below _ t := fun t kt => pre1 t (by
        show Steps p.tables e below (s₁.setTop (mkF m 7 #[.val (.int p1), .val (.int p2), .val (.int p3), .val (.int p4), .unset, .unset, .unset] [(.int p4), (.int p3), (.int p2), (.int (p1 &&& (7 : Int32)))])) _
        refine st12 _ ?_
        show Steps p.tables e below (T12.setTop (mkF m 10 #[.val (.int p1), .val (.int p2), .val (.int p3), .val (.int p4), .unset, .unset, .unset] [.null])) _
        refine XS.astore X12.here hx rfl (hb hby at_10) rfl rfl (l' := #[.val (.int p1), .val (.int p2), .val (.int p3), .val (.int p4), .val .null, .unset, .unset]) rfl ?_
        exact kt)
      obtain ⟨T14, h14, X14, e14, E14, A14, D14, -, st14⟩ := newO X12 hx hZ hown (hw _ (List.mem_of_getElem? (i := 4) rfl)) (hw _ (List.mem_of_getElem? (i := 5) rfl)) (hw _ (List.mem_of_getElem? (i := 6) rfl)) rfl (g := (mkF m 12 #[.val (.int p1), .val (.int p2), .val (.int p3), .val (.int p4), .val .null, .unset, .unset] [])) rfl (hb hby at_12) (by decide) (by decide)
      obtain ⟨b14, gb14⟩ : ∃ z, z = T12.heap.size := ⟨_, rfl⟩
      rw [← gb14] at A14 D14 st14
      have g_b14 : n0 ≤ b14 := Nat.le_trans Zd (Nat.le_of_eq gb14.symm)
      have Zs14 : n0 ≤ h14.size := Nat.le_trans Zd E14.1
      have sz_b14 : h0.size ≤ b14 := Nat.le_trans Kd.1 (Nat.le_of_eq gb14.symm)
      have Kp14 : Keep h0 h14 [] := Kd.ext E14
      have EaC := A14
      have FaC : Fld Z h14 b14 "com/example/haulway/haulway/bridge/Caller" "account" "Ljava/lang/String;" .null := D14 (Or.inr (hw _ (List.mem_of_getElem? (i := 19) rfl))) (ty := (.object "java/lang/String")) (by decide)
      have FnC : Fld Z h14 b14 "com/example/haulway/haulway/bridge/Caller" "network" "Z" (.int (0 : Int32)) := D14 (Or.inr (hw _ (List.mem_of_getElem? (i := 21) rfl))) (ty := .boolean) (by decide)
      have pre15 : ∀ t, Steps p.tables e below (T14.setTop (mkF m 19 #[.val (.int p1), .val (.int p2), .val (.int p3), .val (.int p4), .val .null, .unset, .unset] [(.int (0 : Int32)), .null, (.ref b14), (.ref b14)])) t → Steps p.tables e below _ t := fun t kt => pre13 t (by
        show Steps p.tables e below (T12.setTop (mkF m 12 #[.val (.int p1), .val (.int p2), .val (.int p3), .val (.int p4), .val .null, .unset, .unset] [])) _
        refine st14 _ ?_
        show Steps p.tables e below (T14.setTop (mkF m 15 #[.val (.int p1), .val (.int p2), .val (.int p3), .val (.int p4), .val .null, .unset, .unset] [(.ref b14)])) _
        refine XS.dup X14.here hx rfl (hb hby at_15) rfl rfl ?_
        show Steps p.tables e below (T14.setTop (mkF m 16 #[.val (.int p1), .val (.int p2), .val (.int p3), .val (.int p4), .val .null, .unset, .unset] [(.ref b14), (.ref b14)])) _
        refine XS.aload X14.here hx rfl (hb hby at_16) rfl rfl ?_
        show Steps p.tables e below (T14.setTop (mkF m 18 #[.val (.int p1), .val (.int p2), .val (.int p3), .val (.int p4), .val .null, .unset, .unset] [.null, (.ref b14), (.ref b14)])) _
        refine XS.iconst X14.here hx rfl (hb hby at_18) ?_
        exact kt)
      obtain ⟨_, _, ⟨T16, L16, k16, n16⟩, -, X16, ⟨Lc16, hQ16, l16, y16, z16⟩, st16⟩ := X14.specialBack hx (y := (⟨"com/example/haulway/haulway/bridge/Caller", "<init>", "(Ljava/lang/String;Z)V"⟩ : MethodName)) rfl hown (mvT hZ (hw _ (List.mem_of_getElem? (i := 7) rfl))) (mvT hZ (hw _ (List.mem_of_getElem? (i := 8) rfl))) (mvT hZ (hw _ (List.mem_of_getElem? (i := 9) rfl))) (by decide) (backOf (W := 1) (rm2n l Z a0 hw [] b14 h14 n0 Zs14 EaC FaC FnC g_b14) hZ (hw _ (List.mem_of_getElem? (i := 9) rfl)) (hw _ (List.mem_of_getElem? (i := 6) rfl)) (by decide) (by decide)) (g := (mkF m 19 #[.val (.int p1), .val (.int p2), .val (.int p3), .val (.int p4), .val .null, .unset, .unset] [(.int (0 : Int32)), .null, (.ref b14), (.ref b14)])) rfl (by rw [hml]; rfl) (Steps.refl _) (a := b14) (argsL := [.null, (.int (0 : Int32))]) (rest := [(.ref b14)]) (lenOf pd_11 rfl) rfl (by show 2 * 0 + _ ≤ _; exact Nat.le_of_eq rfl) (hb hby at_19) (fun _ _ => ⟨rfl, e14, (by decide : 4 + 0 ≤ _), (by decide : 14 + 0 ≤ _)⟩)
      dsimp only [Pt.U, Pt.locs, Pt.cells, Pt.slots] at X16 l16 y16 z16 st16 hQ16
      subst l16 y16 z16
      obtain ⟨rfl, N16q, Kc, Ec, Fac, Fnc⟩ := hQ16
      have N16 := Fr.app N12 N16q
      have Zc : n0 ≤ T16.heap.size := Nat.le_trans Zs14 Kc.1
      have pre17 : ∀ t, Steps p.tables e below (T16.setTop (mkF m 26 #[.val (.int p1), .val (.int p2), .val (.int p3), .val (.int p4), .val .null, .val (.ref b14), .unset] [(.ref b14)])) t → Steps p.tables e below _ t := fun t kt => pre15 t (by
        show Steps p.tables e below (T14.setTop (mkF m 19 #[.val (.int p1), .val (.int p2), .val (.int p3), .val (.int p4), .val .null, .unset, .unset] [(.int (0 : Int32)), .null, (.ref b14), (.ref b14)])) _
        refine st16.trans ?_
        show Steps p.tables e below (T16.setTop (mkF m 22 #[.val (.int p1), .val (.int p2), .val (.int p3), .val (.int p4), .val .null, .unset, .unset] [(.ref b14)])) _
        refine XS.astore X16.here hx rfl (hb hby at_22) rfl rfl (l' := #[.val (.int p1), .val (.int p2), .val (.int p3), .val (.int p4), .val .null, .val (.ref b14), .unset]) rfl ?_
        show Steps p.tables e below (T16.setTop (mkF m 24 #[.val (.int p1), .val (.int p2), .val (.int p3), .val (.int p4), .val .null, .val (.ref b14), .unset] [])) _
        refine XS.aload X16.here hx rfl (hb hby at_24) rfl rfl ?_
        exact kt)
      obtain ⟨cq18, kq18, q18a, q18b, q18c⟩ := isOf hZ rfl Ec
      obtain ⟨_, _, ⟨T18, L18, k18, n18⟩, -, X18, ⟨Lc18, hQ18, l18, y18, z18⟩, st18⟩ := X16.virtualBack hx (y := (⟨"com/example/haulway/haulway/bridge/Caller", "depositor", "()Ljava/lang/String;"⟩ : MethodName)) (z := (⟨"com/example/haulway/haulway/bridge/Caller", "depositor", "()Ljava/lang/String;"⟩ : MethodName)) hown (mvT hZ (hw _ (List.mem_of_getElem? (i := 22) rfl))) (mvT hZ (hw _ (List.mem_of_getElem? (i := 23) rfl))) (notFace_of_selects (args := #[]) (mvT hZ (hw _ (List.mem_of_getElem? (i := 25) rfl)))) (mvT hZ (hw _ (List.mem_of_getElem? (i := 25) rfl))) (mvT hZ (hw _ (List.mem_of_getElem? (i := 24) rfl))) (by decide) (backOf (W := 0) (rm5n l Z a0 hw [] b14 T16.heap n0 Zc Fac Fnc) hZ (hw _ (List.mem_of_getElem? (i := 26) rfl)) (hw _ (List.mem_of_getElem? (i := 6) rfl)) (by decide) (by decide)) q18a q18c (g := (mkF m 26 #[.val (.int p1), .val (.int p2), .val (.int p3), .val (.int p4), .val .null, .val (.ref b14), .unset] [(.ref b14)])) rfl (by rw [hml]; rfl) (Steps.refl _) (argsL := []) (rest := []) (lenOf pd_12 rfl) rfl (by show 2 * 0 + _ ≤ _; exact Nat.le_of_eq rfl) (hb hby at_26) (fun _ _ => ⟨rfl, rfl, (by decide : 4 + 0 ≤ _), (by decide : 14 + 0 ≤ _)⟩)
      dsimp only [Pt.U, Pt.locs, Pt.cells, Pt.slots] at X18 l18 y18 z18 st18 hQ18
      subst l18 y18 z18
      obtain ⟨rfl, N18q, e18⟩ := hQ18
      have N18 := Fr.app N16 N18q
      obtain ⟨fs, hr, hrun, hended, hW0, hsame⟩ := X18.leave (v := some (.int (1 : Int32))) (fun h => by rw [Bd.returns] at h; cases h)
      have hW := hW0.wide
      have hI := hW0.no_new_pair
      refine ⟨_, _, pre17 _ ?_, hrun, hended, _, _, rfl, ?_, ⟨_, rfl⟩, hW, hI _, hsame.mono (by decide) (by decide)⟩
      · show Steps p.tables e below (T16.setTop (mkF m 26 #[.val (.int p1), .val (.int p2), .val (.int p3), .val (.int p4), .val .null, .val (.ref b14), .unset] [(.ref b14)])) _
        refine st18.trans ?_
        show Steps p.tables e below (T18.setTop (mkF m 29 #[.val (.int p1), .val (.int p2), .val (.int p3), .val (.int p4), .val .null, .val (.ref b14), .unset] [.null])) _
        refine XS.astore X18.here hx rfl (hb hby at_29) rfl rfl (l' := #[.val (.int p1), .val (.int p2), .val (.int p3), .val (.int p4), .val .null, .val (.ref b14), .val .null]) rfl ?_
        show Steps p.tables e below (T18.setTop (mkF m 31 #[.val (.int p1), .val (.int p2), .val (.int p3), .val (.int p4), .val .null, .val (.ref b14), .val .null] [])) _
        refine XS.aload X18.here hx rfl (hb hby at_31) rfl rfl ?_
        show Steps p.tables e below (T18.setTop (mkF m 33 #[.val (.int p1), .val (.int p2), .val (.int p3), .val (.int p4), .val .null, .val (.ref b14), .val .null] [.null])) _
        refine XS.ifnonnullNo X18.here hx rfl (hb hby at_33) rfl ?_
        show Steps p.tables e below (T18.setTop (mkF m 36 #[.val (.int p1), .val (.int p2), .val (.int p3), .val (.int p4), .val .null, .val (.ref b14), .val .null] [])) _
        refine XS.aload X18.here hx rfl (hb hby at_36) rfl rfl ?_
        show Steps p.tables e below (T18.setTop (mkF m 38 #[.val (.int p1), .val (.int p2), .val (.int p3), .val (.int p4), .val .null, .val (.ref b14), .val .null] [.null])) _
        refine XS.ifnonnullNo X18.here hx rfl (hb hby at_38) rfl ?_
        show Steps p.tables e below (T18.setTop (mkF m 41 #[.val (.int p1), .val (.int p2), .val (.int p3), .val (.int p4), .val .null, .val (.ref b14), .val .null] [])) _
        refine XS.iconst X18.here hx rfl (hb hby at_41) ?_
        show Steps p.tables e below (T18.setTop (mkF m 42 #[.val (.int p1), .val (.int p2), .val (.int p3), .val (.int p4), .val .null, .val (.ref b14), .val .null] [(.int (1 : Int32))])) _
        refine XS.goto X18.here hx rfl (pc0 := 42) (pc' := 46) rfl (hb hby at_42) (by decide) (by decide) ?_
        show Steps p.tables e below (T18.setTop (mkF m 46 #[.val (.int p1), .val (.int p2), .val (.int p3), .val (.int p4), .val .null, .val (.ref b14), .val .null] [(.int (1 : Int32))])) _
        exact retN X18 hx (t := .boolean) Bd.returns (by simp) (hb hby at_46) hr
      · exact ⟨rfl, N18⟩
    · have pre19 : ∀ t, Steps p.tables e below (T12.setTop (mkF m 12 #[.val (.int p1), .val (.int p2), .val (.int p3), .val (.int p4), .val (.ref acc), .unset, .unset] [])) t → Steps p.tables e below _ t := fun t kt => pre1 t (by
        show Steps p.tables e below (s₁.setTop (mkF m 7 #[.val (.int p1), .val (.int p2), .val (.int p3), .val (.int p4), .unset, .unset, .unset] [(.int p4), (.int p3), (.int p2), (.int (p1 &&& (7 : Int32)))])) _
        refine st12 _ ?_
        show Steps p.tables e below (T12.setTop (mkF m 10 #[.val (.int p1), .val (.int p2), .val (.int p3), .val (.int p4), .unset, .unset, .unset] [(.ref acc)])) _
        refine XS.astore X12.here hx rfl (hb hby at_10) rfl rfl (l' := #[.val (.int p1), .val (.int p2), .val (.int p3), .val (.int p4), .val (.ref acc), .unset, .unset]) rfl ?_
        exact kt)
      obtain ⟨T20, h20, X20, e20, E20, A20, D20, -, st20⟩ := newO X12 hx hZ hown (hw _ (List.mem_of_getElem? (i := 4) rfl)) (hw _ (List.mem_of_getElem? (i := 5) rfl)) (hw _ (List.mem_of_getElem? (i := 6) rfl)) rfl (g := (mkF m 12 #[.val (.int p1), .val (.int p2), .val (.int p3), .val (.int p4), .val (.ref acc), .unset, .unset] [])) rfl (hb hby at_12) (by decide) (by decide)
      obtain ⟨b20, gb20⟩ : ∃ z, z = T12.heap.size := ⟨_, rfl⟩
      rw [← gb20] at A20 D20 st20
      have g_b20 : n0 ≤ b20 := Nat.le_trans Zd (Nat.le_of_eq gb20.symm)
      have Zs20 : n0 ≤ h20.size := Nat.le_trans Zd E20.1
      have sz_b20 : h0.size ≤ b20 := Nat.le_trans Kd.1 (Nat.le_of_eq gb20.symm)
      have Kp20 : Keep h0 h20 [] := Kd.ext E20
      have EaC := A20
      have FaC : Fld Z h20 b20 "com/example/haulway/haulway/bridge/Caller" "account" "Ljava/lang/String;" .null := D20 (Or.inr (hw _ (List.mem_of_getElem? (i := 19) rfl))) (ty := (.object "java/lang/String")) (by decide)
      have FnC : Fld Z h20 b20 "com/example/haulway/haulway/bridge/Caller" "network" "Z" (.int (0 : Int32)) := D20 (Or.inr (hw _ (List.mem_of_getElem? (i := 21) rfl))) (ty := .boolean) (by decide)
      have EbC := Eb.ext E20
      have pre21 : ∀ t, Steps p.tables e below (T20.setTop (mkF m 19 #[.val (.int p1), .val (.int p2), .val (.int p3), .val (.int p4), .val (.ref acc), .unset, .unset] [(.int (0 : Int32)), (.ref acc), (.ref b20), (.ref b20)])) t → Steps p.tables e below _ t := fun t kt => pre19 t (by
        show Steps p.tables e below (T12.setTop (mkF m 12 #[.val (.int p1), .val (.int p2), .val (.int p3), .val (.int p4), .val (.ref acc), .unset, .unset] [])) _
        refine st20 _ ?_
        show Steps p.tables e below (T20.setTop (mkF m 15 #[.val (.int p1), .val (.int p2), .val (.int p3), .val (.int p4), .val (.ref acc), .unset, .unset] [(.ref b20)])) _
        refine XS.dup X20.here hx rfl (hb hby at_15) rfl rfl ?_
        show Steps p.tables e below (T20.setTop (mkF m 16 #[.val (.int p1), .val (.int p2), .val (.int p3), .val (.int p4), .val (.ref acc), .unset, .unset] [(.ref b20), (.ref b20)])) _
        refine XS.aload X20.here hx rfl (hb hby at_16) rfl rfl ?_
        show Steps p.tables e below (T20.setTop (mkF m 18 #[.val (.int p1), .val (.int p2), .val (.int p3), .val (.int p4), .val (.ref acc), .unset, .unset] [(.ref acc), (.ref b20), (.ref b20)])) _
        refine XS.iconst X20.here hx rfl (hb hby at_18) ?_
        exact kt)
      obtain ⟨_, _, ⟨T22, L22, k22, n22⟩, -, X22, ⟨Lc22, hQ22, l22, y22, z22⟩, st22⟩ := X20.specialBack hx (y := (⟨"com/example/haulway/haulway/bridge/Caller", "<init>", "(Ljava/lang/String;Z)V"⟩ : MethodName)) rfl hown (mvT hZ (hw _ (List.mem_of_getElem? (i := 7) rfl))) (mvT hZ (hw _ (List.mem_of_getElem? (i := 8) rfl))) (mvT hZ (hw _ (List.mem_of_getElem? (i := 9) rfl))) (by decide) (backOf (W := 1) (rm2r l Z a0 hw [] b20 acc h20 n0 Zs20 EaC FaC FnC g_b20) hZ (hw _ (List.mem_of_getElem? (i := 9) rfl)) (hw _ (List.mem_of_getElem? (i := 6) rfl)) (by decide) (by decide)) (g := (mkF m 19 #[.val (.int p1), .val (.int p2), .val (.int p3), .val (.int p4), .val (.ref acc), .unset, .unset] [(.int (0 : Int32)), (.ref acc), (.ref b20), (.ref b20)])) rfl (by rw [hml]; rfl) (Steps.refl _) (a := b20) (argsL := [(.ref acc), (.int (0 : Int32))]) (rest := [(.ref b20)]) (lenOf pd_11 rfl) rfl (by show 2 * 0 + _ ≤ _; exact Nat.le_of_eq rfl) (hb hby at_19) (fun _ _ => ⟨rfl, e20, (by decide : 4 + 0 ≤ _), (by decide : 14 + 0 ≤ _)⟩)
      dsimp only [Pt.U, Pt.locs, Pt.cells, Pt.slots] at X22 l22 y22 z22 st22 hQ22
      subst l22 y22 z22
      obtain ⟨rfl, N22q, Kc, Ec, Fac, Fnc⟩ := hQ22
      have N22 := Fr.app N12 N22q
      have Zc : n0 ≤ T22.heap.size := Nat.le_trans Zs20 Kc.1
      have EbD := EbC.keep Kc
      have pre23 : ∀ t, Steps p.tables e below (T22.setTop (mkF m 26 #[.val (.int p1), .val (.int p2), .val (.int p3), .val (.int p4), .val (.ref acc), .val (.ref b20), .unset] [(.ref b20)])) t → Steps p.tables e below _ t := fun t kt => pre21 t (by
        show Steps p.tables e below (T20.setTop (mkF m 19 #[.val (.int p1), .val (.int p2), .val (.int p3), .val (.int p4), .val (.ref acc), .unset, .unset] [(.int (0 : Int32)), (.ref acc), (.ref b20), (.ref b20)])) _
        refine st22.trans ?_
        show Steps p.tables e below (T22.setTop (mkF m 22 #[.val (.int p1), .val (.int p2), .val (.int p3), .val (.int p4), .val (.ref acc), .unset, .unset] [(.ref b20)])) _
        refine XS.astore X22.here hx rfl (hb hby at_22) rfl rfl (l' := #[.val (.int p1), .val (.int p2), .val (.int p3), .val (.int p4), .val (.ref acc), .val (.ref b20), .unset]) rfl ?_
        show Steps p.tables e below (T22.setTop (mkF m 24 #[.val (.int p1), .val (.int p2), .val (.int p3), .val (.int p4), .val (.ref acc), .val (.ref b20), .unset] [])) _
        refine XS.aload X22.here hx rfl (hb hby at_24) rfl rfl ?_
        exact kt)
      obtain ⟨cq24, kq24, q24a, q24b, q24c⟩ := isOf hZ rfl Ec
      obtain ⟨_, _, ⟨T24, L24, k24, n24⟩, -, X24, ⟨Lc24, hQ24, l24, y24, z24⟩, st24⟩ := X22.virtualBack hx (y := (⟨"com/example/haulway/haulway/bridge/Caller", "depositor", "()Ljava/lang/String;"⟩ : MethodName)) (z := (⟨"com/example/haulway/haulway/bridge/Caller", "depositor", "()Ljava/lang/String;"⟩ : MethodName)) hown (mvT hZ (hw _ (List.mem_of_getElem? (i := 22) rfl))) (mvT hZ (hw _ (List.mem_of_getElem? (i := 23) rfl))) (notFace_of_selects (args := #[]) (mvT hZ (hw _ (List.mem_of_getElem? (i := 25) rfl)))) (mvT hZ (hw _ (List.mem_of_getElem? (i := 25) rfl))) (mvT hZ (hw _ (List.mem_of_getElem? (i := 24) rfl))) (by decide) (backOf (W := 0) (rm5r l Z a0 hw [] b20 acc T22.heap n0 Zc Fac Fnc) hZ (hw _ (List.mem_of_getElem? (i := 26) rfl)) (hw _ (List.mem_of_getElem? (i := 6) rfl)) (by decide) (by decide)) q24a q24c (g := (mkF m 26 #[.val (.int p1), .val (.int p2), .val (.int p3), .val (.int p4), .val (.ref acc), .val (.ref b20), .unset] [(.ref b20)])) rfl (by rw [hml]; rfl) (Steps.refl _) (argsL := []) (rest := []) (lenOf pd_12 rfl) rfl (by show 2 * 0 + _ ≤ _; exact Nat.le_of_eq rfl) (hb hby at_26) (fun _ _ => ⟨rfl, rfl, (by decide : 4 + 0 ≤ _), (by decide : 14 + 0 ≤ _)⟩)
      dsimp only [Pt.U, Pt.locs, Pt.cells, Pt.slots] at X24 l24 y24 z24 st24 hQ24
      subst l24 y24 z24
      obtain ⟨rfl, N24q, e24⟩ := hQ24
      have N24 := Fr.app N22 N24q
      have pre25 : ∀ t, Steps p.tables e below (T24.setTop (mkF m 58 #[.val (.int p1), .val (.int p2), .val (.int p3), .val (.int p4), .val (.ref acc), .val (.ref b20), .val (.ref acc)] [(.ref acc), (.ref acc)])) t → Steps p.tables e below _ t := fun t kt => pre23 t (by
        show Steps p.tables e below (T22.setTop (mkF m 26 #[.val (.int p1), .val (.int p2), .val (.int p3), .val (.int p4), .val (.ref acc), .val (.ref b20), .unset] [(.ref b20)])) _
        refine st24.trans ?_
        show Steps p.tables e below (T24.setTop (mkF m 29 #[.val (.int p1), .val (.int p2), .val (.int p3), .val (.int p4), .val (.ref acc), .val (.ref b20), .unset] [(.ref acc)])) _
        refine XS.astore X24.here hx rfl (hb hby at_29) rfl rfl (l' := #[.val (.int p1), .val (.int p2), .val (.int p3), .val (.int p4), .val (.ref acc), .val (.ref b20), .val (.ref acc)]) rfl ?_
        show Steps p.tables e below (T24.setTop (mkF m 31 #[.val (.int p1), .val (.int p2), .val (.int p3), .val (.int p4), .val (.ref acc), .val (.ref b20), .val (.ref acc)] [])) _
        refine XS.aload X24.here hx rfl (hb hby at_31) rfl rfl ?_
        show Steps p.tables e below (T24.setTop (mkF m 33 #[.val (.int p1), .val (.int p2), .val (.int p3), .val (.int p4), .val (.ref acc), .val (.ref b20), .val (.ref acc)] [(.ref acc)])) _
        refine XS.ifnonnullYes X24.here hx rfl (pc0 := 33) (pc' := 47) rfl (hb hby at_33) rfl (by decide) (by decide) ?_
        show Steps p.tables e below (T24.setTop (mkF m 47 #[.val (.int p1), .val (.int p2), .val (.int p3), .val (.int p4), .val (.ref acc), .val (.ref b20), .val (.ref acc)] [])) _
        refine XS.aload X24.here hx rfl (hb hby at_47) rfl rfl ?_
        show Steps p.tables e below (T24.setTop (mkF m 49 #[.val (.int p1), .val (.int p2), .val (.int p3), .val (.int p4), .val (.ref acc), .val (.ref b20), .val (.ref acc)] [(.ref acc)])) _
        refine XS.aload X24.here hx rfl (hb hby at_49) rfl rfl ?_
        show Steps p.tables e below (T24.setTop (mkF m 51 #[.val (.int p1), .val (.int p2), .val (.int p3), .val (.int p4), .val (.ref acc), .val (.ref b20), .val (.ref acc)] [(.ref acc), (.ref acc)])) _
        refine Jvm.RoadKit.acmp (g := (mkF m 51 #[.val (.int p1), .val (.int p2), .val (.int p3), .val (.int p4), .val (.ref acc), .val (.ref b20), .val (.ref acc)] [(.ref acc), (.ref acc)])) X24 hx rfl rfl rfl (pc0 := 51) (pc' := 54) (same := true) rfl (hb hby at_51) rfl (decide_eq_true rfl) (by decide) (by decide) ?_
        show Steps p.tables e below (T24.setTop (mkF m 54 #[.val (.int p1), .val (.int p2), .val (.int p3), .val (.int p4), .val (.ref acc), .val (.ref b20), .val (.ref acc)] [])) _
        refine XS.aload X24.here hx rfl (hb hby at_54) rfl rfl ?_
        show Steps p.tables e below (T24.setTop (mkF m 56 #[.val (.int p1), .val (.int p2), .val (.int p3), .val (.int p4), .val (.ref acc), .val (.ref b20), .val (.ref acc)] [(.ref acc)])) _
        refine XS.aload X24.here hx rfl (hb hby at_56) rfl rfl ?_
        exact kt)
      obtain ⟨cq26, kq26, q26a, q26b, q26c⟩ := isOf hZ e24 EbD
      obtain ⟨_, _, ⟨T26, L26, k26, n26⟩, -, X26, ⟨Lc26, hQ26, l26, y26, z26⟩, st26⟩ := X24.virtualBack hx (y := (⟨"java/lang/String", "equals", "(Ljava/lang/Object;)Z"⟩ : MethodName)) (z := (⟨"java/lang/String", "equals", "(Ljava/lang/Object;)Z"⟩ : MethodName)) hown (mvT hZ (hw _ (List.mem_of_getElem? (i := 55) rfl))) (mvT hZ (hw _ (List.mem_of_getElem? (i := 56) rfl))) (notFace_of_selects (args := #[]) (mvT hZ (hw _ (List.mem_of_getElem? (i := 58) rfl)))) (mvT hZ (hw _ (List.mem_of_getElem? (i := 58) rfl))) (mvT hZ (hw _ (List.mem_of_getElem? (i := 57) rfl))) (by decide) (backOf (W := 0) (rm11 l Z a0 hw [] acc T22.heap n0 Zc) hZ (hw _ (List.mem_of_getElem? (i := 59) rfl)) (hw _ (List.mem_of_getElem? (i := 29) rfl)) (by decide) (by decide)) q26a q26c (g := (mkF m 58 #[.val (.int p1), .val (.int p2), .val (.int p3), .val (.int p4), .val (.ref acc), .val (.ref b20), .val (.ref acc)] [(.ref acc), (.ref acc)])) rfl (by rw [hml]; rfl) (Steps.refl _) (argsL := [(.ref acc)]) (rest := []) (lenOf pd_13 rfl) rfl (by show 2 * 0 + _ ≤ _; exact Nat.le_of_eq rfl) (hb hby at_58) (fun _ _ => ⟨rfl, e24, (by decide : 4 + 0 ≤ _), (by decide : 14 + 0 ≤ _)⟩)
      dsimp only [Pt.U, Pt.locs, Pt.cells, Pt.slots] at X26 l26 y26 z26 st26 hQ26
      subst l26 y26 z26
      obtain ⟨rfl, N26q, e26⟩ := hQ26
      have N26 := Fr.app N24 N26q
      obtain ⟨fs, hr, hrun, hended, hW0, hsame⟩ := X26.leave (v := some (.int (1 : Int32))) (fun h => by rw [Bd.returns] at h; cases h)
      have hW := hW0.wide
      have hI := hW0.no_new_pair
      refine ⟨_, _, pre25 _ ?_, hrun, hended, _, _, rfl, ?_, ⟨_, rfl⟩, hW, hI _, hsame.mono (by decide) (by decide)⟩
      · show Steps p.tables e below (T24.setTop (mkF m 58 #[.val (.int p1), .val (.int p2), .val (.int p3), .val (.int p4), .val (.ref acc), .val (.ref b20), .val (.ref acc)] [(.ref acc), (.ref acc)])) _
        refine st26.trans ?_
        have hc61 : ¬ ((1 : Int32) = (0 : Int32)) := by decide
        show Steps p.tables e below (T26.setTop (mkF m 61 #[.val (.int p1), .val (.int p2), .val (.int p3), .val (.int p4), .val (.ref acc), .val (.ref b20), .val (.ref acc)] [(.int (1 : Int32))])) _
        refine XS.ifNo X26.here hx rfl (hb hby at_61) rfl ((if0 _ _).trans (feq hc61).1) ?_
        show Steps p.tables e below (T26.setTop (mkF m 64 #[.val (.int p1), .val (.int p2), .val (.int p3), .val (.int p4), .val (.ref acc), .val (.ref b20), .val (.ref acc)] [])) _
        refine XS.iconst X26.here hx rfl (hb hby at_64) ?_
        show Steps p.tables e below (T26.setTop (mkF m 65 #[.val (.int p1), .val (.int p2), .val (.int p3), .val (.int p4), .val (.ref acc), .val (.ref b20), .val (.ref acc)] [(.int (1 : Int32))])) _
        refine XS.goto X26.here hx rfl (pc0 := 65) (pc' := 69) rfl (hb hby at_65) (by decide) (by decide) ?_
        show Steps p.tables e below (T26.setTop (mkF m 69 #[.val (.int p1), .val (.int p2), .val (.int p3), .val (.int p4), .val (.ref acc), .val (.ref b20), .val (.ref acc)] [(.int (1 : Int32))])) _
        exact retN X26 hx (t := .boolean) Bd.returns (by simp) (hb hby at_69) hr
      · exact ⟨rfl, N26⟩
set_option maxRecDepth 65536 in
set_option maxHeartbeats 40000000 in
theorem comes_1 {Post : Tables → Env → Array Value → State → Outcome → State → Prop} (hpost : ∀ tb e args s v u, (limb_1_1.after args s (.returned v) u = true ∧ limb_1_2.after args s (.returned v) u = true ∧ True) → Jvm.D.FramedW s (.returned v) u (Jvm.fieldLocs frame_1_writes args s ++ Jvm.arrayLocs frame_1_arrays args s ++ Jvm.staticLocs frame_1_statics s) 24 1152 → Post tb e args s (.returned v) u) :
    ArmFor flags0 classFile x code maxLocals ret World_1 tables_1 room_1 Calls_1 rest_1 Pre_1 Post := by
  intro l hfl _ _ p e ha hc hk s m args below hf hA hF happ hP
  obtain ⟨hcalls, hrest, hpre⟩ := hP
  obtain ⟨-, -, -, hnamed, -, -, -, hat⟩ := (Spec.applies_iff hf).mp happ
  obtain ⟨hg, hn⟩ := and_e (Cond.before_iff.mp (show (Jvm.Cond.and given_1 narrow_1).before args s = true from hpre))
  obtain ⟨gc, gr0⟩ := and_e hg
  obtain ⟨ga0, gr1⟩ := and_e gr0
  obtain ⟨ga1, gr2⟩ := and_e gr1
  obtain ⟨ga2, gr3⟩ := and_e gr2
  obtain ⟨w0, w1, w2, w3, rfl⟩ : ∃ w0 w1 w2 w3 : Value, args = #[w0, w1, w2, w3] := by
    have hs : args.size = 4 := by simpa [Cond.value, given_1] using gc
    obtain ⟨L⟩ := args
    match L, hs with
    | [w0, w1, w2, w3], _ => exact ⟨w0, w1, w2, w3, rfl⟩
  have hw := fun d (hd : d ∈ tables_1) => atoms_spec (ws := Jvm.Cond.code x code maxLocals ret :: tables_1) hat d (List.mem_cons_of_mem _ hd)
  have hfit : Fit s := fun {y c} hc i hi => by
    obtain ⟨ha, rfl⟩ := Array.getElem?_eq_some_iff.mp hc
    have q := List.all_eq_true.mp ((Array.all_eq_true_iff_forall_mem.mp hF) _ (Array.getElem_mem ha)) i (List.mem_range.mpr hi)
    simpa [Array.getElem?_eq_getElem hi] using q
  obtain ⟨hsets, hown0⟩ := atoms_of _ (rest_1_c_eq ▸ (show rest_1_c.before _ s = true from hrest))
  have hr0 := Cond.before_iff.mp hown0
  obtain ⟨i0, ei0⟩ := is_v ga0
  obtain rfl : w0 = (.int i0) := Option.some.inj ei0
  obtain ⟨i1, ei1⟩ := is_v ga1
  obtain rfl : w1 = (.int i1) := Option.some.inj ei1
  obtain ⟨i2, ei2⟩ := is_v ga2
  obtain rfl : w2 = (.int i2) := Option.some.inj ei2
  obtain ⟨i3, ei3⟩ := is_v gr3
  obtain rfl : w3 = (.int i3) := Option.some.inj ei3
  obtain ⟨G1, eG1⟩ := is_v (Cond.before_iff.mp (hsets _ (List.mem_of_getElem? (i := 1) rfl)))
  have O2 : Sta s s.heap "java/lang/String" "COMPACT_STRINGS" "Z" (.int G1) := Sta.start eG1 (Or.inl (hsets _ (List.mem_of_getElem? (i := 0) rfl)))
  have hcw := hsets _ (List.mem_of_getElem? (i := 2) rfl)
  have P5 : ¬ (G1 = (0 : Int32)) := own_notzero eG1 hcw
  have hh7 : Jvm.Lit.constHeld s "java/lang/String" 7 := hcalls.1 _ (List.mem_of_getElem? (i := 0) rfl)
  obtain ⟨n, o, h1, h2, h3, _, L, rfl, ⟨rfl, N⟩, hq⟩ := rm0 l s _ hw tables_1 i0 i1 i2 i3 G1 s.heap s.heap.size (Nat.le_refl _) O2 P5 (fun _ _ q => q) hh7 hcw p e ha hc hk s m _ below hf ((Spec.applies_iff_loose hf).mp happ).1 ⟨rfl, State.Warmed39.refl s, rfl, IB.start⟩ trivial
  refine ⟨n, _, h1, h2, h3, hpost _ _ _ _ _ _ ⟨Cond.after_iff.mpr rfl, Cond.after_iff.mpr (eq_i res_at (Term.int_eval (1)) rfl), trivial⟩ ⟨hq.1, hq.2.1, hq.2.2.1, (hq.2.2.2.sift fun y hy => Or.inr (N y hy)).mono (by decide) (by decide)⟩⟩
theorem main_1_1 : Claimed_1_1 := comes_1 fun _ _ _ _ _ _ h hF => ⟨h.1, hF⟩
theorem main_1_2 : Claimed_1_2 := comes_1 fun _ _ _ _ _ _ h hF => ⟨h.2.1, hF⟩
end Jvm.Pilot.@@N@@
namespace Jvm.Pilot.@@N@@
open Jvm Jvm.ClassFile Sem Op Lib Jvm.Free Jvm.Stand Jvm.Pilot.@@N@@.Jvm.D
/-! MADE BY PROGRAM (witnessworld.py) out of the Statement's table words and the real class files: 21 classes; the members and pool entries that the words name. The judged class is class 1, her method 2. -/
namespace start1
open Jvm.ClassFile
def u (s : String) : CpInfo := .utf8 (stringToUtf16 s)
/-- a pool by its gaps: so many unusable entries, then the entry; so many at the end -/
def gap : Nat → List CpInfo → List CpInfo
  | 0, r => r
  | n + 1, r => .unusable :: gap n r
def poolList (es : List (Nat × CpInfo)) (last : Nat) : List CpInfo := es.foldr (fun e r => gap e.1 (e.2 :: r)) (gap last [])
def pool (es : List (Nat × CpInfo)) (last : Nat) : Array CpInfo := ⟨poolList es last⟩
def fileOf (pool : Array CpInfo) (this : Nat) (attrs : Array Attribute := #[]) (ms : Array MethodInfo := #[]) (fl : Nat := 33) (sup : Nat := 0) (ifs : Array Nat := #[]) (fds : Array FieldInfo := #[]) : ClassFile where
  minorVersion := 0
  majorVersion := 65
  constantPool := pool
  accessFlags := fl
  thisClass := this
  superClass := sup
  interfaces := ifs
  fields := fds
  methods := ms
  attributes := attrs
def plain (name : String) (sup : Option ClassId) : Class where
  name := name
  kind := .ordinary
  loader := none
  accessFlags := 33
  super := sup
  interfaces := #[]
  cf := none
  fields := #[]
  methods := #[]
  instanceTypes := #[]
  staticTypes := #[]
  resolved := #[]
  callSites := []
  init := .initialized
  statics := none
  mirror := none

def pool0 : Array CpInfo := pool [(5, u "<init>"), (0, u "()V"), (1, .class_ 10), (1, u "java/lang/Object")] 113

def k0c0 : Code := { maxStack := 0, maxLocals := 1, code := object_method_1_code, exceptionTable := #[], attributes := #[] }
def k0m0 : Method := { name := "<init>", desc := "()V", sig := { parameters := [], returnType := none }, accessFlags := 1, code := some k0c0 }
/-- java/lang/Object -/
def k0 : Class := { plain "java/lang/Object" none with
  accessFlags := 33
  interfaces := #[]
  cf := some (fileOf pool0 8 #[] #[{ accessFlags := 1, nameIndex := 5, descriptorIndex := 6, attributes := #[] }] 33 0 #[] #[])
  fields := #[]
  methods := #[k0m0]
  instanceTypes := #[]
  staticTypes := #[]
  resolved := Array.replicate 124 none
  statics := none }

def pool1 : Array CpInfo := pool [(2, .class_ 4), (1, u "java/lang/Object"), (0, u "<init>"), (0, u "()V"), (0, .class_ 8), (0, u "java/lang/String"), (0, .methodref 7 10), (0, .nameAndType 5 11), (0, u "([C)V"), (0, .methodref 7 13), (0, .nameAndType 14 15), (0, u "valueOf"), (0, u "(C)Ljava/lang/String;"), (0, .methodref 17 18), (0, .class_ 19), (0, .nameAndType 20 21), (0, u "com/example/haulway/haulway/bridge/CallerDepositorPinLaw"), (0, u "draw"), (0, u "(IIII)Ljava/lang/String;"), (0, .class_ 23), (0, u "com/example/haulway/haulway/bridge/Caller"), (0, .methodref 22 25), (0, .nameAndType 5 26), (0, u "(Ljava/lang/String;Z)V"), (0, .methodref 22 28), (0, .nameAndType 29 30), (0, u "depositor"), (0, u "()Ljava/lang/String;"), (0, .methodref 7 32), (0, .nameAndType 33 34), (0, u "equals"), (0, u "(Ljava/lang/Object;)Z"), (3, u "law"), (0, u "(IIII)Z")] 5

def k1m0 : Method := { name := "<init>", desc := "()V", sig := { parameters := [], returnType := none }, accessFlags := 2, code := none }
def k1c1 : Code := { maxStack := 6, maxLocals := 7, code := method_2_code, exceptionTable := #[], attributes := #[] }
def k1m1 : Method := { name := "draw", desc := "(IIII)Ljava/lang/String;", sig := { parameters := [.int, .int, .int, .int], returnType := some (.object "java/lang/String") }, accessFlags := 10, code := some k1c1 }
def k1c2 : Code := { maxStack := 4, maxLocals := 7, code := code, exceptionTable := #[], attributes := #[] }
def k1m2 : Method := { name := "law", desc := "(IIII)Z", sig := { parameters := [.int, .int, .int, .int], returnType := some .boolean }, accessFlags := 9, code := some k1c2 }
/-- com/example/haulway/haulway/bridge/CallerDepositorPinLaw -/
def k1 : Class := { plain "com/example/haulway/haulway/bridge/CallerDepositorPinLaw" (some 0) with
  accessFlags := 49
  interfaces := #[]
  cf := some (fileOf pool1 17 #[] #[{ accessFlags := 2, nameIndex := 5, descriptorIndex := 6, attributes := #[] }, { accessFlags := 10, nameIndex := 20, descriptorIndex := 21, attributes := #[] }, { accessFlags := 9, nameIndex := 38, descriptorIndex := 39, attributes := #[] }] 49 2 #[] #[])
  fields := #[]
  methods := #[k1m0, k1m1, k1m2]
  instanceTypes := #[]
  staticTypes := #[]
  resolved := Array.replicate 45 none
  statics := none }

def pool2 : Array CpInfo := pool [(1, .methodref 2 3), (0, .class_ 4), (0, .nameAndType 5 6), (0, u "java/lang/Object"), (0, u "<init>"), (0, u "()V"), (0, .class_ 8), (0, u "java/lang/Record")] 13

def k2c0 : Code := { maxStack := 1, maxLocals := 1, code := jdk_30_method_1_code, exceptionTable := #[], attributes := #[] }
def k2m0 : Method := { name := "<init>", desc := "()V", sig := { parameters := [], returnType := none }, accessFlags := 4, code := some k2c0 }
/-- java/lang/Record -/
def k2 : Class := { plain "java/lang/Record" (some 0) with
  accessFlags := 1057
  interfaces := #[]
  cf := some (fileOf pool2 7 #[] #[{ accessFlags := 4, nameIndex := 5, descriptorIndex := 6, attributes := #[] }] 1057 2 #[] #[])
  fields := #[]
  methods := #[k2m0]
  instanceTypes := #[]
  staticTypes := #[]
  resolved := Array.replicate 22 none
  statics := none }

def pool3 : Array CpInfo := pool [(1, .methodref 2 3), (0, .class_ 4), (0, .nameAndType 5 6), (0, u "java/lang/Record"), (0, u "<init>"), (0, u "()V"), (0, .fieldref 8 9), (0, .class_ 10), (0, .nameAndType 11 12), (0, u "com/example/haulway/haulway/bridge/Caller"), (0, u "account"), (0, u "Ljava/lang/String;"), (0, .fieldref 8 14), (0, .nameAndType 15 16), (0, u "network"), (0, u "Z"), (21, u "(Ljava/lang/String;Z)V"), (3, u "depositor"), (0, u "()Ljava/lang/String;")] 27

def k3c0 : Code := { maxStack := 2, maxLocals := 3, code := prog_23_method_1_code, exceptionTable := #[], attributes := #[] }
def k3m0 : Method := { name := "<init>", desc := "(Ljava/lang/String;Z)V", sig := { parameters := [(.object "java/lang/String"), .boolean], returnType := none }, accessFlags := 0, code := some k3c0 }
def k3c1 : Code := { maxStack := 4, maxLocals := 1, code := prog_23_method_2_code, exceptionTable := #[], attributes := #[] }
def k3m1 : Method := { name := "depositor", desc := "()Ljava/lang/String;", sig := { parameters := [], returnType := some (.object "java/lang/String") }, accessFlags := 0, code := some k3c1 }
/-- com/example/haulway/haulway/bridge/Caller -/
def k3 : Class := { plain "com/example/haulway/haulway/bridge/Caller" (some 2) with
  accessFlags := 48
  interfaces := #[]
  cf := some (fileOf pool3 8 #[] #[{ accessFlags := 0, nameIndex := 5, descriptorIndex := 38, attributes := #[] }, { accessFlags := 0, nameIndex := 42, descriptorIndex := 43, attributes := #[] }] 48 2 #[] #[{ accessFlags := 18, nameIndex := 11, descriptorIndex := 12, attributes := #[] }, { accessFlags := 18, nameIndex := 15, descriptorIndex := 16, attributes := #[] }])
  fields := #[{ name := "account", type := (.object "java/lang/String"), accessFlags := 18, slot := 0, constantValue := 0 }, { name := "network", type := .boolean, accessFlags := 18, slot := 1, constantValue := 0 }]
  methods := #[k3m0, k3m1]
  instanceTypes := #[(.object "java/lang/String"), .boolean]
  staticTypes := #[]
  resolved := Array.replicate 71 none
  statics := none }

def pool4 : Array CpInfo := pool [(1, .class_ 2), (0, u "java/io/Serializable"), (0, .class_ 4), (0, u "java/lang/Object")] 2

/-- java/io/Serializable -/
def k4 : Class := { plain "java/io/Serializable" (some 0) with
  accessFlags := 1537
  interfaces := #[]
  cf := some (fileOf pool4 1 #[] #[] 1537 3 #[] #[])
  fields := #[]
  methods := #[]
  instanceTypes := #[]
  staticTypes := #[]
  resolved := Array.replicate 7 none
  statics := none }

def pool5 : Array CpInfo := pool [(1, .class_ 2), (0, u "java/lang/Comparable"), (0, .class_ 4), (0, u "java/lang/Object")] 7

/-- java/lang/Comparable -/
def k5 : Class := { plain "java/lang/Comparable" (some 0) with
  accessFlags := 1537
  interfaces := #[]
  cf := some (fileOf pool5 1 #[] #[] 1537 3 #[] #[])
  fields := #[]
  methods := #[]
  instanceTypes := #[]
  staticTypes := #[]
  resolved := Array.replicate 12 none
  statics := none }

def pool6 : Array CpInfo := pool [(2, .class_ 4), (1, u "java/lang/CharSequence"), (42, .class_ 48), (0, u "java/lang/CharSequence$1CodePointIterator"), (10, .class_ 60), (0, u "java/lang/CharSequence$1CharIterator"), (5, .class_ 67), (0, u "java/lang/Object")] 63

/-- java/lang/CharSequence -/
def k6 : Class := { plain "java/lang/CharSequence" (some 0) with
  accessFlags := 1537
  interfaces := #[]
  cf := some (fileOf pool6 2 #[.nestMembers #[47, 59]] #[] 1537 66 #[] #[])
  fields := #[]
  methods := #[]
  instanceTypes := #[]
  staticTypes := #[]
  resolved := Array.replicate 131 none
  statics := none }

def pool7 : Array CpInfo := pool [(1, .class_ 2), (0, u "java/lang/constant/Constable"), (0, .class_ 4), (0, u "java/lang/Object")] 6

/-- java/lang/constant/Constable -/
def k7 : Class := { plain "java/lang/constant/Constable" (some 0) with
  accessFlags := 1537
  interfaces := #[]
  cf := some (fileOf pool7 1 #[] #[] 1537 3 #[] #[])
  fields := #[]
  methods := #[]
  instanceTypes := #[]
  staticTypes := #[]
  resolved := Array.replicate 11 none
  statics := none }

def pool8 : Array CpInfo := pool [(1, .class_ 2), (0, u "java/lang/constant/ConstantDesc"), (0, .class_ 4), (0, u "java/lang/Object")] 32

/-- java/lang/constant/ConstantDesc -/
def k8 : Class := { plain "java/lang/constant/ConstantDesc" (some 0) with
  accessFlags := 1537
  interfaces := #[]
  cf := some (fileOf pool8 1 #[] #[] 1537 3 #[] #[])
  fields := #[]
  methods := #[]
  instanceTypes := #[]
  staticTypes := #[]
  resolved := Array.replicate 37 none
  statics := none }

def pool9 : Array CpInfo := pool [(1, .methodref 2 3), (0, .class_ 4), (0, .nameAndType 5 6), (0, u "java/lang/Object"), (0, u "<init>"), (0, u "()V"), (0, .string 8), (0, u ""), (0, .fieldref 10 11), (0, .class_ 12), (0, .nameAndType 13 14), (0, u "java/lang/String"), (0, u "value"), (0, u "[B"), (0, .fieldref 10 16), (0, .nameAndType 17 18), (0, u "coder"), (0, u "B"), (2, u "hash"), (0, u "I"), (2, u "hashIsZero"), (0, u "Z"), (0, .methodref 10 28), (0, .nameAndType 5 29), (0, u "([CIILjava/lang/Void;)V"), (8, .fieldref 10 39), (0, .nameAndType 40 26), (0, u "COMPACT_STRINGS"), (1, .class_ 44), (1, u "java/lang/StringUTF16"), (0, u "compress"), (1, .methodref 42 48), (0, .nameAndType 49 50), (0, u "coderFromArrayLen"), (0, u "([BI)B"), (2, u "toBytes"), (53, .class_ 109), (1, u "java/lang/StringLatin1"), (67, .methodref 42 178), (0, .nameAndType 45 179), (0, u "([CII)[B"), (29, .methodref 10 210), (0, .nameAndType 5 211), (0, u "([BB)V"), (157, u "(C)Z"), (173, u "equals"), (29, u "(Ljava/lang/Object;)Z"), (1, .class_ 576), (0, u "java/lang/CharSequence"), (22, u "CASE_INSENSITIVE_ORDER"), (0, u "Ljava/util/Comparator;"), (181, u "valueOf"), (0, u "(C)Ljava/lang/String;"), (226, u "([C)V"), (4, .methodref 107 1016), (0, .nameAndType 1017 369), (0, u "canEncode"), (0, .methodref 107 1019), (0, .nameAndType 53 1020), (0, u "(C)[B"), (80, u "serialPersistentFields"), (0, u "[Ljava/io/ObjectStreamField;"), (0, .class_ 1104), (0, u "java/lang/String$CaseInsensitiveComparator"), (1, .class_ 1107), (0, u "java/io/Serializable"), (0, .class_ 1109), (0, u "java/lang/Comparable"), (0, .class_ 1111), (0, u "java/lang/constant/Constable"), (0, .class_ 1113), (0, u "java/lang/constant/ConstantDesc"), (2, u "serialVersionUID"), (0, u "J"), (3, u "REPL"), (0, u "C"), (2, u "LATIN1"), (1, u "UTF16")] 323

def k9m0 : Method := { name := "<init>", desc := "()V", sig := { parameters := [], returnType := none }, accessFlags := 1, code := none }
def k9c1 : Code := { maxStack := 5, maxLocals := 2, code := jdk_42_method_3_code, exceptionTable := #[], attributes := #[] }
def k9m1 : Method := { name := "<init>", desc := "([C)V", sig := { parameters := [(.array .char)], returnType := none }, accessFlags := 1, code := some k9c1 }
def k9c2 : Code := { maxStack := 2, maxLocals := 3, code := jdk_42_method_66_code, exceptionTable := #[], attributes := #[] }
def k9m2 : Method := { name := "equals", desc := "(Ljava/lang/Object;)Z", sig := { parameters := [(.object "java/lang/Object")], returnType := some .boolean }, accessFlags := 1, code := some k9c2 }
def k9c3 : Code := { maxStack := 4, maxLocals := 1, code := jdk_42_method_139_code, exceptionTable := #[], attributes := #[] }
def k9m3 : Method := { name := "valueOf", desc := "(C)Ljava/lang/String;", sig := { parameters := [.char], returnType := some (.object "java/lang/String") }, accessFlags := 9, code := some k9c3 }
def k9c4 : Code := { maxStack := 4, maxLocals := 6, code := jdk_42_method_149_code, exceptionTable := #[], attributes := #[] }
def k9m4 : Method := { name := "<init>", desc := "([CIILjava/lang/Void;)V", sig := { parameters := [(.array .char), .int, .int, (.object "java/lang/Void")], returnType := none }, accessFlags := 2, code := some k9c4 }
def k9c5 : Code := { maxStack := 2, maxLocals := 3, code := jdk_42_method_151_code, exceptionTable := #[], attributes := #[] }
def k9m5 : Method := { name := "<init>", desc := "([BB)V", sig := { parameters := [(.array .byte), .byte], returnType := none }, accessFlags := 0, code := some k9c5 }
/-- java/lang/String -/
def k9 : Class := { plain "java/lang/String" (some 0) with
  accessFlags := 49
  interfaces := #[4, 5, 6, 7, 8]
  cf := some (fileOf pool9 10 #[.nestMembers #[1103]] #[{ accessFlags := 1, nameIndex := 5, descriptorIndex := 6, attributes := #[] }, { accessFlags := 1, nameIndex := 5, descriptorIndex := 1010, attributes := #[] }, { accessFlags := 1, nameIndex := 543, descriptorIndex := 573, attributes := #[] }, { accessFlags := 9, nameIndex := 782, descriptorIndex := 783, attributes := #[] }, { accessFlags := 2, nameIndex := 5, descriptorIndex := 29, attributes := #[] }, { accessFlags := 0, nameIndex := 5, descriptorIndex := 211, attributes := #[] }] 49 2 #[1106, 1108, 575, 1110, 1112] #[{ accessFlags := 18, nameIndex := 13, descriptorIndex := 14, attributes := #[] }, { accessFlags := 18, nameIndex := 17, descriptorIndex := 18, attributes := #[] }, { accessFlags := 2, nameIndex := 21, descriptorIndex := 22, attributes := #[] }, { accessFlags := 2, nameIndex := 25, descriptorIndex := 26, attributes := #[] }, { accessFlags := 26, nameIndex := 1116, descriptorIndex := 1117, attributes := #[] }, { accessFlags := 24, nameIndex := 40, descriptorIndex := 26, attributes := #[] }, { accessFlags := 26, nameIndex := 1101, descriptorIndex := 1102, attributes := #[] }, { accessFlags := 26, nameIndex := 1121, descriptorIndex := 1122, attributes := #[] }, { accessFlags := 25, nameIndex := 599, descriptorIndex := 600, attributes := #[] }, { accessFlags := 24, nameIndex := 1125, descriptorIndex := 18, attributes := #[] }, { accessFlags := 24, nameIndex := 1127, descriptorIndex := 18, attributes := #[] }])
  fields := #[{ name := "value", type := (.array .byte), accessFlags := 18, slot := 0, constantValue := 0 }, { name := "coder", type := .byte, accessFlags := 18, slot := 1, constantValue := 0 }, { name := "hash", type := .int, accessFlags := 2, slot := 2, constantValue := 0 }, { name := "hashIsZero", type := .boolean, accessFlags := 2, slot := 3, constantValue := 0 }, { name := "serialVersionUID", type := .long, accessFlags := 26, slot := 0, constantValue := 0 }, { name := "COMPACT_STRINGS", type := .boolean, accessFlags := 24, slot := 1, constantValue := 0 }, { name := "serialPersistentFields", type := (.array (.object "java/io/ObjectStreamField")), accessFlags := 26, slot := 2, constantValue := 0 }, { name := "REPL", type := .char, accessFlags := 26, slot := 3, constantValue := 0 }, { name := "CASE_INSENSITIVE_ORDER", type := (.object "java/util/Comparator"), accessFlags := 25, slot := 4, constantValue := 0 }, { name := "LATIN1", type := .byte, accessFlags := 24, slot := 5, constantValue := 0 }, { name := "UTF16", type := .byte, accessFlags := 24, slot := 6, constantValue := 0 }]
  methods := #[k9m0, k9m1, k9m2, k9m3, k9m4, k9m5]
  instanceTypes := #[(.array .byte), .byte, .int, .boolean]
  staticTypes := #[.long, .boolean, (.array (.object "java/io/ObjectStreamField")), .char, (.object "java/util/Comparator"), .byte, .byte]
  resolved := Array.replicate 1451 none
  statics := some 0 }

def pool10 : Array CpInfo := pool [(6, .class_ 8), (1, u "java/lang/Object"), (0, u "<init>"), (0, u "()V"), (1, .class_ 14), (1, u "java/lang/StringUTF16"), (31, u "$assertionsDisabled"), (0, u "Z"), (13, u "HI_BYTE_SHIFT"), (0, u "I"), (2, u "LO_BYTE_SHIFT"), (49, .methodref 12 116), (0, .nameAndType 117 118), (0, u "compress"), (0, u "([CI[BII)I"), (3, u "([CII)[B"), (138, u "coderFromArrayLen"), (0, u "([BI)B"), (106, .class_ 371), (1, u "java/lang/StringUTF16$LinesSpliterator"), (58, u "MAX_LENGTH"), (196, .class_ 628), (0, u "java/lang/StringUTF16$CodePointsSpliterator"), (0, .class_ 630), (0, u "java/lang/StringUTF16$CharsSpliterator")] 4

def k10m0 : Method := { name := "<init>", desc := "()V", sig := { parameters := [], returnType := none }, accessFlags := 0, code := none }
def k10c1 : Code := { maxStack := 2, maxLocals := 2, code := jdk_52_method_15_code, exceptionTable := #[], attributes := #[] }
def k10m1 : Method := { name := "coderFromArrayLen", desc := "([BI)B", sig := { parameters := [(.array .byte), .int], returnType := some .byte }, accessFlags := 8, code := some k10c1 }
def k10c2 : Code := { maxStack := 5, maxLocals := 6, code := jdk_52_method_16_code, exceptionTable := #[], attributes := #[] }
def k10m2 : Method := { name := "compress", desc := "([CII)[B", sig := { parameters := [(.array .char), .int, .int], returnType := some (.array .byte) }, accessFlags := 9, code := some k10c2 }
def k10c3 : Code := { maxStack := 3, maxLocals := 7, code := jdk_52_method_21_code, exceptionTable := #[], attributes := #[] }
def k10m3 : Method := { name := "compress", desc := "([CI[BII)I", sig := { parameters := [(.array .char), .int, (.array .byte), .int, .int], returnType := some .int }, accessFlags := 9, code := some k10c3 }
/-- java/lang/StringUTF16 -/
def k10 : Class := { plain "java/lang/StringUTF16" (some 0) with
  accessFlags := 48
  interfaces := #[]
  cf := some (fileOf pool10 12 #[.nestMembers #[627, 629, 369]] #[{ accessFlags := 0, nameIndex := 9, descriptorIndex := 10, attributes := #[] }, { accessFlags := 8, nameIndex := 261, descriptorIndex := 262, attributes := #[] }, { accessFlags := 9, nameIndex := 117, descriptorIndex := 122, attributes := #[] }, { accessFlags := 9, nameIndex := 117, descriptorIndex := 118, attributes := #[] }] 48 6 #[] #[{ accessFlags := 26, nameIndex := 61, descriptorIndex := 62, attributes := #[] }, { accessFlags := 26, nameIndex := 65, descriptorIndex := 62, attributes := #[] }, { accessFlags := 24, nameIndex := 430, descriptorIndex := 62, attributes := #[] }, { accessFlags := 4120, nameIndex := 46, descriptorIndex := 47, attributes := #[] }])
  fields := #[{ name := "HI_BYTE_SHIFT", type := .int, accessFlags := 26, slot := 0, constantValue := 0 }, { name := "LO_BYTE_SHIFT", type := .int, accessFlags := 26, slot := 1, constantValue := 0 }, { name := "MAX_LENGTH", type := .int, accessFlags := 24, slot := 2, constantValue := 0 }, { name := "$assertionsDisabled", type := .boolean, accessFlags := 4120, slot := 3, constantValue := 0 }]
  methods := #[k10m0, k10m1, k10m2, k10m3]
  instanceTypes := #[]
  staticTypes := #[.int, .int, .int, .boolean]
  resolved := Array.replicate 635 none
  statics := none }

def pool11 : Array CpInfo := pool [(4, .class_ 6), (1, u "java/lang/Object"), (0, u "<init>"), (0, u "()V"), (5, .class_ 16), (1, u "java/lang/StringLatin1"), (73, u "canEncode"), (14, u "(C)Z"), (15, u "$assertionsDisabled"), (0, u "Z"), (98, .class_ 223), (1, u "java/lang/StringLatin1$LinesSpliterator"), (156, u "toBytes"), (1, u "(C)[B"), (7, .class_ 391), (0, u "java/lang/StringLatin1$CharsSpliterator")] 3

def k11m0 : Method := { name := "<init>", desc := "()V", sig := { parameters := [], returnType := none }, accessFlags := 0, code := none }
def k11c1 : Code := { maxStack := 2, maxLocals := 1, code := jdk_43_method_3_code, exceptionTable := #[], attributes := #[] }
def k11m1 : Method := { name := "canEncode", desc := "(C)Z", sig := { parameters := [.char], returnType := some .boolean }, accessFlags := 9, code := some k11c1 }
def k11c2 : Code := { maxStack := 4, maxLocals := 1, code := jdk_43_method_46_code, exceptionTable := #[], attributes := #[] }
def k11m2 : Method := { name := "toBytes", desc := "(C)[B", sig := { parameters := [.char], returnType := some (.array .byte) }, accessFlags := 9, code := some k11c2 }
/-- java/lang/StringLatin1 -/
def k11 : Class := { plain "java/lang/StringLatin1" (some 0) with
  accessFlags := 48
  interfaces := #[]
  cf := some (fileOf pool11 14 #[.nestMembers #[390, 221]] #[{ accessFlags := 0, nameIndex := 7, descriptorIndex := 8, attributes := #[] }, { accessFlags := 9, nameIndex := 90, descriptorIndex := 105, attributes := #[] }, { accessFlags := 9, nameIndex := 380, descriptorIndex := 382, attributes := #[] }] 48 4 #[] #[{ accessFlags := 4120, nameIndex := 121, descriptorIndex := 122, attributes := #[] }])
  fields := #[{ name := "$assertionsDisabled", type := .boolean, accessFlags := 4120, slot := 0, constantValue := 0 }]
  methods := #[k11m0, k11m1, k11m2]
  instanceTypes := #[]
  staticTypes := #[.boolean]
  resolved := Array.replicate 395 none
  statics := none }

def pool12 : Array CpInfo := pool [(2, .class_ 4), (1, u "java/lang/Object"), (0, u "<init>"), (0, u "()V"), (17, .class_ 26), (1, u "jdk/internal/util/Preconditions"), (28, .class_ 56), (0, u "jdk/internal/util/Preconditions$4"), (57, .class_ 115), (0, u "jdk/internal/util/Preconditions$1"), (7, u "SIOOBE_FORMATTER"), (0, u "Ljava/util/function/BiFunction;"), (0, .class_ 126), (0, u "jdk/internal/util/Preconditions$2"), (3, u "AIOOBE_FORMATTER"), (0, .class_ 132), (0, u "jdk/internal/util/Preconditions$3"), (3, u "IOOBE_FORMATTER")] 57

def k12m0 : Method := { name := "<init>", desc := "()V", sig := { parameters := [], returnType := none }, accessFlags := 1, code := none }
/-- jdk/internal/util/Preconditions -/
def k12 : Class := { plain "jdk/internal/util/Preconditions" (some 0) with
  accessFlags := 33
  interfaces := #[]
  cf := some (fileOf pool12 24 #[.nestMembers #[55, 131, 125, 114]] #[{ accessFlags := 1, nameIndex := 5, descriptorIndex := 6, attributes := #[] }] 33 2 #[] #[{ accessFlags := 25, nameIndex := 123, descriptorIndex := 124, attributes := #[] }, { accessFlags := 25, nameIndex := 130, descriptorIndex := 124, attributes := #[] }, { accessFlags := 25, nameIndex := 136, descriptorIndex := 124, attributes := #[] }])
  fields := #[{ name := "SIOOBE_FORMATTER", type := (.object "java/util/function/BiFunction"), accessFlags := 25, slot := 0, constantValue := 0 }, { name := "AIOOBE_FORMATTER", type := (.object "java/util/function/BiFunction"), accessFlags := 25, slot := 1, constantValue := 0 }, { name := "IOOBE_FORMATTER", type := (.object "java/util/function/BiFunction"), accessFlags := 25, slot := 2, constantValue := 0 }]
  methods := #[k12m0]
  instanceTypes := #[]
  staticTypes := #[(.object "java/util/function/BiFunction"), (.object "java/util/function/BiFunction"), (.object "java/util/function/BiFunction")]
  resolved := Array.replicate 194 none
  statics := some 1 }

def pool13 : Array CpInfo := pool [(9, u "<init>"), (6, .class_ 18), (1, u "java/lang/Object"), (0, u "()V"), (1, .class_ 23), (1, u "jdk/internal/util/ArraysSupport"), (0, u "LOG2_ARRAY_LONG_INDEX_SCALE"), (0, u "I"), (2, u "U"), (0, u "Ljdk/internal/misc/Unsafe;"), (8, u "BIG_ENDIAN"), (0, u "Z"), (8, u "LOG2_BYTE_BIT_SIZE"), (4, u "LOG2_ARRAY_INT_INDEX_SCALE"), (54, u "JLA"), (0, u "Ljdk/internal/access/JavaLangAccess;"), (11, u "LOG2_ARRAY_BOOLEAN_INDEX_SCALE"), (9, u "LOG2_ARRAY_BYTE_INDEX_SCALE"), (5, u "LOG2_ARRAY_CHAR_INDEX_SCALE"), (5, u "LOG2_ARRAY_SHORT_INDEX_SCALE"), (18, u "LOG2_ARRAY_FLOAT_INDEX_SCALE"), (24, u "LOG2_ARRAY_DOUBLE_INDEX_SCALE"), (89, u "T_BOOLEAN"), (2, u "T_CHAR"), (1, u "T_FLOAT"), (1, u "T_DOUBLE"), (1, u "T_BYTE"), (1, u "T_SHORT"), (1, u "T_INT"), (1, u "T_LONG"), (1, u "SOFT_MAX_ARRAY_LENGTH")] 83

def k13m0 : Method := { name := "<init>", desc := "()V", sig := { parameters := [], returnType := none }, accessFlags := 2, code := none }
/-- jdk/internal/util/ArraysSupport -/
def k13 : Class := { plain "jdk/internal/util/ArraysSupport" (some 0) with
  accessFlags := 33
  interfaces := #[]
  cf := some (fileOf pool13 21 #[] #[{ accessFlags := 2, nameIndex := 9, descriptorIndex := 19, attributes := #[] }] 33 16 #[] #[{ accessFlags := 24, nameIndex := 28, descriptorIndex := 29, attributes := #[] }, { accessFlags := 26, nameIndex := 38, descriptorIndex := 39, attributes := #[] }, { accessFlags := 25, nameIndex := 121, descriptorIndex := 25, attributes := #[] }, { accessFlags := 25, nameIndex := 131, descriptorIndex := 25, attributes := #[] }, { accessFlags := 25, nameIndex := 137, descriptorIndex := 25, attributes := #[] }, { accessFlags := 25, nameIndex := 143, descriptorIndex := 25, attributes := #[] }, { accessFlags := 25, nameIndex := 53, descriptorIndex := 25, attributes := #[] }, { accessFlags := 25, nameIndex := 24, descriptorIndex := 25, attributes := #[] }, { accessFlags := 25, nameIndex := 162, descriptorIndex := 25, attributes := #[] }, { accessFlags := 25, nameIndex := 187, descriptorIndex := 25, attributes := #[] }, { accessFlags := 26, nameIndex := 48, descriptorIndex := 25, attributes := #[] }, { accessFlags := 25, nameIndex := 277, descriptorIndex := 25, attributes := #[] }, { accessFlags := 25, nameIndex := 280, descriptorIndex := 25, attributes := #[] }, { accessFlags := 25, nameIndex := 282, descriptorIndex := 25, attributes := #[] }, { accessFlags := 25, nameIndex := 284, descriptorIndex := 25, attributes := #[] }, { accessFlags := 25, nameIndex := 286, descriptorIndex := 25, attributes := #[] }, { accessFlags := 25, nameIndex := 288, descriptorIndex := 25, attributes := #[] }, { accessFlags := 25, nameIndex := 290, descriptorIndex := 25, attributes := #[] }, { accessFlags := 25, nameIndex := 292, descriptorIndex := 25, attributes := #[] }, { accessFlags := 26, nameIndex := 108, descriptorIndex := 109, attributes := #[] }, { accessFlags := 25, nameIndex := 294, descriptorIndex := 25, attributes := #[] }])
  fields := #[{ name := "U", type := (.object "jdk/internal/misc/Unsafe"), accessFlags := 24, slot := 0, constantValue := 0 }, { name := "BIG_ENDIAN", type := .boolean, accessFlags := 26, slot := 1, constantValue := 0 }, { name := "LOG2_ARRAY_BOOLEAN_INDEX_SCALE", type := .int, accessFlags := 25, slot := 2, constantValue := 0 }, { name := "LOG2_ARRAY_BYTE_INDEX_SCALE", type := .int, accessFlags := 25, slot := 3, constantValue := 0 }, { name := "LOG2_ARRAY_CHAR_INDEX_SCALE", type := .int, accessFlags := 25, slot := 4, constantValue := 0 }, { name := "LOG2_ARRAY_SHORT_INDEX_SCALE", type := .int, accessFlags := 25, slot := 5, constantValue := 0 }, { name := "LOG2_ARRAY_INT_INDEX_SCALE", type := .int, accessFlags := 25, slot := 6, constantValue := 0 }, { name := "LOG2_ARRAY_LONG_INDEX_SCALE", type := .int, accessFlags := 25, slot := 7, constantValue := 0 }, { name := "LOG2_ARRAY_FLOAT_INDEX_SCALE", type := .int, accessFlags := 25, slot := 8, constantValue := 0 }, { name := "LOG2_ARRAY_DOUBLE_INDEX_SCALE", type := .int, accessFlags := 25, slot := 9, constantValue := 0 }, { name := "LOG2_BYTE_BIT_SIZE", type := .int, accessFlags := 26, slot := 10, constantValue := 0 }, { name := "T_BOOLEAN", type := .int, accessFlags := 25, slot := 11, constantValue := 0 }, { name := "T_CHAR", type := .int, accessFlags := 25, slot := 12, constantValue := 0 }, { name := "T_FLOAT", type := .int, accessFlags := 25, slot := 13, constantValue := 0 }, { name := "T_DOUBLE", type := .int, accessFlags := 25, slot := 14, constantValue := 0 }, { name := "T_BYTE", type := .int, accessFlags := 25, slot := 15, constantValue := 0 }, { name := "T_SHORT", type := .int, accessFlags := 25, slot := 16, constantValue := 0 }, { name := "T_INT", type := .int, accessFlags := 25, slot := 17, constantValue := 0 }, { name := "T_LONG", type := .int, accessFlags := 25, slot := 18, constantValue := 0 }, { name := "JLA", type := (.object "jdk/internal/access/JavaLangAccess"), accessFlags := 26, slot := 19, constantValue := 0 }, { name := "SOFT_MAX_ARRAY_LENGTH", type := .int, accessFlags := 25, slot := 20, constantValue := 0 }]
  methods := #[k13m0]
  instanceTypes := #[]
  staticTypes := #[(.object "jdk/internal/misc/Unsafe"), .boolean, .int, .int, .int, .int, .int, .int, .int, .int, .int, .int, .int, .int, .int, .int, .int, .int, .int, (.object "jdk/internal/access/JavaLangAccess"), .int]
  resolved := Array.replicate 378 none
  statics := none }

def pool14 : Array CpInfo := pool [(1, u "java/lang/Cloneable"), (0, .class_ 1), (0, u "java/lang/Object"), (0, .class_ 3)] 3

/-- java/lang/Cloneable -/
def k14 : Class := { plain "java/lang/Cloneable" (some 0) with
  accessFlags := 1537
  interfaces := #[]
  cf := some (fileOf pool14 2 #[] #[] 1537 4 #[] #[])
  fields := #[]
  methods := #[]
  instanceTypes := #[]
  staticTypes := #[]
  resolved := Array.replicate 8 none
  statics := none }

/-- the primitive byte -/
def k15 : Class := { plain "byte" none with kind := .primitive 'B', accessFlags := 0x411 }
/-- [B -/
def k16 : Class := { plain "[B" (some 0) with kind := .array 15 .byte, interfaces := #[14, 4], accessFlags := 1041 }

/-- the primitive char -/
def k17 : Class := { plain "char" none with kind := .primitive 'C', accessFlags := 0x411 }
/-- [C -/
def k18 : Class := { plain "[C" (some 0) with kind := .array 17 .char, interfaces := #[14, 4], accessFlags := 1041 }

/-- the primitive int -/
def k19 : Class := { plain "int" none with kind := .primitive 'I', accessFlags := 0x411 }
/-- [I -/
def k20 : Class := { plain "[I" (some 0) with kind := .array 19 .int, interfaces := #[14, 4], accessFlags := 1041 }

def heap : Heap := #[{ cls := 9, slots := #[.long 0, .int 1, .null, .int 0, .null, .int 0, .int 0], vm := .statics 9 },
  { cls := 12, slots := #[.null, .null, .null], vm := .statics 12 }]
def classes : Array Class := #[k0, k1, k2, k3, k4, k5, k6, k7, k8, k9, k10, k11, k12, k13, k14, k15, k16, k17, k18, k19, k20]
def interned : List (Array UInt16 × Addr) := []
def slotsUsed : Nat := 10
def theMethod : MethodId := ⟨1, 2⟩
def args0 : Array Value := #[.int 5, .int 7, .int 3, .int 4]
def aboutOver (below : List Frame) : State where
  vm := { classes := classes, interned := interned.toArray }
  heap := heap
  slotsUsed := slotsUsed
  threads := #[{ frames := .invoking theMethod args0 :: below }]
def below0 : List Frame := [.native { method := ⟨0, 0⟩, args := #[] }]
def about1 : State := aboutOver below0
def p0 : Program := .bare "" "" ""
def e0 : Env := launch0.env 0 0 0
theorem w_frames : about1.frames = Frame.invoking theMethod args0 :: below0 := rfl
set_option maxRecDepth 65536 in
theorem w_args : argsFit about1.vm theMethod args0 = true := by decide +kernel
set_option maxRecDepth 65536 in
theorem w_heap : heapFits about1 = true := by decide +kernel
set_option maxRecDepth 65536 in
theorem w_runnable : about1.curStatus? = some .runnable := by decide +kernel
set_option maxRecDepth 65536 in
theorem w_alone : about1.alone = true := by decide +kernel
set_option maxRecDepth 65536 in
theorem w_named : about1.methodNamed? x = some theMethod := by decide +kernel
set_option maxRecDepth 65536 in
theorem w_hears : about1.hears theMethod below0 = true := by decide +kernel
set_option maxRecDepth 65536 in
theorem w_ripe : about1.ripe theMethod args0 below0 = true := by decide +kernel
theorem w_running : about1.status = .running := rfl
set_option maxRecDepth 65536 in
theorem w_room : about1.hasRoom e0.platform room_1 = true :=
  launch0.hasRoom_least _ room_1 (by decide +kernel) (by decide +kernel) (by decide +kernel) (by decide +kernel) (by decide +kernel) (by decide +kernel)
theorem allAtoms_all (ts : List Jvm.Cond) (a : Array Jvm.Value) (st : Jvm.State) : (allAtoms ts).before a st = ts.all (fun c => c.before a st) := by
  induction ts with
  | nil => rfl
  | cons c t ih =>
    show (Jvm.Cond.and c (allAtoms t)).before a st = _
    rw [Jvm.Cond.before_and, ih, List.all_cons]
def words1 : List Jvm.Cond := Jvm.Cond.code x code maxLocals ret :: tables_1
/-- a 'code' word, met by the world's own term for the bytes: nothing is compared byte by byte -/
theorem code_word {y : MethodName} {bytes : ByteArray} {mx : Nat} {rt : Option FieldType} {a : Array Value} {s : State} {m : MethodId} {meth : Method} {c : Code} (h1 : s.methodNamed? y = some m) (h2 : s.vm.method? m = some meth) (h3 : meth.code = some c) (h4 : c.code = bytes)
    (h5 : (c.maxLocals == mx && c.exceptionTable.isEmpty && decide (c.maxStack ≤ mostOperands) && decide (meth.sig.returnType = rt) && !meth.locks && decide (parseMethodDescriptor y.desc = some meth.sig)) = true) : (Jvm.Cond.code y bytes mx rt).before a s = true := by
  simp only [Bool.and_eq_true, beq_iff_eq, Bool.not_eq_true', decide_eq_true_eq] at h5
  obtain ⟨⟨⟨⟨⟨g1, g2⟩, g3⟩, g4⟩, g5⟩, g6⟩ := h5
  simp [Cond.before, Cond.holds, Cond.value, h1, h2, h3, h4, g1, g2, g3, g4, g5, g6]
def isCode : Jvm.Cond → Bool
  | .code _ _ _ _ => true
  | _ => false
theorem all_split {L : List Jvm.Cond} {P : Jvm.Cond → Bool} (h1 : L.all (fun c => isCode c || P c) = true) (h2 : ∀ c ∈ L.filter isCode, P c = true) : L.all P = true := by
  refine List.all_eq_true.mpr fun c hc => ?_
  have h := List.all_eq_true.mp h1 c hc
  rcases Bool.eq_false_or_eq_true (isCode c) with hi | hi
  · exact h2 c (List.mem_filter.mpr ⟨hc, hi⟩)
  · simpa [hi] using h
set_option maxRecDepth 65536 in
theorem w_c0 : (Jvm.Cond.code x code maxLocals ret).before args0 about1 = true := code_word (m := ⟨1, 2⟩) (meth := k1m2) (c := k1c2) (by decide +kernel) rfl rfl rfl (by decide +kernel)
set_option maxRecDepth 65536 in
theorem w_c1 : (Jvm.Cond.code ({ cls := "com/example/haulway/haulway/bridge/CallerDepositorPinLaw", name := "draw", desc := "(IIII)Ljava/lang/String;" } : Jvm.MethodName) method_2_code (7 : Nat) (Option.some (Jvm.ClassFile.FieldType.object "java/lang/String"))).before args0 about1 = true := code_word (m := ⟨1, 1⟩) (meth := k1m1) (c := k1c1) (by decide +kernel) rfl rfl rfl (by decide +kernel)
set_option maxRecDepth 65536 in
theorem w_c2 : (Jvm.Cond.code ({ cls := "com/example/haulway/haulway/bridge/Caller", name := "<init>", desc := "(Ljava/lang/String;Z)V" } : Jvm.MethodName) prog_23_method_1_code (3 : Nat) (Option.none : Option Jvm.ClassFile.FieldType)).before args0 about1 = true := code_word (m := ⟨3, 0⟩) (meth := k3m0) (c := k3c0) (by decide +kernel) rfl rfl rfl (by decide +kernel)
set_option maxRecDepth 65536 in
theorem w_c3 : (Jvm.Cond.code ({ cls := "java/lang/Record", name := "<init>", desc := "()V" } : Jvm.MethodName) jdk_30_method_1_code (1 : Nat) (Option.none : Option Jvm.ClassFile.FieldType)).before args0 about1 = true := code_word (m := ⟨2, 0⟩) (meth := k2m0) (c := k2c0) (by decide +kernel) rfl rfl rfl (by decide +kernel)
set_option maxRecDepth 65536 in
theorem w_c4 : (Jvm.Cond.code ({ cls := "java/lang/Object", name := "<init>", desc := "()V" } : Jvm.MethodName) object_method_1_code (1 : Nat) (Option.none : Option Jvm.ClassFile.FieldType)).before args0 about1 = true := code_word (m := ⟨0, 0⟩) (meth := k0m0) (c := k0c0) (by decide +kernel) rfl rfl rfl (by decide +kernel)
set_option maxRecDepth 65536 in
theorem w_c5 : (Jvm.Cond.code ({ cls := "com/example/haulway/haulway/bridge/Caller", name := "depositor", desc := "()Ljava/lang/String;" } : Jvm.MethodName) prog_23_method_2_code (1 : Nat) (Option.some (Jvm.ClassFile.FieldType.object "java/lang/String"))).before args0 about1 = true := code_word (m := ⟨3, 1⟩) (meth := k3m1) (c := k3c1) (by decide +kernel) rfl rfl rfl (by decide +kernel)
set_option maxRecDepth 65536 in
theorem w_c6 : (Jvm.Cond.code ({ cls := "java/lang/String", name := "<init>", desc := "([C)V" } : Jvm.MethodName) jdk_42_method_3_code (2 : Nat) (Option.none : Option Jvm.ClassFile.FieldType)).before args0 about1 = true := code_word (m := ⟨9, 1⟩) (meth := k9m1) (c := k9c1) (by decide +kernel) rfl rfl rfl (by decide +kernel)
set_option maxRecDepth 65536 in
theorem w_c7 : (Jvm.Cond.code ({ cls := "java/lang/String", name := "<init>", desc := "([CIILjava/lang/Void;)V" } : Jvm.MethodName) jdk_42_method_149_code (6 : Nat) (Option.none : Option Jvm.ClassFile.FieldType)).before args0 about1 = true := code_word (m := ⟨9, 4⟩) (meth := k9m4) (c := k9c4) (by decide +kernel) rfl rfl rfl (by decide +kernel)
set_option maxRecDepth 65536 in
theorem w_c8 : (Jvm.Cond.code ({ cls := "java/lang/StringUTF16", name := "compress", desc := "([CII)[B" } : Jvm.MethodName) jdk_52_method_16_code (6 : Nat) (Option.some (Jvm.ClassFile.FieldType.array Jvm.ClassFile.FieldType.byte))).before args0 about1 = true := code_word (m := ⟨10, 2⟩) (meth := k10m2) (c := k10c2) (by decide +kernel) rfl rfl rfl (by decide +kernel)
set_option maxRecDepth 65536 in
theorem w_c9 : (Jvm.Cond.code ({ cls := "java/lang/StringUTF16", name := "compress", desc := "([CI[BII)I" } : Jvm.MethodName) jdk_52_method_21_code (7 : Nat) (Option.some Jvm.ClassFile.FieldType.int)).before args0 about1 = true := code_word (m := ⟨10, 3⟩) (meth := k10m3) (c := k10c3) (by decide +kernel) rfl rfl rfl (by decide +kernel)
set_option maxRecDepth 65536 in
theorem w_c10 : (Jvm.Cond.code ({ cls := "java/lang/StringUTF16", name := "coderFromArrayLen", desc := "([BI)B" } : Jvm.MethodName) jdk_52_method_15_code (2 : Nat) (Option.some Jvm.ClassFile.FieldType.byte)).before args0 about1 = true := code_word (m := ⟨10, 1⟩) (meth := k10m1) (c := k10c1) (by decide +kernel) rfl rfl rfl (by decide +kernel)
set_option maxRecDepth 65536 in
theorem w_c11 : (Jvm.Cond.code ({ cls := "java/lang/String", name := "equals", desc := "(Ljava/lang/Object;)Z" } : Jvm.MethodName) jdk_42_method_66_code (3 : Nat) (Option.some Jvm.ClassFile.FieldType.boolean)).before args0 about1 = true := code_word (m := ⟨9, 2⟩) (meth := k9m2) (c := k9c2) (by decide +kernel) rfl rfl rfl (by decide +kernel)
set_option maxRecDepth 65536 in
theorem w_c12 : (Jvm.Cond.code ({ cls := "java/lang/String", name := "valueOf", desc := "(C)Ljava/lang/String;" } : Jvm.MethodName) jdk_42_method_139_code (1 : Nat) (Option.some (Jvm.ClassFile.FieldType.object "java/lang/String"))).before args0 about1 = true := code_word (m := ⟨9, 3⟩) (meth := k9m3) (c := k9c3) (by decide +kernel) rfl rfl rfl (by decide +kernel)
set_option maxRecDepth 65536 in
theorem w_c13 : (Jvm.Cond.code ({ cls := "java/lang/StringLatin1", name := "canEncode", desc := "(C)Z" } : Jvm.MethodName) jdk_43_method_3_code (1 : Nat) (Option.some Jvm.ClassFile.FieldType.boolean)).before args0 about1 = true := code_word (m := ⟨11, 1⟩) (meth := k11m1) (c := k11c1) (by decide +kernel) rfl rfl rfl (by decide +kernel)
set_option maxRecDepth 65536 in
theorem w_c14 : (Jvm.Cond.code ({ cls := "java/lang/StringLatin1", name := "toBytes", desc := "(C)[B" } : Jvm.MethodName) jdk_43_method_46_code (1 : Nat) (Option.some (Jvm.ClassFile.FieldType.array Jvm.ClassFile.FieldType.byte))).before args0 about1 = true := code_word (m := ⟨11, 2⟩) (meth := k11m2) (c := k11c2) (by decide +kernel) rfl rfl rfl (by decide +kernel)
set_option maxRecDepth 65536 in
theorem w_c15 : (Jvm.Cond.code ({ cls := "java/lang/String", name := "<init>", desc := "([BB)V" } : Jvm.MethodName) jdk_42_method_151_code (3 : Nat) (Option.none : Option Jvm.ClassFile.FieldType)).before args0 about1 = true := code_word (m := ⟨9, 5⟩) (meth := k9m5) (c := k9c5) (by decide +kernel) rfl rfl rfl (by decide +kernel)
def codes1 : List Jvm.Cond := [Jvm.Cond.code x code maxLocals ret, Jvm.Cond.code ({ cls := "com/example/haulway/haulway/bridge/CallerDepositorPinLaw", name := "draw", desc := "(IIII)Ljava/lang/String;" } : Jvm.MethodName) method_2_code (7 : Nat) (Option.some (Jvm.ClassFile.FieldType.object "java/lang/String")), Jvm.Cond.code ({ cls := "com/example/haulway/haulway/bridge/Caller", name := "<init>", desc := "(Ljava/lang/String;Z)V" } : Jvm.MethodName) prog_23_method_1_code (3 : Nat) (Option.none : Option Jvm.ClassFile.FieldType), Jvm.Cond.code ({ cls := "java/lang/Record", name := "<init>", desc := "()V" } : Jvm.MethodName) jdk_30_method_1_code (1 : Nat) (Option.none : Option Jvm.ClassFile.FieldType), Jvm.Cond.code ({ cls := "java/lang/Object", name := "<init>", desc := "()V" } : Jvm.MethodName) object_method_1_code (1 : Nat) (Option.none : Option Jvm.ClassFile.FieldType), Jvm.Cond.code ({ cls := "com/example/haulway/haulway/bridge/Caller", name := "depositor", desc := "()Ljava/lang/String;" } : Jvm.MethodName) prog_23_method_2_code (1 : Nat) (Option.some (Jvm.ClassFile.FieldType.object "java/lang/String")), Jvm.Cond.code ({ cls := "java/lang/String", name := "<init>", desc := "([C)V" } : Jvm.MethodName) jdk_42_method_3_code (2 : Nat) (Option.none : Option Jvm.ClassFile.FieldType), Jvm.Cond.code ({ cls := "java/lang/String", name := "<init>", desc := "([CIILjava/lang/Void;)V" } : Jvm.MethodName) jdk_42_method_149_code (6 : Nat) (Option.none : Option Jvm.ClassFile.FieldType), Jvm.Cond.code ({ cls := "java/lang/StringUTF16", name := "compress", desc := "([CII)[B" } : Jvm.MethodName) jdk_52_method_16_code (6 : Nat) (Option.some (Jvm.ClassFile.FieldType.array Jvm.ClassFile.FieldType.byte)), Jvm.Cond.code ({ cls := "java/lang/StringUTF16", name := "compress", desc := "([CI[BII)I" } : Jvm.MethodName) jdk_52_method_21_code (7 : Nat) (Option.some Jvm.ClassFile.FieldType.int), Jvm.Cond.code ({ cls := "java/lang/StringUTF16", name := "coderFromArrayLen", desc := "([BI)B" } : Jvm.MethodName) jdk_52_method_15_code (2 : Nat) (Option.some Jvm.ClassFile.FieldType.byte), Jvm.Cond.code ({ cls := "java/lang/String", name := "equals", desc := "(Ljava/lang/Object;)Z" } : Jvm.MethodName) jdk_42_method_66_code (3 : Nat) (Option.some Jvm.ClassFile.FieldType.boolean), Jvm.Cond.code ({ cls := "java/lang/String", name := "valueOf", desc := "(C)Ljava/lang/String;" } : Jvm.MethodName) jdk_42_method_139_code (1 : Nat) (Option.some (Jvm.ClassFile.FieldType.object "java/lang/String")), Jvm.Cond.code ({ cls := "java/lang/StringLatin1", name := "canEncode", desc := "(C)Z" } : Jvm.MethodName) jdk_43_method_3_code (1 : Nat) (Option.some Jvm.ClassFile.FieldType.boolean), Jvm.Cond.code ({ cls := "java/lang/StringLatin1", name := "toBytes", desc := "(C)[B" } : Jvm.MethodName) jdk_43_method_46_code (1 : Nat) (Option.some (Jvm.ClassFile.FieldType.array Jvm.ClassFile.FieldType.byte)), Jvm.Cond.code ({ cls := "java/lang/String", name := "<init>", desc := "([BB)V" } : Jvm.MethodName) jdk_42_method_151_code (3 : Nat) (Option.none : Option Jvm.ClassFile.FieldType)]
set_option maxRecDepth 65536 in
theorem codes_eq : words1.filter isCode = codes1 := rfl
theorem w_codes : ∀ c ∈ words1.filter isCode, c.before args0 about1 = true := by
  rw [codes_eq]
  intro c hc
  simp only [codes1, List.mem_cons, List.not_mem_nil, or_false] at hc
  rcases hc with rfl | rfl | rfl | rfl | rfl | rfl | rfl | rfl | rfl | rfl | rfl | rfl | rfl | rfl | rfl | rfl
  · exact w_c0
  · exact w_c1
  · exact w_c2
  · exact w_c3
  · exact w_c4
  · exact w_c5
  · exact w_c6
  · exact w_c7
  · exact w_c8
  · exact w_c9
  · exact w_c10
  · exact w_c11
  · exact w_c12
  · exact w_c13
  · exact w_c14
  · exact w_c15
set_option maxRecDepth 65536 in
theorem w_t1 : (words1.take 24).all (fun c => isCode c || c.before args0 about1) = true := by decide +kernel
set_option maxRecDepth 65536 in
theorem w_t2 : ((words1.drop 24).take 24).all (fun c => isCode c || c.before args0 about1) = true := by decide +kernel
set_option maxRecDepth 65536 in
theorem w_t3 : (((words1.drop 24).drop 24).take 24).all (fun c => isCode c || c.before args0 about1) = true := by decide +kernel
set_option maxRecDepth 65536 in
theorem w_t4 : (((words1.drop 24).drop 24).drop 24).all (fun c => isCode c || c.before args0 about1) = true := by decide +kernel
theorem w_tables : (allAtoms (Jvm.Cond.code x code maxLocals ret :: tables_1)).before args0 about1 = true := by
  rw [allAtoms_all]
  show words1.all (fun c => c.before args0 about1) = true
  refine all_split ?_ w_codes
  rw [← List.take_append_drop 24 words1, List.all_append, w_t1, ← List.take_append_drop 24 (words1.drop 24), List.all_append, w_t2, ← List.take_append_drop 24 ((words1.drop 24).drop 24), List.all_append, w_t3, w_t4]
  rfl
set_option maxRecDepth 65536 in
theorem w_rest : rest_1_c.before args0 about1 = true := by decide +kernel
set_option maxRecDepth 65536 in
theorem w_case : (Jvm.Cond.and given_1 narrow_1).before args0 about1 = true := by decide +kernel
set_option maxRecDepth 65536 in
theorem w_consts : constsHeld consts_1 about1 := Jvm.Lit.constsHeldB_iff.mp (by decide +kernel)
theorem w_applies : (headSpec (Jvm.Cond.code x code maxLocals ret :: tables_1) room_1).applies x e0.platform about1 = true :=
  (Spec.applies_iff w_frames).mpr ⟨w_running, w_runnable, w_alone, w_named, w_hears, w_ripe, w_room, w_tables⟩
theorem atStart : AtStart classFile x code maxLocals ret World_1 tables_1 room_1 Calls_1 rest_1 Pre_1 launch0 p0 e0 about1 theMethod args0 below0 :=
  ⟨lists_1, trivial, launch0.admits_env _ _ _, launch0.least_env, fairChoices_fair.cas, fairChoices_fair.clock, w_frames, w_args, w_heap, w_applies, ⟨w_consts, trivial⟩, w_rest, w_case⟩
end start1
theorem witness_1 : WitnessClaimed_1 := ⟨start1.p0, start1.e0, start1.about1, start1.theMethod, start1.args0, start1.below0, start1.atStart⟩
end Jvm.Pilot.@@N@@
