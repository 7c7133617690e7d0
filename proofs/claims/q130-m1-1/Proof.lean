import JvmDerived
import JvmDerived.Pilot.@@N@@Statement
import JvmDerived.Pilot.@@N@@Code
set_option linter.unusedVariables false
set_option linter.unusedSimpArgs false
@@BLOCK:NumsL.lean.txt@@
namespace Jvm.RoadKit
open Sem ClassFile Op Lib Jvm.Stand Jvm.Free Jvm.LawKit
section New
variable {p : Program} {l : Launch} {e : Env} {R : Room} {s : State} {m : MethodId} {args : Array Value} {below : List Frame} {meth : Method} {c : Code} {T : State} {locs : List Loc} {cells slots : Nat}
theorem retI (X : Stand p l e R s m args below meth c T locs cells slots) (hx : p.tables.exec = Jvm.exec) {pc : Nat} {Ls : Array Slot} {z : Int32} {rest : List Value} (hret : meth.sig.returnType = some .int) (hd : decode c.code pc = .ok (.ireturn, 1)) {fs : List Frame}
    (hl : ∀ (f : JFrame) (acts : List Action), f.method = m → f.locked = none → f.entered = [] → (doReturn e (T.setTop f) acts (some (.int z))).1 = T.setFrames fs) : Steps p.tables e below (T.setTop (mkF m pc Ls (.int z :: rest))) (T.setFrames fs) := by
  have hm' : T.vm.method? m = some meth := X.method'
  have hn : narrow .int (.int z) = .int z := rfl
  show Steps p.tables e below (T.setTop { method := m, pc := pc, locals := Ls, stack := _ :: rest, locked := none }) _
  jvm_step X.here [X.here.top, hx, hd, hm', hret, hn]
  first | (intro acts; rw [hl _ acts rfl rfl rfl]) | rw [hl _ _ rfl rfl rfl]
  exact Steps.refl _
end New
end Jvm.RoadKit
namespace Jvm.Pilot.@@N@@
open Jvm Jvm.ClassFile Sem Op Lib Jvm.Free Jvm.Stand Jvm.LawKit Jvm.RoadKit Bundle Jvm.Pilot.@@N@@.Jvm.D

def own_A (Z : State) (h : Heap) (a : Addr) (ty : FieldType) (n : Nat) (f : Nat → Int32) : Prop := ∃ c : Cell, Arr Z h a c ty ∧ c.slots.size = n ∧ ∀ j, j < n → c.slots[j]? = some (.int (f j))
theorem own_A_new {Z : State} {h : Heap} {a : Addr} {k : ClassId} {ty : FieldType} {z : Int32} {n : Nat} (A : Arr Z h a (newA k ty z) ty) (hd : defaultValue ty = .int 0) (hn : z.toNatClampNeg = n) : own_A Z h a ty n (fun _ => 0) :=
  ⟨_, A, by rw [sz_new, hn], fun j hj => by simp [newA, hn, hd, hj]⟩
theorem own_A_set {Z : State} {h h' : Heap} {a : Addr} {ty : FieldType} {n i : Nat} {f : Nat → Int32} {v : Int32} (F : own_A Z h a ty n f) (W : Wr h h' a i (.int v)) : own_A Z h' a ty n (upd f i v) := by
  obtain ⟨c, A, S, H⟩ := F
  refine ⟨_, A.same W, by rw [sz_set, S], fun j hj => ?_⟩
  show (c.slots.setIfInBounds i (.int v))[j]? = _
  rw [Array.getElem?_setIfInBounds]
  by_cases e : i = j
  · subst e; rw [if_pos rfl, if_pos (by rw [S]; exact hj)]; simp [upd]
  · rw [if_neg e, H j hj]; simp [upd, Ne.symm e]
theorem own_A_ext {Z : State} {h h' : Heap} {a : Addr} {ty : FieldType} {n : Nat} {f : Nat → Int32} (F : own_A Z h a ty n f) (E : Ext h h') : own_A Z h' a ty n f := by
  obtain ⟨c, A, S, H⟩ := F; exact ⟨c, A.ext E, S, H⟩
theorem own_A_other {Z : State} {h h' : Heap} {a b : Addr} {ty : FieldType} {n sl : Nat} {f : Nat → Int32} {v : Value} (F : own_A Z h a ty n f) (W : Wr h h' b sl v) (q : a ≠ b) : own_A Z h' a ty n f := by
  obtain ⟨c, A, S, H⟩ := F; exact ⟨c, A.other W q, S, H⟩
theorem own_A_keep {Z : State} {h h' : Heap} {a : Addr} {ty : FieldType} {n : Nat} {f : Nat → Int32} {ws : List Addr} (F : own_A Z h a ty n f) (K : Keep h h' ws) (q : a ∉ ws) : own_A Z h' a ty n f := by
  obtain ⟨c, A, S, H⟩ := F; exact ⟨c, ⟨K.2.1 a c A.1 q, A.2⟩, S, H⟩
theorem own_A_lt {Z : State} {h : Heap} {a : Addr} {ty : FieldType} {n : Nat} {f : Nat → Int32} (F : own_A Z h a ty n f) : a < h.size := by obtain ⟨c, A, -⟩ := F; exact A.lt
theorem own_upd_same (f : Nat → Int32) (i : Nat) (v : Int32) : upd f i v i = v := by simp [upd]
theorem own_upd_ne (f : Nat → Int32) {i j : Nat} (v : Int32) (h : j ≠ i) : upd f i v j = f j := by simp [upd, h]
theorem own_toNat (y : Int32) (h : 0 ≤ y.toInt) : y = Int32.ofNat y.toInt.toNat := by
  have a := y.toInt_lt
  rw [← Int32.toInt_inj, toInt_of rfl (by omega)]
  omega
theorem own_mask (x m : Int32) {k : Nat} (hk : k < 32) (hm : m.toBitVec.toNat = 2 ^ k - 1) : ∃ n : Nat, x &&& m = Int32.ofNat n ∧ n < 2 ^ k := by
  have h := Jvm.Kit.i32_mask x m hk hm
  have hp : (0 : Int) < 2 ^ k := Int.pow_pos (by decide)
  have h1 := Int.emod_nonneg x.toInt (b := 2 ^ k) (by omega)
  have h2 := Int.emod_lt_of_pos x.toInt hp
  refine ⟨(x &&& m).toInt.toNat, own_toNat _ (by omega), ?_⟩
  have h3 : ((2 ^ k : Nat) : Int) = 2 ^ k := by simp
  omega
theorem own_lt {i n : Nat} (h : i < n) (hn : n < 2 ^ 31) : Int32.ofNat i < Int32.ofNat n := by
  rw [Int32.lt_iff_toInt_lt, toInt_of rfl (by omega : i < 2 ^ 31), toInt_of rfl hn]; omega
theorem own_nlt {i n : Nat} (h : n ≤ i) (hi : i < 2 ^ 31) : ¬ (Int32.ofNat i < Int32.ofNat n) := by
  rw [Int32.lt_iff_toInt_lt, toInt_of rfl hi, toInt_of rfl (by omega : n < 2 ^ 31)]; omega
theorem own_ne {i n : Nat} (h : i ≠ n) (hi : i < 2 ^ 31) (hn : n < 2 ^ 31) : ¬ (Int32.ofNat i = Int32.ofNat n) := by
  rw [← Int32.toInt_inj, toInt_of rfl hi, toInt_of rfl hn]; omega
theorem own_add (a b : Nat) : Int32.ofNat a + Int32.ofNat b = Int32.ofNat (a + b) := (Int32.ofNat_add a b).symm
theorem own_sub {a b : Nat} (h : b ≤ a) (ha : a < 2 ^ 31) : Int32.ofNat a - Int32.ofNat b = Int32.ofNat (a - b) := by
  rw [← Int32.toInt_inj, toInt_of rfl (by omega : a - b < 2 ^ 31)]
  have h1 : (Int32.ofNat a).toInt = a := toInt_of rfl ha
  have h2 : (Int32.ofNat b).toInt = b := toInt_of rfl (by omega)
  rw [Jvm.Kit.i32_sub (by omega) (by omega)]
  omega
theorem own_rem {a b : Nat} (ha : a < 2 ^ 31) (hb : b < 2 ^ 31) : Int32.ofNat a % Int32.ofNat b = Int32.ofNat (a % b) := by
  have h3 : a % b ≤ a := Nat.mod_le a b
  have h1 : (Int32.ofNat a).toInt = a := toInt_of rfl ha
  have h2 : (Int32.ofNat b).toInt = b := toInt_of rfl hb
  rw [← Int32.toInt_inj, toInt_of rfl (by omega : a % b < 2 ^ 31), Jvm.Kit.i32_rem_nonneg (by omega), h1, h2]
  omega
theorem pn_1 : plainName "com/example/firm_warden/firmwarden/HeaderFieldsLineEndPinLaw" = true := by first | (simp [plainName, overriddenIn]; done) | decide +kernel
theorem ef_1 (m : MethodId) (x0 : Int64) (x1 : Int32) (x2 : Int32) (x3 : Int32) : entryFrame m #[(.long x0), (.int x1), (.int x2), (.int x3)] 6 = mkF m 0 #[.val (.long x0), .second, .val (.int x1), .val (.int x2), .val (.int x3), .unset] [] := by first | (simp [entryFrame, mkF, argsToLocals, Value.category]; done) | rfl
theorem d1_0 : decode method_3_code 0 = .ok (.lload_n 0, 1) := by decide +kernel
theorem d1_1 : decode method_3_code 1 = .ok (.bipush 8, 2) := by decide +kernel
theorem d1_3 : decode method_3_code 3 = .ok (.iload_n 2, 1) := by decide +kernel
theorem d1_4 : decode method_3_code 4 = .ok (.imul, 1) := by decide +kernel
theorem d1_5 : decode method_3_code 5 = .ok (.lushr, 1) := by decide +kernel
theorem d1_6 : decode method_3_code 6 = .ok (.l2i, 1) := by decide +kernel
theorem d1_7 : decode method_3_code 7 = .ok (.i2b, 1) := by decide +kernel
theorem d1_8 : decode method_3_code 8 = .ok (.istore 5, 2) := by decide +kernel
theorem d1_10 : decode method_3_code 10 = .ok (.iload_n 3, 1) := by decide +kernel
theorem d1_11 : decode method_3_code 11 = .ok (.iload_n 2, 1) := by decide +kernel
theorem d1_12 : decode method_3_code 12 = .ok (.if_icmp .gt 18, 3) := by decide +kernel
theorem d1_30 : decode method_3_code 30 = .ok (.iload 5, 2) := by decide +kernel
theorem d1_32 : decode method_3_code 32 = .ok (.ireturn, 1) := by decide +kernel
theorem d1_15 : decode method_3_code 15 = .ok (.iload_n 2, 1) := by decide +kernel
theorem d1_16 : decode method_3_code 16 = .ok (.iload 4, 2) := by decide +kernel
theorem d1_18 : decode method_3_code 18 = .ok (.if_icmp .ge 12, 3) := by decide +kernel
theorem d1_21 : decode method_3_code 21 = .ok (.iload 5, 2) := by decide +kernel
theorem d1_23 : decode method_3_code 23 = .ok (.bipush 10, 2) := by decide +kernel
theorem d1_25 : decode method_3_code 25 = .ok (.if_icmp .ne 5, 3) := by decide +kernel
theorem d1_28 : decode method_3_code 28 = .ok (.iconst 0, 1) := by decide +kernel
theorem d1_29 : decode method_3_code 29 = .ok (.ireturn, 1) := by decide +kernel
def own_put (q1 : Int64) (p2 : Int32) (p3 : Int32) (p4 : Int32) : Int32 := if p2 < p3 then ((nar .byte ((((q1.toUInt64 >>> (((8 : Int32) * p2) &&& 0x3f).toInt64.toUInt64).toInt64).toInt32).toInt8.toInt32))) else (if p2 < p4 then (if ((((q1.toUInt64 >>> (((8 : Int32) * p2) &&& 0x3f).toInt64.toUInt64).toInt64).toInt32).toInt8.toInt32) = (10 : Int32) then ((0 : Int32)) else ((nar .byte ((((q1.toUInt64 >>> (((8 : Int32) * p2) &&& 0x3f).toInt64.toUInt64).toInt64).toInt32).toInt8.toInt32)))) else ((nar .byte ((((q1.toUInt64 >>> (((8 : Int32) * p2) &&& 0x3f).toInt64.toUInt64).toInt64).toInt32).toInt8.toInt32))))
def Q1 (Z : State) (q1 : Int64) (p2 : Int32) (p3 : Int32) (p4 : Int32) (h0 : Heap) (n0 : Nat) (v : Option Value) (h : Heap) (L : List Loc) : Prop := v = some (.int (own_put q1 p2 p3 p4)) ∧ Fr n0 L ∧ h = h0
set_option maxRecDepth 65536 in
set_option maxHeartbeats 40000000 in
theorem rm1 (l : Launch) (Z : State) (a0 : Array Value) (hw : ∀ d ∈ tables_1, d.before a0 Z = true) (ws : List Jvm.Cond) (q1 : Int64) (p2 : Int32) (p3 : Int32) (p4 : Int32) (h0 : Heap) (n0 : Nat) (Z0 : n0 ≤ h0.size) :
    MetFree l (⟨"com/example/firm_warden/firmwarden/HeaderFieldsLineEndPinLaw", "put", "(JIII)B"⟩ : MethodName) (head1 (Jvm.Cond.code (⟨"com/example/firm_warden/firmwarden/HeaderFieldsLineEndPinLaw", "put", "(JIII)B"⟩ : MethodName) method_3_code 6 (some .byte) :: ws) ({ frames := 0, cells := 0, slots := 0, locals := 0 } : Room)) (fun aa_ U => aa_ = #[(.long q1), (.int p2), (.int p3), (.int p4)] ∧ Z.Warmed39 U.vm ∧ U.heap = h0) (fun _ _ _ _ _ => True) (fun _ U o U' => ∃ v_ L_, o = .returned v_ ∧ Q1 Z q1 p2 p3 p4 h0 n0 v_ U'.heap L_ ∧ FrameEnd U o U' L_ ({ frames := 0, cells := 0, slots := 0, locals := 0 } : Room).cells ({ frames := 0, cells := 0, slots := 0, locals := 0 } : Room).slots) := by
  refine MetFree.of_bodySF (plainFor_of_name pn_1) hisR ?_
  intro p e s m args below meth c s₁ Bd hml0 hP hK
  obtain ⟨rfl, hZ, hh⟩ := hP
  have hx := Bd.exec
  have hby := Bd.bytes
  have hml : c.maxLocals = 6 := hml0
  have hown : s.vm.findClass "com/example/firm_warden/firmwarden/HeaderFieldsLineEndPinLaw" = some m.cls := findClass_of_methodNamed Bd.named
  have hnm := (name_of_methodNamed Bd.named Bd.method).1
  have X0 : Stand p l e ({ frames := 0, cells := 0, slots := 0, locals := 0 } : Room) s m #[(.long q1), (.int p2), (.int p3), (.int p4)] below meth c s₁ [] 0 0 := Stand.of_body Bd
  have e0 : s₁.heap = h0 := by rw [← hh, Bd.state]; rfl
  have N0 := Fr.nil n0
  have pre0 : ∀ t, Steps p.tables e below (s₁.setTop (mkF m 0 #[.val (.long q1), .second, .val (.int p2), .val (.int p3), .val (.int p4), .unset] [])) t → Steps p.tables e below (s₁.setTop (entryFrame m #[(.long q1), (.int p2), (.int p3), (.int p4)] 6)) t := fun t k_ => castTop (ef_1 m q1 p2 p3 p4) k_
  have pre1 : ∀ t, Steps p.tables e below (s₁.setTop (mkF m 12 #[.val (.long q1), .second, .val (.int p2), .val (.int p3), .val (.int p4), .val (.int ((((q1.toUInt64 >>> (((8 : Int32) * p2) &&& 0x3f).toInt64.toUInt64).toInt64).toInt32).toInt8.toInt32))] [(.int p2), (.int p3)])) t → Steps p.tables e below _ t := fun t kt => pre0 t (by
    show Steps p.tables e below (s₁.setTop (mkF m 0 #[.val (.long q1), .second, .val (.int p2), .val (.int p3), .val (.int p4), .unset] [])) _
    refine XS.lloadN X0.here hx rfl (hb hby d1_0) rfl ?_
    show Steps p.tables e below (s₁.setTop (mkF m 1 #[.val (.long q1), .second, .val (.int p2), .val (.int p3), .val (.int p4), .unset] [(.long q1)])) _
    refine XS.bipush X0.here hx rfl (hb hby d1_1) ?_
    show Steps p.tables e below (s₁.setTop (mkF m 3 #[.val (.long q1), .second, .val (.int p2), .val (.int p3), .val (.int p4), .unset] [(.int (8 : Int32)), (.long q1)])) _
    refine XS.iloadN X0.here hx rfl (hb hby d1_3) rfl ?_
    show Steps p.tables e below (s₁.setTop (mkF m 4 #[.val (.long q1), .second, .val (.int p2), .val (.int p3), .val (.int p4), .unset] [(.int p2), (.int (8 : Int32)), (.long q1)])) _
    refine XS.imul X0.here hx rfl (hb hby d1_4) rfl ?_
    show Steps p.tables e below (s₁.setTop (mkF m 5 #[.val (.long q1), .second, .val (.int p2), .val (.int p3), .val (.int p4), .unset] [(.int ((8 : Int32) * p2)), (.long q1)])) _
    refine XS.lushr X0.here hx rfl (hb hby d1_5) rfl ?_
    show Steps p.tables e below (s₁.setTop (mkF m 6 #[.val (.long q1), .second, .val (.int p2), .val (.int p3), .val (.int p4), .unset] [(.long ((q1.toUInt64 >>> (((8 : Int32) * p2) &&& 0x3f).toInt64.toUInt64).toInt64))])) _
    refine XS.l2i X0.here hx rfl (hb hby d1_6) rfl ?_
    show Steps p.tables e below (s₁.setTop (mkF m 7 #[.val (.long q1), .second, .val (.int p2), .val (.int p3), .val (.int p4), .unset] [(.int (((q1.toUInt64 >>> (((8 : Int32) * p2) &&& 0x3f).toInt64.toUInt64).toInt64).toInt32))])) _
    refine XS.i2b X0.here hx rfl (hb hby d1_7) rfl ?_
    show Steps p.tables e below (s₁.setTop (mkF m 8 #[.val (.long q1), .second, .val (.int p2), .val (.int p3), .val (.int p4), .unset] [(.int ((((q1.toUInt64 >>> (((8 : Int32) * p2) &&& 0x3f).toInt64.toUInt64).toInt64).toInt32).toInt8.toInt32))])) _
    refine XS.istore X0.here hx rfl (hb hby d1_8) rfl (l' := #[.val (.long q1), .second, .val (.int p2), .val (.int p3), .val (.int p4), .val (.int ((((q1.toUInt64 >>> (((8 : Int32) * p2) &&& 0x3f).toInt64.toUInt64).toInt64).toInt32).toInt8.toInt32))]) rfl ?_
    show Steps p.tables e below (s₁.setTop (mkF m 10 #[.val (.long q1), .second, .val (.int p2), .val (.int p3), .val (.int p4), .val (.int ((((q1.toUInt64 >>> (((8 : Int32) * p2) &&& 0x3f).toInt64.toUInt64).toInt64).toInt32).toInt8.toInt32))] [])) _
    refine XS.iloadN X0.here hx rfl (hb hby d1_10) rfl ?_
    show Steps p.tables e below (s₁.setTop (mkF m 11 #[.val (.long q1), .second, .val (.int p2), .val (.int p3), .val (.int p4), .val (.int ((((q1.toUInt64 >>> (((8 : Int32) * p2) &&& 0x3f).toInt64.toUInt64).toInt64).toInt32).toInt8.toInt32))] [(.int p3)])) _
    refine XS.iloadN X0.here hx rfl (hb hby d1_11) rfl ?_
    exact kt)
  by_cases hc12 : p2 < p3
  · obtain ⟨fs, hr, hrun, hended, hW, hsame⟩ := X0.leave (v := some (.int (nar .byte ((((q1.toUInt64 >>> (((8 : Int32) * p2) &&& 0x3f).toInt64.toUInt64).toInt64).toInt32).toInt8.toInt32)))) (fun h => by rw [Bd.returns] at h; cases h)
    refine ⟨_, _, pre1 _ ?_, hrun, hended, _, _, rfl, ?_, ⟨_, rfl⟩, hW, hsame.mono (by decide) (by decide)⟩
    · show Steps p.tables e below (s₁.setTop (mkF m 12 #[.val (.long q1), .second, .val (.int p2), .val (.int p3), .val (.int p4), .val (.int ((((q1.toUInt64 >>> (((8 : Int32) * p2) &&& 0x3f).toInt64.toUInt64).toInt64).toInt32).toInt8.toInt32))] [(.int p2), (.int p3)])) _
      refine XS.icmpYes X0.here hx rfl (pc0 := 12) (pc' := 30) rfl (hb hby d1_12) rfl (tlt hc12).2.2.1 (by decide) (by decide) ?_
      show Steps p.tables e below (s₁.setTop (mkF m 30 #[.val (.long q1), .second, .val (.int p2), .val (.int p3), .val (.int p4), .val (.int ((((q1.toUInt64 >>> (((8 : Int32) * p2) &&& 0x3f).toInt64.toUInt64).toInt64).toInt32).toInt8.toInt32))] [])) _
      refine XS.iload X0.here hx rfl (hb hby d1_30) rfl ?_
      show Steps p.tables e below (s₁.setTop (mkF m 32 #[.val (.long q1), .second, .val (.int p2), .val (.int p3), .val (.int p4), .val (.int ((((q1.toUInt64 >>> (((8 : Int32) * p2) &&& 0x3f).toInt64.toUInt64).toInt64).toInt32).toInt8.toInt32))] [(.int ((((q1.toUInt64 >>> (((8 : Int32) * p2) &&& 0x3f).toInt64.toUInt64).toInt64).toInt32).toInt8.toInt32))])) _
      exact retN X0 hx (t := .byte) Bd.returns (by simp) (hb hby d1_32) hr
    · show Q1 Z q1 p2 p3 p4 h0 n0 _ s₁.heap _
      rw [e0]
      exact ⟨by simp only [own_put, if_pos hc12], N0, rfl⟩
  · have pre2 : ∀ t, Steps p.tables e below (s₁.setTop (mkF m 18 #[.val (.long q1), .second, .val (.int p2), .val (.int p3), .val (.int p4), .val (.int ((((q1.toUInt64 >>> (((8 : Int32) * p2) &&& 0x3f).toInt64.toUInt64).toInt64).toInt32).toInt8.toInt32))] [(.int p4), (.int p2)])) t → Steps p.tables e below _ t := fun t kt => pre1 t (by
      show Steps p.tables e below (s₁.setTop (mkF m 12 #[.val (.long q1), .second, .val (.int p2), .val (.int p3), .val (.int p4), .val (.int ((((q1.toUInt64 >>> (((8 : Int32) * p2) &&& 0x3f).toInt64.toUInt64).toInt64).toInt32).toInt8.toInt32))] [(.int p2), (.int p3)])) _
      refine XS.icmpNo X0.here hx rfl (hb hby d1_12) rfl (flt hc12).2.2.1 ?_
      show Steps p.tables e below (s₁.setTop (mkF m 15 #[.val (.long q1), .second, .val (.int p2), .val (.int p3), .val (.int p4), .val (.int ((((q1.toUInt64 >>> (((8 : Int32) * p2) &&& 0x3f).toInt64.toUInt64).toInt64).toInt32).toInt8.toInt32))] [])) _
      refine XS.iloadN X0.here hx rfl (hb hby d1_15) rfl ?_
      show Steps p.tables e below (s₁.setTop (mkF m 16 #[.val (.long q1), .second, .val (.int p2), .val (.int p3), .val (.int p4), .val (.int ((((q1.toUInt64 >>> (((8 : Int32) * p2) &&& 0x3f).toInt64.toUInt64).toInt64).toInt32).toInt8.toInt32))] [(.int p2)])) _
      refine XS.iload X0.here hx rfl (hb hby d1_16) rfl ?_
      exact kt)
    by_cases hc18 : p2 < p4
    · have pre3 : ∀ t, Steps p.tables e below (s₁.setTop (mkF m 25 #[.val (.long q1), .second, .val (.int p2), .val (.int p3), .val (.int p4), .val (.int ((((q1.toUInt64 >>> (((8 : Int32) * p2) &&& 0x3f).toInt64.toUInt64).toInt64).toInt32).toInt8.toInt32))] [(.int (10 : Int32)), (.int ((((q1.toUInt64 >>> (((8 : Int32) * p2) &&& 0x3f).toInt64.toUInt64).toInt64).toInt32).toInt8.toInt32))])) t → Steps p.tables e below _ t := fun t kt => pre2 t (by
        show Steps p.tables e below (s₁.setTop (mkF m 18 #[.val (.long q1), .second, .val (.int p2), .val (.int p3), .val (.int p4), .val (.int ((((q1.toUInt64 >>> (((8 : Int32) * p2) &&& 0x3f).toInt64.toUInt64).toInt64).toInt32).toInt8.toInt32))] [(.int p4), (.int p2)])) _
        refine XS.icmpNo X0.here hx rfl (hb hby d1_18) rfl (tlt hc18).2.1 ?_
        show Steps p.tables e below (s₁.setTop (mkF m 21 #[.val (.long q1), .second, .val (.int p2), .val (.int p3), .val (.int p4), .val (.int ((((q1.toUInt64 >>> (((8 : Int32) * p2) &&& 0x3f).toInt64.toUInt64).toInt64).toInt32).toInt8.toInt32))] [])) _
        refine XS.iload X0.here hx rfl (hb hby d1_21) rfl ?_
        show Steps p.tables e below (s₁.setTop (mkF m 23 #[.val (.long q1), .second, .val (.int p2), .val (.int p3), .val (.int p4), .val (.int ((((q1.toUInt64 >>> (((8 : Int32) * p2) &&& 0x3f).toInt64.toUInt64).toInt64).toInt32).toInt8.toInt32))] [(.int ((((q1.toUInt64 >>> (((8 : Int32) * p2) &&& 0x3f).toInt64.toUInt64).toInt64).toInt32).toInt8.toInt32))])) _
        refine XS.bipush X0.here hx rfl (hb hby d1_23) ?_
        exact kt)
      by_cases hc25 : ((((q1.toUInt64 >>> (((8 : Int32) * p2) &&& 0x3f).toInt64.toUInt64).toInt64).toInt32).toInt8.toInt32) = (10 : Int32)
      · obtain ⟨fs, hr, hrun, hended, hW, hsame⟩ := X0.leave (v := some (.int (0 : Int32))) (fun h => by rw [Bd.returns] at h; cases h)
        refine ⟨_, _, pre3 _ ?_, hrun, hended, _, _, rfl, ?_, ⟨_, rfl⟩, hW, hsame.mono (by decide) (by decide)⟩
        · show Steps p.tables e below (s₁.setTop (mkF m 25 #[.val (.long q1), .second, .val (.int p2), .val (.int p3), .val (.int p4), .val (.int ((((q1.toUInt64 >>> (((8 : Int32) * p2) &&& 0x3f).toInt64.toUInt64).toInt64).toInt32).toInt8.toInt32))] [(.int (10 : Int32)), (.int ((((q1.toUInt64 >>> (((8 : Int32) * p2) &&& 0x3f).toInt64.toUInt64).toInt64).toInt32).toInt8.toInt32))])) _
          refine XS.icmpNo X0.here hx rfl (hb hby d1_25) rfl (teq hc25).2 ?_
          show Steps p.tables e below (s₁.setTop (mkF m 28 #[.val (.long q1), .second, .val (.int p2), .val (.int p3), .val (.int p4), .val (.int ((((q1.toUInt64 >>> (((8 : Int32) * p2) &&& 0x3f).toInt64.toUInt64).toInt64).toInt32).toInt8.toInt32))] [])) _
          refine XS.iconst X0.here hx rfl (hb hby d1_28) ?_
          show Steps p.tables e below (s₁.setTop (mkF m 29 #[.val (.long q1), .second, .val (.int p2), .val (.int p3), .val (.int p4), .val (.int ((((q1.toUInt64 >>> (((8 : Int32) * p2) &&& 0x3f).toInt64.toUInt64).toInt64).toInt32).toInt8.toInt32))] [(.int (0 : Int32))])) _
          exact retN X0 hx (t := .byte) Bd.returns (by simp) (hb hby d1_29) hr
        · show Q1 Z q1 p2 p3 p4 h0 n0 _ s₁.heap _
          rw [e0]
          exact ⟨by simp only [own_put, if_neg hc12, if_pos hc18, if_pos hc25], N0, rfl⟩
      · obtain ⟨fs, hr, hrun, hended, hW, hsame⟩ := X0.leave (v := some (.int (nar .byte ((((q1.toUInt64 >>> (((8 : Int32) * p2) &&& 0x3f).toInt64.toUInt64).toInt64).toInt32).toInt8.toInt32)))) (fun h => by rw [Bd.returns] at h; cases h)
        refine ⟨_, _, pre3 _ ?_, hrun, hended, _, _, rfl, ?_, ⟨_, rfl⟩, hW, hsame.mono (by decide) (by decide)⟩
        · show Steps p.tables e below (s₁.setTop (mkF m 25 #[.val (.long q1), .second, .val (.int p2), .val (.int p3), .val (.int p4), .val (.int ((((q1.toUInt64 >>> (((8 : Int32) * p2) &&& 0x3f).toInt64.toUInt64).toInt64).toInt32).toInt8.toInt32))] [(.int (10 : Int32)), (.int ((((q1.toUInt64 >>> (((8 : Int32) * p2) &&& 0x3f).toInt64.toUInt64).toInt64).toInt32).toInt8.toInt32))])) _
          refine XS.icmpYes X0.here hx rfl (pc0 := 25) (pc' := 30) rfl (hb hby d1_25) rfl (feq hc25).2 (by decide) (by decide) ?_
          show Steps p.tables e below (s₁.setTop (mkF m 30 #[.val (.long q1), .second, .val (.int p2), .val (.int p3), .val (.int p4), .val (.int ((((q1.toUInt64 >>> (((8 : Int32) * p2) &&& 0x3f).toInt64.toUInt64).toInt64).toInt32).toInt8.toInt32))] [])) _
          refine XS.iload X0.here hx rfl (hb hby d1_30) rfl ?_
          show Steps p.tables e below (s₁.setTop (mkF m 32 #[.val (.long q1), .second, .val (.int p2), .val (.int p3), .val (.int p4), .val (.int ((((q1.toUInt64 >>> (((8 : Int32) * p2) &&& 0x3f).toInt64.toUInt64).toInt64).toInt32).toInt8.toInt32))] [(.int ((((q1.toUInt64 >>> (((8 : Int32) * p2) &&& 0x3f).toInt64.toUInt64).toInt64).toInt32).toInt8.toInt32))])) _
          exact retN X0 hx (t := .byte) Bd.returns (by simp) (hb hby d1_32) hr
        · show Q1 Z q1 p2 p3 p4 h0 n0 _ s₁.heap _
          rw [e0]
          exact ⟨by simp only [own_put, if_neg hc12, if_pos hc18, if_neg hc25], N0, rfl⟩
    · obtain ⟨fs, hr, hrun, hended, hW, hsame⟩ := X0.leave (v := some (.int (nar .byte ((((q1.toUInt64 >>> (((8 : Int32) * p2) &&& 0x3f).toInt64.toUInt64).toInt64).toInt32).toInt8.toInt32)))) (fun h => by rw [Bd.returns] at h; cases h)
      refine ⟨_, _, pre2 _ ?_, hrun, hended, _, _, rfl, ?_, ⟨_, rfl⟩, hW, hsame.mono (by decide) (by decide)⟩
      · show Steps p.tables e below (s₁.setTop (mkF m 18 #[.val (.long q1), .second, .val (.int p2), .val (.int p3), .val (.int p4), .val (.int ((((q1.toUInt64 >>> (((8 : Int32) * p2) &&& 0x3f).toInt64.toUInt64).toInt64).toInt32).toInt8.toInt32))] [(.int p4), (.int p2)])) _
        refine XS.icmpYes X0.here hx rfl (pc0 := 18) (pc' := 30) rfl (hb hby d1_18) rfl (flt hc18).2.1 (by decide) (by decide) ?_
        show Steps p.tables e below (s₁.setTop (mkF m 30 #[.val (.long q1), .second, .val (.int p2), .val (.int p3), .val (.int p4), .val (.int ((((q1.toUInt64 >>> (((8 : Int32) * p2) &&& 0x3f).toInt64.toUInt64).toInt64).toInt32).toInt8.toInt32))] [])) _
        refine XS.iload X0.here hx rfl (hb hby d1_30) rfl ?_
        show Steps p.tables e below (s₁.setTop (mkF m 32 #[.val (.long q1), .second, .val (.int p2), .val (.int p3), .val (.int p4), .val (.int ((((q1.toUInt64 >>> (((8 : Int32) * p2) &&& 0x3f).toInt64.toUInt64).toInt64).toInt32).toInt8.toInt32))] [(.int ((((q1.toUInt64 >>> (((8 : Int32) * p2) &&& 0x3f).toInt64.toUInt64).toInt64).toInt32).toInt8.toInt32))])) _
        exact retN X0 hx (t := .byte) Bd.returns (by simp) (hb hby d1_32) hr
      · show Q1 Z q1 p2 p3 p4 h0 n0 _ s₁.heap _
        rw [e0]
        exact ⟨by simp only [own_put, if_neg hc12, if_neg hc18], N0, rfl⟩
theorem pn_2 : plainName "com/example/firm_warden/firmwarden/HeaderFields" = true := by first | (simp [plainName, overriddenIn]; done) | decide +kernel
theorem ef_2 (m : MethodId) (x0 : Addr) (x1 : Int32) (x2 : Int32) (x3 : Addr) : entryFrame m #[(.ref x0), (.int x1), (.int x2), (.ref x3)] 5 = mkF m 0 #[.val (.ref x0), .val (.int x1), .val (.int x2), .val (.ref x3), .unset] [] := by first | (simp [entryFrame, mkF, argsToLocals, Value.category]; done) | rfl
theorem d2_0 : decode prog_7_method_6_code 0 = .ok (.iload_n 1, 1) := by decide +kernel
theorem d2_1 : decode prog_7_method_6_code 1 = .ok (.istore 4, 2) := by decide +kernel
theorem d2_3 : decode prog_7_method_6_code 3 = .ok (.iload 4, 2) := by decide +kernel
theorem d2_5 : decode prog_7_method_6_code 5 = .ok (.iload_n 2, 1) := by decide +kernel
theorem d2_6 : decode prog_7_method_6_code 6 = .ok (.if_icmp .ge 18, 3) := by decide +kernel
theorem d2_9 : decode prog_7_method_6_code 9 = .ok (.aload_n 0, 1) := by decide +kernel
theorem d2_10 : decode prog_7_method_6_code 10 = .ok (.iload 4, 2) := by decide +kernel
theorem d2_12 : decode prog_7_method_6_code 12 = .ok (.baload, 1) := by decide +kernel
theorem d2_13 : decode prog_7_method_6_code 13 = .ok (.bipush 10, 2) := by decide +kernel
theorem d2_15 : decode prog_7_method_6_code 15 = .ok (.if_icmp .eq 9, 3) := by decide +kernel
theorem d2_18 : decode prog_7_method_6_code 18 = .ok (.iinc 4 1, 3) := by decide +kernel
theorem d2_21 : decode prog_7_method_6_code 21 = .ok (.goto (-18), 3) := by decide +kernel
theorem d2_24 : decode prog_7_method_6_code 24 = .ok (.iload 4, 2) := by decide +kernel
theorem d2_26 : decode prog_7_method_6_code 26 = .ok (.iload_n 2, 1) := by decide +kernel
theorem d2_27 : decode prog_7_method_6_code 27 = .ok (.if_icmp .eq 20, 3) := by decide +kernel
theorem d2_30 : decode prog_7_method_6_code 30 = .ok (.iload 4, 2) := by decide +kernel
theorem d2_32 : decode prog_7_method_6_code 32 = .ok (.iload_n 1, 1) := by decide +kernel
theorem d2_33 : decode prog_7_method_6_code 33 = .ok (.if_icmp .eq 14, 3) := by decide +kernel
theorem d2_36 : decode prog_7_method_6_code 36 = .ok (.aload_n 0, 1) := by decide +kernel
theorem d2_37 : decode prog_7_method_6_code 37 = .ok (.iload 4, 2) := by decide +kernel
theorem d2_39 : decode prog_7_method_6_code 39 = .ok (.iconst 1, 1) := by decide +kernel
theorem d2_40 : decode prog_7_method_6_code 40 = .ok (.isub, 1) := by decide +kernel
theorem d2_41 : decode prog_7_method_6_code 41 = .ok (.baload, 1) := by decide +kernel
theorem d2_42 : decode prog_7_method_6_code 42 = .ok (.bipush 13, 2) := by decide +kernel
theorem d2_44 : decode prog_7_method_6_code 44 = .ok (.if_icmp .eq 13, 3) := by decide +kernel
theorem d2_57 : decode prog_7_method_6_code 57 = .ok (.iload 4, 2) := by decide +kernel
theorem d2_59 : decode prog_7_method_6_code 59 = .ok (.iconst 1, 1) := by decide +kernel
theorem d2_60 : decode prog_7_method_6_code 60 = .ok (.isub, 1) := by decide +kernel
theorem d2_61 : decode prog_7_method_6_code 61 = .ok (.ireturn, 1) := by decide +kernel
def Q2 (Z : State) (cc : Nat) (h0 : Heap) (n0 : Nat) (v : Option Value) (h : Heap) (L : List Loc) : Prop := v = some (.int (Int32.ofNat cc)) ∧ Fr n0 L ∧ h = h0
set_option maxRecDepth 65536 in
set_option maxHeartbeats 40000000 in
theorem rm2 (l : Launch) (Z : State) (a0 : Array Value) (hw : ∀ d ∈ tables_1, d.before a0 Z = true) (ws : List Jvm.Cond) (a1 : Addr) (a2 : Addr) (cl : Cell) (f : Nat → Int32) (fr : Nat) (cc : Nat) (tn : Nat) (h0 : Heap) (n0 : Nat) (Z0 : n0 ≤ h0.size) (Ar : Arr Z h0 a1 cl .byte) (Sz : cl.slots.size = 8) (Hf : ∀ j, j < 8 → cl.slots[j]? = some (.int (f j))) (hfr : fr ≤ cc) (hcc : cc + 1 < tn) (htn : tn ≤ 8) (hno : ∀ j, fr ≤ j → j < cc + 1 → ¬ (f j = (10 : Int32))) (hcr : f cc = (13 : Int32)) (hlf : f (cc + 1) = (10 : Int32)) :
    MetFree l (⟨"com/example/firm_warden/firmwarden/HeaderFields", "lineEnd", "([BIILjava/lang/String;)I"⟩ : MethodName) (head1 (Jvm.Cond.code (⟨"com/example/firm_warden/firmwarden/HeaderFields", "lineEnd", "([BIILjava/lang/String;)I"⟩ : MethodName) prog_7_method_6_code 5 (some .int) :: ws) ({ frames := 0, cells := 0, slots := 0, locals := 0 } : Room)) (fun aa_ U => aa_ = #[(.ref a1), (.int (Int32.ofNat fr)), (.int (Int32.ofNat tn)), (.ref a2)] ∧ Z.Warmed39 U.vm ∧ U.heap = h0) (fun _ _ _ _ _ => True) (fun _ U o U' => ∃ v_ L_, o = .returned v_ ∧ Q2 Z cc h0 n0 v_ U'.heap L_ ∧ FrameEnd U o U' L_ ({ frames := 0, cells := 0, slots := 0, locals := 0 } : Room).cells ({ frames := 0, cells := 0, slots := 0, locals := 0 } : Room).slots) := by
  refine MetFree.of_bodySF (plainFor_of_name pn_2) hisR ?_
  intro p e s m args below meth c s₁ Bd hml0 hP hK
  obtain ⟨rfl, hZ, hh⟩ := hP
  have hx := Bd.exec
  have hby := Bd.bytes
  have hml : c.maxLocals = 5 := hml0
  have hown : s.vm.findClass "com/example/firm_warden/firmwarden/HeaderFields" = some m.cls := findClass_of_methodNamed Bd.named
  have hnm := (name_of_methodNamed Bd.named Bd.method).1
  have X0 : Stand p l e ({ frames := 0, cells := 0, slots := 0, locals := 0 } : Room) s m #[(.ref a1), (.int (Int32.ofNat fr)), (.int (Int32.ofNat tn)), (.ref a2)] below meth c s₁ [] 0 0 := Stand.of_body Bd
  have e0 : s₁.heap = h0 := by rw [← hh, Bd.state]; rfl
  have N0 := Fr.nil n0
  have pre0 : ∀ t, Steps p.tables e below (s₁.setTop (mkF m 0 #[.val (.ref a1), .val (.int (Int32.ofNat fr)), .val (.int (Int32.ofNat tn)), .val (.ref a2), .unset] [])) t → Steps p.tables e below (s₁.setTop (entryFrame m #[(.ref a1), (.int (Int32.ofNat fr)), (.int (Int32.ofNat tn)), (.ref a2)] 5)) t := fun t k_ => castTop (ef_2 m a1 (Int32.ofNat fr) (Int32.ofNat tn) a2) k_
  have pre1 : ∀ t, Steps p.tables e below (s₁.setTop (mkF m 3 #[.val (.ref a1), .val (.int (Int32.ofNat fr)), .val (.int (Int32.ofNat tn)), .val (.ref a2), .val (.int (Int32.ofNat fr))] [])) t → Steps p.tables e below _ t := fun t kt => pre0 t (by
    show Steps p.tables e below (s₁.setTop (mkF m 0 #[.val (.ref a1), .val (.int (Int32.ofNat fr)), .val (.int (Int32.ofNat tn)), .val (.ref a2), .unset] [])) _
    refine XS.iloadN X0.here hx rfl (hb hby d2_0) rfl ?_
    show Steps p.tables e below (s₁.setTop (mkF m 1 #[.val (.ref a1), .val (.int (Int32.ofNat fr)), .val (.int (Int32.ofNat tn)), .val (.ref a2), .unset] [(.int (Int32.ofNat fr))])) _
    refine XS.istore X0.here hx rfl (hb hby d2_1) rfl (l' := #[.val (.ref a1), .val (.int (Int32.ofNat fr)), .val (.int (Int32.ofNat tn)), .val (.ref a2), .val (.int (Int32.ofNat fr))]) rfl ?_
    exact kt)
  have loop : ∀ k i : Nat, i + k = cc + 1 → fr ≤ i → ∀ t, Steps p.tables e below (s₁.setTop (mkF m 24 #[.val (.ref a1), .val (.int (Int32.ofNat fr)), .val (.int (Int32.ofNat tn)), .val (.ref a2), .val (.int (Int32.ofNat (cc + 1)))] [])) t → Steps p.tables e below (s₁.setTop (mkF m 3 #[.val (.ref a1), .val (.int (Int32.ofNat fr)), .val (.int (Int32.ofNat tn)), .val (.ref a2), .val (.int (Int32.ofNat i))] [])) t := by
    intro k
    induction k with
    | zero =>
      intro i hi hfi t kt
      obtain rfl : i = cc + 1 := by omega
      show Steps p.tables e below (s₁.setTop (mkF m 3 #[.val (.ref a1), .val (.int (Int32.ofNat fr)), .val (.int (Int32.ofNat tn)), .val (.ref a2), .val (.int (Int32.ofNat (cc + 1)))] [])) _
      refine XS.iload X0.here hx rfl (hb hby d2_3) rfl ?_
      show Steps p.tables e below (s₁.setTop (mkF m 5 #[.val (.ref a1), .val (.int (Int32.ofNat fr)), .val (.int (Int32.ofNat tn)), .val (.ref a2), .val (.int (Int32.ofNat (cc + 1)))] [(.int (Int32.ofNat (cc + 1)))])) _
      refine XS.iloadN X0.here hx rfl (hb hby d2_5) rfl ?_
      have hc6 : (Int32.ofNat (cc + 1)) < (Int32.ofNat tn) := own_lt (by omega) (by omega)
      show Steps p.tables e below (s₁.setTop (mkF m 6 #[.val (.ref a1), .val (.int (Int32.ofNat fr)), .val (.int (Int32.ofNat tn)), .val (.ref a2), .val (.int (Int32.ofNat (cc + 1)))] [(.int (Int32.ofNat tn)), (.int (Int32.ofNat (cc + 1)))])) _
      refine XS.icmpNo X0.here hx rfl (hb hby d2_6) rfl (tlt hc6).2.1 ?_
      show Steps p.tables e below (s₁.setTop (mkF m 9 #[.val (.ref a1), .val (.int (Int32.ofNat fr)), .val (.int (Int32.ofNat tn)), .val (.ref a2), .val (.int (Int32.ofNat (cc + 1)))] [])) _
      refine XS.aloadN X0.here hx rfl (hb hby d2_9) rfl rfl ?_
      show Steps p.tables e below (s₁.setTop (mkF m 10 #[.val (.ref a1), .val (.int (Int32.ofNat fr)), .val (.int (Int32.ofNat tn)), .val (.ref a2), .val (.int (Int32.ofNat (cc + 1)))] [(.ref a1)])) _
      refine XS.iload X0.here hx rfl (hb hby d2_10) rfl ?_
      show Steps p.tables e below (s₁.setTop (mkF m 12 #[.val (.ref a1), .val (.int (Int32.ofNat fr)), .val (.int (Int32.ofNat tn)), .val (.ref a2), .val (.int (Int32.ofNat (cc + 1)))] [(.int (Int32.ofNat (cc + 1))), (.ref a1)])) _
      refine X0.baloadBytes hx (j := (Int32.ofNat (cc + 1))) (v := (.int (f (cc + 1)))) (by rw [e0]; exact Ar.1) (State.isArrayOf_alike hZ.alike Ar.2.1) Ar.2.2 (within (c := cc + 1) rfl (by omega) (by omega)) (by rw [clamp_of (c := cc + 1) rfl (by omega)]; exact Hf _ (by omega)) (g := (mkF m 12 #[.val (.ref a1), .val (.int (Int32.ofNat fr)), .val (.int (Int32.ofNat tn)), .val (.ref a2), .val (.int (Int32.ofNat (cc + 1)))] [(.int (Int32.ofNat (cc + 1))), (.ref a1)])) rfl rfl (hb hby d2_12) _ ?_
      show Steps p.tables e below (s₁.setTop (mkF m 13 #[.val (.ref a1), .val (.int (Int32.ofNat fr)), .val (.int (Int32.ofNat tn)), .val (.ref a2), .val (.int (Int32.ofNat (cc + 1)))] [(.int (f (cc + 1)))])) _
      refine XS.bipush X0.here hx rfl (hb hby d2_13) ?_
      have hc15 : (f (cc + 1)) = (10 : Int32) := hlf
      show Steps p.tables e below (s₁.setTop (mkF m 15 #[.val (.ref a1), .val (.int (Int32.ofNat fr)), .val (.int (Int32.ofNat tn)), .val (.ref a2), .val (.int (Int32.ofNat (cc + 1)))] [(.int (10 : Int32)), (.int (f (cc + 1)))])) _
      refine XS.icmpYes X0.here hx rfl (pc0 := 15) (pc' := 24) rfl (hb hby d2_15) rfl (teq hc15).1 (by decide) (by decide) ?_
      exact kt
    | succ k ih =>
      intro i hi hfi t kt
      show Steps p.tables e below (s₁.setTop (mkF m 3 #[.val (.ref a1), .val (.int (Int32.ofNat fr)), .val (.int (Int32.ofNat tn)), .val (.ref a2), .val (.int (Int32.ofNat i))] [])) _
      refine XS.iload X0.here hx rfl (hb hby d2_3) rfl ?_
      show Steps p.tables e below (s₁.setTop (mkF m 5 #[.val (.ref a1), .val (.int (Int32.ofNat fr)), .val (.int (Int32.ofNat tn)), .val (.ref a2), .val (.int (Int32.ofNat i))] [(.int (Int32.ofNat i))])) _
      refine XS.iloadN X0.here hx rfl (hb hby d2_5) rfl ?_
      have hc6 : (Int32.ofNat i) < (Int32.ofNat tn) := own_lt (by omega) (by omega)
      show Steps p.tables e below (s₁.setTop (mkF m 6 #[.val (.ref a1), .val (.int (Int32.ofNat fr)), .val (.int (Int32.ofNat tn)), .val (.ref a2), .val (.int (Int32.ofNat i))] [(.int (Int32.ofNat tn)), (.int (Int32.ofNat i))])) _
      refine XS.icmpNo X0.here hx rfl (hb hby d2_6) rfl (tlt hc6).2.1 ?_
      show Steps p.tables e below (s₁.setTop (mkF m 9 #[.val (.ref a1), .val (.int (Int32.ofNat fr)), .val (.int (Int32.ofNat tn)), .val (.ref a2), .val (.int (Int32.ofNat i))] [])) _
      refine XS.aloadN X0.here hx rfl (hb hby d2_9) rfl rfl ?_
      show Steps p.tables e below (s₁.setTop (mkF m 10 #[.val (.ref a1), .val (.int (Int32.ofNat fr)), .val (.int (Int32.ofNat tn)), .val (.ref a2), .val (.int (Int32.ofNat i))] [(.ref a1)])) _
      refine XS.iload X0.here hx rfl (hb hby d2_10) rfl ?_
      show Steps p.tables e below (s₁.setTop (mkF m 12 #[.val (.ref a1), .val (.int (Int32.ofNat fr)), .val (.int (Int32.ofNat tn)), .val (.ref a2), .val (.int (Int32.ofNat i))] [(.int (Int32.ofNat i)), (.ref a1)])) _
      refine X0.baloadBytes hx (j := (Int32.ofNat i)) (v := (.int (f i))) (by rw [e0]; exact Ar.1) (State.isArrayOf_alike hZ.alike Ar.2.1) Ar.2.2 (within (c := i) rfl (by omega) (by omega)) (by rw [clamp_of (c := i) rfl (by omega)]; exact Hf _ (by omega)) (g := (mkF m 12 #[.val (.ref a1), .val (.int (Int32.ofNat fr)), .val (.int (Int32.ofNat tn)), .val (.ref a2), .val (.int (Int32.ofNat i))] [(.int (Int32.ofNat i)), (.ref a1)])) rfl rfl (hb hby d2_12) _ ?_
      show Steps p.tables e below (s₁.setTop (mkF m 13 #[.val (.ref a1), .val (.int (Int32.ofNat fr)), .val (.int (Int32.ofNat tn)), .val (.ref a2), .val (.int (Int32.ofNat i))] [(.int (f i))])) _
      refine XS.bipush X0.here hx rfl (hb hby d2_13) ?_
      have hc15 : ¬ ((f i) = (10 : Int32)) := hno i hfi (by omega)
      show Steps p.tables e below (s₁.setTop (mkF m 15 #[.val (.ref a1), .val (.int (Int32.ofNat fr)), .val (.int (Int32.ofNat tn)), .val (.ref a2), .val (.int (Int32.ofNat i))] [(.int (10 : Int32)), (.int (f i))])) _
      refine XS.icmpNo X0.here hx rfl (hb hby d2_15) rfl (feq hc15).1 ?_
      show Steps p.tables e below (s₁.setTop (mkF m 18 #[.val (.ref a1), .val (.int (Int32.ofNat fr)), .val (.int (Int32.ofNat tn)), .val (.ref a2), .val (.int (Int32.ofNat i))] [])) _
      refine XS.iinc X0.here hx rfl (hb hby d2_18) rfl (l' := #[.val (.ref a1), .val (.int (Int32.ofNat fr)), .val (.int (Int32.ofNat tn)), .val (.ref a2), .val (.int ((Int32.ofNat i) + (1 : Int32)))]) rfl ?_
      show Steps p.tables e below (s₁.setTop (mkF m 21 #[.val (.ref a1), .val (.int (Int32.ofNat fr)), .val (.int (Int32.ofNat tn)), .val (.ref a2), .val (.int ((Int32.ofNat i) + (1 : Int32)))] [])) _
      refine XS.goto X0.here hx rfl (pc0 := 21) (pc' := 3) rfl (hb hby d2_21) (by decide) (by decide) ?_
      rw [← inc_ofNat]
      exact ih (i + 1) (by omega) (by omega) t kt
  have pre2 : ∀ t, Steps p.tables e below (s₁.setTop (mkF m 24 #[.val (.ref a1), .val (.int (Int32.ofNat fr)), .val (.int (Int32.ofNat tn)), .val (.ref a2), .val (.int (Int32.ofNat (cc + 1)))] [])) t → Steps p.tables e below (s₁.setTop (entryFrame m #[(.ref a1), (.int (Int32.ofNat fr)), (.int (Int32.ofNat tn)), (.ref a2)] 5)) t := fun t kt => pre1 t (loop (cc + 1 - fr) fr (by omega) (Nat.le_refl _) t kt)
  have pre3 : ∀ t, Steps p.tables e below (s₁.setTop (mkF m 41 #[.val (.ref a1), .val (.int (Int32.ofNat fr)), .val (.int (Int32.ofNat tn)), .val (.ref a2), .val (.int (Int32.ofNat (cc + 1)))] [(.int ((Int32.ofNat (cc + 1)) - (1 : Int32))), (.ref a1)])) t → Steps p.tables e below _ t := fun t kt => pre2 t (by
    show Steps p.tables e below (s₁.setTop (mkF m 24 #[.val (.ref a1), .val (.int (Int32.ofNat fr)), .val (.int (Int32.ofNat tn)), .val (.ref a2), .val (.int (Int32.ofNat (cc + 1)))] [])) _
    refine XS.iload X0.here hx rfl (hb hby d2_24) rfl ?_
    show Steps p.tables e below (s₁.setTop (mkF m 26 #[.val (.ref a1), .val (.int (Int32.ofNat fr)), .val (.int (Int32.ofNat tn)), .val (.ref a2), .val (.int (Int32.ofNat (cc + 1)))] [(.int (Int32.ofNat (cc + 1)))])) _
    refine XS.iloadN X0.here hx rfl (hb hby d2_26) rfl ?_
    have hc27 : ¬ ((Int32.ofNat (cc + 1)) = (Int32.ofNat tn)) := own_ne (by omega) (by omega) (by omega)
    show Steps p.tables e below (s₁.setTop (mkF m 27 #[.val (.ref a1), .val (.int (Int32.ofNat fr)), .val (.int (Int32.ofNat tn)), .val (.ref a2), .val (.int (Int32.ofNat (cc + 1)))] [(.int (Int32.ofNat tn)), (.int (Int32.ofNat (cc + 1)))])) _
    refine XS.icmpNo X0.here hx rfl (hb hby d2_27) rfl (feq hc27).1 ?_
    show Steps p.tables e below (s₁.setTop (mkF m 30 #[.val (.ref a1), .val (.int (Int32.ofNat fr)), .val (.int (Int32.ofNat tn)), .val (.ref a2), .val (.int (Int32.ofNat (cc + 1)))] [])) _
    refine XS.iload X0.here hx rfl (hb hby d2_30) rfl ?_
    show Steps p.tables e below (s₁.setTop (mkF m 32 #[.val (.ref a1), .val (.int (Int32.ofNat fr)), .val (.int (Int32.ofNat tn)), .val (.ref a2), .val (.int (Int32.ofNat (cc + 1)))] [(.int (Int32.ofNat (cc + 1)))])) _
    refine XS.iloadN X0.here hx rfl (hb hby d2_32) rfl ?_
    have hc33 : ¬ ((Int32.ofNat (cc + 1)) = (Int32.ofNat fr)) := own_ne (by omega) (by omega) (by omega)
    show Steps p.tables e below (s₁.setTop (mkF m 33 #[.val (.ref a1), .val (.int (Int32.ofNat fr)), .val (.int (Int32.ofNat tn)), .val (.ref a2), .val (.int (Int32.ofNat (cc + 1)))] [(.int (Int32.ofNat fr)), (.int (Int32.ofNat (cc + 1)))])) _
    refine XS.icmpNo X0.here hx rfl (hb hby d2_33) rfl (feq hc33).1 ?_
    show Steps p.tables e below (s₁.setTop (mkF m 36 #[.val (.ref a1), .val (.int (Int32.ofNat fr)), .val (.int (Int32.ofNat tn)), .val (.ref a2), .val (.int (Int32.ofNat (cc + 1)))] [])) _
    refine XS.aloadN X0.here hx rfl (hb hby d2_36) rfl rfl ?_
    show Steps p.tables e below (s₁.setTop (mkF m 37 #[.val (.ref a1), .val (.int (Int32.ofNat fr)), .val (.int (Int32.ofNat tn)), .val (.ref a2), .val (.int (Int32.ofNat (cc + 1)))] [(.ref a1)])) _
    refine XS.iload X0.here hx rfl (hb hby d2_37) rfl ?_
    show Steps p.tables e below (s₁.setTop (mkF m 39 #[.val (.ref a1), .val (.int (Int32.ofNat fr)), .val (.int (Int32.ofNat tn)), .val (.ref a2), .val (.int (Int32.ofNat (cc + 1)))] [(.int (Int32.ofNat (cc + 1))), (.ref a1)])) _
    refine XS.iconst X0.here hx rfl (hb hby d2_39) ?_
    show Steps p.tables e below (s₁.setTop (mkF m 40 #[.val (.ref a1), .val (.int (Int32.ofNat fr)), .val (.int (Int32.ofNat tn)), .val (.ref a2), .val (.int (Int32.ofNat (cc + 1)))] [(.int (1 : Int32)), (.int (Int32.ofNat (cc + 1))), (.ref a1)])) _
    refine XS.isub X0.here hx rfl (hb hby d2_40) rfl ?_
    exact kt)
  have hv4 : ((Int32.ofNat (cc + 1)) - (1 : Int32)) = (Int32.ofNat cc) := dec_ofNat cc
  rw [hv4] at pre3
  have pre5 : ∀ t, Steps p.tables e below (s₁.setTop (mkF m 61 #[.val (.ref a1), .val (.int (Int32.ofNat fr)), .val (.int (Int32.ofNat tn)), .val (.ref a2), .val (.int (Int32.ofNat (cc + 1)))] [(.int ((Int32.ofNat (cc + 1)) - (1 : Int32)))])) t → Steps p.tables e below _ t := fun t kt => pre3 t (by
    show Steps p.tables e below (s₁.setTop (mkF m 41 #[.val (.ref a1), .val (.int (Int32.ofNat fr)), .val (.int (Int32.ofNat tn)), .val (.ref a2), .val (.int (Int32.ofNat (cc + 1)))] [(.int (Int32.ofNat cc)), (.ref a1)])) _
    refine X0.baloadBytes hx (j := (Int32.ofNat cc)) (v := (.int (f cc))) (by rw [e0]; exact Ar.1) (State.isArrayOf_alike hZ.alike Ar.2.1) Ar.2.2 (within (c := cc) rfl (by omega) (by omega)) (by rw [clamp_of (c := cc) rfl (by omega)]; exact Hf _ (by omega)) (g := (mkF m 41 #[.val (.ref a1), .val (.int (Int32.ofNat fr)), .val (.int (Int32.ofNat tn)), .val (.ref a2), .val (.int (Int32.ofNat (cc + 1)))] [(.int (Int32.ofNat cc)), (.ref a1)])) rfl rfl (hb hby d2_41) _ ?_
    show Steps p.tables e below (s₁.setTop (mkF m 42 #[.val (.ref a1), .val (.int (Int32.ofNat fr)), .val (.int (Int32.ofNat tn)), .val (.ref a2), .val (.int (Int32.ofNat (cc + 1)))] [(.int (f cc))])) _
    refine XS.bipush X0.here hx rfl (hb hby d2_42) ?_
    have hc44 : (f cc) = (13 : Int32) := hcr
    show Steps p.tables e below (s₁.setTop (mkF m 44 #[.val (.ref a1), .val (.int (Int32.ofNat fr)), .val (.int (Int32.ofNat tn)), .val (.ref a2), .val (.int (Int32.ofNat (cc + 1)))] [(.int (13 : Int32)), (.int (f cc))])) _
    refine XS.icmpYes X0.here hx rfl (pc0 := 44) (pc' := 57) rfl (hb hby d2_44) rfl (teq hc44).1 (by decide) (by decide) ?_
    show Steps p.tables e below (s₁.setTop (mkF m 57 #[.val (.ref a1), .val (.int (Int32.ofNat fr)), .val (.int (Int32.ofNat tn)), .val (.ref a2), .val (.int (Int32.ofNat (cc + 1)))] [])) _
    refine XS.iload X0.here hx rfl (hb hby d2_57) rfl ?_
    show Steps p.tables e below (s₁.setTop (mkF m 59 #[.val (.ref a1), .val (.int (Int32.ofNat fr)), .val (.int (Int32.ofNat tn)), .val (.ref a2), .val (.int (Int32.ofNat (cc + 1)))] [(.int (Int32.ofNat (cc + 1)))])) _
    refine XS.iconst X0.here hx rfl (hb hby d2_59) ?_
    show Steps p.tables e below (s₁.setTop (mkF m 60 #[.val (.ref a1), .val (.int (Int32.ofNat fr)), .val (.int (Int32.ofNat tn)), .val (.ref a2), .val (.int (Int32.ofNat (cc + 1)))] [(.int (1 : Int32)), (.int (Int32.ofNat (cc + 1)))])) _
    refine XS.isub X0.here hx rfl (hb hby d2_60) rfl ?_
    exact kt)
  have hv6 : ((Int32.ofNat (cc + 1)) - (1 : Int32)) = (Int32.ofNat cc) := dec_ofNat cc
  rw [hv6] at pre5
  obtain ⟨fs, hr, hrun, hended, hW, hsame⟩ := X0.leave (v := some (.int (Int32.ofNat cc))) (fun h => by rw [Bd.returns] at h; cases h)
  refine ⟨_, _, pre5 _ ?_, hrun, hended, _, _, rfl, ?_, ⟨_, rfl⟩, hW, hsame.mono (by decide) (by decide)⟩
  · show Steps p.tables e below (s₁.setTop (mkF m 61 #[.val (.ref a1), .val (.int (Int32.ofNat fr)), .val (.int (Int32.ofNat tn)), .val (.ref a2), .val (.int (Int32.ofNat (cc + 1)))] [(.int (Int32.ofNat cc))])) _
    exact retI X0 hx Bd.returns (hb hby d2_61) hr
  · show Q2 Z cc h0 n0 _ s₁.heap _
    rw [e0]
    exact ⟨rfl, N0, rfl⟩

theorem own_byte2 (x : Int32) : nar .byte (nar .byte x) = nar .byte x := by
  show x.toInt8.toInt32.toInt8.toInt32 = x.toInt8.toInt32
  rw [Int8.toInt8_toInt32]
theorem own_put_ne (q : Int64) (j fr cc : Nat) (h1 : fr ≤ j) (h2 : j < cc) (h3 : cc < 2 ^ 31) : ¬ (nar .byte (own_put q (Int32.ofNat j) (Int32.ofNat fr) (Int32.ofNat cc)) = (10 : Int32)) := by
  unfold own_put
  rw [if_neg (own_nlt h1 (by omega)), if_pos (own_lt h2 h3)]
  split
  · decide
  · rename_i h
    rw [own_byte2]
    exact fun e => h (by rw [← e]; exact (own_byte2 _).symm)
theorem pn_0 : plainName "com/example/firm_warden/firmwarden/HeaderFieldsLineEndPinLaw" = true := by first | (simp [plainName, overriddenIn]; done) | decide +kernel
theorem ef_0 (m : MethodId) (x0 : Int64) (x1 : Int32) : entryFrame m #[(.long x0), (.int x1)] maxLocals = mkF m 0 #[.val (.long x0), .second, .val (.int x1), .unset, .unset, .unset, .unset, .unset, .unset] [] := by first | (simp [entryFrame, mkF, argsToLocals, Value.category, maxLocals]; done) | rfl
theorem pd_0 : parseMethodDescriptor "(JIII)B" = some ⟨[.long, .int, .int, .int], some .byte⟩ := by decide +kernel
theorem pd_1 : parseMethodDescriptor "([BIILjava/lang/String;)I" = some ⟨[(.array .byte), .int, .int, (.object "java/lang/String")], some .int⟩ := by decide +kernel
def Q0 (Z : State) (q1 : Int64) (p2 : Int32) (h0 : Heap) (n0 : Nat) (v : Option Value) (h : Heap) (L : List Loc) : Prop := v = some (.int (1 : Int32)) ∧ Fr n0 L
set_option maxRecDepth 65536 in
set_option maxHeartbeats 40000000 in
theorem rm0 (l : Launch) (Z : State) (a0 : Array Value) (hw : ∀ d ∈ tables_1, d.before a0 Z = true) (ws : List Jvm.Cond) (q1 : Int64) (p2 : Int32) (h0 : Heap) (n0 : Nat) (Z0 : n0 ≤ h0.size) :
    MetFree l x (head1 (Jvm.Cond.code x code maxLocals ret :: ws) room_1) (fun aa_ U => aa_ = #[(.long q1), (.int p2)] ∧ Z.Warmed39 U.vm ∧ U.heap = h0) (fun _ _ _ _ _ => True) (fun _ U o U' => ∃ v_ L_, o = .returned v_ ∧ Q0 Z q1 p2 h0 n0 v_ U'.heap L_ ∧ ReturnedEndW U o U' L_ room_1.cells room_1.slots) := by
  refine MetFree.of_bodySF (plainFor_of_name pn_0) hisR ?_
  intro p e s m args below meth c s₁ Bd hml0 hP hK
  obtain ⟨rfl, hZ, hh⟩ := hP
  have hx := Bd.exec
  have hby := Bd.bytes
  have hml : c.maxLocals = 9 := hml0
  have hown : s.vm.findClass "com/example/firm_warden/firmwarden/HeaderFieldsLineEndPinLaw" = some m.cls := findClass_of_methodNamed Bd.named
  have hnm := (name_of_methodNamed Bd.named Bd.method).1
  have X0 : Stand p l e room_1 s m #[(.long q1), (.int p2)] below meth c s₁ [] 0 0 := Stand.of_body Bd
  have e0 : s₁.heap = h0 := by rw [← hh, Bd.state]; rfl
  have N0 := Fr.nil n0
  have pre0 : ∀ t, Steps p.tables e below (s₁.setTop (mkF m 0 #[.val (.long q1), .second, .val (.int p2), .unset, .unset, .unset, .unset, .unset, .unset] [])) t → Steps p.tables e below (s₁.setTop (entryFrame m #[(.long q1), (.int p2)] maxLocals)) t := fun t k_ => castTop (ef_0 m q1 p2) k_
  have pre1 : ∀ t, Steps p.tables e below (s₁.setTop (mkF m 4 #[.val (.long q1), .second, .val (.int p2), .val (.int (p2 &&& (3 : Int32))), .unset, .unset, .unset, .unset, .unset] [])) t → Steps p.tables e below _ t := fun t kt => pre0 t (by
    show Steps p.tables e below (s₁.setTop (mkF m 0 #[.val (.long q1), .second, .val (.int p2), .unset, .unset, .unset, .unset, .unset, .unset] [])) _
    refine XS.iloadN X0.here hx rfl (hb hby at_0) rfl ?_
    show Steps p.tables e below (s₁.setTop (mkF m 1 #[.val (.long q1), .second, .val (.int p2), .unset, .unset, .unset, .unset, .unset, .unset] [(.int p2)])) _
    refine XS.iconst X0.here hx rfl (hb hby at_1) ?_
    show Steps p.tables e below (s₁.setTop (mkF m 2 #[.val (.long q1), .second, .val (.int p2), .unset, .unset, .unset, .unset, .unset, .unset] [(.int (3 : Int32)), (.int p2)])) _
    refine XS.iand X0.here hx rfl (hb hby at_2) rfl ?_
    show Steps p.tables e below (s₁.setTop (mkF m 3 #[.val (.long q1), .second, .val (.int p2), .unset, .unset, .unset, .unset, .unset, .unset] [(.int (p2 &&& (3 : Int32)))])) _
    refine XS.istoreN X0.here hx rfl (hb hby at_3) rfl (l' := #[.val (.long q1), .second, .val (.int p2), .val (.int (p2 &&& (3 : Int32))), .unset, .unset, .unset, .unset, .unset]) rfl ?_
    exact kt)
  obtain ⟨fr, hfr, bfr⟩ := own_mask (k := 2) p2 (3 : Int32) (by decide) (by decide)
  have hv2 : (p2 &&& (3 : Int32)) = (Int32.ofNat fr) := hfr
  rw [hv2] at pre1
  have pre3 : ∀ t, Steps p.tables e below (s₁.setTop (mkF m 11 #[.val (.long q1), .second, .val (.int p2), .val (.int (Int32.ofNat fr)), .val (.int (((p2.toUInt32 >>> ((2 : Int32) &&& 31).toUInt32).toInt32) &&& (3 : Int32))), .unset, .unset, .unset, .unset] [])) t → Steps p.tables e below _ t := fun t kt => pre1 t (by
    show Steps p.tables e below (s₁.setTop (mkF m 4 #[.val (.long q1), .second, .val (.int p2), .val (.int (Int32.ofNat fr)), .unset, .unset, .unset, .unset, .unset] [])) _
    refine XS.iloadN X0.here hx rfl (hb hby at_4) rfl ?_
    show Steps p.tables e below (s₁.setTop (mkF m 5 #[.val (.long q1), .second, .val (.int p2), .val (.int (Int32.ofNat fr)), .unset, .unset, .unset, .unset, .unset] [(.int p2)])) _
    refine XS.iconst X0.here hx rfl (hb hby at_5) ?_
    show Steps p.tables e below (s₁.setTop (mkF m 6 #[.val (.long q1), .second, .val (.int p2), .val (.int (Int32.ofNat fr)), .unset, .unset, .unset, .unset, .unset] [(.int (2 : Int32)), (.int p2)])) _
    refine XS.iushr X0.here hx rfl (hb hby at_6) rfl ?_
    show Steps p.tables e below (s₁.setTop (mkF m 7 #[.val (.long q1), .second, .val (.int p2), .val (.int (Int32.ofNat fr)), .unset, .unset, .unset, .unset, .unset] [(.int ((p2.toUInt32 >>> ((2 : Int32) &&& 31).toUInt32).toInt32))])) _
    refine XS.iconst X0.here hx rfl (hb hby at_7) ?_
    show Steps p.tables e below (s₁.setTop (mkF m 8 #[.val (.long q1), .second, .val (.int p2), .val (.int (Int32.ofNat fr)), .unset, .unset, .unset, .unset, .unset] [(.int (3 : Int32)), (.int ((p2.toUInt32 >>> ((2 : Int32) &&& 31).toUInt32).toInt32))])) _
    refine XS.iand X0.here hx rfl (hb hby at_8) rfl ?_
    show Steps p.tables e below (s₁.setTop (mkF m 9 #[.val (.long q1), .second, .val (.int p2), .val (.int (Int32.ofNat fr)), .unset, .unset, .unset, .unset, .unset] [(.int (((p2.toUInt32 >>> ((2 : Int32) &&& 31).toUInt32).toInt32) &&& (3 : Int32)))])) _
    refine XS.istore X0.here hx rfl (hb hby at_9) rfl (l' := #[.val (.long q1), .second, .val (.int p2), .val (.int (Int32.ofNat fr)), .val (.int (((p2.toUInt32 >>> ((2 : Int32) &&& 31).toUInt32).toInt32) &&& (3 : Int32))), .unset, .unset, .unset, .unset]) rfl ?_
    exact kt)
  obtain ⟨le, hle, ble⟩ := own_mask (k := 2) ((p2.toUInt32 >>> ((2 : Int32) &&& 31).toUInt32).toInt32) (3 : Int32) (by decide) (by decide)
  have hv4 : (((p2.toUInt32 >>> ((2 : Int32) &&& 31).toUInt32).toInt32) &&& (3 : Int32)) = (Int32.ofNat le) := hle
  rw [hv4] at pre3
  have pre5 : ∀ t, Steps p.tables e below (s₁.setTop (mkF m 17 #[.val (.long q1), .second, .val (.int p2), .val (.int (Int32.ofNat fr)), .val (.int (Int32.ofNat le)), .val (.int ((Int32.ofNat fr) + (Int32.ofNat le))), .unset, .unset, .unset] [])) t → Steps p.tables e below _ t := fun t kt => pre3 t (by
    show Steps p.tables e below (s₁.setTop (mkF m 11 #[.val (.long q1), .second, .val (.int p2), .val (.int (Int32.ofNat fr)), .val (.int (Int32.ofNat le)), .unset, .unset, .unset, .unset] [])) _
    refine XS.iloadN X0.here hx rfl (hb hby at_11) rfl ?_
    show Steps p.tables e below (s₁.setTop (mkF m 12 #[.val (.long q1), .second, .val (.int p2), .val (.int (Int32.ofNat fr)), .val (.int (Int32.ofNat le)), .unset, .unset, .unset, .unset] [(.int (Int32.ofNat fr))])) _
    refine XS.iload X0.here hx rfl (hb hby at_12) rfl ?_
    show Steps p.tables e below (s₁.setTop (mkF m 14 #[.val (.long q1), .second, .val (.int p2), .val (.int (Int32.ofNat fr)), .val (.int (Int32.ofNat le)), .unset, .unset, .unset, .unset] [(.int (Int32.ofNat le)), (.int (Int32.ofNat fr))])) _
    refine XS.iadd X0.here hx rfl (hb hby at_14) rfl ?_
    show Steps p.tables e below (s₁.setTop (mkF m 15 #[.val (.long q1), .second, .val (.int p2), .val (.int (Int32.ofNat fr)), .val (.int (Int32.ofNat le)), .unset, .unset, .unset, .unset] [(.int ((Int32.ofNat fr) + (Int32.ofNat le)))])) _
    refine XS.istore X0.here hx rfl (hb hby at_15) rfl (l' := #[.val (.long q1), .second, .val (.int p2), .val (.int (Int32.ofNat fr)), .val (.int (Int32.ofNat le)), .val (.int ((Int32.ofNat fr) + (Int32.ofNat le))), .unset, .unset, .unset]) rfl ?_
    exact kt)
  obtain ⟨cc, hcc⟩ : ∃ z, z = fr + le := ⟨_, rfl⟩
  have hv6 : ((Int32.ofNat fr) + (Int32.ofNat le)) = (Int32.ofNat cc) := by rw [hcc]; exact own_add fr le
  rw [hv6] at pre5
  have bcc : cc ≤ 6 := by omega
  have pre7 : ∀ t, Steps p.tables e below (s₁.setTop (mkF m 28 #[.val (.long q1), .second, .val (.int p2), .val (.int (Int32.ofNat fr)), .val (.int (Int32.ofNat le)), .val (.int (Int32.ofNat cc)), .unset, .unset, .unset] [(.int ((7 : Int32) - (Int32.ofNat cc))), (.int (((p2.toUInt32 >>> ((4 : Int32) &&& 31).toUInt32).toInt32) &&& (7 : Int32)))])) t → Steps p.tables e below _ t := fun t kt => pre5 t (by
    show Steps p.tables e below (s₁.setTop (mkF m 17 #[.val (.long q1), .second, .val (.int p2), .val (.int (Int32.ofNat fr)), .val (.int (Int32.ofNat le)), .val (.int (Int32.ofNat cc)), .unset, .unset, .unset] [])) _
    refine XS.iloadN X0.here hx rfl (hb hby at_17) rfl ?_
    show Steps p.tables e below (s₁.setTop (mkF m 18 #[.val (.long q1), .second, .val (.int p2), .val (.int (Int32.ofNat fr)), .val (.int (Int32.ofNat le)), .val (.int (Int32.ofNat cc)), .unset, .unset, .unset] [(.int p2)])) _
    refine XS.iconst X0.here hx rfl (hb hby at_18) ?_
    show Steps p.tables e below (s₁.setTop (mkF m 19 #[.val (.long q1), .second, .val (.int p2), .val (.int (Int32.ofNat fr)), .val (.int (Int32.ofNat le)), .val (.int (Int32.ofNat cc)), .unset, .unset, .unset] [(.int (4 : Int32)), (.int p2)])) _
    refine XS.iushr X0.here hx rfl (hb hby at_19) rfl ?_
    show Steps p.tables e below (s₁.setTop (mkF m 20 #[.val (.long q1), .second, .val (.int p2), .val (.int (Int32.ofNat fr)), .val (.int (Int32.ofNat le)), .val (.int (Int32.ofNat cc)), .unset, .unset, .unset] [(.int ((p2.toUInt32 >>> ((4 : Int32) &&& 31).toUInt32).toInt32))])) _
    refine XS.bipush X0.here hx rfl (hb hby at_20) ?_
    show Steps p.tables e below (s₁.setTop (mkF m 22 #[.val (.long q1), .second, .val (.int p2), .val (.int (Int32.ofNat fr)), .val (.int (Int32.ofNat le)), .val (.int (Int32.ofNat cc)), .unset, .unset, .unset] [(.int (7 : Int32)), (.int ((p2.toUInt32 >>> ((4 : Int32) &&& 31).toUInt32).toInt32))])) _
    refine XS.iand X0.here hx rfl (hb hby at_22) rfl ?_
    show Steps p.tables e below (s₁.setTop (mkF m 23 #[.val (.long q1), .second, .val (.int p2), .val (.int (Int32.ofNat fr)), .val (.int (Int32.ofNat le)), .val (.int (Int32.ofNat cc)), .unset, .unset, .unset] [(.int (((p2.toUInt32 >>> ((4 : Int32) &&& 31).toUInt32).toInt32) &&& (7 : Int32)))])) _
    refine XS.bipush X0.here hx rfl (hb hby at_23) ?_
    show Steps p.tables e below (s₁.setTop (mkF m 25 #[.val (.long q1), .second, .val (.int p2), .val (.int (Int32.ofNat fr)), .val (.int (Int32.ofNat le)), .val (.int (Int32.ofNat cc)), .unset, .unset, .unset] [(.int (7 : Int32)), (.int (((p2.toUInt32 >>> ((4 : Int32) &&& 31).toUInt32).toInt32) &&& (7 : Int32)))])) _
    refine XS.iload X0.here hx rfl (hb hby at_25) rfl ?_
    show Steps p.tables e below (s₁.setTop (mkF m 27 #[.val (.long q1), .second, .val (.int p2), .val (.int (Int32.ofNat fr)), .val (.int (Int32.ofNat le)), .val (.int (Int32.ofNat cc)), .unset, .unset, .unset] [(.int (Int32.ofNat cc)), (.int (7 : Int32)), (.int (((p2.toUInt32 >>> ((4 : Int32) &&& 31).toUInt32).toInt32) &&& (7 : Int32)))])) _
    refine XS.isub X0.here hx rfl (hb hby at_27) rfl ?_
    exact kt)
  obtain ⟨xx, hxx, bxx⟩ := own_mask (k := 3) ((p2.toUInt32 >>> ((4 : Int32) &&& 31).toUInt32).toInt32) (7 : Int32) (by decide) (by decide)
  have hv8 : (((p2.toUInt32 >>> ((4 : Int32) &&& 31).toUInt32).toInt32) &&& (7 : Int32)) = (Int32.ofNat xx) := hxx
  rw [hv8] at pre7
  have hv9 : ((7 : Int32) - (Int32.ofNat cc)) = (Int32.ofNat (7 - cc)) := own_sub (a := 7) (by omega) (by decide)
  rw [hv9] at pre7
  have pre10 : ∀ t, Steps p.tables e below (s₁.setTop (mkF m 31 #[.val (.long q1), .second, .val (.int p2), .val (.int (Int32.ofNat fr)), .val (.int (Int32.ofNat le)), .val (.int (Int32.ofNat cc)), .val (.int ((Int32.ofNat xx) % (Int32.ofNat (7 - cc)))), .unset, .unset] [])) t → Steps p.tables e below _ t := fun t kt => pre7 t (by
    show Steps p.tables e below (s₁.setTop (mkF m 28 #[.val (.long q1), .second, .val (.int p2), .val (.int (Int32.ofNat fr)), .val (.int (Int32.ofNat le)), .val (.int (Int32.ofNat cc)), .unset, .unset, .unset] [(.int (Int32.ofNat (7 - cc))), (.int (Int32.ofNat xx))])) _
    refine iremM X0 hx rfl (hb hby at_28) rfl (own_ne (n := 0) (by omega) (by omega) (by omega)) ?_
    show Steps p.tables e below (s₁.setTop (mkF m 29 #[.val (.long q1), .second, .val (.int p2), .val (.int (Int32.ofNat fr)), .val (.int (Int32.ofNat le)), .val (.int (Int32.ofNat cc)), .unset, .unset, .unset] [(.int ((Int32.ofNat xx) % (Int32.ofNat (7 - cc))))])) _
    refine XS.istore X0.here hx rfl (hb hby at_29) rfl (l' := #[.val (.long q1), .second, .val (.int p2), .val (.int (Int32.ofNat fr)), .val (.int (Int32.ofNat le)), .val (.int (Int32.ofNat cc)), .val (.int ((Int32.ofNat xx) % (Int32.ofNat (7 - cc)))), .unset, .unset]) rfl ?_
    exact kt)
  obtain ⟨ex, hex⟩ : ∃ z, z = xx % (7 - cc) := ⟨_, rfl⟩
  have bex : ex < 7 - cc := by rw [hex]; exact Nat.mod_lt _ (by omega)
  have hv11 : ((Int32.ofNat xx) % (Int32.ofNat (7 - cc))) = (Int32.ofNat ex) := by rw [hex]; exact own_rem (by omega) (by omega)
  rw [hv11] at pre10
  have pre12 : ∀ t, Steps p.tables e below (s₁.setTop (mkF m 40 #[.val (.long q1), .second, .val (.int p2), .val (.int (Int32.ofNat fr)), .val (.int (Int32.ofNat le)), .val (.int (Int32.ofNat cc)), .val (.int (Int32.ofNat ex)), .val (.int (((Int32.ofNat cc) + (2 : Int32)) + (Int32.ofNat ex))), .unset] [])) t → Steps p.tables e below _ t := fun t kt => pre10 t (by
    show Steps p.tables e below (s₁.setTop (mkF m 31 #[.val (.long q1), .second, .val (.int p2), .val (.int (Int32.ofNat fr)), .val (.int (Int32.ofNat le)), .val (.int (Int32.ofNat cc)), .val (.int (Int32.ofNat ex)), .unset, .unset] [])) _
    refine XS.iload X0.here hx rfl (hb hby at_31) rfl ?_
    show Steps p.tables e below (s₁.setTop (mkF m 33 #[.val (.long q1), .second, .val (.int p2), .val (.int (Int32.ofNat fr)), .val (.int (Int32.ofNat le)), .val (.int (Int32.ofNat cc)), .val (.int (Int32.ofNat ex)), .unset, .unset] [(.int (Int32.ofNat cc))])) _
    refine XS.iconst X0.here hx rfl (hb hby at_33) ?_
    show Steps p.tables e below (s₁.setTop (mkF m 34 #[.val (.long q1), .second, .val (.int p2), .val (.int (Int32.ofNat fr)), .val (.int (Int32.ofNat le)), .val (.int (Int32.ofNat cc)), .val (.int (Int32.ofNat ex)), .unset, .unset] [(.int (2 : Int32)), (.int (Int32.ofNat cc))])) _
    refine XS.iadd X0.here hx rfl (hb hby at_34) rfl ?_
    show Steps p.tables e below (s₁.setTop (mkF m 35 #[.val (.long q1), .second, .val (.int p2), .val (.int (Int32.ofNat fr)), .val (.int (Int32.ofNat le)), .val (.int (Int32.ofNat cc)), .val (.int (Int32.ofNat ex)), .unset, .unset] [(.int ((Int32.ofNat cc) + (2 : Int32)))])) _
    refine XS.iload X0.here hx rfl (hb hby at_35) rfl ?_
    show Steps p.tables e below (s₁.setTop (mkF m 37 #[.val (.long q1), .second, .val (.int p2), .val (.int (Int32.ofNat fr)), .val (.int (Int32.ofNat le)), .val (.int (Int32.ofNat cc)), .val (.int (Int32.ofNat ex)), .unset, .unset] [(.int (Int32.ofNat ex)), (.int ((Int32.ofNat cc) + (2 : Int32)))])) _
    refine XS.iadd X0.here hx rfl (hb hby at_37) rfl ?_
    show Steps p.tables e below (s₁.setTop (mkF m 38 #[.val (.long q1), .second, .val (.int p2), .val (.int (Int32.ofNat fr)), .val (.int (Int32.ofNat le)), .val (.int (Int32.ofNat cc)), .val (.int (Int32.ofNat ex)), .unset, .unset] [(.int (((Int32.ofNat cc) + (2 : Int32)) + (Int32.ofNat ex)))])) _
    refine XS.istore X0.here hx rfl (hb hby at_38) rfl (l' := #[.val (.long q1), .second, .val (.int p2), .val (.int (Int32.ofNat fr)), .val (.int (Int32.ofNat le)), .val (.int (Int32.ofNat cc)), .val (.int (Int32.ofNat ex)), .val (.int (((Int32.ofNat cc) + (2 : Int32)) + (Int32.ofNat ex))), .unset]) rfl ?_
    exact kt)
  obtain ⟨tn, htn⟩ : ∃ z, z = cc + 2 + ex := ⟨_, rfl⟩
  have hv13 : (((Int32.ofNat cc) + (2 : Int32)) + (Int32.ofNat ex)) = (Int32.ofNat tn) := by rw [htn, ← own_add, ← own_add]; rfl
  rw [hv13] at pre12
  have pre14 : ∀ t, Steps p.tables e below (s₁.setTop (mkF m 42 #[.val (.long q1), .second, .val (.int p2), .val (.int (Int32.ofNat fr)), .val (.int (Int32.ofNat le)), .val (.int (Int32.ofNat cc)), .val (.int (Int32.ofNat ex)), .val (.int (Int32.ofNat tn)), .unset] [(.int (8 : Int32))])) t → Steps p.tables e below _ t := fun t kt => pre12 t (by
    show Steps p.tables e below (s₁.setTop (mkF m 40 #[.val (.long q1), .second, .val (.int p2), .val (.int (Int32.ofNat fr)), .val (.int (Int32.ofNat le)), .val (.int (Int32.ofNat cc)), .val (.int (Int32.ofNat ex)), .val (.int (Int32.ofNat tn)), .unset] [])) _
    refine XS.bipush X0.here hx rfl (hb hby at_40) ?_
    exact kt)
  obtain ⟨T15, h15, k15, X15, e15, E15, A15, st15⟩ := newP X0 hx hZ (hw _ (List.mem_of_getElem? (i := 0) rfl)) e0 (g := (mkF m 42 #[.val (.long q1), .second, .val (.int p2), .val (.int (Int32.ofNat fr)), .val (.int (Int32.ofNat le)), .val (.int (Int32.ofNat cc)), .val (.int (Int32.ofNat ex)), .val (.int (Int32.ofNat tn)), .unset] [(.int (8 : Int32))])) rfl (hb hby at_42) rfl (by decide) (cap := 8) (by decide) (by decide) (by decide) (by decide)
  obtain ⟨b15, gb15⟩ : ∃ z, z = h0.size := ⟨_, rfl⟩
  rw [← gb15] at A15 st15
  have g_b15 : n0 ≤ b15 := Nat.le_trans Z0 (Nat.le_of_eq gb15.symm)
  have Zs15 : n0 ≤ h15.size := Nat.le_trans Z0 E15.1
  have sz_b15 : h0.size ≤ b15 := Nat.le_trans (Keep.refl h0 []).1 (Nat.le_of_eq gb15.symm)
  have Kp15 : Keep h0 h15 [] := (Keep.refl h0 []).ext E15
  have F0 : own_A Z h15 b15 .byte 8 (fun _ => 0) := own_A_new A15 rfl rfl
  have pre16 : ∀ t, Steps p.tables e below (T15.setTop (mkF m 54 #[.val (.long q1), .second, .val (.int p2), .val (.int (Int32.ofNat fr)), .val (.int (Int32.ofNat le)), .val (.int (Int32.ofNat cc)), .val (.int (Int32.ofNat ex)), .val (.int (Int32.ofNat tn)), .val (.ref b15)] [(.int (Int32.ofNat cc)), (.int (Int32.ofNat fr)), (.int (0 : Int32)), (.long q1), (.int (0 : Int32)), (.ref b15)])) t → Steps p.tables e below _ t := fun t kt => pre14 t (by
    show Steps p.tables e below (s₁.setTop (mkF m 42 #[.val (.long q1), .second, .val (.int p2), .val (.int (Int32.ofNat fr)), .val (.int (Int32.ofNat le)), .val (.int (Int32.ofNat cc)), .val (.int (Int32.ofNat ex)), .val (.int (Int32.ofNat tn)), .unset] [(.int (8 : Int32))])) _
    refine st15 _ ?_
    show Steps p.tables e below (T15.setTop (mkF m 44 #[.val (.long q1), .second, .val (.int p2), .val (.int (Int32.ofNat fr)), .val (.int (Int32.ofNat le)), .val (.int (Int32.ofNat cc)), .val (.int (Int32.ofNat ex)), .val (.int (Int32.ofNat tn)), .unset] [(.ref b15)])) _
    refine XS.astore X15.here hx rfl (hb hby at_44) rfl rfl (l' := #[.val (.long q1), .second, .val (.int p2), .val (.int (Int32.ofNat fr)), .val (.int (Int32.ofNat le)), .val (.int (Int32.ofNat cc)), .val (.int (Int32.ofNat ex)), .val (.int (Int32.ofNat tn)), .val (.ref b15)]) rfl ?_
    show Steps p.tables e below (T15.setTop (mkF m 46 #[.val (.long q1), .second, .val (.int p2), .val (.int (Int32.ofNat fr)), .val (.int (Int32.ofNat le)), .val (.int (Int32.ofNat cc)), .val (.int (Int32.ofNat ex)), .val (.int (Int32.ofNat tn)), .val (.ref b15)] [])) _
    refine XS.aload X15.here hx rfl (hb hby at_46) rfl rfl ?_
    show Steps p.tables e below (T15.setTop (mkF m 48 #[.val (.long q1), .second, .val (.int p2), .val (.int (Int32.ofNat fr)), .val (.int (Int32.ofNat le)), .val (.int (Int32.ofNat cc)), .val (.int (Int32.ofNat ex)), .val (.int (Int32.ofNat tn)), .val (.ref b15)] [(.ref b15)])) _
    refine XS.iconst X15.here hx rfl (hb hby at_48) ?_
    show Steps p.tables e below (T15.setTop (mkF m 49 #[.val (.long q1), .second, .val (.int p2), .val (.int (Int32.ofNat fr)), .val (.int (Int32.ofNat le)), .val (.int (Int32.ofNat cc)), .val (.int (Int32.ofNat ex)), .val (.int (Int32.ofNat tn)), .val (.ref b15)] [(.int (0 : Int32)), (.ref b15)])) _
    refine XS.lloadN X15.here hx rfl (hb hby at_49) rfl ?_
    show Steps p.tables e below (T15.setTop (mkF m 50 #[.val (.long q1), .second, .val (.int p2), .val (.int (Int32.ofNat fr)), .val (.int (Int32.ofNat le)), .val (.int (Int32.ofNat cc)), .val (.int (Int32.ofNat ex)), .val (.int (Int32.ofNat tn)), .val (.ref b15)] [(.long q1), (.int (0 : Int32)), (.ref b15)])) _
    refine XS.iconst X15.here hx rfl (hb hby at_50) ?_
    show Steps p.tables e below (T15.setTop (mkF m 51 #[.val (.long q1), .second, .val (.int p2), .val (.int (Int32.ofNat fr)), .val (.int (Int32.ofNat le)), .val (.int (Int32.ofNat cc)), .val (.int (Int32.ofNat ex)), .val (.int (Int32.ofNat tn)), .val (.ref b15)] [(.int (0 : Int32)), (.long q1), (.int (0 : Int32)), (.ref b15)])) _
    refine XS.iloadN X15.here hx rfl (hb hby at_51) rfl ?_
    show Steps p.tables e below (T15.setTop (mkF m 52 #[.val (.long q1), .second, .val (.int p2), .val (.int (Int32.ofNat fr)), .val (.int (Int32.ofNat le)), .val (.int (Int32.ofNat cc)), .val (.int (Int32.ofNat ex)), .val (.int (Int32.ofNat tn)), .val (.ref b15)] [(.int (Int32.ofNat fr)), (.int (0 : Int32)), (.long q1), (.int (0 : Int32)), (.ref b15)])) _
    refine XS.iload X15.here hx rfl (hb hby at_52) rfl ?_
    exact kt)
  obtain ⟨_, _, ⟨T17, L17, k17, n17⟩, -, X17, ⟨Lc17, hQ17, l17, y17, z17⟩, st17⟩ := Jvm.LawKit.callS X15 hx (y := (⟨"com/example/firm_warden/firmwarden/HeaderFieldsLineEndPinLaw", "put", "(JIII)B"⟩ : MethodName)) hown (mvT hZ (hw _ (List.mem_of_getElem? (i := 1) rfl))) (mvT hZ (hw _ (List.mem_of_getElem? (i := 2) rfl))) (mvT hZ (hw _ (List.mem_of_getElem? (i := 3) rfl))) (mvT hZ (hw _ (List.mem_of_getElem? (i := 4) rfl))) (by decide) (backOf (W := 2) (rm1 l Z a0 hw [] q1 (0 : Int32) (Int32.ofNat fr) (Int32.ofNat cc) h15 n0 Zs15) hZ (hw _ (List.mem_of_getElem? (i := 4) rfl)) (hw _ (List.mem_of_getElem? (i := 3) rfl)) (by decide) (by decide)) (g := (mkF m 54 #[.val (.long q1), .second, .val (.int p2), .val (.int (Int32.ofNat fr)), .val (.int (Int32.ofNat le)), .val (.int (Int32.ofNat cc)), .val (.int (Int32.ofNat ex)), .val (.int (Int32.ofNat tn)), .val (.ref b15)] [(.int (Int32.ofNat cc)), (.int (Int32.ofNat fr)), (.int (0 : Int32)), (.long q1), (.int (0 : Int32)), (.ref b15)])) rfl (by rw [hml]; rfl) (argsL := [(.long q1), (.int (0 : Int32)), (.int (Int32.ofNat fr)), (.int (Int32.ofNat cc))]) (rest := [(.int (0 : Int32)), (.ref b15)]) (lenOf pd_0 rfl) rfl (by show 2 * 0 + _ ≤ _; exact Nat.le_of_eq rfl) (hb hby at_54) (fun _ _ => ⟨rfl, e15, (by decide : 1 + 0 ≤ _), (by decide : 8 + 0 ≤ _)⟩)
  dsimp only [Pt.U, Pt.locs, Pt.cells, Pt.slots] at X17 l17 y17 z17 st17 hQ17
  subst l17 y17 z17
  obtain ⟨rfl, N17q, e17⟩ := hQ17
  have N17 := Fr.app N0 N17q
  have pre18 : ∀ t, Steps p.tables e below (T17.setTop (mkF m 57 #[.val (.long q1), .second, .val (.int p2), .val (.int (Int32.ofNat fr)), .val (.int (Int32.ofNat le)), .val (.int (Int32.ofNat cc)), .val (.int (Int32.ofNat ex)), .val (.int (Int32.ofNat tn)), .val (.ref b15)] [(.int (own_put q1 (0 : Int32) (Int32.ofNat fr) (Int32.ofNat cc))), (.int (0 : Int32)), (.ref b15)])) t → Steps p.tables e below _ t := fun t kt => pre16 t (by
    show Steps p.tables e below (T15.setTop (mkF m 54 #[.val (.long q1), .second, .val (.int p2), .val (.int (Int32.ofNat fr)), .val (.int (Int32.ofNat le)), .val (.int (Int32.ofNat cc)), .val (.int (Int32.ofNat ex)), .val (.int (Int32.ofNat tn)), .val (.ref b15)] [(.int (Int32.ofNat cc)), (.int (Int32.ofNat fr)), (.int (0 : Int32)), (.long q1), (.int (0 : Int32)), (.ref b15)])) _
    refine st17 _ ?_
    exact kt)
  obtain ⟨cl0, Ar0, Sz0, Hf0⟩ := id F0
  obtain ⟨T19, h19, X19, e19, W19, st19⟩ := stB X17 hx hZ e17 Ar0 (j := (0 : Int32)) (within (c := 0) rfl (by omega) (by omega)) (g := (mkF m 57 #[.val (.long q1), .second, .val (.int p2), .val (.int (Int32.ofNat fr)), .val (.int (Int32.ofNat le)), .val (.int (Int32.ofNat cc)), .val (.int (Int32.ofNat ex)), .val (.int (Int32.ofNat tn)), .val (.ref b15)] [(.int (own_put q1 (0 : Int32) (Int32.ofNat fr) (Int32.ofNat cc))), (.int (0 : Int32)), (.ref b15)])) rfl rfl (hb hby at_57)
  have N19 := Fr.snoc X19 N17 g_b15
  have Zs19 : n0 ≤ h19.size := Nat.le_trans Zs15 (Nat.le_of_eq W19.size.symm)
  have Kp19 : Keep h0 h19 [] := Kp15.wr W19 (Or.inr sz_b15)
  have F1 : own_A Z h19 b15 .byte 8 (upd (fun _ => 0) 0 (nar .byte (own_put q1 (0 : Int32) (Int32.ofNat fr) (Int32.ofNat cc)))) := own_A_set F0 W19
  have pre20 : ∀ t, Steps p.tables e below (T19.setTop (mkF m 66 #[.val (.long q1), .second, .val (.int p2), .val (.int (Int32.ofNat fr)), .val (.int (Int32.ofNat le)), .val (.int (Int32.ofNat cc)), .val (.int (Int32.ofNat ex)), .val (.int (Int32.ofNat tn)), .val (.ref b15)] [(.int (Int32.ofNat cc)), (.int (Int32.ofNat fr)), (.int (1 : Int32)), (.long q1), (.int (1 : Int32)), (.ref b15)])) t → Steps p.tables e below _ t := fun t kt => pre18 t (by
    show Steps p.tables e below (T17.setTop (mkF m 57 #[.val (.long q1), .second, .val (.int p2), .val (.int (Int32.ofNat fr)), .val (.int (Int32.ofNat le)), .val (.int (Int32.ofNat cc)), .val (.int (Int32.ofNat ex)), .val (.int (Int32.ofNat tn)), .val (.ref b15)] [(.int (own_put q1 (0 : Int32) (Int32.ofNat fr) (Int32.ofNat cc))), (.int (0 : Int32)), (.ref b15)])) _
    refine st19 _ ?_
    show Steps p.tables e below (T19.setTop (mkF m 58 #[.val (.long q1), .second, .val (.int p2), .val (.int (Int32.ofNat fr)), .val (.int (Int32.ofNat le)), .val (.int (Int32.ofNat cc)), .val (.int (Int32.ofNat ex)), .val (.int (Int32.ofNat tn)), .val (.ref b15)] [])) _
    refine XS.aload X19.here hx rfl (hb hby at_58) rfl rfl ?_
    show Steps p.tables e below (T19.setTop (mkF m 60 #[.val (.long q1), .second, .val (.int p2), .val (.int (Int32.ofNat fr)), .val (.int (Int32.ofNat le)), .val (.int (Int32.ofNat cc)), .val (.int (Int32.ofNat ex)), .val (.int (Int32.ofNat tn)), .val (.ref b15)] [(.ref b15)])) _
    refine XS.iconst X19.here hx rfl (hb hby at_60) ?_
    show Steps p.tables e below (T19.setTop (mkF m 61 #[.val (.long q1), .second, .val (.int p2), .val (.int (Int32.ofNat fr)), .val (.int (Int32.ofNat le)), .val (.int (Int32.ofNat cc)), .val (.int (Int32.ofNat ex)), .val (.int (Int32.ofNat tn)), .val (.ref b15)] [(.int (1 : Int32)), (.ref b15)])) _
    refine XS.lloadN X19.here hx rfl (hb hby at_61) rfl ?_
    show Steps p.tables e below (T19.setTop (mkF m 62 #[.val (.long q1), .second, .val (.int p2), .val (.int (Int32.ofNat fr)), .val (.int (Int32.ofNat le)), .val (.int (Int32.ofNat cc)), .val (.int (Int32.ofNat ex)), .val (.int (Int32.ofNat tn)), .val (.ref b15)] [(.long q1), (.int (1 : Int32)), (.ref b15)])) _
    refine XS.iconst X19.here hx rfl (hb hby at_62) ?_
    show Steps p.tables e below (T19.setTop (mkF m 63 #[.val (.long q1), .second, .val (.int p2), .val (.int (Int32.ofNat fr)), .val (.int (Int32.ofNat le)), .val (.int (Int32.ofNat cc)), .val (.int (Int32.ofNat ex)), .val (.int (Int32.ofNat tn)), .val (.ref b15)] [(.int (1 : Int32)), (.long q1), (.int (1 : Int32)), (.ref b15)])) _
    refine XS.iloadN X19.here hx rfl (hb hby at_63) rfl ?_
    show Steps p.tables e below (T19.setTop (mkF m 64 #[.val (.long q1), .second, .val (.int p2), .val (.int (Int32.ofNat fr)), .val (.int (Int32.ofNat le)), .val (.int (Int32.ofNat cc)), .val (.int (Int32.ofNat ex)), .val (.int (Int32.ofNat tn)), .val (.ref b15)] [(.int (Int32.ofNat fr)), (.int (1 : Int32)), (.long q1), (.int (1 : Int32)), (.ref b15)])) _
    refine XS.iload X19.here hx rfl (hb hby at_64) rfl ?_
    exact kt)
  obtain ⟨_, _, ⟨T21, L21, k21, n21⟩, -, X21, ⟨Lc21, hQ21, l21, y21, z21⟩, st21⟩ := Jvm.LawKit.callS X19 hx (y := (⟨"com/example/firm_warden/firmwarden/HeaderFieldsLineEndPinLaw", "put", "(JIII)B"⟩ : MethodName)) hown (mvT hZ (hw _ (List.mem_of_getElem? (i := 1) rfl))) (mvT hZ (hw _ (List.mem_of_getElem? (i := 2) rfl))) (mvT hZ (hw _ (List.mem_of_getElem? (i := 3) rfl))) (mvT hZ (hw _ (List.mem_of_getElem? (i := 4) rfl))) (by decide) (backOf (W := 2) (rm1 l Z a0 hw [] q1 (1 : Int32) (Int32.ofNat fr) (Int32.ofNat cc) h19 n0 Zs19) hZ (hw _ (List.mem_of_getElem? (i := 4) rfl)) (hw _ (List.mem_of_getElem? (i := 3) rfl)) (by decide) (by decide)) (g := (mkF m 66 #[.val (.long q1), .second, .val (.int p2), .val (.int (Int32.ofNat fr)), .val (.int (Int32.ofNat le)), .val (.int (Int32.ofNat cc)), .val (.int (Int32.ofNat ex)), .val (.int (Int32.ofNat tn)), .val (.ref b15)] [(.int (Int32.ofNat cc)), (.int (Int32.ofNat fr)), (.int (1 : Int32)), (.long q1), (.int (1 : Int32)), (.ref b15)])) rfl (by rw [hml]; rfl) (argsL := [(.long q1), (.int (1 : Int32)), (.int (Int32.ofNat fr)), (.int (Int32.ofNat cc))]) (rest := [(.int (1 : Int32)), (.ref b15)]) (lenOf pd_0 rfl) rfl (by show 2 * 0 + _ ≤ _; exact Nat.le_of_eq rfl) (hb hby at_66) (fun _ _ => ⟨rfl, e19, (by decide : 1 + 0 ≤ _), (by decide : 8 + 0 ≤ _)⟩)
  dsimp only [Pt.U, Pt.locs, Pt.cells, Pt.slots] at X21 l21 y21 z21 st21 hQ21
  subst l21 y21 z21
  obtain ⟨rfl, N21q, e21⟩ := hQ21
  have N21 := Fr.app N19 N21q
  have pre22 : ∀ t, Steps p.tables e below (T21.setTop (mkF m 69 #[.val (.long q1), .second, .val (.int p2), .val (.int (Int32.ofNat fr)), .val (.int (Int32.ofNat le)), .val (.int (Int32.ofNat cc)), .val (.int (Int32.ofNat ex)), .val (.int (Int32.ofNat tn)), .val (.ref b15)] [(.int (own_put q1 (1 : Int32) (Int32.ofNat fr) (Int32.ofNat cc))), (.int (1 : Int32)), (.ref b15)])) t → Steps p.tables e below _ t := fun t kt => pre20 t (by
    show Steps p.tables e below (T19.setTop (mkF m 66 #[.val (.long q1), .second, .val (.int p2), .val (.int (Int32.ofNat fr)), .val (.int (Int32.ofNat le)), .val (.int (Int32.ofNat cc)), .val (.int (Int32.ofNat ex)), .val (.int (Int32.ofNat tn)), .val (.ref b15)] [(.int (Int32.ofNat cc)), (.int (Int32.ofNat fr)), (.int (1 : Int32)), (.long q1), (.int (1 : Int32)), (.ref b15)])) _
    refine st21 _ ?_
    exact kt)
  obtain ⟨cl1, Ar1, Sz1, Hf1⟩ := id F1
  obtain ⟨T23, h23, X23, e23, W23, st23⟩ := stB X21 hx hZ e21 Ar1 (j := (1 : Int32)) (within (c := 1) rfl (by omega) (by omega)) (g := (mkF m 69 #[.val (.long q1), .second, .val (.int p2), .val (.int (Int32.ofNat fr)), .val (.int (Int32.ofNat le)), .val (.int (Int32.ofNat cc)), .val (.int (Int32.ofNat ex)), .val (.int (Int32.ofNat tn)), .val (.ref b15)] [(.int (own_put q1 (1 : Int32) (Int32.ofNat fr) (Int32.ofNat cc))), (.int (1 : Int32)), (.ref b15)])) rfl rfl (hb hby at_69)
  have N23 := Fr.snoc X23 N21 g_b15
  have Zs23 : n0 ≤ h23.size := Nat.le_trans Zs19 (Nat.le_of_eq W23.size.symm)
  have Kp23 : Keep h0 h23 [] := Kp19.wr W23 (Or.inr sz_b15)
  have F2 : own_A Z h23 b15 .byte 8 (upd (upd (fun _ => 0) 0 (nar .byte (own_put q1 (0 : Int32) (Int32.ofNat fr) (Int32.ofNat cc)))) 1 (nar .byte (own_put q1 (1 : Int32) (Int32.ofNat fr) (Int32.ofNat cc)))) := own_A_set F1 W23
  have pre24 : ∀ t, Steps p.tables e below (T23.setTop (mkF m 78 #[.val (.long q1), .second, .val (.int p2), .val (.int (Int32.ofNat fr)), .val (.int (Int32.ofNat le)), .val (.int (Int32.ofNat cc)), .val (.int (Int32.ofNat ex)), .val (.int (Int32.ofNat tn)), .val (.ref b15)] [(.int (Int32.ofNat cc)), (.int (Int32.ofNat fr)), (.int (2 : Int32)), (.long q1), (.int (2 : Int32)), (.ref b15)])) t → Steps p.tables e below _ t := fun t kt => pre22 t (by
    show Steps p.tables e below (T21.setTop (mkF m 69 #[.val (.long q1), .second, .val (.int p2), .val (.int (Int32.ofNat fr)), .val (.int (Int32.ofNat le)), .val (.int (Int32.ofNat cc)), .val (.int (Int32.ofNat ex)), .val (.int (Int32.ofNat tn)), .val (.ref b15)] [(.int (own_put q1 (1 : Int32) (Int32.ofNat fr) (Int32.ofNat cc))), (.int (1 : Int32)), (.ref b15)])) _
    refine st23 _ ?_
    show Steps p.tables e below (T23.setTop (mkF m 70 #[.val (.long q1), .second, .val (.int p2), .val (.int (Int32.ofNat fr)), .val (.int (Int32.ofNat le)), .val (.int (Int32.ofNat cc)), .val (.int (Int32.ofNat ex)), .val (.int (Int32.ofNat tn)), .val (.ref b15)] [])) _
    refine XS.aload X23.here hx rfl (hb hby at_70) rfl rfl ?_
    show Steps p.tables e below (T23.setTop (mkF m 72 #[.val (.long q1), .second, .val (.int p2), .val (.int (Int32.ofNat fr)), .val (.int (Int32.ofNat le)), .val (.int (Int32.ofNat cc)), .val (.int (Int32.ofNat ex)), .val (.int (Int32.ofNat tn)), .val (.ref b15)] [(.ref b15)])) _
    refine XS.iconst X23.here hx rfl (hb hby at_72) ?_
    show Steps p.tables e below (T23.setTop (mkF m 73 #[.val (.long q1), .second, .val (.int p2), .val (.int (Int32.ofNat fr)), .val (.int (Int32.ofNat le)), .val (.int (Int32.ofNat cc)), .val (.int (Int32.ofNat ex)), .val (.int (Int32.ofNat tn)), .val (.ref b15)] [(.int (2 : Int32)), (.ref b15)])) _
    refine XS.lloadN X23.here hx rfl (hb hby at_73) rfl ?_
    show Steps p.tables e below (T23.setTop (mkF m 74 #[.val (.long q1), .second, .val (.int p2), .val (.int (Int32.ofNat fr)), .val (.int (Int32.ofNat le)), .val (.int (Int32.ofNat cc)), .val (.int (Int32.ofNat ex)), .val (.int (Int32.ofNat tn)), .val (.ref b15)] [(.long q1), (.int (2 : Int32)), (.ref b15)])) _
    refine XS.iconst X23.here hx rfl (hb hby at_74) ?_
    show Steps p.tables e below (T23.setTop (mkF m 75 #[.val (.long q1), .second, .val (.int p2), .val (.int (Int32.ofNat fr)), .val (.int (Int32.ofNat le)), .val (.int (Int32.ofNat cc)), .val (.int (Int32.ofNat ex)), .val (.int (Int32.ofNat tn)), .val (.ref b15)] [(.int (2 : Int32)), (.long q1), (.int (2 : Int32)), (.ref b15)])) _
    refine XS.iloadN X23.here hx rfl (hb hby at_75) rfl ?_
    show Steps p.tables e below (T23.setTop (mkF m 76 #[.val (.long q1), .second, .val (.int p2), .val (.int (Int32.ofNat fr)), .val (.int (Int32.ofNat le)), .val (.int (Int32.ofNat cc)), .val (.int (Int32.ofNat ex)), .val (.int (Int32.ofNat tn)), .val (.ref b15)] [(.int (Int32.ofNat fr)), (.int (2 : Int32)), (.long q1), (.int (2 : Int32)), (.ref b15)])) _
    refine XS.iload X23.here hx rfl (hb hby at_76) rfl ?_
    exact kt)
  obtain ⟨_, _, ⟨T25, L25, k25, n25⟩, -, X25, ⟨Lc25, hQ25, l25, y25, z25⟩, st25⟩ := Jvm.LawKit.callS X23 hx (y := (⟨"com/example/firm_warden/firmwarden/HeaderFieldsLineEndPinLaw", "put", "(JIII)B"⟩ : MethodName)) hown (mvT hZ (hw _ (List.mem_of_getElem? (i := 1) rfl))) (mvT hZ (hw _ (List.mem_of_getElem? (i := 2) rfl))) (mvT hZ (hw _ (List.mem_of_getElem? (i := 3) rfl))) (mvT hZ (hw _ (List.mem_of_getElem? (i := 4) rfl))) (by decide) (backOf (W := 2) (rm1 l Z a0 hw [] q1 (2 : Int32) (Int32.ofNat fr) (Int32.ofNat cc) h23 n0 Zs23) hZ (hw _ (List.mem_of_getElem? (i := 4) rfl)) (hw _ (List.mem_of_getElem? (i := 3) rfl)) (by decide) (by decide)) (g := (mkF m 78 #[.val (.long q1), .second, .val (.int p2), .val (.int (Int32.ofNat fr)), .val (.int (Int32.ofNat le)), .val (.int (Int32.ofNat cc)), .val (.int (Int32.ofNat ex)), .val (.int (Int32.ofNat tn)), .val (.ref b15)] [(.int (Int32.ofNat cc)), (.int (Int32.ofNat fr)), (.int (2 : Int32)), (.long q1), (.int (2 : Int32)), (.ref b15)])) rfl (by rw [hml]; rfl) (argsL := [(.long q1), (.int (2 : Int32)), (.int (Int32.ofNat fr)), (.int (Int32.ofNat cc))]) (rest := [(.int (2 : Int32)), (.ref b15)]) (lenOf pd_0 rfl) rfl (by show 2 * 0 + _ ≤ _; exact Nat.le_of_eq rfl) (hb hby at_78) (fun _ _ => ⟨rfl, e23, (by decide : 1 + 0 ≤ _), (by decide : 8 + 0 ≤ _)⟩)
  dsimp only [Pt.U, Pt.locs, Pt.cells, Pt.slots] at X25 l25 y25 z25 st25 hQ25
  subst l25 y25 z25
  obtain ⟨rfl, N25q, e25⟩ := hQ25
  have N25 := Fr.app N23 N25q
  have pre26 : ∀ t, Steps p.tables e below (T25.setTop (mkF m 81 #[.val (.long q1), .second, .val (.int p2), .val (.int (Int32.ofNat fr)), .val (.int (Int32.ofNat le)), .val (.int (Int32.ofNat cc)), .val (.int (Int32.ofNat ex)), .val (.int (Int32.ofNat tn)), .val (.ref b15)] [(.int (own_put q1 (2 : Int32) (Int32.ofNat fr) (Int32.ofNat cc))), (.int (2 : Int32)), (.ref b15)])) t → Steps p.tables e below _ t := fun t kt => pre24 t (by
    show Steps p.tables e below (T23.setTop (mkF m 78 #[.val (.long q1), .second, .val (.int p2), .val (.int (Int32.ofNat fr)), .val (.int (Int32.ofNat le)), .val (.int (Int32.ofNat cc)), .val (.int (Int32.ofNat ex)), .val (.int (Int32.ofNat tn)), .val (.ref b15)] [(.int (Int32.ofNat cc)), (.int (Int32.ofNat fr)), (.int (2 : Int32)), (.long q1), (.int (2 : Int32)), (.ref b15)])) _
    refine st25 _ ?_
    exact kt)
  obtain ⟨cl2, Ar2, Sz2, Hf2⟩ := id F2
  obtain ⟨T27, h27, X27, e27, W27, st27⟩ := stB X25 hx hZ e25 Ar2 (j := (2 : Int32)) (within (c := 2) rfl (by omega) (by omega)) (g := (mkF m 81 #[.val (.long q1), .second, .val (.int p2), .val (.int (Int32.ofNat fr)), .val (.int (Int32.ofNat le)), .val (.int (Int32.ofNat cc)), .val (.int (Int32.ofNat ex)), .val (.int (Int32.ofNat tn)), .val (.ref b15)] [(.int (own_put q1 (2 : Int32) (Int32.ofNat fr) (Int32.ofNat cc))), (.int (2 : Int32)), (.ref b15)])) rfl rfl (hb hby at_81)
  have N27 := Fr.snoc X27 N25 g_b15
  have Zs27 : n0 ≤ h27.size := Nat.le_trans Zs23 (Nat.le_of_eq W27.size.symm)
  have Kp27 : Keep h0 h27 [] := Kp23.wr W27 (Or.inr sz_b15)
  have F3 : own_A Z h27 b15 .byte 8 (upd (upd (upd (fun _ => 0) 0 (nar .byte (own_put q1 (0 : Int32) (Int32.ofNat fr) (Int32.ofNat cc)))) 1 (nar .byte (own_put q1 (1 : Int32) (Int32.ofNat fr) (Int32.ofNat cc)))) 2 (nar .byte (own_put q1 (2 : Int32) (Int32.ofNat fr) (Int32.ofNat cc)))) := own_A_set F2 W27
  have pre28 : ∀ t, Steps p.tables e below (T27.setTop (mkF m 90 #[.val (.long q1), .second, .val (.int p2), .val (.int (Int32.ofNat fr)), .val (.int (Int32.ofNat le)), .val (.int (Int32.ofNat cc)), .val (.int (Int32.ofNat ex)), .val (.int (Int32.ofNat tn)), .val (.ref b15)] [(.int (Int32.ofNat cc)), (.int (Int32.ofNat fr)), (.int (3 : Int32)), (.long q1), (.int (3 : Int32)), (.ref b15)])) t → Steps p.tables e below _ t := fun t kt => pre26 t (by
    show Steps p.tables e below (T25.setTop (mkF m 81 #[.val (.long q1), .second, .val (.int p2), .val (.int (Int32.ofNat fr)), .val (.int (Int32.ofNat le)), .val (.int (Int32.ofNat cc)), .val (.int (Int32.ofNat ex)), .val (.int (Int32.ofNat tn)), .val (.ref b15)] [(.int (own_put q1 (2 : Int32) (Int32.ofNat fr) (Int32.ofNat cc))), (.int (2 : Int32)), (.ref b15)])) _
    refine st27 _ ?_
    show Steps p.tables e below (T27.setTop (mkF m 82 #[.val (.long q1), .second, .val (.int p2), .val (.int (Int32.ofNat fr)), .val (.int (Int32.ofNat le)), .val (.int (Int32.ofNat cc)), .val (.int (Int32.ofNat ex)), .val (.int (Int32.ofNat tn)), .val (.ref b15)] [])) _
    refine XS.aload X27.here hx rfl (hb hby at_82) rfl rfl ?_
    show Steps p.tables e below (T27.setTop (mkF m 84 #[.val (.long q1), .second, .val (.int p2), .val (.int (Int32.ofNat fr)), .val (.int (Int32.ofNat le)), .val (.int (Int32.ofNat cc)), .val (.int (Int32.ofNat ex)), .val (.int (Int32.ofNat tn)), .val (.ref b15)] [(.ref b15)])) _
    refine XS.iconst X27.here hx rfl (hb hby at_84) ?_
    show Steps p.tables e below (T27.setTop (mkF m 85 #[.val (.long q1), .second, .val (.int p2), .val (.int (Int32.ofNat fr)), .val (.int (Int32.ofNat le)), .val (.int (Int32.ofNat cc)), .val (.int (Int32.ofNat ex)), .val (.int (Int32.ofNat tn)), .val (.ref b15)] [(.int (3 : Int32)), (.ref b15)])) _
    refine XS.lloadN X27.here hx rfl (hb hby at_85) rfl ?_
    show Steps p.tables e below (T27.setTop (mkF m 86 #[.val (.long q1), .second, .val (.int p2), .val (.int (Int32.ofNat fr)), .val (.int (Int32.ofNat le)), .val (.int (Int32.ofNat cc)), .val (.int (Int32.ofNat ex)), .val (.int (Int32.ofNat tn)), .val (.ref b15)] [(.long q1), (.int (3 : Int32)), (.ref b15)])) _
    refine XS.iconst X27.here hx rfl (hb hby at_86) ?_
    show Steps p.tables e below (T27.setTop (mkF m 87 #[.val (.long q1), .second, .val (.int p2), .val (.int (Int32.ofNat fr)), .val (.int (Int32.ofNat le)), .val (.int (Int32.ofNat cc)), .val (.int (Int32.ofNat ex)), .val (.int (Int32.ofNat tn)), .val (.ref b15)] [(.int (3 : Int32)), (.long q1), (.int (3 : Int32)), (.ref b15)])) _
    refine XS.iloadN X27.here hx rfl (hb hby at_87) rfl ?_
    show Steps p.tables e below (T27.setTop (mkF m 88 #[.val (.long q1), .second, .val (.int p2), .val (.int (Int32.ofNat fr)), .val (.int (Int32.ofNat le)), .val (.int (Int32.ofNat cc)), .val (.int (Int32.ofNat ex)), .val (.int (Int32.ofNat tn)), .val (.ref b15)] [(.int (Int32.ofNat fr)), (.int (3 : Int32)), (.long q1), (.int (3 : Int32)), (.ref b15)])) _
    refine XS.iload X27.here hx rfl (hb hby at_88) rfl ?_
    exact kt)
  obtain ⟨_, _, ⟨T29, L29, k29, n29⟩, -, X29, ⟨Lc29, hQ29, l29, y29, z29⟩, st29⟩ := Jvm.LawKit.callS X27 hx (y := (⟨"com/example/firm_warden/firmwarden/HeaderFieldsLineEndPinLaw", "put", "(JIII)B"⟩ : MethodName)) hown (mvT hZ (hw _ (List.mem_of_getElem? (i := 1) rfl))) (mvT hZ (hw _ (List.mem_of_getElem? (i := 2) rfl))) (mvT hZ (hw _ (List.mem_of_getElem? (i := 3) rfl))) (mvT hZ (hw _ (List.mem_of_getElem? (i := 4) rfl))) (by decide) (backOf (W := 2) (rm1 l Z a0 hw [] q1 (3 : Int32) (Int32.ofNat fr) (Int32.ofNat cc) h27 n0 Zs27) hZ (hw _ (List.mem_of_getElem? (i := 4) rfl)) (hw _ (List.mem_of_getElem? (i := 3) rfl)) (by decide) (by decide)) (g := (mkF m 90 #[.val (.long q1), .second, .val (.int p2), .val (.int (Int32.ofNat fr)), .val (.int (Int32.ofNat le)), .val (.int (Int32.ofNat cc)), .val (.int (Int32.ofNat ex)), .val (.int (Int32.ofNat tn)), .val (.ref b15)] [(.int (Int32.ofNat cc)), (.int (Int32.ofNat fr)), (.int (3 : Int32)), (.long q1), (.int (3 : Int32)), (.ref b15)])) rfl (by rw [hml]; rfl) (argsL := [(.long q1), (.int (3 : Int32)), (.int (Int32.ofNat fr)), (.int (Int32.ofNat cc))]) (rest := [(.int (3 : Int32)), (.ref b15)]) (lenOf pd_0 rfl) rfl (by show 2 * 0 + _ ≤ _; exact Nat.le_of_eq rfl) (hb hby at_90) (fun _ _ => ⟨rfl, e27, (by decide : 1 + 0 ≤ _), (by decide : 8 + 0 ≤ _)⟩)
  dsimp only [Pt.U, Pt.locs, Pt.cells, Pt.slots] at X29 l29 y29 z29 st29 hQ29
  subst l29 y29 z29
  obtain ⟨rfl, N29q, e29⟩ := hQ29
  have N29 := Fr.app N27 N29q
  have pre30 : ∀ t, Steps p.tables e below (T29.setTop (mkF m 93 #[.val (.long q1), .second, .val (.int p2), .val (.int (Int32.ofNat fr)), .val (.int (Int32.ofNat le)), .val (.int (Int32.ofNat cc)), .val (.int (Int32.ofNat ex)), .val (.int (Int32.ofNat tn)), .val (.ref b15)] [(.int (own_put q1 (3 : Int32) (Int32.ofNat fr) (Int32.ofNat cc))), (.int (3 : Int32)), (.ref b15)])) t → Steps p.tables e below _ t := fun t kt => pre28 t (by
    show Steps p.tables e below (T27.setTop (mkF m 90 #[.val (.long q1), .second, .val (.int p2), .val (.int (Int32.ofNat fr)), .val (.int (Int32.ofNat le)), .val (.int (Int32.ofNat cc)), .val (.int (Int32.ofNat ex)), .val (.int (Int32.ofNat tn)), .val (.ref b15)] [(.int (Int32.ofNat cc)), (.int (Int32.ofNat fr)), (.int (3 : Int32)), (.long q1), (.int (3 : Int32)), (.ref b15)])) _
    refine st29 _ ?_
    exact kt)
  obtain ⟨cl3, Ar3, Sz3, Hf3⟩ := id F3
  obtain ⟨T31, h31, X31, e31, W31, st31⟩ := stB X29 hx hZ e29 Ar3 (j := (3 : Int32)) (within (c := 3) rfl (by omega) (by omega)) (g := (mkF m 93 #[.val (.long q1), .second, .val (.int p2), .val (.int (Int32.ofNat fr)), .val (.int (Int32.ofNat le)), .val (.int (Int32.ofNat cc)), .val (.int (Int32.ofNat ex)), .val (.int (Int32.ofNat tn)), .val (.ref b15)] [(.int (own_put q1 (3 : Int32) (Int32.ofNat fr) (Int32.ofNat cc))), (.int (3 : Int32)), (.ref b15)])) rfl rfl (hb hby at_93)
  have N31 := Fr.snoc X31 N29 g_b15
  have Zs31 : n0 ≤ h31.size := Nat.le_trans Zs27 (Nat.le_of_eq W31.size.symm)
  have Kp31 : Keep h0 h31 [] := Kp27.wr W31 (Or.inr sz_b15)
  have F4 : own_A Z h31 b15 .byte 8 (upd (upd (upd (upd (fun _ => 0) 0 (nar .byte (own_put q1 (0 : Int32) (Int32.ofNat fr) (Int32.ofNat cc)))) 1 (nar .byte (own_put q1 (1 : Int32) (Int32.ofNat fr) (Int32.ofNat cc)))) 2 (nar .byte (own_put q1 (2 : Int32) (Int32.ofNat fr) (Int32.ofNat cc)))) 3 (nar .byte (own_put q1 (3 : Int32) (Int32.ofNat fr) (Int32.ofNat cc)))) := own_A_set F3 W31
  have pre32 : ∀ t, Steps p.tables e below (T31.setTop (mkF m 102 #[.val (.long q1), .second, .val (.int p2), .val (.int (Int32.ofNat fr)), .val (.int (Int32.ofNat le)), .val (.int (Int32.ofNat cc)), .val (.int (Int32.ofNat ex)), .val (.int (Int32.ofNat tn)), .val (.ref b15)] [(.int (Int32.ofNat cc)), (.int (Int32.ofNat fr)), (.int (4 : Int32)), (.long q1), (.int (4 : Int32)), (.ref b15)])) t → Steps p.tables e below _ t := fun t kt => pre30 t (by
    show Steps p.tables e below (T29.setTop (mkF m 93 #[.val (.long q1), .second, .val (.int p2), .val (.int (Int32.ofNat fr)), .val (.int (Int32.ofNat le)), .val (.int (Int32.ofNat cc)), .val (.int (Int32.ofNat ex)), .val (.int (Int32.ofNat tn)), .val (.ref b15)] [(.int (own_put q1 (3 : Int32) (Int32.ofNat fr) (Int32.ofNat cc))), (.int (3 : Int32)), (.ref b15)])) _
    refine st31 _ ?_
    show Steps p.tables e below (T31.setTop (mkF m 94 #[.val (.long q1), .second, .val (.int p2), .val (.int (Int32.ofNat fr)), .val (.int (Int32.ofNat le)), .val (.int (Int32.ofNat cc)), .val (.int (Int32.ofNat ex)), .val (.int (Int32.ofNat tn)), .val (.ref b15)] [])) _
    refine XS.aload X31.here hx rfl (hb hby at_94) rfl rfl ?_
    show Steps p.tables e below (T31.setTop (mkF m 96 #[.val (.long q1), .second, .val (.int p2), .val (.int (Int32.ofNat fr)), .val (.int (Int32.ofNat le)), .val (.int (Int32.ofNat cc)), .val (.int (Int32.ofNat ex)), .val (.int (Int32.ofNat tn)), .val (.ref b15)] [(.ref b15)])) _
    refine XS.iconst X31.here hx rfl (hb hby at_96) ?_
    show Steps p.tables e below (T31.setTop (mkF m 97 #[.val (.long q1), .second, .val (.int p2), .val (.int (Int32.ofNat fr)), .val (.int (Int32.ofNat le)), .val (.int (Int32.ofNat cc)), .val (.int (Int32.ofNat ex)), .val (.int (Int32.ofNat tn)), .val (.ref b15)] [(.int (4 : Int32)), (.ref b15)])) _
    refine XS.lloadN X31.here hx rfl (hb hby at_97) rfl ?_
    show Steps p.tables e below (T31.setTop (mkF m 98 #[.val (.long q1), .second, .val (.int p2), .val (.int (Int32.ofNat fr)), .val (.int (Int32.ofNat le)), .val (.int (Int32.ofNat cc)), .val (.int (Int32.ofNat ex)), .val (.int (Int32.ofNat tn)), .val (.ref b15)] [(.long q1), (.int (4 : Int32)), (.ref b15)])) _
    refine XS.iconst X31.here hx rfl (hb hby at_98) ?_
    show Steps p.tables e below (T31.setTop (mkF m 99 #[.val (.long q1), .second, .val (.int p2), .val (.int (Int32.ofNat fr)), .val (.int (Int32.ofNat le)), .val (.int (Int32.ofNat cc)), .val (.int (Int32.ofNat ex)), .val (.int (Int32.ofNat tn)), .val (.ref b15)] [(.int (4 : Int32)), (.long q1), (.int (4 : Int32)), (.ref b15)])) _
    refine XS.iloadN X31.here hx rfl (hb hby at_99) rfl ?_
    show Steps p.tables e below (T31.setTop (mkF m 100 #[.val (.long q1), .second, .val (.int p2), .val (.int (Int32.ofNat fr)), .val (.int (Int32.ofNat le)), .val (.int (Int32.ofNat cc)), .val (.int (Int32.ofNat ex)), .val (.int (Int32.ofNat tn)), .val (.ref b15)] [(.int (Int32.ofNat fr)), (.int (4 : Int32)), (.long q1), (.int (4 : Int32)), (.ref b15)])) _
    refine XS.iload X31.here hx rfl (hb hby at_100) rfl ?_
    exact kt)
  obtain ⟨_, _, ⟨T33, L33, k33, n33⟩, -, X33, ⟨Lc33, hQ33, l33, y33, z33⟩, st33⟩ := Jvm.LawKit.callS X31 hx (y := (⟨"com/example/firm_warden/firmwarden/HeaderFieldsLineEndPinLaw", "put", "(JIII)B"⟩ : MethodName)) hown (mvT hZ (hw _ (List.mem_of_getElem? (i := 1) rfl))) (mvT hZ (hw _ (List.mem_of_getElem? (i := 2) rfl))) (mvT hZ (hw _ (List.mem_of_getElem? (i := 3) rfl))) (mvT hZ (hw _ (List.mem_of_getElem? (i := 4) rfl))) (by decide) (backOf (W := 2) (rm1 l Z a0 hw [] q1 (4 : Int32) (Int32.ofNat fr) (Int32.ofNat cc) h31 n0 Zs31) hZ (hw _ (List.mem_of_getElem? (i := 4) rfl)) (hw _ (List.mem_of_getElem? (i := 3) rfl)) (by decide) (by decide)) (g := (mkF m 102 #[.val (.long q1), .second, .val (.int p2), .val (.int (Int32.ofNat fr)), .val (.int (Int32.ofNat le)), .val (.int (Int32.ofNat cc)), .val (.int (Int32.ofNat ex)), .val (.int (Int32.ofNat tn)), .val (.ref b15)] [(.int (Int32.ofNat cc)), (.int (Int32.ofNat fr)), (.int (4 : Int32)), (.long q1), (.int (4 : Int32)), (.ref b15)])) rfl (by rw [hml]; rfl) (argsL := [(.long q1), (.int (4 : Int32)), (.int (Int32.ofNat fr)), (.int (Int32.ofNat cc))]) (rest := [(.int (4 : Int32)), (.ref b15)]) (lenOf pd_0 rfl) rfl (by show 2 * 0 + _ ≤ _; exact Nat.le_of_eq rfl) (hb hby at_102) (fun _ _ => ⟨rfl, e31, (by decide : 1 + 0 ≤ _), (by decide : 8 + 0 ≤ _)⟩)
  dsimp only [Pt.U, Pt.locs, Pt.cells, Pt.slots] at X33 l33 y33 z33 st33 hQ33
  subst l33 y33 z33
  obtain ⟨rfl, N33q, e33⟩ := hQ33
  have N33 := Fr.app N31 N33q
  have pre34 : ∀ t, Steps p.tables e below (T33.setTop (mkF m 105 #[.val (.long q1), .second, .val (.int p2), .val (.int (Int32.ofNat fr)), .val (.int (Int32.ofNat le)), .val (.int (Int32.ofNat cc)), .val (.int (Int32.ofNat ex)), .val (.int (Int32.ofNat tn)), .val (.ref b15)] [(.int (own_put q1 (4 : Int32) (Int32.ofNat fr) (Int32.ofNat cc))), (.int (4 : Int32)), (.ref b15)])) t → Steps p.tables e below _ t := fun t kt => pre32 t (by
    show Steps p.tables e below (T31.setTop (mkF m 102 #[.val (.long q1), .second, .val (.int p2), .val (.int (Int32.ofNat fr)), .val (.int (Int32.ofNat le)), .val (.int (Int32.ofNat cc)), .val (.int (Int32.ofNat ex)), .val (.int (Int32.ofNat tn)), .val (.ref b15)] [(.int (Int32.ofNat cc)), (.int (Int32.ofNat fr)), (.int (4 : Int32)), (.long q1), (.int (4 : Int32)), (.ref b15)])) _
    refine st33 _ ?_
    exact kt)
  obtain ⟨cl4, Ar4, Sz4, Hf4⟩ := id F4
  obtain ⟨T35, h35, X35, e35, W35, st35⟩ := stB X33 hx hZ e33 Ar4 (j := (4 : Int32)) (within (c := 4) rfl (by omega) (by omega)) (g := (mkF m 105 #[.val (.long q1), .second, .val (.int p2), .val (.int (Int32.ofNat fr)), .val (.int (Int32.ofNat le)), .val (.int (Int32.ofNat cc)), .val (.int (Int32.ofNat ex)), .val (.int (Int32.ofNat tn)), .val (.ref b15)] [(.int (own_put q1 (4 : Int32) (Int32.ofNat fr) (Int32.ofNat cc))), (.int (4 : Int32)), (.ref b15)])) rfl rfl (hb hby at_105)
  have N35 := Fr.snoc X35 N33 g_b15
  have Zs35 : n0 ≤ h35.size := Nat.le_trans Zs31 (Nat.le_of_eq W35.size.symm)
  have Kp35 : Keep h0 h35 [] := Kp31.wr W35 (Or.inr sz_b15)
  have F5 : own_A Z h35 b15 .byte 8 (upd (upd (upd (upd (upd (fun _ => 0) 0 (nar .byte (own_put q1 (0 : Int32) (Int32.ofNat fr) (Int32.ofNat cc)))) 1 (nar .byte (own_put q1 (1 : Int32) (Int32.ofNat fr) (Int32.ofNat cc)))) 2 (nar .byte (own_put q1 (2 : Int32) (Int32.ofNat fr) (Int32.ofNat cc)))) 3 (nar .byte (own_put q1 (3 : Int32) (Int32.ofNat fr) (Int32.ofNat cc)))) 4 (nar .byte (own_put q1 (4 : Int32) (Int32.ofNat fr) (Int32.ofNat cc)))) := own_A_set F4 W35
  have pre36 : ∀ t, Steps p.tables e below (T35.setTop (mkF m 114 #[.val (.long q1), .second, .val (.int p2), .val (.int (Int32.ofNat fr)), .val (.int (Int32.ofNat le)), .val (.int (Int32.ofNat cc)), .val (.int (Int32.ofNat ex)), .val (.int (Int32.ofNat tn)), .val (.ref b15)] [(.int (Int32.ofNat cc)), (.int (Int32.ofNat fr)), (.int (5 : Int32)), (.long q1), (.int (5 : Int32)), (.ref b15)])) t → Steps p.tables e below _ t := fun t kt => pre34 t (by
    show Steps p.tables e below (T33.setTop (mkF m 105 #[.val (.long q1), .second, .val (.int p2), .val (.int (Int32.ofNat fr)), .val (.int (Int32.ofNat le)), .val (.int (Int32.ofNat cc)), .val (.int (Int32.ofNat ex)), .val (.int (Int32.ofNat tn)), .val (.ref b15)] [(.int (own_put q1 (4 : Int32) (Int32.ofNat fr) (Int32.ofNat cc))), (.int (4 : Int32)), (.ref b15)])) _
    refine st35 _ ?_
    show Steps p.tables e below (T35.setTop (mkF m 106 #[.val (.long q1), .second, .val (.int p2), .val (.int (Int32.ofNat fr)), .val (.int (Int32.ofNat le)), .val (.int (Int32.ofNat cc)), .val (.int (Int32.ofNat ex)), .val (.int (Int32.ofNat tn)), .val (.ref b15)] [])) _
    refine XS.aload X35.here hx rfl (hb hby at_106) rfl rfl ?_
    show Steps p.tables e below (T35.setTop (mkF m 108 #[.val (.long q1), .second, .val (.int p2), .val (.int (Int32.ofNat fr)), .val (.int (Int32.ofNat le)), .val (.int (Int32.ofNat cc)), .val (.int (Int32.ofNat ex)), .val (.int (Int32.ofNat tn)), .val (.ref b15)] [(.ref b15)])) _
    refine XS.iconst X35.here hx rfl (hb hby at_108) ?_
    show Steps p.tables e below (T35.setTop (mkF m 109 #[.val (.long q1), .second, .val (.int p2), .val (.int (Int32.ofNat fr)), .val (.int (Int32.ofNat le)), .val (.int (Int32.ofNat cc)), .val (.int (Int32.ofNat ex)), .val (.int (Int32.ofNat tn)), .val (.ref b15)] [(.int (5 : Int32)), (.ref b15)])) _
    refine XS.lloadN X35.here hx rfl (hb hby at_109) rfl ?_
    show Steps p.tables e below (T35.setTop (mkF m 110 #[.val (.long q1), .second, .val (.int p2), .val (.int (Int32.ofNat fr)), .val (.int (Int32.ofNat le)), .val (.int (Int32.ofNat cc)), .val (.int (Int32.ofNat ex)), .val (.int (Int32.ofNat tn)), .val (.ref b15)] [(.long q1), (.int (5 : Int32)), (.ref b15)])) _
    refine XS.iconst X35.here hx rfl (hb hby at_110) ?_
    show Steps p.tables e below (T35.setTop (mkF m 111 #[.val (.long q1), .second, .val (.int p2), .val (.int (Int32.ofNat fr)), .val (.int (Int32.ofNat le)), .val (.int (Int32.ofNat cc)), .val (.int (Int32.ofNat ex)), .val (.int (Int32.ofNat tn)), .val (.ref b15)] [(.int (5 : Int32)), (.long q1), (.int (5 : Int32)), (.ref b15)])) _
    refine XS.iloadN X35.here hx rfl (hb hby at_111) rfl ?_
    show Steps p.tables e below (T35.setTop (mkF m 112 #[.val (.long q1), .second, .val (.int p2), .val (.int (Int32.ofNat fr)), .val (.int (Int32.ofNat le)), .val (.int (Int32.ofNat cc)), .val (.int (Int32.ofNat ex)), .val (.int (Int32.ofNat tn)), .val (.ref b15)] [(.int (Int32.ofNat fr)), (.int (5 : Int32)), (.long q1), (.int (5 : Int32)), (.ref b15)])) _
    refine XS.iload X35.here hx rfl (hb hby at_112) rfl ?_
    exact kt)
  obtain ⟨_, _, ⟨T37, L37, k37, n37⟩, -, X37, ⟨Lc37, hQ37, l37, y37, z37⟩, st37⟩ := Jvm.LawKit.callS X35 hx (y := (⟨"com/example/firm_warden/firmwarden/HeaderFieldsLineEndPinLaw", "put", "(JIII)B"⟩ : MethodName)) hown (mvT hZ (hw _ (List.mem_of_getElem? (i := 1) rfl))) (mvT hZ (hw _ (List.mem_of_getElem? (i := 2) rfl))) (mvT hZ (hw _ (List.mem_of_getElem? (i := 3) rfl))) (mvT hZ (hw _ (List.mem_of_getElem? (i := 4) rfl))) (by decide) (backOf (W := 2) (rm1 l Z a0 hw [] q1 (5 : Int32) (Int32.ofNat fr) (Int32.ofNat cc) h35 n0 Zs35) hZ (hw _ (List.mem_of_getElem? (i := 4) rfl)) (hw _ (List.mem_of_getElem? (i := 3) rfl)) (by decide) (by decide)) (g := (mkF m 114 #[.val (.long q1), .second, .val (.int p2), .val (.int (Int32.ofNat fr)), .val (.int (Int32.ofNat le)), .val (.int (Int32.ofNat cc)), .val (.int (Int32.ofNat ex)), .val (.int (Int32.ofNat tn)), .val (.ref b15)] [(.int (Int32.ofNat cc)), (.int (Int32.ofNat fr)), (.int (5 : Int32)), (.long q1), (.int (5 : Int32)), (.ref b15)])) rfl (by rw [hml]; rfl) (argsL := [(.long q1), (.int (5 : Int32)), (.int (Int32.ofNat fr)), (.int (Int32.ofNat cc))]) (rest := [(.int (5 : Int32)), (.ref b15)]) (lenOf pd_0 rfl) rfl (by show 2 * 0 + _ ≤ _; exact Nat.le_of_eq rfl) (hb hby at_114) (fun _ _ => ⟨rfl, e35, (by decide : 1 + 0 ≤ _), (by decide : 8 + 0 ≤ _)⟩)
  dsimp only [Pt.U, Pt.locs, Pt.cells, Pt.slots] at X37 l37 y37 z37 st37 hQ37
  subst l37 y37 z37
  obtain ⟨rfl, N37q, e37⟩ := hQ37
  have N37 := Fr.app N35 N37q
  have pre38 : ∀ t, Steps p.tables e below (T37.setTop (mkF m 117 #[.val (.long q1), .second, .val (.int p2), .val (.int (Int32.ofNat fr)), .val (.int (Int32.ofNat le)), .val (.int (Int32.ofNat cc)), .val (.int (Int32.ofNat ex)), .val (.int (Int32.ofNat tn)), .val (.ref b15)] [(.int (own_put q1 (5 : Int32) (Int32.ofNat fr) (Int32.ofNat cc))), (.int (5 : Int32)), (.ref b15)])) t → Steps p.tables e below _ t := fun t kt => pre36 t (by
    show Steps p.tables e below (T35.setTop (mkF m 114 #[.val (.long q1), .second, .val (.int p2), .val (.int (Int32.ofNat fr)), .val (.int (Int32.ofNat le)), .val (.int (Int32.ofNat cc)), .val (.int (Int32.ofNat ex)), .val (.int (Int32.ofNat tn)), .val (.ref b15)] [(.int (Int32.ofNat cc)), (.int (Int32.ofNat fr)), (.int (5 : Int32)), (.long q1), (.int (5 : Int32)), (.ref b15)])) _
    refine st37 _ ?_
    exact kt)
  obtain ⟨cl5, Ar5, Sz5, Hf5⟩ := id F5
  obtain ⟨T39, h39, X39, e39, W39, st39⟩ := stB X37 hx hZ e37 Ar5 (j := (5 : Int32)) (within (c := 5) rfl (by omega) (by omega)) (g := (mkF m 117 #[.val (.long q1), .second, .val (.int p2), .val (.int (Int32.ofNat fr)), .val (.int (Int32.ofNat le)), .val (.int (Int32.ofNat cc)), .val (.int (Int32.ofNat ex)), .val (.int (Int32.ofNat tn)), .val (.ref b15)] [(.int (own_put q1 (5 : Int32) (Int32.ofNat fr) (Int32.ofNat cc))), (.int (5 : Int32)), (.ref b15)])) rfl rfl (hb hby at_117)
  have N39 := Fr.snoc X39 N37 g_b15
  have Zs39 : n0 ≤ h39.size := Nat.le_trans Zs35 (Nat.le_of_eq W39.size.symm)
  have Kp39 : Keep h0 h39 [] := Kp35.wr W39 (Or.inr sz_b15)
  have F6 : own_A Z h39 b15 .byte 8 (upd (upd (upd (upd (upd (upd (fun _ => 0) 0 (nar .byte (own_put q1 (0 : Int32) (Int32.ofNat fr) (Int32.ofNat cc)))) 1 (nar .byte (own_put q1 (1 : Int32) (Int32.ofNat fr) (Int32.ofNat cc)))) 2 (nar .byte (own_put q1 (2 : Int32) (Int32.ofNat fr) (Int32.ofNat cc)))) 3 (nar .byte (own_put q1 (3 : Int32) (Int32.ofNat fr) (Int32.ofNat cc)))) 4 (nar .byte (own_put q1 (4 : Int32) (Int32.ofNat fr) (Int32.ofNat cc)))) 5 (nar .byte (own_put q1 (5 : Int32) (Int32.ofNat fr) (Int32.ofNat cc)))) := own_A_set F5 W39
  have pre40 : ∀ t, Steps p.tables e below (T39.setTop (mkF m 128 #[.val (.long q1), .second, .val (.int p2), .val (.int (Int32.ofNat fr)), .val (.int (Int32.ofNat le)), .val (.int (Int32.ofNat cc)), .val (.int (Int32.ofNat ex)), .val (.int (Int32.ofNat tn)), .val (.ref b15)] [(.int (Int32.ofNat cc)), (.int (Int32.ofNat fr)), (.int (6 : Int32)), (.long q1), (.int (6 : Int32)), (.ref b15)])) t → Steps p.tables e below _ t := fun t kt => pre38 t (by
    show Steps p.tables e below (T37.setTop (mkF m 117 #[.val (.long q1), .second, .val (.int p2), .val (.int (Int32.ofNat fr)), .val (.int (Int32.ofNat le)), .val (.int (Int32.ofNat cc)), .val (.int (Int32.ofNat ex)), .val (.int (Int32.ofNat tn)), .val (.ref b15)] [(.int (own_put q1 (5 : Int32) (Int32.ofNat fr) (Int32.ofNat cc))), (.int (5 : Int32)), (.ref b15)])) _
    refine st39 _ ?_
    show Steps p.tables e below (T39.setTop (mkF m 118 #[.val (.long q1), .second, .val (.int p2), .val (.int (Int32.ofNat fr)), .val (.int (Int32.ofNat le)), .val (.int (Int32.ofNat cc)), .val (.int (Int32.ofNat ex)), .val (.int (Int32.ofNat tn)), .val (.ref b15)] [])) _
    refine XS.aload X39.here hx rfl (hb hby at_118) rfl rfl ?_
    show Steps p.tables e below (T39.setTop (mkF m 120 #[.val (.long q1), .second, .val (.int p2), .val (.int (Int32.ofNat fr)), .val (.int (Int32.ofNat le)), .val (.int (Int32.ofNat cc)), .val (.int (Int32.ofNat ex)), .val (.int (Int32.ofNat tn)), .val (.ref b15)] [(.ref b15)])) _
    refine XS.bipush X39.here hx rfl (hb hby at_120) ?_
    show Steps p.tables e below (T39.setTop (mkF m 122 #[.val (.long q1), .second, .val (.int p2), .val (.int (Int32.ofNat fr)), .val (.int (Int32.ofNat le)), .val (.int (Int32.ofNat cc)), .val (.int (Int32.ofNat ex)), .val (.int (Int32.ofNat tn)), .val (.ref b15)] [(.int (6 : Int32)), (.ref b15)])) _
    refine XS.lloadN X39.here hx rfl (hb hby at_122) rfl ?_
    show Steps p.tables e below (T39.setTop (mkF m 123 #[.val (.long q1), .second, .val (.int p2), .val (.int (Int32.ofNat fr)), .val (.int (Int32.ofNat le)), .val (.int (Int32.ofNat cc)), .val (.int (Int32.ofNat ex)), .val (.int (Int32.ofNat tn)), .val (.ref b15)] [(.long q1), (.int (6 : Int32)), (.ref b15)])) _
    refine XS.bipush X39.here hx rfl (hb hby at_123) ?_
    show Steps p.tables e below (T39.setTop (mkF m 125 #[.val (.long q1), .second, .val (.int p2), .val (.int (Int32.ofNat fr)), .val (.int (Int32.ofNat le)), .val (.int (Int32.ofNat cc)), .val (.int (Int32.ofNat ex)), .val (.int (Int32.ofNat tn)), .val (.ref b15)] [(.int (6 : Int32)), (.long q1), (.int (6 : Int32)), (.ref b15)])) _
    refine XS.iloadN X39.here hx rfl (hb hby at_125) rfl ?_
    show Steps p.tables e below (T39.setTop (mkF m 126 #[.val (.long q1), .second, .val (.int p2), .val (.int (Int32.ofNat fr)), .val (.int (Int32.ofNat le)), .val (.int (Int32.ofNat cc)), .val (.int (Int32.ofNat ex)), .val (.int (Int32.ofNat tn)), .val (.ref b15)] [(.int (Int32.ofNat fr)), (.int (6 : Int32)), (.long q1), (.int (6 : Int32)), (.ref b15)])) _
    refine XS.iload X39.here hx rfl (hb hby at_126) rfl ?_
    exact kt)
  obtain ⟨_, _, ⟨T41, L41, k41, n41⟩, -, X41, ⟨Lc41, hQ41, l41, y41, z41⟩, st41⟩ := Jvm.LawKit.callS X39 hx (y := (⟨"com/example/firm_warden/firmwarden/HeaderFieldsLineEndPinLaw", "put", "(JIII)B"⟩ : MethodName)) hown (mvT hZ (hw _ (List.mem_of_getElem? (i := 1) rfl))) (mvT hZ (hw _ (List.mem_of_getElem? (i := 2) rfl))) (mvT hZ (hw _ (List.mem_of_getElem? (i := 3) rfl))) (mvT hZ (hw _ (List.mem_of_getElem? (i := 4) rfl))) (by decide) (backOf (W := 2) (rm1 l Z a0 hw [] q1 (6 : Int32) (Int32.ofNat fr) (Int32.ofNat cc) h39 n0 Zs39) hZ (hw _ (List.mem_of_getElem? (i := 4) rfl)) (hw _ (List.mem_of_getElem? (i := 3) rfl)) (by decide) (by decide)) (g := (mkF m 128 #[.val (.long q1), .second, .val (.int p2), .val (.int (Int32.ofNat fr)), .val (.int (Int32.ofNat le)), .val (.int (Int32.ofNat cc)), .val (.int (Int32.ofNat ex)), .val (.int (Int32.ofNat tn)), .val (.ref b15)] [(.int (Int32.ofNat cc)), (.int (Int32.ofNat fr)), (.int (6 : Int32)), (.long q1), (.int (6 : Int32)), (.ref b15)])) rfl (by rw [hml]; rfl) (argsL := [(.long q1), (.int (6 : Int32)), (.int (Int32.ofNat fr)), (.int (Int32.ofNat cc))]) (rest := [(.int (6 : Int32)), (.ref b15)]) (lenOf pd_0 rfl) rfl (by show 2 * 0 + _ ≤ _; exact Nat.le_of_eq rfl) (hb hby at_128) (fun _ _ => ⟨rfl, e39, (by decide : 1 + 0 ≤ _), (by decide : 8 + 0 ≤ _)⟩)
  dsimp only [Pt.U, Pt.locs, Pt.cells, Pt.slots] at X41 l41 y41 z41 st41 hQ41
  subst l41 y41 z41
  obtain ⟨rfl, N41q, e41⟩ := hQ41
  have N41 := Fr.app N39 N41q
  have pre42 : ∀ t, Steps p.tables e below (T41.setTop (mkF m 131 #[.val (.long q1), .second, .val (.int p2), .val (.int (Int32.ofNat fr)), .val (.int (Int32.ofNat le)), .val (.int (Int32.ofNat cc)), .val (.int (Int32.ofNat ex)), .val (.int (Int32.ofNat tn)), .val (.ref b15)] [(.int (own_put q1 (6 : Int32) (Int32.ofNat fr) (Int32.ofNat cc))), (.int (6 : Int32)), (.ref b15)])) t → Steps p.tables e below _ t := fun t kt => pre40 t (by
    show Steps p.tables e below (T39.setTop (mkF m 128 #[.val (.long q1), .second, .val (.int p2), .val (.int (Int32.ofNat fr)), .val (.int (Int32.ofNat le)), .val (.int (Int32.ofNat cc)), .val (.int (Int32.ofNat ex)), .val (.int (Int32.ofNat tn)), .val (.ref b15)] [(.int (Int32.ofNat cc)), (.int (Int32.ofNat fr)), (.int (6 : Int32)), (.long q1), (.int (6 : Int32)), (.ref b15)])) _
    refine st41 _ ?_
    exact kt)
  obtain ⟨cl6, Ar6, Sz6, Hf6⟩ := id F6
  obtain ⟨T43, h43, X43, e43, W43, st43⟩ := stB X41 hx hZ e41 Ar6 (j := (6 : Int32)) (within (c := 6) rfl (by omega) (by omega)) (g := (mkF m 131 #[.val (.long q1), .second, .val (.int p2), .val (.int (Int32.ofNat fr)), .val (.int (Int32.ofNat le)), .val (.int (Int32.ofNat cc)), .val (.int (Int32.ofNat ex)), .val (.int (Int32.ofNat tn)), .val (.ref b15)] [(.int (own_put q1 (6 : Int32) (Int32.ofNat fr) (Int32.ofNat cc))), (.int (6 : Int32)), (.ref b15)])) rfl rfl (hb hby at_131)
  have N43 := Fr.snoc X43 N41 g_b15
  have Zs43 : n0 ≤ h43.size := Nat.le_trans Zs39 (Nat.le_of_eq W43.size.symm)
  have Kp43 : Keep h0 h43 [] := Kp39.wr W43 (Or.inr sz_b15)
  have F7 : own_A Z h43 b15 .byte 8 (upd (upd (upd (upd (upd (upd (upd (fun _ => 0) 0 (nar .byte (own_put q1 (0 : Int32) (Int32.ofNat fr) (Int32.ofNat cc)))) 1 (nar .byte (own_put q1 (1 : Int32) (Int32.ofNat fr) (Int32.ofNat cc)))) 2 (nar .byte (own_put q1 (2 : Int32) (Int32.ofNat fr) (Int32.ofNat cc)))) 3 (nar .byte (own_put q1 (3 : Int32) (Int32.ofNat fr) (Int32.ofNat cc)))) 4 (nar .byte (own_put q1 (4 : Int32) (Int32.ofNat fr) (Int32.ofNat cc)))) 5 (nar .byte (own_put q1 (5 : Int32) (Int32.ofNat fr) (Int32.ofNat cc)))) 6 (nar .byte (own_put q1 (6 : Int32) (Int32.ofNat fr) (Int32.ofNat cc)))) := own_A_set F6 W43
  have pre44 : ∀ t, Steps p.tables e below (T43.setTop (mkF m 142 #[.val (.long q1), .second, .val (.int p2), .val (.int (Int32.ofNat fr)), .val (.int (Int32.ofNat le)), .val (.int (Int32.ofNat cc)), .val (.int (Int32.ofNat ex)), .val (.int (Int32.ofNat tn)), .val (.ref b15)] [(.int (Int32.ofNat cc)), (.int (Int32.ofNat fr)), (.int (7 : Int32)), (.long q1), (.int (7 : Int32)), (.ref b15)])) t → Steps p.tables e below _ t := fun t kt => pre42 t (by
    show Steps p.tables e below (T41.setTop (mkF m 131 #[.val (.long q1), .second, .val (.int p2), .val (.int (Int32.ofNat fr)), .val (.int (Int32.ofNat le)), .val (.int (Int32.ofNat cc)), .val (.int (Int32.ofNat ex)), .val (.int (Int32.ofNat tn)), .val (.ref b15)] [(.int (own_put q1 (6 : Int32) (Int32.ofNat fr) (Int32.ofNat cc))), (.int (6 : Int32)), (.ref b15)])) _
    refine st43 _ ?_
    show Steps p.tables e below (T43.setTop (mkF m 132 #[.val (.long q1), .second, .val (.int p2), .val (.int (Int32.ofNat fr)), .val (.int (Int32.ofNat le)), .val (.int (Int32.ofNat cc)), .val (.int (Int32.ofNat ex)), .val (.int (Int32.ofNat tn)), .val (.ref b15)] [])) _
    refine XS.aload X43.here hx rfl (hb hby at_132) rfl rfl ?_
    show Steps p.tables e below (T43.setTop (mkF m 134 #[.val (.long q1), .second, .val (.int p2), .val (.int (Int32.ofNat fr)), .val (.int (Int32.ofNat le)), .val (.int (Int32.ofNat cc)), .val (.int (Int32.ofNat ex)), .val (.int (Int32.ofNat tn)), .val (.ref b15)] [(.ref b15)])) _
    refine XS.bipush X43.here hx rfl (hb hby at_134) ?_
    show Steps p.tables e below (T43.setTop (mkF m 136 #[.val (.long q1), .second, .val (.int p2), .val (.int (Int32.ofNat fr)), .val (.int (Int32.ofNat le)), .val (.int (Int32.ofNat cc)), .val (.int (Int32.ofNat ex)), .val (.int (Int32.ofNat tn)), .val (.ref b15)] [(.int (7 : Int32)), (.ref b15)])) _
    refine XS.lloadN X43.here hx rfl (hb hby at_136) rfl ?_
    show Steps p.tables e below (T43.setTop (mkF m 137 #[.val (.long q1), .second, .val (.int p2), .val (.int (Int32.ofNat fr)), .val (.int (Int32.ofNat le)), .val (.int (Int32.ofNat cc)), .val (.int (Int32.ofNat ex)), .val (.int (Int32.ofNat tn)), .val (.ref b15)] [(.long q1), (.int (7 : Int32)), (.ref b15)])) _
    refine XS.bipush X43.here hx rfl (hb hby at_137) ?_
    show Steps p.tables e below (T43.setTop (mkF m 139 #[.val (.long q1), .second, .val (.int p2), .val (.int (Int32.ofNat fr)), .val (.int (Int32.ofNat le)), .val (.int (Int32.ofNat cc)), .val (.int (Int32.ofNat ex)), .val (.int (Int32.ofNat tn)), .val (.ref b15)] [(.int (7 : Int32)), (.long q1), (.int (7 : Int32)), (.ref b15)])) _
    refine XS.iloadN X43.here hx rfl (hb hby at_139) rfl ?_
    show Steps p.tables e below (T43.setTop (mkF m 140 #[.val (.long q1), .second, .val (.int p2), .val (.int (Int32.ofNat fr)), .val (.int (Int32.ofNat le)), .val (.int (Int32.ofNat cc)), .val (.int (Int32.ofNat ex)), .val (.int (Int32.ofNat tn)), .val (.ref b15)] [(.int (Int32.ofNat fr)), (.int (7 : Int32)), (.long q1), (.int (7 : Int32)), (.ref b15)])) _
    refine XS.iload X43.here hx rfl (hb hby at_140) rfl ?_
    exact kt)
  obtain ⟨_, _, ⟨T45, L45, k45, n45⟩, -, X45, ⟨Lc45, hQ45, l45, y45, z45⟩, st45⟩ := Jvm.LawKit.callS X43 hx (y := (⟨"com/example/firm_warden/firmwarden/HeaderFieldsLineEndPinLaw", "put", "(JIII)B"⟩ : MethodName)) hown (mvT hZ (hw _ (List.mem_of_getElem? (i := 1) rfl))) (mvT hZ (hw _ (List.mem_of_getElem? (i := 2) rfl))) (mvT hZ (hw _ (List.mem_of_getElem? (i := 3) rfl))) (mvT hZ (hw _ (List.mem_of_getElem? (i := 4) rfl))) (by decide) (backOf (W := 2) (rm1 l Z a0 hw [] q1 (7 : Int32) (Int32.ofNat fr) (Int32.ofNat cc) h43 n0 Zs43) hZ (hw _ (List.mem_of_getElem? (i := 4) rfl)) (hw _ (List.mem_of_getElem? (i := 3) rfl)) (by decide) (by decide)) (g := (mkF m 142 #[.val (.long q1), .second, .val (.int p2), .val (.int (Int32.ofNat fr)), .val (.int (Int32.ofNat le)), .val (.int (Int32.ofNat cc)), .val (.int (Int32.ofNat ex)), .val (.int (Int32.ofNat tn)), .val (.ref b15)] [(.int (Int32.ofNat cc)), (.int (Int32.ofNat fr)), (.int (7 : Int32)), (.long q1), (.int (7 : Int32)), (.ref b15)])) rfl (by rw [hml]; rfl) (argsL := [(.long q1), (.int (7 : Int32)), (.int (Int32.ofNat fr)), (.int (Int32.ofNat cc))]) (rest := [(.int (7 : Int32)), (.ref b15)]) (lenOf pd_0 rfl) rfl (by show 2 * 0 + _ ≤ _; exact Nat.le_of_eq rfl) (hb hby at_142) (fun _ _ => ⟨rfl, e43, (by decide : 1 + 0 ≤ _), (by decide : 8 + 0 ≤ _)⟩)
  dsimp only [Pt.U, Pt.locs, Pt.cells, Pt.slots] at X45 l45 y45 z45 st45 hQ45
  subst l45 y45 z45
  obtain ⟨rfl, N45q, e45⟩ := hQ45
  have N45 := Fr.app N43 N45q
  have pre46 : ∀ t, Steps p.tables e below (T45.setTop (mkF m 145 #[.val (.long q1), .second, .val (.int p2), .val (.int (Int32.ofNat fr)), .val (.int (Int32.ofNat le)), .val (.int (Int32.ofNat cc)), .val (.int (Int32.ofNat ex)), .val (.int (Int32.ofNat tn)), .val (.ref b15)] [(.int (own_put q1 (7 : Int32) (Int32.ofNat fr) (Int32.ofNat cc))), (.int (7 : Int32)), (.ref b15)])) t → Steps p.tables e below _ t := fun t kt => pre44 t (by
    show Steps p.tables e below (T43.setTop (mkF m 142 #[.val (.long q1), .second, .val (.int p2), .val (.int (Int32.ofNat fr)), .val (.int (Int32.ofNat le)), .val (.int (Int32.ofNat cc)), .val (.int (Int32.ofNat ex)), .val (.int (Int32.ofNat tn)), .val (.ref b15)] [(.int (Int32.ofNat cc)), (.int (Int32.ofNat fr)), (.int (7 : Int32)), (.long q1), (.int (7 : Int32)), (.ref b15)])) _
    refine st45 _ ?_
    exact kt)
  obtain ⟨cl7, Ar7, Sz7, Hf7⟩ := id F7
  obtain ⟨T47, h47, X47, e47, W47, st47⟩ := stB X45 hx hZ e45 Ar7 (j := (7 : Int32)) (within (c := 7) rfl (by omega) (by omega)) (g := (mkF m 145 #[.val (.long q1), .second, .val (.int p2), .val (.int (Int32.ofNat fr)), .val (.int (Int32.ofNat le)), .val (.int (Int32.ofNat cc)), .val (.int (Int32.ofNat ex)), .val (.int (Int32.ofNat tn)), .val (.ref b15)] [(.int (own_put q1 (7 : Int32) (Int32.ofNat fr) (Int32.ofNat cc))), (.int (7 : Int32)), (.ref b15)])) rfl rfl (hb hby at_145)
  have N47 := Fr.snoc X47 N45 g_b15
  have Zs47 : n0 ≤ h47.size := Nat.le_trans Zs43 (Nat.le_of_eq W47.size.symm)
  have Kp47 : Keep h0 h47 [] := Kp43.wr W47 (Or.inr sz_b15)
  have F8 : own_A Z h47 b15 .byte 8 (upd (upd (upd (upd (upd (upd (upd (upd (fun _ => 0) 0 (nar .byte (own_put q1 (0 : Int32) (Int32.ofNat fr) (Int32.ofNat cc)))) 1 (nar .byte (own_put q1 (1 : Int32) (Int32.ofNat fr) (Int32.ofNat cc)))) 2 (nar .byte (own_put q1 (2 : Int32) (Int32.ofNat fr) (Int32.ofNat cc)))) 3 (nar .byte (own_put q1 (3 : Int32) (Int32.ofNat fr) (Int32.ofNat cc)))) 4 (nar .byte (own_put q1 (4 : Int32) (Int32.ofNat fr) (Int32.ofNat cc)))) 5 (nar .byte (own_put q1 (5 : Int32) (Int32.ofNat fr) (Int32.ofNat cc)))) 6 (nar .byte (own_put q1 (6 : Int32) (Int32.ofNat fr) (Int32.ofNat cc)))) 7 (nar .byte (own_put q1 (7 : Int32) (Int32.ofNat fr) (Int32.ofNat cc)))) := own_A_set F7 W47
  have pre48 : ∀ t, Steps p.tables e below (T47.setTop (mkF m 152 #[.val (.long q1), .second, .val (.int p2), .val (.int (Int32.ofNat fr)), .val (.int (Int32.ofNat le)), .val (.int (Int32.ofNat cc)), .val (.int (Int32.ofNat ex)), .val (.int (Int32.ofNat tn)), .val (.ref b15)] [(.int (13 : Int32)), (.int (Int32.ofNat cc)), (.ref b15)])) t → Steps p.tables e below _ t := fun t kt => pre46 t (by
    show Steps p.tables e below (T45.setTop (mkF m 145 #[.val (.long q1), .second, .val (.int p2), .val (.int (Int32.ofNat fr)), .val (.int (Int32.ofNat le)), .val (.int (Int32.ofNat cc)), .val (.int (Int32.ofNat ex)), .val (.int (Int32.ofNat tn)), .val (.ref b15)] [(.int (own_put q1 (7 : Int32) (Int32.ofNat fr) (Int32.ofNat cc))), (.int (7 : Int32)), (.ref b15)])) _
    refine st47 _ ?_
    show Steps p.tables e below (T47.setTop (mkF m 146 #[.val (.long q1), .second, .val (.int p2), .val (.int (Int32.ofNat fr)), .val (.int (Int32.ofNat le)), .val (.int (Int32.ofNat cc)), .val (.int (Int32.ofNat ex)), .val (.int (Int32.ofNat tn)), .val (.ref b15)] [])) _
    refine XS.aload X47.here hx rfl (hb hby at_146) rfl rfl ?_
    show Steps p.tables e below (T47.setTop (mkF m 148 #[.val (.long q1), .second, .val (.int p2), .val (.int (Int32.ofNat fr)), .val (.int (Int32.ofNat le)), .val (.int (Int32.ofNat cc)), .val (.int (Int32.ofNat ex)), .val (.int (Int32.ofNat tn)), .val (.ref b15)] [(.ref b15)])) _
    refine XS.iload X47.here hx rfl (hb hby at_148) rfl ?_
    show Steps p.tables e below (T47.setTop (mkF m 150 #[.val (.long q1), .second, .val (.int p2), .val (.int (Int32.ofNat fr)), .val (.int (Int32.ofNat le)), .val (.int (Int32.ofNat cc)), .val (.int (Int32.ofNat ex)), .val (.int (Int32.ofNat tn)), .val (.ref b15)] [(.int (Int32.ofNat cc)), (.ref b15)])) _
    refine XS.bipush X47.here hx rfl (hb hby at_150) ?_
    exact kt)
  obtain ⟨f8, hf8⟩ : ∃ g : Nat → Int32, g = (upd (upd (upd (upd (upd (upd (upd (upd (fun _ => 0) 0 (nar .byte (own_put q1 (0 : Int32) (Int32.ofNat fr) (Int32.ofNat cc)))) 1 (nar .byte (own_put q1 (1 : Int32) (Int32.ofNat fr) (Int32.ofNat cc)))) 2 (nar .byte (own_put q1 (2 : Int32) (Int32.ofNat fr) (Int32.ofNat cc)))) 3 (nar .byte (own_put q1 (3 : Int32) (Int32.ofNat fr) (Int32.ofNat cc)))) 4 (nar .byte (own_put q1 (4 : Int32) (Int32.ofNat fr) (Int32.ofNat cc)))) 5 (nar .byte (own_put q1 (5 : Int32) (Int32.ofNat fr) (Int32.ofNat cc)))) 6 (nar .byte (own_put q1 (6 : Int32) (Int32.ofNat fr) (Int32.ofNat cc)))) 7 (nar .byte (own_put q1 (7 : Int32) (Int32.ofNat fr) (Int32.ofNat cc)))) := ⟨_, rfl⟩
  have G8 : ∀ j, j < 8 → f8 j = nar .byte (own_put q1 (Int32.ofNat j) (Int32.ofNat fr) (Int32.ofNat cc)) := by
    intro j hj
    have hj' : j = 0 ∨ j = 1 ∨ j = 2 ∨ j = 3 ∨ j = 4 ∨ j = 5 ∨ j = 6 ∨ j = 7 := by omega
    rw [hf8]
    rcases hj' with rfl | rfl | rfl | rfl | rfl | rfl | rfl | rfl <;> rfl
  rw [← hf8] at F8
  obtain ⟨clA, ArA, SzA, HfA⟩ := id F8
  obtain ⟨T49, h49, X49, e49, W49, st49⟩ := stB X47 hx hZ e47 ArA (j := (Int32.ofNat cc)) (within (c := cc) rfl (by omega) (by omega)) (g := (mkF m 152 #[.val (.long q1), .second, .val (.int p2), .val (.int (Int32.ofNat fr)), .val (.int (Int32.ofNat le)), .val (.int (Int32.ofNat cc)), .val (.int (Int32.ofNat ex)), .val (.int (Int32.ofNat tn)), .val (.ref b15)] [(.int (13 : Int32)), (.int (Int32.ofNat cc)), (.ref b15)])) rfl rfl (hb hby at_152)
  have N49 := Fr.snoc X49 N47 g_b15
  have Zs49 : n0 ≤ h49.size := Nat.le_trans Zs47 (Nat.le_of_eq W49.size.symm)
  have Kp49 : Keep h0 h49 [] := Kp47.wr W49 (Or.inr sz_b15)
  have WA : Wr h47 h49 b15 cc (.int (13 : Int32)) := by have z := W49; rw [clamp_of (c := cc) rfl (by omega)] at z; exact z
  have FA := own_A_set F8 WA
  have pre50 : ∀ t, Steps p.tables e below (T49.setTop (mkF m 161 #[.val (.long q1), .second, .val (.int p2), .val (.int (Int32.ofNat fr)), .val (.int (Int32.ofNat le)), .val (.int (Int32.ofNat cc)), .val (.int (Int32.ofNat ex)), .val (.int (Int32.ofNat tn)), .val (.ref b15)] [(.int (10 : Int32)), (.int ((Int32.ofNat cc) + (1 : Int32))), (.ref b15)])) t → Steps p.tables e below _ t := fun t kt => pre48 t (by
    show Steps p.tables e below (T47.setTop (mkF m 152 #[.val (.long q1), .second, .val (.int p2), .val (.int (Int32.ofNat fr)), .val (.int (Int32.ofNat le)), .val (.int (Int32.ofNat cc)), .val (.int (Int32.ofNat ex)), .val (.int (Int32.ofNat tn)), .val (.ref b15)] [(.int (13 : Int32)), (.int (Int32.ofNat cc)), (.ref b15)])) _
    refine st49 _ ?_
    show Steps p.tables e below (T49.setTop (mkF m 153 #[.val (.long q1), .second, .val (.int p2), .val (.int (Int32.ofNat fr)), .val (.int (Int32.ofNat le)), .val (.int (Int32.ofNat cc)), .val (.int (Int32.ofNat ex)), .val (.int (Int32.ofNat tn)), .val (.ref b15)] [])) _
    refine XS.aload X49.here hx rfl (hb hby at_153) rfl rfl ?_
    show Steps p.tables e below (T49.setTop (mkF m 155 #[.val (.long q1), .second, .val (.int p2), .val (.int (Int32.ofNat fr)), .val (.int (Int32.ofNat le)), .val (.int (Int32.ofNat cc)), .val (.int (Int32.ofNat ex)), .val (.int (Int32.ofNat tn)), .val (.ref b15)] [(.ref b15)])) _
    refine XS.iload X49.here hx rfl (hb hby at_155) rfl ?_
    show Steps p.tables e below (T49.setTop (mkF m 157 #[.val (.long q1), .second, .val (.int p2), .val (.int (Int32.ofNat fr)), .val (.int (Int32.ofNat le)), .val (.int (Int32.ofNat cc)), .val (.int (Int32.ofNat ex)), .val (.int (Int32.ofNat tn)), .val (.ref b15)] [(.int (Int32.ofNat cc)), (.ref b15)])) _
    refine XS.iconst X49.here hx rfl (hb hby at_157) ?_
    show Steps p.tables e below (T49.setTop (mkF m 158 #[.val (.long q1), .second, .val (.int p2), .val (.int (Int32.ofNat fr)), .val (.int (Int32.ofNat le)), .val (.int (Int32.ofNat cc)), .val (.int (Int32.ofNat ex)), .val (.int (Int32.ofNat tn)), .val (.ref b15)] [(.int (1 : Int32)), (.int (Int32.ofNat cc)), (.ref b15)])) _
    refine XS.iadd X49.here hx rfl (hb hby at_158) rfl ?_
    show Steps p.tables e below (T49.setTop (mkF m 159 #[.val (.long q1), .second, .val (.int p2), .val (.int (Int32.ofNat fr)), .val (.int (Int32.ofNat le)), .val (.int (Int32.ofNat cc)), .val (.int (Int32.ofNat ex)), .val (.int (Int32.ofNat tn)), .val (.ref b15)] [(.int ((Int32.ofNat cc) + (1 : Int32))), (.ref b15)])) _
    refine XS.bipush X49.here hx rfl (hb hby at_159) ?_
    exact kt)
  have hv51 : ((Int32.ofNat cc) + (1 : Int32)) = (Int32.ofNat (cc + 1)) := (inc_ofNat cc).symm
  rw [hv51] at pre50
  obtain ⟨clB, ArB, SzB, HfB⟩ := id FA
  obtain ⟨T52, h52, X52, e52, W52, st52⟩ := stB X49 hx hZ e49 ArB (j := (Int32.ofNat (cc + 1))) (within (c := cc + 1) rfl (by omega) (by omega)) (g := (mkF m 161 #[.val (.long q1), .second, .val (.int p2), .val (.int (Int32.ofNat fr)), .val (.int (Int32.ofNat le)), .val (.int (Int32.ofNat cc)), .val (.int (Int32.ofNat ex)), .val (.int (Int32.ofNat tn)), .val (.ref b15)] [(.int (10 : Int32)), (.int (Int32.ofNat (cc + 1))), (.ref b15)])) rfl rfl (hb hby at_161)
  have N52 := Fr.snoc X52 N49 g_b15
  have Zs52 : n0 ≤ h52.size := Nat.le_trans Zs49 (Nat.le_of_eq W52.size.symm)
  have Kp52 : Keep h0 h52 [] := Kp49.wr W52 (Or.inr sz_b15)
  have WB : Wr h49 h52 b15 (cc + 1) (.int (10 : Int32)) := by have z := W52; rw [clamp_of (c := cc + 1) rfl (by omega)] at z; exact z
  have FB := own_A_set FA WB
  have pre53 : ∀ t, Steps p.tables e below (T52.setTop (mkF m 167 #[.val (.long q1), .second, .val (.int p2), .val (.int (Int32.ofNat fr)), .val (.int (Int32.ofNat le)), .val (.int (Int32.ofNat cc)), .val (.int (Int32.ofNat ex)), .val (.int (Int32.ofNat tn)), .val (.ref b15)] [(.int (Int32.ofNat tn)), (.int (Int32.ofNat fr)), (.ref b15)])) t → Steps p.tables e below _ t := fun t kt => pre50 t (by
    show Steps p.tables e below (T49.setTop (mkF m 161 #[.val (.long q1), .second, .val (.int p2), .val (.int (Int32.ofNat fr)), .val (.int (Int32.ofNat le)), .val (.int (Int32.ofNat cc)), .val (.int (Int32.ofNat ex)), .val (.int (Int32.ofNat tn)), .val (.ref b15)] [(.int (10 : Int32)), (.int (Int32.ofNat (cc + 1))), (.ref b15)])) _
    refine st52 _ ?_
    show Steps p.tables e below (T52.setTop (mkF m 162 #[.val (.long q1), .second, .val (.int p2), .val (.int (Int32.ofNat fr)), .val (.int (Int32.ofNat le)), .val (.int (Int32.ofNat cc)), .val (.int (Int32.ofNat ex)), .val (.int (Int32.ofNat tn)), .val (.ref b15)] [])) _
    refine XS.aload X52.here hx rfl (hb hby at_162) rfl rfl ?_
    show Steps p.tables e below (T52.setTop (mkF m 164 #[.val (.long q1), .second, .val (.int p2), .val (.int (Int32.ofNat fr)), .val (.int (Int32.ofNat le)), .val (.int (Int32.ofNat cc)), .val (.int (Int32.ofNat ex)), .val (.int (Int32.ofNat tn)), .val (.ref b15)] [(.ref b15)])) _
    refine XS.iloadN X52.here hx rfl (hb hby at_164) rfl ?_
    show Steps p.tables e below (T52.setTop (mkF m 165 #[.val (.long q1), .second, .val (.int p2), .val (.int (Int32.ofNat fr)), .val (.int (Int32.ofNat le)), .val (.int (Int32.ofNat cc)), .val (.int (Int32.ofNat ex)), .val (.int (Int32.ofNat tn)), .val (.ref b15)] [(.int (Int32.ofNat fr)), (.ref b15)])) _
    refine XS.iload X52.here hx rfl (hb hby at_165) rfl ?_
    exact kt)
  have wS : ∀ a ∈ Bundle.stringAtoms, a.before a0 Z = true := fun d hd => by
    simp only [Bundle.stringAtoms, List.mem_cons, List.not_mem_nil, or_false] at hd
    rcases hd with rfl | rfl | rfl | rfl | rfl | rfl | rfl
    · exact (hw _ (List.mem_of_getElem? (i := 6) rfl))
    · exact (hw _ (List.mem_of_getElem? (i := 7) rfl))
    · exact (hw _ (List.mem_of_getElem? (i := 0) rfl))
    · exact (hw _ (List.mem_of_getElem? (i := 8) rfl))
    · exact (hw _ (List.mem_of_getElem? (i := 9) rfl))
    · exact (hw _ (List.mem_of_getElem? (i := 10) rfl))
    · exact (hw _ (List.mem_of_getElem? (i := 11) rfl))
  obtain ⟨as54, T54, h54, ks54, X54, e54, E54, Si54, hk54, hz54, how54, st54⟩ := ldcS (s := s) (vm0 := s.vm) (show Stand p l e room_1 (s.setVm s.vm) m #[(.long q1), (.int p2)] below meth c T52 _ _ _ from X52) hx hZ hown (hw _ (List.mem_of_getElem? (i := 5) rfl)) wS e52 (State.WarmedH.since (State.WarmedH.refl s) 0) (Nat.zero_le _) (g := (mkF m 167 #[.val (.long q1), .second, .val (.int p2), .val (.int (Int32.ofNat fr)), .val (.int (Int32.ofNat le)), .val (.int (Int32.ofNat cc)), .val (.int (Int32.ofNat ex)), .val (.int (Int32.ofNat tn)), .val (.ref b15)] [(.int (Int32.ofNat tn)), (.int (Int32.ofNat fr)), (.ref b15)])) rfl (hb hby at_167) (n := 32) (by decide) (by decide) (by decide) (by decide)
  have Zs54 : n0 ≤ h54.size := Nat.le_trans Zs52 E54.1
  have Kp54 : Keep h0 h54 [] := Kp52.ext E54
  obtain ⟨clC, ArC, SzC, HfC⟩ := own_A_ext FB E54
  have c1 : ∀ j, fr ≤ j → j < cc + 1 → ¬ (upd (upd f8 cc 13) (cc + 1) 10 j = (10 : Int32)) := by
    intro j h1 h2
    rw [own_upd_ne _ _ (by omega)]
    by_cases h3 : j = cc
    · rw [h3, own_upd_same]; decide
    · rw [own_upd_ne _ _ h3, G8 j (by omega)]; exact own_put_ne _ j fr cc h1 (by omega) (by omega)
  have c2 : upd (upd f8 cc 13) (cc + 1) 10 cc = (13 : Int32) := by rw [own_upd_ne _ _ (by omega), own_upd_same]
  have c3 : upd (upd f8 cc 13) (cc + 1) 10 (cc + 1) = (10 : Int32) := own_upd_same _ _ _
  have pre55 : ∀ t, Steps p.tables e below (T54.setTop (mkF m 169 #[.val (.long q1), .second, .val (.int p2), .val (.int (Int32.ofNat fr)), .val (.int (Int32.ofNat le)), .val (.int (Int32.ofNat cc)), .val (.int (Int32.ofNat ex)), .val (.int (Int32.ofNat tn)), .val (.ref b15)] [(.ref as54), (.int (Int32.ofNat tn)), (.int (Int32.ofNat fr)), (.ref b15)])) t → Steps p.tables e below _ t := fun t kt => pre53 t (by
    show Steps p.tables e below (T52.setTop (mkF m 167 #[.val (.long q1), .second, .val (.int p2), .val (.int (Int32.ofNat fr)), .val (.int (Int32.ofNat le)), .val (.int (Int32.ofNat cc)), .val (.int (Int32.ofNat ex)), .val (.int (Int32.ofNat tn)), .val (.ref b15)] [(.int (Int32.ofNat tn)), (.int (Int32.ofNat fr)), (.ref b15)])) _
    refine st54 _ ?_
    exact kt)
  obtain ⟨_, _, ⟨T56, L56, k56, n56⟩, -, X56, ⟨Lc56, hQ56, l56, y56, z56⟩, st56⟩ := Jvm.LawKit.callS X54 hx (y := (⟨"com/example/firm_warden/firmwarden/HeaderFields", "lineEnd", "([BIILjava/lang/String;)I"⟩ : MethodName)) how54 (mvT hz54 (hw _ (List.mem_of_getElem? (i := 12) rfl))) (mvT hz54 (hw _ (List.mem_of_getElem? (i := 13) rfl))) (mvT hz54 (hw _ (List.mem_of_getElem? (i := 14) rfl))) (mvT hz54 (hw _ (List.mem_of_getElem? (i := 15) rfl))) (by decide) (backOf (W := 0) (rm2 l Z a0 hw [] b15 as54 clC (upd (upd f8 cc 13) (cc + 1) 10) fr cc tn h54 n0 Zs54 ArC SzC HfC (by omega) (by omega) (by omega) c1 c2 c3) hz54 (hw _ (List.mem_of_getElem? (i := 15) rfl)) (hw _ (List.mem_of_getElem? (i := 14) rfl)) (by decide) (by decide)) (g := (mkF m 169 #[.val (.long q1), .second, .val (.int p2), .val (.int (Int32.ofNat fr)), .val (.int (Int32.ofNat le)), .val (.int (Int32.ofNat cc)), .val (.int (Int32.ofNat ex)), .val (.int (Int32.ofNat tn)), .val (.ref b15)] [(.ref as54), (.int (Int32.ofNat tn)), (.int (Int32.ofNat fr)), (.ref b15)])) rfl (by rw [hml]; rfl) (argsL := [(.ref b15), (.int (Int32.ofNat fr)), (.int (Int32.ofNat tn)), (.ref as54)]) (rest := []) (lenOf pd_1 rfl) rfl (by show 2 * 0 + _ ≤ _; exact Nat.le_of_eq rfl) (hb hby at_169) (fun _ _ => ⟨rfl, e54, (by decide : 3 + 0 ≤ _), (by decide : 44 + 0 ≤ _)⟩)
  dsimp only [Pt.U, Pt.locs, Pt.cells, Pt.slots] at X56 l56 y56 z56 st56 hQ56
  subst l56 y56 z56
  obtain ⟨rfl, N56q, e56⟩ := hQ56
  have N56 := Fr.app N52 N56q
  obtain ⟨fs, hr, hrun, hended, -, hW, hI, hsame⟩ := X56.leaveW Si54 (by rw [e56]; exact hk54) (v := some (.int (1 : Int32))) (fun h => by rw [Bd.returns] at h; cases h)
  refine ⟨_, _, pre55 _ ?_, hrun, hended, _, _, rfl, ?_, ⟨_, rfl⟩, hW, hI, hsame.mono (by decide) (by decide)⟩
  · show Steps p.tables e below (T54.setTop (mkF m 169 #[.val (.long q1), .second, .val (.int p2), .val (.int (Int32.ofNat fr)), .val (.int (Int32.ofNat le)), .val (.int (Int32.ofNat cc)), .val (.int (Int32.ofNat ex)), .val (.int (Int32.ofNat tn)), .val (.ref b15)] [(.ref as54), (.int (Int32.ofNat tn)), (.int (Int32.ofNat fr)), (.ref b15)])) _
    refine st56 _ ?_
    show Steps p.tables e below (T56.setTop (mkF m 172 #[.val (.long q1), .second, .val (.int p2), .val (.int (Int32.ofNat fr)), .val (.int (Int32.ofNat le)), .val (.int (Int32.ofNat cc)), .val (.int (Int32.ofNat ex)), .val (.int (Int32.ofNat tn)), .val (.ref b15)] [(.int (Int32.ofNat cc))])) _
    refine XS.iload X56.here hx rfl (hb hby at_172) rfl ?_
    have hc174 : (Int32.ofNat cc) = (Int32.ofNat cc) := rfl
    show Steps p.tables e below (T56.setTop (mkF m 174 #[.val (.long q1), .second, .val (.int p2), .val (.int (Int32.ofNat fr)), .val (.int (Int32.ofNat le)), .val (.int (Int32.ofNat cc)), .val (.int (Int32.ofNat ex)), .val (.int (Int32.ofNat tn)), .val (.ref b15)] [(.int (Int32.ofNat cc)), (.int (Int32.ofNat cc))])) _
    refine XS.icmpNo X56.here hx rfl (hb hby at_174) rfl (teq hc174).2 ?_
    show Steps p.tables e below (T56.setTop (mkF m 177 #[.val (.long q1), .second, .val (.int p2), .val (.int (Int32.ofNat fr)), .val (.int (Int32.ofNat le)), .val (.int (Int32.ofNat cc)), .val (.int (Int32.ofNat ex)), .val (.int (Int32.ofNat tn)), .val (.ref b15)] [])) _
    refine XS.iconst X56.here hx rfl (hb hby at_177) ?_
    show Steps p.tables e below (T56.setTop (mkF m 178 #[.val (.long q1), .second, .val (.int p2), .val (.int (Int32.ofNat fr)), .val (.int (Int32.ofNat le)), .val (.int (Int32.ofNat cc)), .val (.int (Int32.ofNat ex)), .val (.int (Int32.ofNat tn)), .val (.ref b15)] [(.int (1 : Int32))])) _
    refine XS.goto X56.here hx rfl (pc0 := 178) (pc' := 182) rfl (hb hby at_178) (by decide) (by decide) ?_
    show Steps p.tables e below (T56.setTop (mkF m 182 #[.val (.long q1), .second, .val (.int p2), .val (.int (Int32.ofNat fr)), .val (.int (Int32.ofNat le)), .val (.int (Int32.ofNat cc)), .val (.int (Int32.ofNat ex)), .val (.int (Int32.ofNat tn)), .val (.ref b15)] [(.int (1 : Int32))])) _
    exact retN X56 hx (t := .boolean) Bd.returns (by simp) (hb hby at_182) hr
  · exact ⟨rfl, N56⟩
set_option maxRecDepth 65536 in
set_option maxHeartbeats 40000000 in
theorem comes_1 {Post : Tables → Env → Array Value → State → Outcome → State → Prop} (hpost : ∀ tb e args s v u, (limb_1_1.after args s (.returned v) u = true ∧ limb_1_2.after args s (.returned v) u = true ∧ True) → Jvm.D.FramedW s (.returned v) u (Jvm.fieldLocs frame_1_writes args s ++ Jvm.arrayLocs frame_1_arrays args s ++ Jvm.staticLocs frame_1_statics s) 16 1152 → Post tb e args s (.returned v) u) :
    ArmFor flags0 classFile x code maxLocals ret World_1 tables_1 room_1 Calls_1 rest_1 Pre_1 Post := by
  intro l hfl _ _ p e ha hc hk s m args below hf hA hF happ hP
  obtain ⟨hcalls, hrest, hpre⟩ := hP
  obtain ⟨-, -, -, hnamed, -, -, -, hat⟩ := (Spec.applies_iff hf).mp happ
  obtain ⟨hg, hn⟩ := and_e (Cond.before_iff.mp (show (Jvm.Cond.and given_1 narrow_1).before args s = true from hpre))
  obtain ⟨gc, gr0⟩ := and_e hg
  obtain ⟨ga0, gr1⟩ := and_e gr0
  obtain ⟨w0, w1, rfl⟩ : ∃ w0 w1 : Value, args = #[w0, w1] := by
    have hs : args.size = 2 := by simpa [Cond.value, given_1] using gc
    obtain ⟨L⟩ := args
    match L, hs with
    | [w0, w1], _ => exact ⟨w0, w1, rfl⟩
  have hw := fun d (hd : d ∈ tables_1) => atoms_spec (ws := Jvm.Cond.code x code maxLocals ret :: tables_1) hat d (List.mem_cons_of_mem _ hd)
  have hfit : Fit s := fun {y c} hc i hi => by
    obtain ⟨ha, rfl⟩ := Array.getElem?_eq_some_iff.mp hc
    have q := List.all_eq_true.mp ((Array.all_eq_true_iff_forall_mem.mp hF) _ (Array.getElem_mem ha)) i (List.mem_range.mpr hi)
    simpa [Array.getElem?_eq_getElem hi] using q
  obtain ⟨i0, ei0⟩ := isL_v ga0
  obtain rfl : w0 = (.long i0) := Option.some.inj ei0
  obtain ⟨i1, ei1⟩ := is_v gr1
  obtain rfl : w1 = (.int i1) := Option.some.inj ei1
  obtain ⟨n, o, h1, h2, h3, _, L, rfl, ⟨rfl, N⟩, hq⟩ := rm0 l s _ hw tables_1 i0 i1 s.heap s.heap.size (Nat.le_refl _) p e ha hc hk s m _ below hf ((Spec.applies_iff_loose hf).mp happ).1 ⟨rfl, State.Warmed39.refl s, rfl⟩ trivial
  refine ⟨n, _, h1, h2, h3, hpost _ _ _ _ _ _ ⟨Cond.after_iff.mpr rfl, Cond.after_iff.mpr (eq_i res_at (Term.int_eval (1)) rfl), trivial⟩ ⟨hq.1, hq.2.1, hq.2.2.1, (hq.2.2.2.sift fun y hy => Or.inr (N y hy)).mono (by decide) (by decide)⟩⟩
theorem main_1_1 : Claimed_1_1 := comes_1 fun _ _ _ _ _ _ h hF => ⟨h.1, hF⟩
theorem main_1_2 : Claimed_1_2 := comes_1 fun _ _ _ _ _ _ h hF => ⟨h.2.1, hF⟩
end Jvm.Pilot.@@N@@
namespace Jvm.Pilot.@@N@@
open Jvm Jvm.ClassFile Sem Op Lib Jvm.Free Jvm.Stand Jvm.Pilot.@@N@@.Jvm.D
/-! MADE BY PROGRAM (witnessworld.py) out of the Statement's table words and the real class files: 14 classes; the members and pool entries that the words name. The judged class is class 1, her method 1. -/
namespace start1
open Jvm.ClassFile
def u (s : String) : CpInfo := .utf8 (stringToUtf16 s)
/-- a pool by its gaps: so many unusable entries, then the entry; so many at the end -/
def gap : Nat → List CpInfo → List CpInfo
  | 0, r => r
  | n + 1, r => .unusable :: gap n r
def poolList (es : List (Nat × CpInfo)) (last : Nat) : List CpInfo := es.foldr (fun e r => gap e.1 (e.2 :: r)) (gap last [])
def pool (es : List (Nat × CpInfo)) (last : Nat) : Array CpInfo := ⟨poolList es last⟩
def fileOf (pool : Array CpInfo) (this : Nat) (attrs : Array Attribute := #[]) (ms : Array MethodInfo := #[]) (fl : Nat := 33) (sup : Nat := 0) (ifs : Array Nat := #[]) (fds : Array FieldInfo := #[]) : ClassFile where
  minorVersion := 0
  majorVersion := 65
  constantPool := pool
  accessFlags := fl
  thisClass := this
  superClass := sup
  interfaces := ifs
  fields := fds
  methods := ms
  attributes := attrs
def plain (name : String) (sup : Option ClassId) : Class where
  name := name
  kind := .ordinary
  loader := none
  accessFlags := 33
  super := sup
  interfaces := #[]
  cf := none
  fields := #[]
  methods := #[]
  instanceTypes := #[]
  staticTypes := #[]
  resolved := #[]
  callSites := []
  init := .initialized
  statics := none
  mirror := none

def pool0 : Array CpInfo := pool [(5, u "<init>"), (0, u "()V"), (1, .class_ 10), (1, u "java/lang/Object")] 113

def k0m0 : Method := { name := "<init>", desc := "()V", sig := { parameters := [], returnType := none }, accessFlags := 1, code := none }
/-- java/lang/Object -/
def k0 : Class := { plain "java/lang/Object" none with
  accessFlags := 33
  interfaces := #[]
  cf := some (fileOf pool0 8 #[] #[{ accessFlags := 1, nameIndex := 5, descriptorIndex := 6, attributes := #[] }] 33 0 #[] #[])
  fields := #[]
  methods := #[k0m0]
  instanceTypes := #[]
  staticTypes := #[]
  resolved := Array.replicate 124 none
  statics := none }

def pool1 : Array CpInfo := pool [(2, .class_ 4), (1, u "java/lang/Object"), (0, u "<init>"), (0, u "()V"), (0, .methodref 8 9), (0, .class_ 10), (0, .nameAndType 11 12), (0, u "com/example/firm_warden/firmwarden/HeaderFieldsLineEndPinLaw"), (0, u "put"), (0, u "(JIII)B"), (0, .string 14), (0, u "the head"), (0, .methodref 16 17), (0, .class_ 18), (0, .nameAndType 19 20), (0, u "com/example/firm_warden/firmwarden/HeaderFields"), (0, u "lineEnd"), (0, u "([BIILjava/lang/String;)I"), (2, u "law"), (0, u "(JI)Z")] 8

def k1m0 : Method := { name := "<init>", desc := "()V", sig := { parameters := [], returnType := none }, accessFlags := 1, code := none }
def k1c1 : Code := { maxStack := 7, maxLocals := 9, code := code, exceptionTable := #[], attributes := #[] }
def k1m1 : Method := { name := "law", desc := "(JI)Z", sig := { parameters := [.long, .int], returnType := some .boolean }, accessFlags := 9, code := some k1c1 }
def k1c2 : Code := { maxStack := 4, maxLocals := 6, code := method_3_code, exceptionTable := #[], attributes := #[] }
def k1m2 : Method := { name := "put", desc := "(JIII)B", sig := { parameters := [.long, .int, .int, .int], returnType := some .byte }, accessFlags := 10, code := some k1c2 }
/-- com/example/firm_warden/firmwarden/HeaderFieldsLineEndPinLaw -/
def k1 : Class := { plain "com/example/firm_warden/firmwarden/HeaderFieldsLineEndPinLaw" (some 0) with
  accessFlags := 49
  interfaces := #[]
  cf := some (fileOf pool1 8 #[] #[{ accessFlags := 1, nameIndex := 5, descriptorIndex := 6, attributes := #[] }, { accessFlags := 9, nameIndex := 23, descriptorIndex := 24, attributes := #[] }, { accessFlags := 10, nameIndex := 11, descriptorIndex := 12, attributes := #[] }] 49 2 #[] #[])
  fields := #[]
  methods := #[k1m0, k1m1, k1m2]
  instanceTypes := #[]
  staticTypes := #[]
  resolved := Array.replicate 33 none
  statics := none }

def pool2 : Array CpInfo := pool [(1, .class_ 2), (0, u "java/io/Serializable"), (0, .class_ 4), (0, u "java/lang/Object")] 2

/-- java/io/Serializable -/
def k2 : Class := { plain "java/io/Serializable" (some 0) with
  accessFlags := 1537
  interfaces := #[]
  cf := some (fileOf pool2 1 #[] #[] 1537 3 #[] #[])
  fields := #[]
  methods := #[]
  instanceTypes := #[]
  staticTypes := #[]
  resolved := Array.replicate 7 none
  statics := none }

def pool3 : Array CpInfo := pool [(1, .class_ 2), (0, u "java/lang/Comparable"), (0, .class_ 4), (0, u "java/lang/Object")] 7

/-- java/lang/Comparable -/
def k3 : Class := { plain "java/lang/Comparable" (some 0) with
  accessFlags := 1537
  interfaces := #[]
  cf := some (fileOf pool3 1 #[] #[] 1537 3 #[] #[])
  fields := #[]
  methods := #[]
  instanceTypes := #[]
  staticTypes := #[]
  resolved := Array.replicate 12 none
  statics := none }

def pool4 : Array CpInfo := pool [(2, .class_ 4), (1, u "java/lang/CharSequence"), (42, .class_ 48), (0, u "java/lang/CharSequence$1CodePointIterator"), (10, .class_ 60), (0, u "java/lang/CharSequence$1CharIterator"), (5, .class_ 67), (0, u "java/lang/Object")] 63

/-- java/lang/CharSequence -/
def k4 : Class := { plain "java/lang/CharSequence" (some 0) with
  accessFlags := 1537
  interfaces := #[]
  cf := some (fileOf pool4 2 #[.nestMembers #[47, 59]] #[] 1537 66 #[] #[])
  fields := #[]
  methods := #[]
  instanceTypes := #[]
  staticTypes := #[]
  resolved := Array.replicate 131 none
  statics := none }

def pool5 : Array CpInfo := pool [(1, .class_ 2), (0, u "java/lang/constant/Constable"), (0, .class_ 4), (0, u "java/lang/Object")] 6

/-- java/lang/constant/Constable -/
def k5 : Class := { plain "java/lang/constant/Constable" (some 0) with
  accessFlags := 1537
  interfaces := #[]
  cf := some (fileOf pool5 1 #[] #[] 1537 3 #[] #[])
  fields := #[]
  methods := #[]
  instanceTypes := #[]
  staticTypes := #[]
  resolved := Array.replicate 11 none
  statics := none }

def pool6 : Array CpInfo := pool [(1, .class_ 2), (0, u "java/lang/constant/ConstantDesc"), (0, .class_ 4), (0, u "java/lang/Object")] 32

/-- java/lang/constant/ConstantDesc -/
def k6 : Class := { plain "java/lang/constant/ConstantDesc" (some 0) with
  accessFlags := 1537
  interfaces := #[]
  cf := some (fileOf pool6 1 #[] #[] 1537 3 #[] #[])
  fields := #[]
  methods := #[]
  instanceTypes := #[]
  staticTypes := #[]
  resolved := Array.replicate 37 none
  statics := none }

def pool7 : Array CpInfo := pool [(2, .class_ 4), (1, u "java/lang/Object"), (0, u "<init>"), (0, u "()V"), (3, .class_ 12), (1, u "java/lang/String"), (0, u "value"), (0, u "[B"), (2, u "coder"), (0, u "B"), (2, u "hash"), (0, u "I"), (2, u "hashIsZero"), (0, u "Z"), (13, u "COMPACT_STRINGS"), (534, .class_ 576), (0, u "java/lang/CharSequence"), (22, u "CASE_INSENSITIVE_ORDER"), (0, u "Ljava/util/Comparator;"), (500, u "serialPersistentFields"), (0, u "[Ljava/io/ObjectStreamField;"), (0, .class_ 1104), (0, u "java/lang/String$CaseInsensitiveComparator"), (1, .class_ 1107), (0, u "java/io/Serializable"), (0, .class_ 1109), (0, u "java/lang/Comparable"), (0, .class_ 1111), (0, u "java/lang/constant/Constable"), (0, .class_ 1113), (0, u "java/lang/constant/ConstantDesc"), (2, u "serialVersionUID"), (0, u "J"), (3, u "REPL"), (0, u "C"), (2, u "LATIN1"), (1, u "UTF16")] 323

def k7m0 : Method := { name := "<init>", desc := "()V", sig := { parameters := [], returnType := none }, accessFlags := 1, code := none }
/-- java/lang/String -/
def k7 : Class := { plain "java/lang/String" (some 0) with
  accessFlags := 49
  interfaces := #[2, 3, 4, 5, 6]
  cf := some (fileOf pool7 10 #[.nestMembers #[1103]] #[{ accessFlags := 1, nameIndex := 5, descriptorIndex := 6, attributes := #[] }] 49 2 #[1106, 1108, 575, 1110, 1112] #[{ accessFlags := 18, nameIndex := 13, descriptorIndex := 14, attributes := #[] }, { accessFlags := 18, nameIndex := 17, descriptorIndex := 18, attributes := #[] }, { accessFlags := 2, nameIndex := 21, descriptorIndex := 22, attributes := #[] }, { accessFlags := 2, nameIndex := 25, descriptorIndex := 26, attributes := #[] }, { accessFlags := 26, nameIndex := 1116, descriptorIndex := 1117, attributes := #[] }, { accessFlags := 24, nameIndex := 40, descriptorIndex := 26, attributes := #[] }, { accessFlags := 26, nameIndex := 1101, descriptorIndex := 1102, attributes := #[] }, { accessFlags := 26, nameIndex := 1121, descriptorIndex := 1122, attributes := #[] }, { accessFlags := 25, nameIndex := 599, descriptorIndex := 600, attributes := #[] }, { accessFlags := 24, nameIndex := 1125, descriptorIndex := 18, attributes := #[] }, { accessFlags := 24, nameIndex := 1127, descriptorIndex := 18, attributes := #[] }])
  fields := #[{ name := "value", type := (.array .byte), accessFlags := 18, slot := 0, constantValue := 0 }, { name := "coder", type := .byte, accessFlags := 18, slot := 1, constantValue := 0 }, { name := "hash", type := .int, accessFlags := 2, slot := 2, constantValue := 0 }, { name := "hashIsZero", type := .boolean, accessFlags := 2, slot := 3, constantValue := 0 }, { name := "serialVersionUID", type := .long, accessFlags := 26, slot := 0, constantValue := 0 }, { name := "COMPACT_STRINGS", type := .boolean, accessFlags := 24, slot := 1, constantValue := 0 }, { name := "serialPersistentFields", type := (.array (.object "java/io/ObjectStreamField")), accessFlags := 26, slot := 2, constantValue := 0 }, { name := "REPL", type := .char, accessFlags := 26, slot := 3, constantValue := 0 }, { name := "CASE_INSENSITIVE_ORDER", type := (.object "java/util/Comparator"), accessFlags := 25, slot := 4, constantValue := 0 }, { name := "LATIN1", type := .byte, accessFlags := 24, slot := 5, constantValue := 0 }, { name := "UTF16", type := .byte, accessFlags := 24, slot := 6, constantValue := 0 }]
  methods := #[k7m0]
  instanceTypes := #[(.array .byte), .byte, .int, .boolean]
  staticTypes := #[.long, .boolean, (.array (.object "java/io/ObjectStreamField")), .char, (.object "java/util/Comparator"), .byte, .byte]
  resolved := Array.replicate 1451 none
  statics := none }

def pool8 : Array CpInfo := pool [(2, .class_ 4), (1, u "java/lang/Object"), (0, u "<init>"), (0, u "()V"), (0, .class_ 8), (0, u "com/example/firm_warden/firmwarden/HeaderFields"), (4, u "names"), (0, u "[Ljava/lang/String;"), (2, u "values"), (2, u "count"), (0, u "I"), (23, u "lineEnd"), (0, u "([BIILjava/lang/String;)I"), (17, u "TOKEN"), (0, u "[Z"), (60, u "MOST_FIELDS"), (2, u "FIRST_ROOM")] 38

def k8m0 : Method := { name := "<init>", desc := "()V", sig := { parameters := [], returnType := none }, accessFlags := 1, code := none }
def k8c1 : Code := { maxStack := 3, maxLocals := 5, code := prog_7_method_6_code, exceptionTable := #[], attributes := #[] }
def k8m1 : Method := { name := "lineEnd", desc := "([BIILjava/lang/String;)I", sig := { parameters := [(.array .byte), .int, .int, (.object "java/lang/String")], returnType := some .int }, accessFlags := 9, code := some k8c1 }
/-- com/example/firm_warden/firmwarden/HeaderFields -/
def k8 : Class := { plain "com/example/firm_warden/firmwarden/HeaderFields" (some 0) with
  accessFlags := 33
  interfaces := #[]
  cf := some (fileOf pool8 7 #[] #[{ accessFlags := 1, nameIndex := 5, descriptorIndex := 6, attributes := #[] }, { accessFlags := 9, nameIndex := 45, descriptorIndex := 46, attributes := #[] }] 33 2 #[] #[{ accessFlags := 24, nameIndex := 126, descriptorIndex := 21, attributes := #[] }, { accessFlags := 26, nameIndex := 64, descriptorIndex := 65, attributes := #[] }, { accessFlags := 26, nameIndex := 129, descriptorIndex := 21, attributes := #[] }, { accessFlags := 2, nameIndex := 13, descriptorIndex := 14, attributes := #[] }, { accessFlags := 2, nameIndex := 17, descriptorIndex := 14, attributes := #[] }, { accessFlags := 2, nameIndex := 20, descriptorIndex := 21, attributes := #[] }])
  fields := #[{ name := "MOST_FIELDS", type := .int, accessFlags := 24, slot := 0, constantValue := 0 }, { name := "TOKEN", type := (.array .boolean), accessFlags := 26, slot := 1, constantValue := 0 }, { name := "FIRST_ROOM", type := .int, accessFlags := 26, slot := 2, constantValue := 0 }, { name := "names", type := (.array (.object "java/lang/String")), accessFlags := 2, slot := 0, constantValue := 0 }, { name := "values", type := (.array (.object "java/lang/String")), accessFlags := 2, slot := 1, constantValue := 0 }, { name := "count", type := .int, accessFlags := 2, slot := 2, constantValue := 0 }]
  methods := #[k8m0, k8m1]
  instanceTypes := #[(.array (.object "java/lang/String")), (.array (.object "java/lang/String")), .int]
  staticTypes := #[.int, (.array .boolean), .int]
  resolved := Array.replicate 168 none
  statics := none }

def pool9 : Array CpInfo := pool [(1, u "java/lang/Cloneable"), (0, .class_ 1), (0, u "java/lang/Object"), (0, .class_ 3)] 3

/-- java/lang/Cloneable -/
def k9 : Class := { plain "java/lang/Cloneable" (some 0) with
  accessFlags := 1537
  interfaces := #[]
  cf := some (fileOf pool9 2 #[] #[] 1537 4 #[] #[])
  fields := #[]
  methods := #[]
  instanceTypes := #[]
  staticTypes := #[]
  resolved := Array.replicate 8 none
  statics := none }

/-- the primitive byte -/
def k10 : Class := { plain "byte" none with kind := .primitive 'B', accessFlags := 0x411 }
/-- [B -/
def k11 : Class := { plain "[B" (some 0) with kind := .array 10 .byte, interfaces := #[9, 2], accessFlags := 1041 }

/-- the primitive int -/
def k12 : Class := { plain "int" none with kind := .primitive 'I', accessFlags := 0x411 }
/-- [I -/
def k13 : Class := { plain "[I" (some 0) with kind := .array 12 .int, interfaces := #[9, 2], accessFlags := 1041 }

def heap : Heap := #[]
def classes : Array Class := #[k0, k1, k2, k3, k4, k5, k6, k7, k8, k9, k10, k11, k12, k13]
def interned : List (Array UInt16 × Addr) := []
def slotsUsed : Nat := 0
def theMethod : MethodId := ⟨1, 1⟩
def args0 : Array Value := #[.long 5, .int 3]
def aboutOver (below : List Frame) : State where
  vm := { classes := classes, interned := interned.toArray }
  heap := heap
  slotsUsed := slotsUsed
  threads := #[{ frames := .invoking theMethod args0 :: below }]
def below0 : List Frame := [.native { method := ⟨0, 0⟩, args := #[] }]
def about1 : State := aboutOver below0
def p0 : Program := .bare "" "" ""
def e0 : Env := launch0.env 0 0 0
theorem w_frames : about1.frames = Frame.invoking theMethod args0 :: below0 := rfl
set_option maxRecDepth 65536 in
theorem w_args : argsFit about1.vm theMethod args0 = true := by decide +kernel
set_option maxRecDepth 65536 in
theorem w_heap : heapFits about1 = true := by decide +kernel
set_option maxRecDepth 65536 in
theorem w_runnable : about1.curStatus? = some .runnable := by decide +kernel
set_option maxRecDepth 65536 in
theorem w_alone : about1.alone = true := by decide +kernel
set_option maxRecDepth 65536 in
theorem w_named : about1.methodNamed? x = some theMethod := by decide +kernel
set_option maxRecDepth 65536 in
theorem w_hears : about1.hears theMethod below0 = true := by decide +kernel
set_option maxRecDepth 65536 in
theorem w_ripe : about1.ripe theMethod args0 below0 = true := by decide +kernel
theorem w_running : about1.status = .running := rfl
set_option maxRecDepth 65536 in
theorem w_room : about1.hasRoom e0.platform room_1 = true :=
  launch0.hasRoom_least _ room_1 (by decide +kernel) (by decide +kernel) (by decide +kernel) (by decide +kernel) (by decide +kernel) (by decide +kernel)
theorem allAtoms_all (ts : List Jvm.Cond) (a : Array Jvm.Value) (st : Jvm.State) : (allAtoms ts).before a st = ts.all (fun c => c.before a st) := by
  induction ts with
  | nil => rfl
  | cons c t ih =>
    show (Jvm.Cond.and c (allAtoms t)).before a st = _
    rw [Jvm.Cond.before_and, ih, List.all_cons]
def words1 : List Jvm.Cond := Jvm.Cond.code x code maxLocals ret :: tables_1
/-- a 'code' word, met by the world's own term for the bytes: nothing is compared byte by byte -/
theorem code_word {y : MethodName} {bytes : ByteArray} {mx : Nat} {rt : Option FieldType} {a : Array Value} {s : State} {m : MethodId} {meth : Method} {c : Code} (h1 : s.methodNamed? y = some m) (h2 : s.vm.method? m = some meth) (h3 : meth.code = some c) (h4 : c.code = bytes)
    (h5 : (c.maxLocals == mx && c.exceptionTable.isEmpty && decide (c.maxStack ≤ mostOperands) && decide (meth.sig.returnType = rt) && !meth.locks && decide (parseMethodDescriptor y.desc = some meth.sig)) = true) : (Jvm.Cond.code y bytes mx rt).before a s = true := by
  simp only [Bool.and_eq_true, beq_iff_eq, Bool.not_eq_true', decide_eq_true_eq] at h5
  obtain ⟨⟨⟨⟨⟨g1, g2⟩, g3⟩, g4⟩, g5⟩, g6⟩ := h5
  simp [Cond.before, Cond.holds, Cond.value, h1, h2, h3, h4, g1, g2, g3, g4, g5, g6]
def isCode : Jvm.Cond → Bool
  | .code _ _ _ _ => true
  | _ => false
theorem all_split {L : List Jvm.Cond} {P : Jvm.Cond → Bool} (h1 : L.all (fun c => isCode c || P c) = true) (h2 : ∀ c ∈ L.filter isCode, P c = true) : L.all P = true := by
  refine List.all_eq_true.mpr fun c hc => ?_
  have h := List.all_eq_true.mp h1 c hc
  rcases Bool.eq_false_or_eq_true (isCode c) with hi | hi
  · exact h2 c (List.mem_filter.mpr ⟨hc, hi⟩)
  · simpa [hi] using h
set_option maxRecDepth 65536 in
theorem w_c0 : (Jvm.Cond.code x code maxLocals ret).before args0 about1 = true := code_word (m := ⟨1, 1⟩) (meth := k1m1) (c := k1c1) (by decide +kernel) rfl rfl rfl (by decide +kernel)
set_option maxRecDepth 65536 in
theorem w_c1 : (Jvm.Cond.code ({ cls := "com/example/firm_warden/firmwarden/HeaderFieldsLineEndPinLaw", name := "put", desc := "(JIII)B" } : Jvm.MethodName) method_3_code (6 : Nat) (Option.some Jvm.ClassFile.FieldType.byte)).before args0 about1 = true := code_word (m := ⟨1, 2⟩) (meth := k1m2) (c := k1c2) (by decide +kernel) rfl rfl rfl (by decide +kernel)
set_option maxRecDepth 65536 in
theorem w_c2 : (Jvm.Cond.code ({ cls := "com/example/firm_warden/firmwarden/HeaderFields", name := "lineEnd", desc := "([BIILjava/lang/String;)I" } : Jvm.MethodName) prog_7_method_6_code (5 : Nat) (Option.some Jvm.ClassFile.FieldType.int)).before args0 about1 = true := code_word (m := ⟨8, 1⟩) (meth := k8m1) (c := k8c1) (by decide +kernel) rfl rfl rfl (by decide +kernel)
def codes1 : List Jvm.Cond := [Jvm.Cond.code x code maxLocals ret, Jvm.Cond.code ({ cls := "com/example/firm_warden/firmwarden/HeaderFieldsLineEndPinLaw", name := "put", desc := "(JIII)B" } : Jvm.MethodName) method_3_code (6 : Nat) (Option.some Jvm.ClassFile.FieldType.byte), Jvm.Cond.code ({ cls := "com/example/firm_warden/firmwarden/HeaderFields", name := "lineEnd", desc := "([BIILjava/lang/String;)I" } : Jvm.MethodName) prog_7_method_6_code (5 : Nat) (Option.some Jvm.ClassFile.FieldType.int)]
set_option maxRecDepth 65536 in
theorem codes_eq : words1.filter isCode = codes1 := rfl
theorem w_codes : ∀ c ∈ words1.filter isCode, c.before args0 about1 = true := by
  rw [codes_eq]
  intro c hc
  simp only [codes1, List.mem_cons, List.not_mem_nil, or_false] at hc
  rcases hc with rfl | rfl | rfl
  · exact w_c0
  · exact w_c1
  · exact w_c2
set_option maxRecDepth 65536 in
theorem w_t1 : words1.all (fun c => isCode c || c.before args0 about1) = true := by decide +kernel
theorem w_tables : (allAtoms (Jvm.Cond.code x code maxLocals ret :: tables_1)).before args0 about1 = true := by
  rw [allAtoms_all]
  show words1.all (fun c => c.before args0 about1) = true
  refine all_split ?_ w_codes
  rw [w_t1]
set_option maxRecDepth 65536 in
theorem w_case : (Jvm.Cond.and given_1 narrow_1).before args0 about1 = true := by decide +kernel
theorem w_applies : (headSpec (Jvm.Cond.code x code maxLocals ret :: tables_1) room_1).applies x e0.platform about1 = true :=
  (Spec.applies_iff w_frames).mpr ⟨w_running, w_runnable, w_alone, w_named, w_hears, w_ripe, w_room, w_tables⟩
theorem atStart : AtStart classFile x code maxLocals ret World_1 tables_1 room_1 Calls_1 rest_1 Pre_1 launch0 p0 e0 about1 theMethod args0 below0 :=
  ⟨lists_1, trivial, launch0.admits_env _ _ _, launch0.least_env, fairChoices_fair.cas, fairChoices_fair.clock, w_frames, w_args, w_heap, w_applies, trivial, trivial, w_case⟩
end start1
theorem witness_1 : WitnessClaimed_1 := ⟨start1.p0, start1.e0, start1.about1, start1.theMethod, start1.args0, start1.below0, start1.atStart⟩
end Jvm.Pilot.@@N@@
