import JvmDerived
import JvmDerived.Pilot.@@N@@Statement
import JvmDerived.Pilot.@@N@@Code
set_option linter.unusedVariables false
set_option linter.unusedSimpArgs false
@@BLOCK:NumsL.lean.txt@@
namespace Jvm.RoadKit
open Sem ClassFile Op Lib Jvm.Stand Jvm.Free Jvm.LawKit
section New
variable {p : Program} {l : Launch} {e : Env} {R : Room} {s : State} {m : MethodId} {args : Array Value} {below : List Frame} {meth : Method} {c : Code} {T : State} {locs : List Loc} {cells slots : Nat}
theorem retI (X : Stand p l e R s m args below meth c T locs cells slots) (hx : p.tables.exec = Jvm.exec) {pc : Nat} {Ls : Array Slot} {z : Int32} {rest : List Value} (hret : meth.sig.returnType = some .int) (hd : decode c.code pc = .ok (.ireturn, 1)) {fs : List Frame}
    (hl : ∀ (f : JFrame) (acts : List Action), f.method = m → f.locked = none → f.entered = [] → (doReturn e (T.setTop f) acts (some (.int z))).1 = T.setFrames fs) : Steps p.tables e below (T.setTop (mkF m pc Ls (.int z :: rest))) (T.setFrames fs) := by
  have hm' : T.vm.method? m = some meth := X.method'
  have hn : narrow .int (.int z) = .int z := rfl
  show Steps p.tables e below (T.setTop { method := m, pc := pc, locals := Ls, stack := _ :: rest, locked := none }) _
  jvm_step X.here [X.here.top, hx, hd, hm', hret, hn]
  first | (intro acts; rw [hl _ acts rfl rfl rfl]) | rw [hl _ _ rfl rfl rfl]
  exact Steps.refl _
end New
end Jvm.RoadKit
namespace Jvm.Pilot.@@N@@
open Jvm Jvm.ClassFile Sem Op Lib Jvm.Free Jvm.Stand Jvm.LawKit Jvm.RoadKit Bundle Jvm.Pilot.@@N@@.Jvm.D

def own_A (Z : State) (h : Heap) (a : Addr) (ty : FieldType) (n : Nat) (f : Nat → Int32) : Prop := ∃ c : Cell, Arr Z h a c ty ∧ c.slots.size = n ∧ ∀ j, j < n → c.slots[j]? = some (.int (f j))
theorem own_A_new {Z : State} {h : Heap} {a : Addr} {k : ClassId} {ty : FieldType} {z : Int32} {n : Nat} (A : Arr Z h a (newA k ty z) ty) (hd : defaultValue ty = .int 0) (hn : z.toNatClampNeg = n) : own_A Z h a ty n (fun _ => 0) :=
  ⟨_, A, by rw [sz_new, hn], fun j hj => by simp [newA, hn, hd, hj]⟩
theorem own_A_set {Z : State} {h h' : Heap} {a : Addr} {ty : FieldType} {n i : Nat} {f : Nat → Int32} {v : Int32} (F : own_A Z h a ty n f) (W : Wr h h' a i (.int v)) : own_A Z h' a ty n (upd f i v) := by
  obtain ⟨c, A, S, H⟩ := F
  refine ⟨_, A.same W, by rw [sz_set, S], fun j hj => ?_⟩
  show (c.slots.setIfInBounds i (.int v))[j]? = _
  rw [Array.getElem?_setIfInBounds]
  by_cases e : i = j
  · subst e; rw [if_pos rfl, if_pos (by rw [S]; exact hj)]; simp [upd]
  · rw [if_neg e, H j hj]; simp [upd, Ne.symm e]
theorem own_A_ext {Z : State} {h h' : Heap} {a : Addr} {ty : FieldType} {n : Nat} {f : Nat → Int32} (F : own_A Z h a ty n f) (E : Ext h h') : own_A Z h' a ty n f := by
  obtain ⟨c, A, S, H⟩ := F; exact ⟨c, A.ext E, S, H⟩
theorem own_A_other {Z : State} {h h' : Heap} {a b : Addr} {ty : FieldType} {n sl : Nat} {f : Nat → Int32} {v : Value} (F : own_A Z h a ty n f) (W : Wr h h' b sl v) (q : a ≠ b) : own_A Z h' a ty n f := by
  obtain ⟨c, A, S, H⟩ := F; exact ⟨c, A.other W q, S, H⟩
theorem own_A_keep {Z : State} {h h' : Heap} {a : Addr} {ty : FieldType} {n : Nat} {f : Nat → Int32} {ws : List Addr} (F : own_A Z h a ty n f) (K : Keep h h' ws) (q : a ∉ ws) : own_A Z h' a ty n f := by
  obtain ⟨c, A, S, H⟩ := F; exact ⟨c, ⟨K.2.1 a c A.1 q, A.2⟩, S, H⟩
theorem own_A_lt {Z : State} {h : Heap} {a : Addr} {ty : FieldType} {n : Nat} {f : Nat → Int32} (F : own_A Z h a ty n f) : a < h.size := by obtain ⟨c, A, -⟩ := F; exact A.lt
theorem own_upd_same (f : Nat → Int32) (i : Nat) (v : Int32) : upd f i v i = v := by simp [upd]
theorem own_upd_ne (f : Nat → Int32) {i j : Nat} (v : Int32) (h : j ≠ i) : upd f i v j = f j := by simp [upd, h]
theorem own_toNat (y : Int32) (h : 0 ≤ y.toInt) : y = Int32.ofNat y.toInt.toNat := by
  have a := y.toInt_lt
  rw [← Int32.toInt_inj, toInt_of rfl (by omega)]
  omega
theorem own_mask (x m : Int32) {k : Nat} (hk : k < 32) (hm : m.toBitVec.toNat = 2 ^ k - 1) : ∃ n : Nat, x &&& m = Int32.ofNat n ∧ n < 2 ^ k := by
  have h := Jvm.Kit.i32_mask x m hk hm
  have hp : (0 : Int) < 2 ^ k := Int.pow_pos (by decide)
  have h1 := Int.emod_nonneg x.toInt (b := 2 ^ k) (by omega)
  have h2 := Int.emod_lt_of_pos x.toInt hp
  refine ⟨(x &&& m).toInt.toNat, own_toNat _ (by omega), ?_⟩
  have h3 : ((2 ^ k : Nat) : Int) = 2 ^ k := by simp
  omega
theorem own_lt {i n : Nat} (h : i < n) (hn : n < 2 ^ 31) : Int32.ofNat i < Int32.ofNat n := by
  rw [Int32.lt_iff_toInt_lt, toInt_of rfl (by omega : i < 2 ^ 31), toInt_of rfl hn]; omega
theorem own_nlt {i n : Nat} (h : n ≤ i) (hi : i < 2 ^ 31) : ¬ (Int32.ofNat i < Int32.ofNat n) := by
  rw [Int32.lt_iff_toInt_lt, toInt_of rfl hi, toInt_of rfl (by omega : n < 2 ^ 31)]; omega
theorem own_ne {i n : Nat} (h : i ≠ n) (hi : i < 2 ^ 31) (hn : n < 2 ^ 31) : ¬ (Int32.ofNat i = Int32.ofNat n) := by
  rw [← Int32.toInt_inj, toInt_of rfl hi, toInt_of rfl hn]; omega
theorem own_add (a b : Nat) : Int32.ofNat a + Int32.ofNat b = Int32.ofNat (a + b) := (Int32.ofNat_add a b).symm
theorem own_sub {a b : Nat} (h : b ≤ a) (ha : a < 2 ^ 31) : Int32.ofNat a - Int32.ofNat b = Int32.ofNat (a - b) := by
  rw [← Int32.toInt_inj, toInt_of rfl (by omega : a - b < 2 ^ 31)]
  have h1 : (Int32.ofNat a).toInt = a := toInt_of rfl ha
  have h2 : (Int32.ofNat b).toInt = b := toInt_of rfl (by omega)
  rw [Jvm.Kit.i32_sub (by omega) (by omega)]
  omega
theorem own_rem {a b : Nat} (ha : a < 2 ^ 31) (hb : b < 2 ^ 31) : Int32.ofNat a % Int32.ofNat b = Int32.ofNat (a % b) := by
  have h3 : a % b ≤ a := Nat.mod_le a b
  have h1 : (Int32.ofNat a).toInt = a := toInt_of rfl ha
  have h2 : (Int32.ofNat b).toInt = b := toInt_of rfl hb
  rw [← Int32.toInt_inj, toInt_of rfl (by omega : a % b < 2 ^ 31), Jvm.Kit.i32_rem_nonneg (by omega), h1, h2]
  omega

def own_V (Z : State) (h : Heap) (a : Addr) (k : ClassId) (ty : FieldType) (n : Nat) (g : Nat → Value) : Prop := ∃ c : Cell, Arr Z h a c ty ∧ c.cls = k ∧ c.slots.size = n ∧ ∀ j, j < n → c.slots[j]? = some (g j)
def own_updV (g : Nat → Value) (i : Nat) (v : Value) : Nat → Value := fun j => if j = i then v else g j
theorem own_V_new {Z : State} {h : Heap} {a : Addr} {k : ClassId} {ty : FieldType} {z : Int32} {n : Nat} (A : Arr Z h a (newA k ty z) ty) (hn : z.toNatClampNeg = n) : own_V Z h a k ty n (fun _ => defaultValue ty) :=
  ⟨_, A, rfl, by rw [sz_new, hn], fun j hj => by simp [newA, hn, hj]⟩
theorem own_V_set {Z : State} {h h' : Heap} {a : Addr} {k : ClassId} {ty : FieldType} {n i : Nat} {g : Nat → Value} {v : Value} (F : own_V Z h a k ty n g) (W : Wr h h' a i v) : own_V Z h' a k ty n (own_updV g i v) := by
  obtain ⟨c, A, q, S, H⟩ := F
  refine ⟨_, A.same W, q, by rw [sz_set, S], fun j hj => ?_⟩
  show (c.slots.setIfInBounds i v)[j]? = _
  rw [Array.getElem?_setIfInBounds]
  by_cases e : i = j
  · subst e; rw [if_pos rfl, if_pos (by rw [S]; exact hj)]; simp [own_updV]
  · rw [if_neg e, H j hj]; simp [own_updV, Ne.symm e]
theorem own_V_ext {Z : State} {h h' : Heap} {a : Addr} {k : ClassId} {ty : FieldType} {n : Nat} {g : Nat → Value} (F : own_V Z h a k ty n g) (E : Ext h h') : own_V Z h' a k ty n g := by
  obtain ⟨c, A, S⟩ := F; exact ⟨c, A.ext E, S⟩
theorem own_V_other {Z : State} {h h' : Heap} {a b : Addr} {k : ClassId} {ty : FieldType} {n sl : Nat} {g : Nat → Value} {v : Value} (F : own_V Z h a k ty n g) (W : Wr h h' b sl v) (q : a ≠ b) : own_V Z h' a k ty n g := by
  obtain ⟨c, A, S⟩ := F; exact ⟨c, A.other W q, S⟩
theorem own_V_lt {Z : State} {h : Heap} {a : Addr} {k : ClassId} {ty : FieldType} {n : Nat} {g : Nat → Value} (F : own_V Z h a k ty n g) : a < h.size := by obtain ⟨c, A, -⟩ := F; exact A.lt
theorem own_Sta_keep {Z : State} {h h' : Heap} {C n d : String} {v : Value} (F : Sta Z h C n d v) (K : Keep h h' []) : Sta Z h' C n d v := by
  obtain ⟨cf, i, k, f, st, cell, h1, h2, h3, h4, h5, r⟩ := F; exact ⟨cf, i, k, f, st, cell, h1, h2, h3, h4, K.2.1 st cell h5 nin0, r⟩
def own_lo (k : Nat) : Int32 := match k with
  | 0 => 3
  | 1 => 4
  | 2 => 1
  | 3 => 1
  | 4 => 2
  | 5 => 1
  | 6 => 0
  | 7 => 0
  | 8 => 0
  | 9 => 0
  | 10 => 0
  | 11 => 0
  | 12 => 0
  | 13 => 0
  | 14 => 0
  | _ => 0
def own_hi (k : Nat) : Int32 := match k with
  | 0 => 7
  | 1 => 11
  | 2 => 2
  | 3 => 5
  | 4 => 3
  | 5 => 3
  | 6 => 1
  | 7 => 2
  | 8 => 1
  | 9 => 1
  | 10 => 1
  | 11 => 2
  | 12 => 2
  | 13 => 3
  | 14 => 3
  | _ => 0
theorem pn_1 : plainName "com/example/ledgerstream/ledgerstream/io/ApiKey" = true := by first | (simp [plainName, overriddenIn]; done) | decide +kernel
theorem ef_1 (m : MethodId) (x0 : Addr) (x1 : Int32) : entryFrame m #[(.ref x0), (.int x1)] 2 = mkF m 0 #[.val (.ref x0), .val (.int x1)] [] := by first | (simp [entryFrame, mkF, argsToLocals, Value.category]; done) | rfl
theorem d1_0 : decode prog_5_method_8_code 0 = .ok (.iload_n 1, 1) := by decide +kernel
theorem d1_1 : decode prog_5_method_8_code 1 = .ok (.aload_n 0, 1) := by decide +kernel
theorem d1_2 : decode prog_5_method_8_code 2 = .ok (.getfield 76, 3) := by decide +kernel
theorem d1_5 : decode prog_5_method_8_code 5 = .ok (.if_icmp .lt 15, 3) := by decide +kernel
theorem d1_20 : decode prog_5_method_8_code 20 = .ok (.iconst 0, 1) := by decide +kernel
theorem d1_21 : decode prog_5_method_8_code 21 = .ok (.ireturn, 1) := by decide +kernel
theorem d1_8 : decode prog_5_method_8_code 8 = .ok (.iload_n 1, 1) := by decide +kernel
theorem d1_9 : decode prog_5_method_8_code 9 = .ok (.aload_n 0, 1) := by decide +kernel
theorem d1_10 : decode prog_5_method_8_code 10 = .ok (.getfield 79, 3) := by decide +kernel
theorem d1_13 : decode prog_5_method_8_code 13 = .ok (.if_icmp .gt 7, 3) := by decide +kernel
theorem d1_16 : decode prog_5_method_8_code 16 = .ok (.iconst 1, 1) := by decide +kernel
theorem d1_17 : decode prog_5_method_8_code 17 = .ok (.goto 4, 3) := by decide +kernel
def own_sup (a1 : Addr) (p2 : Int32) (mn : Int32) (mx : Int32) : Int32 := if p2 < mn then ((0 : Int32)) else (if mx < p2 then ((0 : Int32)) else ((1 : Int32)))
def Q1 (Z : State) (a1 : Addr) (p2 : Int32) (mn : Int32) (mx : Int32) (h0 : Heap) (n0 : Nat) (v : Option Value) (h : Heap) (L : List Loc) : Prop := v = some (.int (own_sup a1 p2 mn mx)) ∧ Fr n0 L ∧ h = h0
set_option maxRecDepth 65536 in
set_option maxHeartbeats 40000000 in
theorem rm1 (l : Launch) (Z : State) (a0 : Array Value) (hw : ∀ d ∈ tables_1, d.before a0 Z = true) (ws : List Jvm.Cond) (a1 : Addr) (p2 : Int32) (mn : Int32) (mx : Int32) (h0 : Heap) (n0 : Nat) (Z0 : n0 ≤ h0.size) (F1 : Fld Z h0 a1 "com/example/ledgerstream/ledgerstream/io/ApiKey" "minVersion" "S" (.int mn)) (F2 : Fld Z h0 a1 "com/example/ledgerstream/ledgerstream/io/ApiKey" "maxVersion" "S" (.int mx)) :
    MetFree l (⟨"com/example/ledgerstream/ledgerstream/io/ApiKey", "supports", "(S)Z"⟩ : MethodName) (head1 (Jvm.Cond.code (⟨"com/example/ledgerstream/ledgerstream/io/ApiKey", "supports", "(S)Z"⟩ : MethodName) prog_5_method_8_code 2 (some .boolean) :: ws) ({ frames := 0, cells := 0, slots := 0, locals := 0 } : Room)) (fun aa_ U => aa_ = #[(.ref a1), (.int p2)] ∧ Z.Warmed39 U.vm ∧ U.heap = h0) (fun _ _ _ _ _ => True) (fun _ U o U' => ∃ v_ L_, o = .returned v_ ∧ Q1 Z a1 p2 mn mx h0 n0 v_ U'.heap L_ ∧ FrameEnd U o U' L_ ({ frames := 0, cells := 0, slots := 0, locals := 0 } : Room).cells ({ frames := 0, cells := 0, slots := 0, locals := 0 } : Room).slots) := by
  refine MetFree.of_bodySF (plainFor_of_name pn_1) hisR ?_
  intro p e s m args below meth c s₁ Bd hml0 hP hK
  obtain ⟨rfl, hZ, hh⟩ := hP
  have hx := Bd.exec
  have hby := Bd.bytes
  have hml : c.maxLocals = 2 := hml0
  have hown : s.vm.findClass "com/example/ledgerstream/ledgerstream/io/ApiKey" = some m.cls := findClass_of_methodNamed Bd.named
  have hnm := (name_of_methodNamed Bd.named Bd.method).1
  have X0 : Stand p l e ({ frames := 0, cells := 0, slots := 0, locals := 0 } : Room) s m #[(.ref a1), (.int p2)] below meth c s₁ [] 0 0 := Stand.of_body Bd
  have e0 : s₁.heap = h0 := by rw [← hh, Bd.state]; rfl
  have N0 := Fr.nil n0
  have pre0 : ∀ t, Steps p.tables e below (s₁.setTop (mkF m 0 #[.val (.ref a1), .val (.int p2)] [])) t → Steps p.tables e below (s₁.setTop (entryFrame m #[(.ref a1), (.int p2)] 2)) t := fun t k_ => castTop (ef_1 m a1 p2) k_
  have pre1 : ∀ t, Steps p.tables e below (s₁.setTop (mkF m 2 #[.val (.ref a1), .val (.int p2)] [(.ref a1), (.int p2)])) t → Steps p.tables e below _ t := fun t kt => pre0 t (by
    show Steps p.tables e below (s₁.setTop (mkF m 0 #[.val (.ref a1), .val (.int p2)] [])) _
    refine XS.iloadN X0.here hx rfl (hb hby d1_0) rfl ?_
    show Steps p.tables e below (s₁.setTop (mkF m 1 #[.val (.ref a1), .val (.int p2)] [(.int p2)])) _
    refine XS.aloadN X0.here hx rfl (hb hby d1_1) rfl rfl ?_
    exact kt)
  obtain ⟨T2, X2, e2, st2⟩ := getF X0 hx hZ hown (host := "") (Or.inl (hw _ (List.mem_of_getElem? (i := 41) rfl))) Via.refl e0 F1 (g := (mkF m 2 #[.val (.ref a1), .val (.int p2)] [(.ref a1), (.int p2)])) rfl rfl (hb hby d1_2)
  have pre3 : ∀ t, Steps p.tables e below (T2.setTop (mkF m 5 #[.val (.ref a1), .val (.int p2)] [(.int mn), (.int p2)])) t → Steps p.tables e below _ t := fun t kt => pre1 t (by
    show Steps p.tables e below (s₁.setTop (mkF m 2 #[.val (.ref a1), .val (.int p2)] [(.ref a1), (.int p2)])) _
    refine st2 _ ?_
    exact kt)
  by_cases hc5 : p2 < mn
  · obtain ⟨fs, hr, hrun, hended, hW, hsame⟩ := X2.leave (v := some (.int (0 : Int32))) (fun h => by rw [Bd.returns] at h; cases h)
    refine ⟨_, _, pre3 _ ?_, hrun, hended, _, _, rfl, ?_, ⟨_, rfl⟩, hW, hsame.mono (by decide) (by decide)⟩
    · show Steps p.tables e below (T2.setTop (mkF m 5 #[.val (.ref a1), .val (.int p2)] [(.int mn), (.int p2)])) _
      refine XS.icmpYes X2.here hx rfl (pc0 := 5) (pc' := 20) rfl (hb hby d1_5) rfl (tlt hc5).1 (by decide) (by decide) ?_
      show Steps p.tables e below (T2.setTop (mkF m 20 #[.val (.ref a1), .val (.int p2)] [])) _
      refine XS.iconst X2.here hx rfl (hb hby d1_20) ?_
      show Steps p.tables e below (T2.setTop (mkF m 21 #[.val (.ref a1), .val (.int p2)] [(.int (0 : Int32))])) _
      exact retN X2 hx (t := .boolean) Bd.returns (by simp) (hb hby d1_21) hr
    · show Q1 Z a1 p2 mn mx h0 n0 _ T2.heap _
      rw [e2]
      exact ⟨by simp only [own_sup, if_pos hc5], N0, rfl⟩
  · have pre4 : ∀ t, Steps p.tables e below (T2.setTop (mkF m 10 #[.val (.ref a1), .val (.int p2)] [(.ref a1), (.int p2)])) t → Steps p.tables e below _ t := fun t kt => pre3 t (by
      show Steps p.tables e below (T2.setTop (mkF m 5 #[.val (.ref a1), .val (.int p2)] [(.int mn), (.int p2)])) _
      refine XS.icmpNo X2.here hx rfl (hb hby d1_5) rfl (flt hc5).1 ?_
      show Steps p.tables e below (T2.setTop (mkF m 8 #[.val (.ref a1), .val (.int p2)] [])) _
      refine XS.iloadN X2.here hx rfl (hb hby d1_8) rfl ?_
      show Steps p.tables e below (T2.setTop (mkF m 9 #[.val (.ref a1), .val (.int p2)] [(.int p2)])) _
      refine XS.aloadN X2.here hx rfl (hb hby d1_9) rfl rfl ?_
      exact kt)
    obtain ⟨T5, X5, e5, st5⟩ := getF X2 hx hZ hown (host := "") (Or.inl (hw _ (List.mem_of_getElem? (i := 43) rfl))) Via.refl e2 F2 (g := (mkF m 10 #[.val (.ref a1), .val (.int p2)] [(.ref a1), (.int p2)])) rfl rfl (hb hby d1_10)
    have pre6 : ∀ t, Steps p.tables e below (T5.setTop (mkF m 13 #[.val (.ref a1), .val (.int p2)] [(.int mx), (.int p2)])) t → Steps p.tables e below _ t := fun t kt => pre4 t (by
      show Steps p.tables e below (T2.setTop (mkF m 10 #[.val (.ref a1), .val (.int p2)] [(.ref a1), (.int p2)])) _
      refine st5 _ ?_
      exact kt)
    by_cases hc13 : mx < p2
    · obtain ⟨fs, hr, hrun, hended, hW, hsame⟩ := X5.leave (v := some (.int (0 : Int32))) (fun h => by rw [Bd.returns] at h; cases h)
      refine ⟨_, _, pre6 _ ?_, hrun, hended, _, _, rfl, ?_, ⟨_, rfl⟩, hW, hsame.mono (by decide) (by decide)⟩
      · show Steps p.tables e below (T5.setTop (mkF m 13 #[.val (.ref a1), .val (.int p2)] [(.int mx), (.int p2)])) _
        refine XS.icmpYes X5.here hx rfl (pc0 := 13) (pc' := 20) rfl (hb hby d1_13) rfl (tlt hc13).2.2.1 (by decide) (by decide) ?_
        show Steps p.tables e below (T5.setTop (mkF m 20 #[.val (.ref a1), .val (.int p2)] [])) _
        refine XS.iconst X5.here hx rfl (hb hby d1_20) ?_
        show Steps p.tables e below (T5.setTop (mkF m 21 #[.val (.ref a1), .val (.int p2)] [(.int (0 : Int32))])) _
        exact retN X5 hx (t := .boolean) Bd.returns (by simp) (hb hby d1_21) hr
      · show Q1 Z a1 p2 mn mx h0 n0 _ T5.heap _
        rw [e5]
        exact ⟨by simp only [own_sup, if_neg hc5, if_pos hc13], N0, rfl⟩
    · obtain ⟨fs, hr, hrun, hended, hW, hsame⟩ := X5.leave (v := some (.int (1 : Int32))) (fun h => by rw [Bd.returns] at h; cases h)
      refine ⟨_, _, pre6 _ ?_, hrun, hended, _, _, rfl, ?_, ⟨_, rfl⟩, hW, hsame.mono (by decide) (by decide)⟩
      · show Steps p.tables e below (T5.setTop (mkF m 13 #[.val (.ref a1), .val (.int p2)] [(.int mx), (.int p2)])) _
        refine XS.icmpNo X5.here hx rfl (hb hby d1_13) rfl (flt hc13).2.2.1 ?_
        show Steps p.tables e below (T5.setTop (mkF m 16 #[.val (.ref a1), .val (.int p2)] [])) _
        refine XS.iconst X5.here hx rfl (hb hby d1_16) ?_
        show Steps p.tables e below (T5.setTop (mkF m 17 #[.val (.ref a1), .val (.int p2)] [(.int (1 : Int32))])) _
        refine XS.goto X5.here hx rfl (pc0 := 17) (pc' := 21) rfl (hb hby d1_17) (by decide) (by decide) ?_
        show Steps p.tables e below (T5.setTop (mkF m 21 #[.val (.ref a1), .val (.int p2)] [(.int (1 : Int32))])) _
        exact retN X5 hx (t := .boolean) Bd.returns (by simp) (hb hby d1_21) hr
      · show Q1 Z a1 p2 mn mx h0 n0 _ T5.heap _
        rw [e5]
        exact ⟨by simp only [own_sup, if_neg hc5, if_neg hc13], N0, rfl⟩

theorem own_A_congr {Z : State} {h : Heap} {a : Addr} {ty : FieldType} {n : Nat} {f g : Nat → Int32} (F : own_A Z h a ty n f) (q : ∀ j, j < n → f j = g j) : own_A Z h a ty n g := by
  obtain ⟨c, A, S, H⟩ := F; exact ⟨c, A, S, fun j hj => by rw [H j hj, q j hj]⟩
theorem own_V_congr {Z : State} {h : Heap} {a : Addr} {k : ClassId} {ty : FieldType} {n : Nat} {f g : Nat → Value} (F : own_V Z h a k ty n f) (q : ∀ j, j < n → f j = g j) : own_V Z h a k ty n g := by
  obtain ⟨c, A, e, S, H⟩ := F; exact ⟨c, A, e, S, fun j hj => by rw [H j hj, q j hj]⟩
theorem own_V_keep {Z : State} {h h' : Heap} {a : Addr} {k : ClassId} {ty : FieldType} {n : Nat} {g : Nat → Value} {ws : List Addr} (F : own_V Z h a k ty n g) (K : Keep h h' ws) (q : a ∉ ws) : own_V Z h' a k ty n g := by
  obtain ⟨c, A, S⟩ := F; exact ⟨c, ⟨K.2.1 a c A.1 q, A.2⟩, S⟩
set_option maxRecDepth 65536 in
set_option maxHeartbeats 40000000 in
theorem own_fillK {p : Program} {l : Launch} {e : Env} {R : Room} {s : State} {m : MethodId} {args : Array Value} {below : List Frame} {meth : Method} {c : Code} {T0 : State} {locs : List Loc} {cells slots : Nat} {Z : State} {a0 : Array Value} {h0 : Heap} {n0 : Nat} {hS : Heap} (p1 p2 p3 : Int32) (bb : Addr) (kc : ClassId) (ak : Nat → Addr)
    (X0 : Stand p l e R s m args below meth c T0 locs cells slots) (hx : p.tables.exec = Jvm.exec) (hZ : Z.Warmed39 s.vm) (hw : ∀ d ∈ tables_1, d.before a0 Z = true) (hby : c.code = code) (hml : c.maxLocals = 15) (hown : s.vm.findClass "com/example/ledgerstream/ledgerstream/io/ApiKeySupportsPinLaw" = some m.cls) (e0 : T0.heap = hS) (N0 : Fr n0 locs) (Z0 : n0 ≤ hS.size) (KE : Keep h0 hS []) (sz_bb : h0.size ≤ bb) (g_bb : n0 ≤ bb) (F0 : own_V Z hS bb kc (.object "com/example/ledgerstream/ledgerstream/io/ApiKey") 15 (fun _ => defaultValue (.object "com/example/ledgerstream/ledgerstream/io/ApiKey"))) (OV : Ovr Z kc "com/example/ledgerstream/ledgerstream/io/ApiKey") (S0 : Sta Z h0 "com/example/ledgerstream/ledgerstream/io/ApiKey" "PRODUCE" "Lcom/example/ledgerstream/ledgerstream/io/ApiKey;" (.ref (ak 0))) (S1 : Sta Z h0 "com/example/ledgerstream/ledgerstream/io/ApiKey" "FETCH" "Lcom/example/ledgerstream/ledgerstream/io/ApiKey;" (.ref (ak 1))) (S2 : Sta Z h0 "com/example/ledgerstream/ledgerstream/io/ApiKey" "LIST_OFFSETS" "Lcom/example/ledgerstream/ledgerstream/io/ApiKey;" (.ref (ak 2))) (S3 : Sta Z h0 "com/example/ledgerstream/ledgerstream/io/ApiKey" "METADATA" "Lcom/example/ledgerstream/ledgerstream/io/ApiKey;" (.ref (ak 3))) (S4 : Sta Z h0 "com/example/ledgerstream/ledgerstream/io/ApiKey" "OFFSET_COMMIT" "Lcom/example/ledgerstream/ledgerstream/io/ApiKey;" (.ref (ak 4))) (S5 : Sta Z h0 "com/example/ledgerstream/ledgerstream/io/ApiKey" "OFFSET_FETCH" "Lcom/example/ledgerstream/ledgerstream/io/ApiKey;" (.ref (ak 5))) (S6 : Sta Z h0 "com/example/ledgerstream/ledgerstream/io/ApiKey" "FIND_COORDINATOR" "Lcom/example/ledgerstream/ledgerstream/io/ApiKey;" (.ref (ak 6))) (S7 : Sta Z h0 "com/example/ledgerstream/ledgerstream/io/ApiKey" "JOIN_GROUP" "Lcom/example/ledgerstream/ledgerstream/io/ApiKey;" (.ref (ak 7))) (S8 : Sta Z h0 "com/example/ledgerstream/ledgerstream/io/ApiKey" "HEARTBEAT" "Lcom/example/ledgerstream/ledgerstream/io/ApiKey;" (.ref (ak 8))) (S9 : Sta Z h0 "com/example/ledgerstream/ledgerstream/io/ApiKey" "LEAVE_GROUP" "Lcom/example/ledgerstream/ledgerstream/io/ApiKey;" (.ref (ak 9))) (S10 : Sta Z h0 "com/example/ledgerstream/ledgerstream/io/ApiKey" "SYNC_GROUP" "Lcom/example/ledgerstream/ledgerstream/io/ApiKey;" (.ref (ak 10))) (S11 : Sta Z h0 "com/example/ledgerstream/ledgerstream/io/ApiKey" "DESCRIBE_GROUPS" "Lcom/example/ledgerstream/ledgerstream/io/ApiKey;" (.ref (ak 11))) (S12 : Sta Z h0 "com/example/ledgerstream/ledgerstream/io/ApiKey" "LIST_GROUPS" "Lcom/example/ledgerstream/ledgerstream/io/ApiKey;" (.ref (ak 12))) (S13 : Sta Z h0 "com/example/ledgerstream/ledgerstream/io/ApiKey" "API_VERSIONS" "Lcom/example/ledgerstream/ledgerstream/io/ApiKey;" (.ref (ak 13))) (S14 : Sta Z h0 "com/example/ledgerstream/ledgerstream/io/ApiKey" "CREATE_TOPICS" "Lcom/example/ledgerstream/ledgerstream/io/ApiKey;" (.ref (ak 14))) (EK : ∀ i, i < 15 → Exa Z h0 (ak i) "com/example/ledgerstream/ledgerstream/io/ApiKey") :
    ∃ (T' : State) (h' : Heap) (locs' : List Loc), Stand p l e R s m args below meth c T' locs' cells slots ∧ T'.heap = h' ∧ Fr n0 locs' ∧ n0 ≤ h'.size ∧ Keep h0 h' [] ∧ Keep hS h' [bb] ∧ own_V Z h' bb kc (.object "com/example/ledgerstream/ledgerstream/io/ApiKey") 15 (fun j => .ref (ak j)) ∧
      ∀ t, Steps p.tables e below (T'.setTop (mkF m 104 #[.val (.int p1), .val (.int p2), .val (.int p3), .unset, .unset, .unset, .unset, .unset, .unset, .unset, .unset, .unset, .unset, .unset, .unset] [(.ref bb)])) t → Steps p.tables e below (T0.setTop (mkF m 5 #[.val (.int p1), .val (.int p2), .val (.int p3), .unset, .unset, .unset, .unset, .unset, .unset, .unset, .unset, .unset, .unset, .unset, .unset] [(.ref bb)])) t := by
  have pre0 : ∀ t, Steps p.tables e below (T0.setTop (mkF m 5 #[.val (.int p1), .val (.int p2), .val (.int p3), .unset, .unset, .unset, .unset, .unset, .unset, .unset, .unset, .unset, .unset, .unset, .unset] [(.ref bb)])) t → Steps p.tables e below (T0.setTop (mkF m 5 #[.val (.int p1), .val (.int p2), .val (.int p3), .unset, .unset, .unset, .unset, .unset, .unset, .unset, .unset, .unset, .unset, .unset, .unset] [(.ref bb)])) t := fun t k => k
  have pre1 : ∀ t, Steps p.tables e below (T0.setTop (mkF m 7 #[.val (.int p1), .val (.int p2), .val (.int p3), .unset, .unset, .unset, .unset, .unset, .unset, .unset, .unset, .unset, .unset, .unset, .unset] [(.int (0 : Int32)), (.ref bb), (.ref bb)])) t → Steps p.tables e below _ t := fun t kt => pre0 t (by
    show Steps p.tables e below (T0.setTop (mkF m 5 #[.val (.int p1), .val (.int p2), .val (.int p3), .unset, .unset, .unset, .unset, .unset, .unset, .unset, .unset, .unset, .unset, .unset, .unset] [(.ref bb)])) _
    refine XS.dup X0.here hx rfl (hb hby at_5) rfl rfl ?_
    show Steps p.tables e below (T0.setTop (mkF m 6 #[.val (.int p1), .val (.int p2), .val (.int p3), .unset, .unset, .unset, .unset, .unset, .unset, .unset, .unset, .unset, .unset, .unset, .unset] [(.ref bb), (.ref bb)])) _
    refine XS.iconst X0.here hx rfl (hb hby at_6) ?_
    exact kt)
  obtain ⟨T2, X2, e2, st2⟩ := getS X0 hx hZ hown (hw _ (List.mem_of_getElem? (i := 2) rfl)) Via.refl e0 (own_Sta_keep S0 KE) (g := (mkF m 7 #[.val (.int p1), .val (.int p2), .val (.int p3), .unset, .unset, .unset, .unset, .unset, .unset, .unset, .unset, .unset, .unset, .unset, .unset] [(.int (0 : Int32)), (.ref bb), (.ref bb)])) rfl (hb hby at_7) (host := "")
  have pre3 : ∀ t, Steps p.tables e below (T2.setTop (mkF m 10 #[.val (.int p1), .val (.int p2), .val (.int p3), .unset, .unset, .unset, .unset, .unset, .unset, .unset, .unset, .unset, .unset, .unset, .unset] [(.ref (ak 0)), (.int (0 : Int32)), (.ref bb), (.ref bb)])) t → Steps p.tables e below _ t := fun t kt => pre1 t (by
    show Steps p.tables e below (T0.setTop (mkF m 7 #[.val (.int p1), .val (.int p2), .val (.int p3), .unset, .unset, .unset, .unset, .unset, .unset, .unset, .unset, .unset, .unset, .unset, .unset] [(.int (0 : Int32)), (.ref bb), (.ref bb)])) _
    refine st2 _ ?_
    exact kt)
  obtain ⟨cl_0, Ar_0, q_0, Sz_0, -⟩ := id F0
  have Ek_0 := (EK 0 (by decide)).keep KE
  obtain ⟨T4, h4, X4, e4, W4, st4⟩ := stR X2 hx hZ e2 Ar_0 (j := (0 : Int32)) (within (c := 0) rfl (by rw [Sz_0]; decide) (by rw [Sz_0]; decide)) rfl (Sto.ofV Ar_0 q_0 OV (Ins.self Ek_0)) (g := (mkF m 10 #[.val (.int p1), .val (.int p2), .val (.int p3), .unset, .unset, .unset, .unset, .unset, .unset, .unset, .unset, .unset, .unset, .unset, .unset] [(.ref (ak 0)), (.int (0 : Int32)), (.ref bb), (.ref bb)])) rfl rfl (hb hby at_10)
  have N4 := Fr.snoc X4 N0 g_bb
  have Zs4 : n0 ≤ h4.size := Nat.le_trans Z0 (Nat.le_of_eq W4.size.symm)
  have Kp4 : Keep h0 h4 [] := KE.wr W4 (Or.inr sz_bb)
  have F_0 := own_V_set F0 (show Wr _ _ _ 0 (.ref (ak 0)) from W4)
  have Kq_0 : Keep hS h4 [bb] := (Keep.refl hS [bb]).wr W4 (Or.inl (List.mem_of_getElem? (i := 0) rfl))
  have pre5 : ∀ t, Steps p.tables e below (T4.setTop (mkF m 13 #[.val (.int p1), .val (.int p2), .val (.int p3), .unset, .unset, .unset, .unset, .unset, .unset, .unset, .unset, .unset, .unset, .unset, .unset] [(.int (1 : Int32)), (.ref bb), (.ref bb)])) t → Steps p.tables e below _ t := fun t kt => pre3 t (by
    show Steps p.tables e below (T2.setTop (mkF m 10 #[.val (.int p1), .val (.int p2), .val (.int p3), .unset, .unset, .unset, .unset, .unset, .unset, .unset, .unset, .unset, .unset, .unset, .unset] [(.ref (ak 0)), (.int (0 : Int32)), (.ref bb), (.ref bb)])) _
    refine st4 _ ?_
    show Steps p.tables e below (T4.setTop (mkF m 11 #[.val (.int p1), .val (.int p2), .val (.int p3), .unset, .unset, .unset, .unset, .unset, .unset, .unset, .unset, .unset, .unset, .unset, .unset] [(.ref bb)])) _
    refine XS.dup X4.here hx rfl (hb hby at_11) rfl rfl ?_
    show Steps p.tables e below (T4.setTop (mkF m 12 #[.val (.int p1), .val (.int p2), .val (.int p3), .unset, .unset, .unset, .unset, .unset, .unset, .unset, .unset, .unset, .unset, .unset, .unset] [(.ref bb), (.ref bb)])) _
    refine XS.iconst X4.here hx rfl (hb hby at_12) ?_
    exact kt)
  obtain ⟨T6, X6, e6, st6⟩ := getS X4 hx hZ hown (hw _ (List.mem_of_getElem? (i := 6) rfl)) Via.refl e4 (own_Sta_keep S1 Kp4) (g := (mkF m 13 #[.val (.int p1), .val (.int p2), .val (.int p3), .unset, .unset, .unset, .unset, .unset, .unset, .unset, .unset, .unset, .unset, .unset, .unset] [(.int (1 : Int32)), (.ref bb), (.ref bb)])) rfl (hb hby at_13) (host := "")
  have pre7 : ∀ t, Steps p.tables e below (T6.setTop (mkF m 16 #[.val (.int p1), .val (.int p2), .val (.int p3), .unset, .unset, .unset, .unset, .unset, .unset, .unset, .unset, .unset, .unset, .unset, .unset] [(.ref (ak 1)), (.int (1 : Int32)), (.ref bb), (.ref bb)])) t → Steps p.tables e below _ t := fun t kt => pre5 t (by
    show Steps p.tables e below (T4.setTop (mkF m 13 #[.val (.int p1), .val (.int p2), .val (.int p3), .unset, .unset, .unset, .unset, .unset, .unset, .unset, .unset, .unset, .unset, .unset, .unset] [(.int (1 : Int32)), (.ref bb), (.ref bb)])) _
    refine st6 _ ?_
    exact kt)
  obtain ⟨cl_1, Ar_1, q_1, Sz_1, -⟩ := id F_0
  have Ek_1 := (EK 1 (by decide)).keep Kp4
  obtain ⟨T8, h8, X8, e8, W8, st8⟩ := stR X6 hx hZ e6 Ar_1 (j := (1 : Int32)) (within (c := 1) rfl (by rw [Sz_1]; decide) (by rw [Sz_1]; decide)) rfl (Sto.ofV Ar_1 q_1 OV (Ins.self Ek_1)) (g := (mkF m 16 #[.val (.int p1), .val (.int p2), .val (.int p3), .unset, .unset, .unset, .unset, .unset, .unset, .unset, .unset, .unset, .unset, .unset, .unset] [(.ref (ak 1)), (.int (1 : Int32)), (.ref bb), (.ref bb)])) rfl rfl (hb hby at_16)
  have N8 := Fr.snoc X8 N4 g_bb
  have Zs8 : n0 ≤ h8.size := Nat.le_trans Zs4 (Nat.le_of_eq W8.size.symm)
  have Kp8 : Keep h0 h8 [] := Kp4.wr W8 (Or.inr sz_bb)
  have F_1 := own_V_set F_0 (show Wr _ _ _ 1 (.ref (ak 1)) from W8)
  have Kq_1 : Keep hS h8 [bb] := Kq_0.wr W8 (Or.inl (List.mem_of_getElem? (i := 0) rfl))
  have pre9 : ∀ t, Steps p.tables e below (T8.setTop (mkF m 19 #[.val (.int p1), .val (.int p2), .val (.int p3), .unset, .unset, .unset, .unset, .unset, .unset, .unset, .unset, .unset, .unset, .unset, .unset] [(.int (2 : Int32)), (.ref bb), (.ref bb)])) t → Steps p.tables e below _ t := fun t kt => pre7 t (by
    show Steps p.tables e below (T6.setTop (mkF m 16 #[.val (.int p1), .val (.int p2), .val (.int p3), .unset, .unset, .unset, .unset, .unset, .unset, .unset, .unset, .unset, .unset, .unset, .unset] [(.ref (ak 1)), (.int (1 : Int32)), (.ref bb), (.ref bb)])) _
    refine st8 _ ?_
    show Steps p.tables e below (T8.setTop (mkF m 17 #[.val (.int p1), .val (.int p2), .val (.int p3), .unset, .unset, .unset, .unset, .unset, .unset, .unset, .unset, .unset, .unset, .unset, .unset] [(.ref bb)])) _
    refine XS.dup X8.here hx rfl (hb hby at_17) rfl rfl ?_
    show Steps p.tables e below (T8.setTop (mkF m 18 #[.val (.int p1), .val (.int p2), .val (.int p3), .unset, .unset, .unset, .unset, .unset, .unset, .unset, .unset, .unset, .unset, .unset, .unset] [(.ref bb), (.ref bb)])) _
    refine XS.iconst X8.here hx rfl (hb hby at_18) ?_
    exact kt)
  obtain ⟨T10, X10, e10, st10⟩ := getS X8 hx hZ hown (hw _ (List.mem_of_getElem? (i := 8) rfl)) Via.refl e8 (own_Sta_keep S2 Kp8) (g := (mkF m 19 #[.val (.int p1), .val (.int p2), .val (.int p3), .unset, .unset, .unset, .unset, .unset, .unset, .unset, .unset, .unset, .unset, .unset, .unset] [(.int (2 : Int32)), (.ref bb), (.ref bb)])) rfl (hb hby at_19) (host := "")
  have pre11 : ∀ t, Steps p.tables e below (T10.setTop (mkF m 22 #[.val (.int p1), .val (.int p2), .val (.int p3), .unset, .unset, .unset, .unset, .unset, .unset, .unset, .unset, .unset, .unset, .unset, .unset] [(.ref (ak 2)), (.int (2 : Int32)), (.ref bb), (.ref bb)])) t → Steps p.tables e below _ t := fun t kt => pre9 t (by
    show Steps p.tables e below (T8.setTop (mkF m 19 #[.val (.int p1), .val (.int p2), .val (.int p3), .unset, .unset, .unset, .unset, .unset, .unset, .unset, .unset, .unset, .unset, .unset, .unset] [(.int (2 : Int32)), (.ref bb), (.ref bb)])) _
    refine st10 _ ?_
    exact kt)
  obtain ⟨cl_2, Ar_2, q_2, Sz_2, -⟩ := id F_1
  have Ek_2 := (EK 2 (by decide)).keep Kp8
  obtain ⟨T12, h12, X12, e12, W12, st12⟩ := stR X10 hx hZ e10 Ar_2 (j := (2 : Int32)) (within (c := 2) rfl (by rw [Sz_2]; decide) (by rw [Sz_2]; decide)) rfl (Sto.ofV Ar_2 q_2 OV (Ins.self Ek_2)) (g := (mkF m 22 #[.val (.int p1), .val (.int p2), .val (.int p3), .unset, .unset, .unset, .unset, .unset, .unset, .unset, .unset, .unset, .unset, .unset, .unset] [(.ref (ak 2)), (.int (2 : Int32)), (.ref bb), (.ref bb)])) rfl rfl (hb hby at_22)
  have N12 := Fr.snoc X12 N8 g_bb
  have Zs12 : n0 ≤ h12.size := Nat.le_trans Zs8 (Nat.le_of_eq W12.size.symm)
  have Kp12 : Keep h0 h12 [] := Kp8.wr W12 (Or.inr sz_bb)
  have F_2 := own_V_set F_1 (show Wr _ _ _ 2 (.ref (ak 2)) from W12)
  have Kq_2 : Keep hS h12 [bb] := Kq_1.wr W12 (Or.inl (List.mem_of_getElem? (i := 0) rfl))
  have pre13 : ∀ t, Steps p.tables e below (T12.setTop (mkF m 25 #[.val (.int p1), .val (.int p2), .val (.int p3), .unset, .unset, .unset, .unset, .unset, .unset, .unset, .unset, .unset, .unset, .unset, .unset] [(.int (3 : Int32)), (.ref bb), (.ref bb)])) t → Steps p.tables e below _ t := fun t kt => pre11 t (by
    show Steps p.tables e below (T10.setTop (mkF m 22 #[.val (.int p1), .val (.int p2), .val (.int p3), .unset, .unset, .unset, .unset, .unset, .unset, .unset, .unset, .unset, .unset, .unset, .unset] [(.ref (ak 2)), (.int (2 : Int32)), (.ref bb), (.ref bb)])) _
    refine st12 _ ?_
    show Steps p.tables e below (T12.setTop (mkF m 23 #[.val (.int p1), .val (.int p2), .val (.int p3), .unset, .unset, .unset, .unset, .unset, .unset, .unset, .unset, .unset, .unset, .unset, .unset] [(.ref bb)])) _
    refine XS.dup X12.here hx rfl (hb hby at_23) rfl rfl ?_
    show Steps p.tables e below (T12.setTop (mkF m 24 #[.val (.int p1), .val (.int p2), .val (.int p3), .unset, .unset, .unset, .unset, .unset, .unset, .unset, .unset, .unset, .unset, .unset, .unset] [(.ref bb), (.ref bb)])) _
    refine XS.iconst X12.here hx rfl (hb hby at_24) ?_
    exact kt)
  obtain ⟨T14, X14, e14, st14⟩ := getS X12 hx hZ hown (hw _ (List.mem_of_getElem? (i := 10) rfl)) Via.refl e12 (own_Sta_keep S3 Kp12) (g := (mkF m 25 #[.val (.int p1), .val (.int p2), .val (.int p3), .unset, .unset, .unset, .unset, .unset, .unset, .unset, .unset, .unset, .unset, .unset, .unset] [(.int (3 : Int32)), (.ref bb), (.ref bb)])) rfl (hb hby at_25) (host := "")
  have pre15 : ∀ t, Steps p.tables e below (T14.setTop (mkF m 28 #[.val (.int p1), .val (.int p2), .val (.int p3), .unset, .unset, .unset, .unset, .unset, .unset, .unset, .unset, .unset, .unset, .unset, .unset] [(.ref (ak 3)), (.int (3 : Int32)), (.ref bb), (.ref bb)])) t → Steps p.tables e below _ t := fun t kt => pre13 t (by
    show Steps p.tables e below (T12.setTop (mkF m 25 #[.val (.int p1), .val (.int p2), .val (.int p3), .unset, .unset, .unset, .unset, .unset, .unset, .unset, .unset, .unset, .unset, .unset, .unset] [(.int (3 : Int32)), (.ref bb), (.ref bb)])) _
    refine st14 _ ?_
    exact kt)
  obtain ⟨cl_3, Ar_3, q_3, Sz_3, -⟩ := id F_2
  have Ek_3 := (EK 3 (by decide)).keep Kp12
  obtain ⟨T16, h16, X16, e16, W16, st16⟩ := stR X14 hx hZ e14 Ar_3 (j := (3 : Int32)) (within (c := 3) rfl (by rw [Sz_3]; decide) (by rw [Sz_3]; decide)) rfl (Sto.ofV Ar_3 q_3 OV (Ins.self Ek_3)) (g := (mkF m 28 #[.val (.int p1), .val (.int p2), .val (.int p3), .unset, .unset, .unset, .unset, .unset, .unset, .unset, .unset, .unset, .unset, .unset, .unset] [(.ref (ak 3)), (.int (3 : Int32)), (.ref bb), (.ref bb)])) rfl rfl (hb hby at_28)
  have N16 := Fr.snoc X16 N12 g_bb
  have Zs16 : n0 ≤ h16.size := Nat.le_trans Zs12 (Nat.le_of_eq W16.size.symm)
  have Kp16 : Keep h0 h16 [] := Kp12.wr W16 (Or.inr sz_bb)
  have F_3 := own_V_set F_2 (show Wr _ _ _ 3 (.ref (ak 3)) from W16)
  have Kq_3 : Keep hS h16 [bb] := Kq_2.wr W16 (Or.inl (List.mem_of_getElem? (i := 0) rfl))
  have pre17 : ∀ t, Steps p.tables e below (T16.setTop (mkF m 31 #[.val (.int p1), .val (.int p2), .val (.int p3), .unset, .unset, .unset, .unset, .unset, .unset, .unset, .unset, .unset, .unset, .unset, .unset] [(.int (4 : Int32)), (.ref bb), (.ref bb)])) t → Steps p.tables e below _ t := fun t kt => pre15 t (by
    show Steps p.tables e below (T14.setTop (mkF m 28 #[.val (.int p1), .val (.int p2), .val (.int p3), .unset, .unset, .unset, .unset, .unset, .unset, .unset, .unset, .unset, .unset, .unset, .unset] [(.ref (ak 3)), (.int (3 : Int32)), (.ref bb), (.ref bb)])) _
    refine st16 _ ?_
    show Steps p.tables e below (T16.setTop (mkF m 29 #[.val (.int p1), .val (.int p2), .val (.int p3), .unset, .unset, .unset, .unset, .unset, .unset, .unset, .unset, .unset, .unset, .unset, .unset] [(.ref bb)])) _
    refine XS.dup X16.here hx rfl (hb hby at_29) rfl rfl ?_
    show Steps p.tables e below (T16.setTop (mkF m 30 #[.val (.int p1), .val (.int p2), .val (.int p3), .unset, .unset, .unset, .unset, .unset, .unset, .unset, .unset, .unset, .unset, .unset, .unset] [(.ref bb), (.ref bb)])) _
    refine XS.iconst X16.here hx rfl (hb hby at_30) ?_
    exact kt)
  obtain ⟨T18, X18, e18, st18⟩ := getS X16 hx hZ hown (hw _ (List.mem_of_getElem? (i := 12) rfl)) Via.refl e16 (own_Sta_keep S4 Kp16) (g := (mkF m 31 #[.val (.int p1), .val (.int p2), .val (.int p3), .unset, .unset, .unset, .unset, .unset, .unset, .unset, .unset, .unset, .unset, .unset, .unset] [(.int (4 : Int32)), (.ref bb), (.ref bb)])) rfl (hb hby at_31) (host := "")
  have pre19 : ∀ t, Steps p.tables e below (T18.setTop (mkF m 34 #[.val (.int p1), .val (.int p2), .val (.int p3), .unset, .unset, .unset, .unset, .unset, .unset, .unset, .unset, .unset, .unset, .unset, .unset] [(.ref (ak 4)), (.int (4 : Int32)), (.ref bb), (.ref bb)])) t → Steps p.tables e below _ t := fun t kt => pre17 t (by
    show Steps p.tables e below (T16.setTop (mkF m 31 #[.val (.int p1), .val (.int p2), .val (.int p3), .unset, .unset, .unset, .unset, .unset, .unset, .unset, .unset, .unset, .unset, .unset, .unset] [(.int (4 : Int32)), (.ref bb), (.ref bb)])) _
    refine st18 _ ?_
    exact kt)
  obtain ⟨cl_4, Ar_4, q_4, Sz_4, -⟩ := id F_3
  have Ek_4 := (EK 4 (by decide)).keep Kp16
  obtain ⟨T20, h20, X20, e20, W20, st20⟩ := stR X18 hx hZ e18 Ar_4 (j := (4 : Int32)) (within (c := 4) rfl (by rw [Sz_4]; decide) (by rw [Sz_4]; decide)) rfl (Sto.ofV Ar_4 q_4 OV (Ins.self Ek_4)) (g := (mkF m 34 #[.val (.int p1), .val (.int p2), .val (.int p3), .unset, .unset, .unset, .unset, .unset, .unset, .unset, .unset, .unset, .unset, .unset, .unset] [(.ref (ak 4)), (.int (4 : Int32)), (.ref bb), (.ref bb)])) rfl rfl (hb hby at_34)
  have N20 := Fr.snoc X20 N16 g_bb
  have Zs20 : n0 ≤ h20.size := Nat.le_trans Zs16 (Nat.le_of_eq W20.size.symm)
  have Kp20 : Keep h0 h20 [] := Kp16.wr W20 (Or.inr sz_bb)
  have F_4 := own_V_set F_3 (show Wr _ _ _ 4 (.ref (ak 4)) from W20)
  have Kq_4 : Keep hS h20 [bb] := Kq_3.wr W20 (Or.inl (List.mem_of_getElem? (i := 0) rfl))
  have pre21 : ∀ t, Steps p.tables e below (T20.setTop (mkF m 37 #[.val (.int p1), .val (.int p2), .val (.int p3), .unset, .unset, .unset, .unset, .unset, .unset, .unset, .unset, .unset, .unset, .unset, .unset] [(.int (5 : Int32)), (.ref bb), (.ref bb)])) t → Steps p.tables e below _ t := fun t kt => pre19 t (by
    show Steps p.tables e below (T18.setTop (mkF m 34 #[.val (.int p1), .val (.int p2), .val (.int p3), .unset, .unset, .unset, .unset, .unset, .unset, .unset, .unset, .unset, .unset, .unset, .unset] [(.ref (ak 4)), (.int (4 : Int32)), (.ref bb), (.ref bb)])) _
    refine st20 _ ?_
    show Steps p.tables e below (T20.setTop (mkF m 35 #[.val (.int p1), .val (.int p2), .val (.int p3), .unset, .unset, .unset, .unset, .unset, .unset, .unset, .unset, .unset, .unset, .unset, .unset] [(.ref bb)])) _
    refine XS.dup X20.here hx rfl (hb hby at_35) rfl rfl ?_
    show Steps p.tables e below (T20.setTop (mkF m 36 #[.val (.int p1), .val (.int p2), .val (.int p3), .unset, .unset, .unset, .unset, .unset, .unset, .unset, .unset, .unset, .unset, .unset, .unset] [(.ref bb), (.ref bb)])) _
    refine XS.iconst X20.here hx rfl (hb hby at_36) ?_
    exact kt)
  obtain ⟨T22, X22, e22, st22⟩ := getS X20 hx hZ hown (hw _ (List.mem_of_getElem? (i := 14) rfl)) Via.refl e20 (own_Sta_keep S5 Kp20) (g := (mkF m 37 #[.val (.int p1), .val (.int p2), .val (.int p3), .unset, .unset, .unset, .unset, .unset, .unset, .unset, .unset, .unset, .unset, .unset, .unset] [(.int (5 : Int32)), (.ref bb), (.ref bb)])) rfl (hb hby at_37) (host := "")
  have pre23 : ∀ t, Steps p.tables e below (T22.setTop (mkF m 40 #[.val (.int p1), .val (.int p2), .val (.int p3), .unset, .unset, .unset, .unset, .unset, .unset, .unset, .unset, .unset, .unset, .unset, .unset] [(.ref (ak 5)), (.int (5 : Int32)), (.ref bb), (.ref bb)])) t → Steps p.tables e below _ t := fun t kt => pre21 t (by
    show Steps p.tables e below (T20.setTop (mkF m 37 #[.val (.int p1), .val (.int p2), .val (.int p3), .unset, .unset, .unset, .unset, .unset, .unset, .unset, .unset, .unset, .unset, .unset, .unset] [(.int (5 : Int32)), (.ref bb), (.ref bb)])) _
    refine st22 _ ?_
    exact kt)
  obtain ⟨cl_5, Ar_5, q_5, Sz_5, -⟩ := id F_4
  have Ek_5 := (EK 5 (by decide)).keep Kp20
  obtain ⟨T24, h24, X24, e24, W24, st24⟩ := stR X22 hx hZ e22 Ar_5 (j := (5 : Int32)) (within (c := 5) rfl (by rw [Sz_5]; decide) (by rw [Sz_5]; decide)) rfl (Sto.ofV Ar_5 q_5 OV (Ins.self Ek_5)) (g := (mkF m 40 #[.val (.int p1), .val (.int p2), .val (.int p3), .unset, .unset, .unset, .unset, .unset, .unset, .unset, .unset, .unset, .unset, .unset, .unset] [(.ref (ak 5)), (.int (5 : Int32)), (.ref bb), (.ref bb)])) rfl rfl (hb hby at_40)
  have N24 := Fr.snoc X24 N20 g_bb
  have Zs24 : n0 ≤ h24.size := Nat.le_trans Zs20 (Nat.le_of_eq W24.size.symm)
  have Kp24 : Keep h0 h24 [] := Kp20.wr W24 (Or.inr sz_bb)
  have F_5 := own_V_set F_4 (show Wr _ _ _ 5 (.ref (ak 5)) from W24)
  have Kq_5 : Keep hS h24 [bb] := Kq_4.wr W24 (Or.inl (List.mem_of_getElem? (i := 0) rfl))
  have pre25 : ∀ t, Steps p.tables e below (T24.setTop (mkF m 44 #[.val (.int p1), .val (.int p2), .val (.int p3), .unset, .unset, .unset, .unset, .unset, .unset, .unset, .unset, .unset, .unset, .unset, .unset] [(.int (6 : Int32)), (.ref bb), (.ref bb)])) t → Steps p.tables e below _ t := fun t kt => pre23 t (by
    show Steps p.tables e below (T22.setTop (mkF m 40 #[.val (.int p1), .val (.int p2), .val (.int p3), .unset, .unset, .unset, .unset, .unset, .unset, .unset, .unset, .unset, .unset, .unset, .unset] [(.ref (ak 5)), (.int (5 : Int32)), (.ref bb), (.ref bb)])) _
    refine st24 _ ?_
    show Steps p.tables e below (T24.setTop (mkF m 41 #[.val (.int p1), .val (.int p2), .val (.int p3), .unset, .unset, .unset, .unset, .unset, .unset, .unset, .unset, .unset, .unset, .unset, .unset] [(.ref bb)])) _
    refine XS.dup X24.here hx rfl (hb hby at_41) rfl rfl ?_
    show Steps p.tables e below (T24.setTop (mkF m 42 #[.val (.int p1), .val (.int p2), .val (.int p3), .unset, .unset, .unset, .unset, .unset, .unset, .unset, .unset, .unset, .unset, .unset, .unset] [(.ref bb), (.ref bb)])) _
    refine XS.bipush X24.here hx rfl (hb hby at_42) ?_
    exact kt)
  obtain ⟨T26, X26, e26, st26⟩ := getS X24 hx hZ hown (hw _ (List.mem_of_getElem? (i := 16) rfl)) Via.refl e24 (own_Sta_keep S6 Kp24) (g := (mkF m 44 #[.val (.int p1), .val (.int p2), .val (.int p3), .unset, .unset, .unset, .unset, .unset, .unset, .unset, .unset, .unset, .unset, .unset, .unset] [(.int (6 : Int32)), (.ref bb), (.ref bb)])) rfl (hb hby at_44) (host := "")
  have pre27 : ∀ t, Steps p.tables e below (T26.setTop (mkF m 47 #[.val (.int p1), .val (.int p2), .val (.int p3), .unset, .unset, .unset, .unset, .unset, .unset, .unset, .unset, .unset, .unset, .unset, .unset] [(.ref (ak 6)), (.int (6 : Int32)), (.ref bb), (.ref bb)])) t → Steps p.tables e below _ t := fun t kt => pre25 t (by
    show Steps p.tables e below (T24.setTop (mkF m 44 #[.val (.int p1), .val (.int p2), .val (.int p3), .unset, .unset, .unset, .unset, .unset, .unset, .unset, .unset, .unset, .unset, .unset, .unset] [(.int (6 : Int32)), (.ref bb), (.ref bb)])) _
    refine st26 _ ?_
    exact kt)
  obtain ⟨cl_6, Ar_6, q_6, Sz_6, -⟩ := id F_5
  have Ek_6 := (EK 6 (by decide)).keep Kp24
  obtain ⟨T28, h28, X28, e28, W28, st28⟩ := stR X26 hx hZ e26 Ar_6 (j := (6 : Int32)) (within (c := 6) rfl (by rw [Sz_6]; decide) (by rw [Sz_6]; decide)) rfl (Sto.ofV Ar_6 q_6 OV (Ins.self Ek_6)) (g := (mkF m 47 #[.val (.int p1), .val (.int p2), .val (.int p3), .unset, .unset, .unset, .unset, .unset, .unset, .unset, .unset, .unset, .unset, .unset, .unset] [(.ref (ak 6)), (.int (6 : Int32)), (.ref bb), (.ref bb)])) rfl rfl (hb hby at_47)
  have N28 := Fr.snoc X28 N24 g_bb
  have Zs28 : n0 ≤ h28.size := Nat.le_trans Zs24 (Nat.le_of_eq W28.size.symm)
  have Kp28 : Keep h0 h28 [] := Kp24.wr W28 (Or.inr sz_bb)
  have F_6 := own_V_set F_5 (show Wr _ _ _ 6 (.ref (ak 6)) from W28)
  have Kq_6 : Keep hS h28 [bb] := Kq_5.wr W28 (Or.inl (List.mem_of_getElem? (i := 0) rfl))
  have pre29 : ∀ t, Steps p.tables e below (T28.setTop (mkF m 51 #[.val (.int p1), .val (.int p2), .val (.int p3), .unset, .unset, .unset, .unset, .unset, .unset, .unset, .unset, .unset, .unset, .unset, .unset] [(.int (7 : Int32)), (.ref bb), (.ref bb)])) t → Steps p.tables e below _ t := fun t kt => pre27 t (by
    show Steps p.tables e below (T26.setTop (mkF m 47 #[.val (.int p1), .val (.int p2), .val (.int p3), .unset, .unset, .unset, .unset, .unset, .unset, .unset, .unset, .unset, .unset, .unset, .unset] [(.ref (ak 6)), (.int (6 : Int32)), (.ref bb), (.ref bb)])) _
    refine st28 _ ?_
    show Steps p.tables e below (T28.setTop (mkF m 48 #[.val (.int p1), .val (.int p2), .val (.int p3), .unset, .unset, .unset, .unset, .unset, .unset, .unset, .unset, .unset, .unset, .unset, .unset] [(.ref bb)])) _
    refine XS.dup X28.here hx rfl (hb hby at_48) rfl rfl ?_
    show Steps p.tables e below (T28.setTop (mkF m 49 #[.val (.int p1), .val (.int p2), .val (.int p3), .unset, .unset, .unset, .unset, .unset, .unset, .unset, .unset, .unset, .unset, .unset, .unset] [(.ref bb), (.ref bb)])) _
    refine XS.bipush X28.here hx rfl (hb hby at_49) ?_
    exact kt)
  obtain ⟨T30, X30, e30, st30⟩ := getS X28 hx hZ hown (hw _ (List.mem_of_getElem? (i := 18) rfl)) Via.refl e28 (own_Sta_keep S7 Kp28) (g := (mkF m 51 #[.val (.int p1), .val (.int p2), .val (.int p3), .unset, .unset, .unset, .unset, .unset, .unset, .unset, .unset, .unset, .unset, .unset, .unset] [(.int (7 : Int32)), (.ref bb), (.ref bb)])) rfl (hb hby at_51) (host := "")
  have pre31 : ∀ t, Steps p.tables e below (T30.setTop (mkF m 54 #[.val (.int p1), .val (.int p2), .val (.int p3), .unset, .unset, .unset, .unset, .unset, .unset, .unset, .unset, .unset, .unset, .unset, .unset] [(.ref (ak 7)), (.int (7 : Int32)), (.ref bb), (.ref bb)])) t → Steps p.tables e below _ t := fun t kt => pre29 t (by
    show Steps p.tables e below (T28.setTop (mkF m 51 #[.val (.int p1), .val (.int p2), .val (.int p3), .unset, .unset, .unset, .unset, .unset, .unset, .unset, .unset, .unset, .unset, .unset, .unset] [(.int (7 : Int32)), (.ref bb), (.ref bb)])) _
    refine st30 _ ?_
    exact kt)
  obtain ⟨cl_7, Ar_7, q_7, Sz_7, -⟩ := id F_6
  have Ek_7 := (EK 7 (by decide)).keep Kp28
  obtain ⟨T32, h32, X32, e32, W32, st32⟩ := stR X30 hx hZ e30 Ar_7 (j := (7 : Int32)) (within (c := 7) rfl (by rw [Sz_7]; decide) (by rw [Sz_7]; decide)) rfl (Sto.ofV Ar_7 q_7 OV (Ins.self Ek_7)) (g := (mkF m 54 #[.val (.int p1), .val (.int p2), .val (.int p3), .unset, .unset, .unset, .unset, .unset, .unset, .unset, .unset, .unset, .unset, .unset, .unset] [(.ref (ak 7)), (.int (7 : Int32)), (.ref bb), (.ref bb)])) rfl rfl (hb hby at_54)
  have N32 := Fr.snoc X32 N28 g_bb
  have Zs32 : n0 ≤ h32.size := Nat.le_trans Zs28 (Nat.le_of_eq W32.size.symm)
  have Kp32 : Keep h0 h32 [] := Kp28.wr W32 (Or.inr sz_bb)
  have F_7 := own_V_set F_6 (show Wr _ _ _ 7 (.ref (ak 7)) from W32)
  have Kq_7 : Keep hS h32 [bb] := Kq_6.wr W32 (Or.inl (List.mem_of_getElem? (i := 0) rfl))
  have pre33 : ∀ t, Steps p.tables e below (T32.setTop (mkF m 58 #[.val (.int p1), .val (.int p2), .val (.int p3), .unset, .unset, .unset, .unset, .unset, .unset, .unset, .unset, .unset, .unset, .unset, .unset] [(.int (8 : Int32)), (.ref bb), (.ref bb)])) t → Steps p.tables e below _ t := fun t kt => pre31 t (by
    show Steps p.tables e below (T30.setTop (mkF m 54 #[.val (.int p1), .val (.int p2), .val (.int p3), .unset, .unset, .unset, .unset, .unset, .unset, .unset, .unset, .unset, .unset, .unset, .unset] [(.ref (ak 7)), (.int (7 : Int32)), (.ref bb), (.ref bb)])) _
    refine st32 _ ?_
    show Steps p.tables e below (T32.setTop (mkF m 55 #[.val (.int p1), .val (.int p2), .val (.int p3), .unset, .unset, .unset, .unset, .unset, .unset, .unset, .unset, .unset, .unset, .unset, .unset] [(.ref bb)])) _
    refine XS.dup X32.here hx rfl (hb hby at_55) rfl rfl ?_
    show Steps p.tables e below (T32.setTop (mkF m 56 #[.val (.int p1), .val (.int p2), .val (.int p3), .unset, .unset, .unset, .unset, .unset, .unset, .unset, .unset, .unset, .unset, .unset, .unset] [(.ref bb), (.ref bb)])) _
    refine XS.bipush X32.here hx rfl (hb hby at_56) ?_
    exact kt)
  obtain ⟨T34, X34, e34, st34⟩ := getS X32 hx hZ hown (hw _ (List.mem_of_getElem? (i := 20) rfl)) Via.refl e32 (own_Sta_keep S8 Kp32) (g := (mkF m 58 #[.val (.int p1), .val (.int p2), .val (.int p3), .unset, .unset, .unset, .unset, .unset, .unset, .unset, .unset, .unset, .unset, .unset, .unset] [(.int (8 : Int32)), (.ref bb), (.ref bb)])) rfl (hb hby at_58) (host := "")
  have pre35 : ∀ t, Steps p.tables e below (T34.setTop (mkF m 61 #[.val (.int p1), .val (.int p2), .val (.int p3), .unset, .unset, .unset, .unset, .unset, .unset, .unset, .unset, .unset, .unset, .unset, .unset] [(.ref (ak 8)), (.int (8 : Int32)), (.ref bb), (.ref bb)])) t → Steps p.tables e below _ t := fun t kt => pre33 t (by
    show Steps p.tables e below (T32.setTop (mkF m 58 #[.val (.int p1), .val (.int p2), .val (.int p3), .unset, .unset, .unset, .unset, .unset, .unset, .unset, .unset, .unset, .unset, .unset, .unset] [(.int (8 : Int32)), (.ref bb), (.ref bb)])) _
    refine st34 _ ?_
    exact kt)
  obtain ⟨cl_8, Ar_8, q_8, Sz_8, -⟩ := id F_7
  have Ek_8 := (EK 8 (by decide)).keep Kp32
  obtain ⟨T36, h36, X36, e36, W36, st36⟩ := stR X34 hx hZ e34 Ar_8 (j := (8 : Int32)) (within (c := 8) rfl (by rw [Sz_8]; decide) (by rw [Sz_8]; decide)) rfl (Sto.ofV Ar_8 q_8 OV (Ins.self Ek_8)) (g := (mkF m 61 #[.val (.int p1), .val (.int p2), .val (.int p3), .unset, .unset, .unset, .unset, .unset, .unset, .unset, .unset, .unset, .unset, .unset, .unset] [(.ref (ak 8)), (.int (8 : Int32)), (.ref bb), (.ref bb)])) rfl rfl (hb hby at_61)
  have N36 := Fr.snoc X36 N32 g_bb
  have Zs36 : n0 ≤ h36.size := Nat.le_trans Zs32 (Nat.le_of_eq W36.size.symm)
  have Kp36 : Keep h0 h36 [] := Kp32.wr W36 (Or.inr sz_bb)
  have F_8 := own_V_set F_7 (show Wr _ _ _ 8 (.ref (ak 8)) from W36)
  have Kq_8 : Keep hS h36 [bb] := Kq_7.wr W36 (Or.inl (List.mem_of_getElem? (i := 0) rfl))
  have pre37 : ∀ t, Steps p.tables e below (T36.setTop (mkF m 65 #[.val (.int p1), .val (.int p2), .val (.int p3), .unset, .unset, .unset, .unset, .unset, .unset, .unset, .unset, .unset, .unset, .unset, .unset] [(.int (9 : Int32)), (.ref bb), (.ref bb)])) t → Steps p.tables e below _ t := fun t kt => pre35 t (by
    show Steps p.tables e below (T34.setTop (mkF m 61 #[.val (.int p1), .val (.int p2), .val (.int p3), .unset, .unset, .unset, .unset, .unset, .unset, .unset, .unset, .unset, .unset, .unset, .unset] [(.ref (ak 8)), (.int (8 : Int32)), (.ref bb), (.ref bb)])) _
    refine st36 _ ?_
    show Steps p.tables e below (T36.setTop (mkF m 62 #[.val (.int p1), .val (.int p2), .val (.int p3), .unset, .unset, .unset, .unset, .unset, .unset, .unset, .unset, .unset, .unset, .unset, .unset] [(.ref bb)])) _
    refine XS.dup X36.here hx rfl (hb hby at_62) rfl rfl ?_
    show Steps p.tables e below (T36.setTop (mkF m 63 #[.val (.int p1), .val (.int p2), .val (.int p3), .unset, .unset, .unset, .unset, .unset, .unset, .unset, .unset, .unset, .unset, .unset, .unset] [(.ref bb), (.ref bb)])) _
    refine XS.bipush X36.here hx rfl (hb hby at_63) ?_
    exact kt)
  obtain ⟨T38, X38, e38, st38⟩ := getS X36 hx hZ hown (hw _ (List.mem_of_getElem? (i := 22) rfl)) Via.refl e36 (own_Sta_keep S9 Kp36) (g := (mkF m 65 #[.val (.int p1), .val (.int p2), .val (.int p3), .unset, .unset, .unset, .unset, .unset, .unset, .unset, .unset, .unset, .unset, .unset, .unset] [(.int (9 : Int32)), (.ref bb), (.ref bb)])) rfl (hb hby at_65) (host := "")
  have pre39 : ∀ t, Steps p.tables e below (T38.setTop (mkF m 68 #[.val (.int p1), .val (.int p2), .val (.int p3), .unset, .unset, .unset, .unset, .unset, .unset, .unset, .unset, .unset, .unset, .unset, .unset] [(.ref (ak 9)), (.int (9 : Int32)), (.ref bb), (.ref bb)])) t → Steps p.tables e below _ t := fun t kt => pre37 t (by
    show Steps p.tables e below (T36.setTop (mkF m 65 #[.val (.int p1), .val (.int p2), .val (.int p3), .unset, .unset, .unset, .unset, .unset, .unset, .unset, .unset, .unset, .unset, .unset, .unset] [(.int (9 : Int32)), (.ref bb), (.ref bb)])) _
    refine st38 _ ?_
    exact kt)
  obtain ⟨cl_9, Ar_9, q_9, Sz_9, -⟩ := id F_8
  have Ek_9 := (EK 9 (by decide)).keep Kp36
  obtain ⟨T40, h40, X40, e40, W40, st40⟩ := stR X38 hx hZ e38 Ar_9 (j := (9 : Int32)) (within (c := 9) rfl (by rw [Sz_9]; decide) (by rw [Sz_9]; decide)) rfl (Sto.ofV Ar_9 q_9 OV (Ins.self Ek_9)) (g := (mkF m 68 #[.val (.int p1), .val (.int p2), .val (.int p3), .unset, .unset, .unset, .unset, .unset, .unset, .unset, .unset, .unset, .unset, .unset, .unset] [(.ref (ak 9)), (.int (9 : Int32)), (.ref bb), (.ref bb)])) rfl rfl (hb hby at_68)
  have N40 := Fr.snoc X40 N36 g_bb
  have Zs40 : n0 ≤ h40.size := Nat.le_trans Zs36 (Nat.le_of_eq W40.size.symm)
  have Kp40 : Keep h0 h40 [] := Kp36.wr W40 (Or.inr sz_bb)
  have F_9 := own_V_set F_8 (show Wr _ _ _ 9 (.ref (ak 9)) from W40)
  have Kq_9 : Keep hS h40 [bb] := Kq_8.wr W40 (Or.inl (List.mem_of_getElem? (i := 0) rfl))
  have pre41 : ∀ t, Steps p.tables e below (T40.setTop (mkF m 72 #[.val (.int p1), .val (.int p2), .val (.int p3), .unset, .unset, .unset, .unset, .unset, .unset, .unset, .unset, .unset, .unset, .unset, .unset] [(.int (10 : Int32)), (.ref bb), (.ref bb)])) t → Steps p.tables e below _ t := fun t kt => pre39 t (by
    show Steps p.tables e below (T38.setTop (mkF m 68 #[.val (.int p1), .val (.int p2), .val (.int p3), .unset, .unset, .unset, .unset, .unset, .unset, .unset, .unset, .unset, .unset, .unset, .unset] [(.ref (ak 9)), (.int (9 : Int32)), (.ref bb), (.ref bb)])) _
    refine st40 _ ?_
    show Steps p.tables e below (T40.setTop (mkF m 69 #[.val (.int p1), .val (.int p2), .val (.int p3), .unset, .unset, .unset, .unset, .unset, .unset, .unset, .unset, .unset, .unset, .unset, .unset] [(.ref bb)])) _
    refine XS.dup X40.here hx rfl (hb hby at_69) rfl rfl ?_
    show Steps p.tables e below (T40.setTop (mkF m 70 #[.val (.int p1), .val (.int p2), .val (.int p3), .unset, .unset, .unset, .unset, .unset, .unset, .unset, .unset, .unset, .unset, .unset, .unset] [(.ref bb), (.ref bb)])) _
    refine XS.bipush X40.here hx rfl (hb hby at_70) ?_
    exact kt)
  obtain ⟨T42, X42, e42, st42⟩ := getS X40 hx hZ hown (hw _ (List.mem_of_getElem? (i := 24) rfl)) Via.refl e40 (own_Sta_keep S10 Kp40) (g := (mkF m 72 #[.val (.int p1), .val (.int p2), .val (.int p3), .unset, .unset, .unset, .unset, .unset, .unset, .unset, .unset, .unset, .unset, .unset, .unset] [(.int (10 : Int32)), (.ref bb), (.ref bb)])) rfl (hb hby at_72) (host := "")
  have pre43 : ∀ t, Steps p.tables e below (T42.setTop (mkF m 75 #[.val (.int p1), .val (.int p2), .val (.int p3), .unset, .unset, .unset, .unset, .unset, .unset, .unset, .unset, .unset, .unset, .unset, .unset] [(.ref (ak 10)), (.int (10 : Int32)), (.ref bb), (.ref bb)])) t → Steps p.tables e below _ t := fun t kt => pre41 t (by
    show Steps p.tables e below (T40.setTop (mkF m 72 #[.val (.int p1), .val (.int p2), .val (.int p3), .unset, .unset, .unset, .unset, .unset, .unset, .unset, .unset, .unset, .unset, .unset, .unset] [(.int (10 : Int32)), (.ref bb), (.ref bb)])) _
    refine st42 _ ?_
    exact kt)
  obtain ⟨cl_10, Ar_10, q_10, Sz_10, -⟩ := id F_9
  have Ek_10 := (EK 10 (by decide)).keep Kp40
  obtain ⟨T44, h44, X44, e44, W44, st44⟩ := stR X42 hx hZ e42 Ar_10 (j := (10 : Int32)) (within (c := 10) rfl (by rw [Sz_10]; decide) (by rw [Sz_10]; decide)) rfl (Sto.ofV Ar_10 q_10 OV (Ins.self Ek_10)) (g := (mkF m 75 #[.val (.int p1), .val (.int p2), .val (.int p3), .unset, .unset, .unset, .unset, .unset, .unset, .unset, .unset, .unset, .unset, .unset, .unset] [(.ref (ak 10)), (.int (10 : Int32)), (.ref bb), (.ref bb)])) rfl rfl (hb hby at_75)
  have N44 := Fr.snoc X44 N40 g_bb
  have Zs44 : n0 ≤ h44.size := Nat.le_trans Zs40 (Nat.le_of_eq W44.size.symm)
  have Kp44 : Keep h0 h44 [] := Kp40.wr W44 (Or.inr sz_bb)
  have F_10 := own_V_set F_9 (show Wr _ _ _ 10 (.ref (ak 10)) from W44)
  have Kq_10 : Keep hS h44 [bb] := Kq_9.wr W44 (Or.inl (List.mem_of_getElem? (i := 0) rfl))
  have pre45 : ∀ t, Steps p.tables e below (T44.setTop (mkF m 79 #[.val (.int p1), .val (.int p2), .val (.int p3), .unset, .unset, .unset, .unset, .unset, .unset, .unset, .unset, .unset, .unset, .unset, .unset] [(.int (11 : Int32)), (.ref bb), (.ref bb)])) t → Steps p.tables e below _ t := fun t kt => pre43 t (by
    show Steps p.tables e below (T42.setTop (mkF m 75 #[.val (.int p1), .val (.int p2), .val (.int p3), .unset, .unset, .unset, .unset, .unset, .unset, .unset, .unset, .unset, .unset, .unset, .unset] [(.ref (ak 10)), (.int (10 : Int32)), (.ref bb), (.ref bb)])) _
    refine st44 _ ?_
    show Steps p.tables e below (T44.setTop (mkF m 76 #[.val (.int p1), .val (.int p2), .val (.int p3), .unset, .unset, .unset, .unset, .unset, .unset, .unset, .unset, .unset, .unset, .unset, .unset] [(.ref bb)])) _
    refine XS.dup X44.here hx rfl (hb hby at_76) rfl rfl ?_
    show Steps p.tables e below (T44.setTop (mkF m 77 #[.val (.int p1), .val (.int p2), .val (.int p3), .unset, .unset, .unset, .unset, .unset, .unset, .unset, .unset, .unset, .unset, .unset, .unset] [(.ref bb), (.ref bb)])) _
    refine XS.bipush X44.here hx rfl (hb hby at_77) ?_
    exact kt)
  obtain ⟨T46, X46, e46, st46⟩ := getS X44 hx hZ hown (hw _ (List.mem_of_getElem? (i := 26) rfl)) Via.refl e44 (own_Sta_keep S11 Kp44) (g := (mkF m 79 #[.val (.int p1), .val (.int p2), .val (.int p3), .unset, .unset, .unset, .unset, .unset, .unset, .unset, .unset, .unset, .unset, .unset, .unset] [(.int (11 : Int32)), (.ref bb), (.ref bb)])) rfl (hb hby at_79) (host := "")
  have pre47 : ∀ t, Steps p.tables e below (T46.setTop (mkF m 82 #[.val (.int p1), .val (.int p2), .val (.int p3), .unset, .unset, .unset, .unset, .unset, .unset, .unset, .unset, .unset, .unset, .unset, .unset] [(.ref (ak 11)), (.int (11 : Int32)), (.ref bb), (.ref bb)])) t → Steps p.tables e below _ t := fun t kt => pre45 t (by
    show Steps p.tables e below (T44.setTop (mkF m 79 #[.val (.int p1), .val (.int p2), .val (.int p3), .unset, .unset, .unset, .unset, .unset, .unset, .unset, .unset, .unset, .unset, .unset, .unset] [(.int (11 : Int32)), (.ref bb), (.ref bb)])) _
    refine st46 _ ?_
    exact kt)
  obtain ⟨cl_11, Ar_11, q_11, Sz_11, -⟩ := id F_10
  have Ek_11 := (EK 11 (by decide)).keep Kp44
  obtain ⟨T48, h48, X48, e48, W48, st48⟩ := stR X46 hx hZ e46 Ar_11 (j := (11 : Int32)) (within (c := 11) rfl (by rw [Sz_11]; decide) (by rw [Sz_11]; decide)) rfl (Sto.ofV Ar_11 q_11 OV (Ins.self Ek_11)) (g := (mkF m 82 #[.val (.int p1), .val (.int p2), .val (.int p3), .unset, .unset, .unset, .unset, .unset, .unset, .unset, .unset, .unset, .unset, .unset, .unset] [(.ref (ak 11)), (.int (11 : Int32)), (.ref bb), (.ref bb)])) rfl rfl (hb hby at_82)
  have N48 := Fr.snoc X48 N44 g_bb
  have Zs48 : n0 ≤ h48.size := Nat.le_trans Zs44 (Nat.le_of_eq W48.size.symm)
  have Kp48 : Keep h0 h48 [] := Kp44.wr W48 (Or.inr sz_bb)
  have F_11 := own_V_set F_10 (show Wr _ _ _ 11 (.ref (ak 11)) from W48)
  have Kq_11 : Keep hS h48 [bb] := Kq_10.wr W48 (Or.inl (List.mem_of_getElem? (i := 0) rfl))
  have pre49 : ∀ t, Steps p.tables e below (T48.setTop (mkF m 86 #[.val (.int p1), .val (.int p2), .val (.int p3), .unset, .unset, .unset, .unset, .unset, .unset, .unset, .unset, .unset, .unset, .unset, .unset] [(.int (12 : Int32)), (.ref bb), (.ref bb)])) t → Steps p.tables e below _ t := fun t kt => pre47 t (by
    show Steps p.tables e below (T46.setTop (mkF m 82 #[.val (.int p1), .val (.int p2), .val (.int p3), .unset, .unset, .unset, .unset, .unset, .unset, .unset, .unset, .unset, .unset, .unset, .unset] [(.ref (ak 11)), (.int (11 : Int32)), (.ref bb), (.ref bb)])) _
    refine st48 _ ?_
    show Steps p.tables e below (T48.setTop (mkF m 83 #[.val (.int p1), .val (.int p2), .val (.int p3), .unset, .unset, .unset, .unset, .unset, .unset, .unset, .unset, .unset, .unset, .unset, .unset] [(.ref bb)])) _
    refine XS.dup X48.here hx rfl (hb hby at_83) rfl rfl ?_
    show Steps p.tables e below (T48.setTop (mkF m 84 #[.val (.int p1), .val (.int p2), .val (.int p3), .unset, .unset, .unset, .unset, .unset, .unset, .unset, .unset, .unset, .unset, .unset, .unset] [(.ref bb), (.ref bb)])) _
    refine XS.bipush X48.here hx rfl (hb hby at_84) ?_
    exact kt)
  obtain ⟨T50, X50, e50, st50⟩ := getS X48 hx hZ hown (hw _ (List.mem_of_getElem? (i := 28) rfl)) Via.refl e48 (own_Sta_keep S12 Kp48) (g := (mkF m 86 #[.val (.int p1), .val (.int p2), .val (.int p3), .unset, .unset, .unset, .unset, .unset, .unset, .unset, .unset, .unset, .unset, .unset, .unset] [(.int (12 : Int32)), (.ref bb), (.ref bb)])) rfl (hb hby at_86) (host := "")
  have pre51 : ∀ t, Steps p.tables e below (T50.setTop (mkF m 89 #[.val (.int p1), .val (.int p2), .val (.int p3), .unset, .unset, .unset, .unset, .unset, .unset, .unset, .unset, .unset, .unset, .unset, .unset] [(.ref (ak 12)), (.int (12 : Int32)), (.ref bb), (.ref bb)])) t → Steps p.tables e below _ t := fun t kt => pre49 t (by
    show Steps p.tables e below (T48.setTop (mkF m 86 #[.val (.int p1), .val (.int p2), .val (.int p3), .unset, .unset, .unset, .unset, .unset, .unset, .unset, .unset, .unset, .unset, .unset, .unset] [(.int (12 : Int32)), (.ref bb), (.ref bb)])) _
    refine st50 _ ?_
    exact kt)
  obtain ⟨cl_12, Ar_12, q_12, Sz_12, -⟩ := id F_11
  have Ek_12 := (EK 12 (by decide)).keep Kp48
  obtain ⟨T52, h52, X52, e52, W52, st52⟩ := stR X50 hx hZ e50 Ar_12 (j := (12 : Int32)) (within (c := 12) rfl (by rw [Sz_12]; decide) (by rw [Sz_12]; decide)) rfl (Sto.ofV Ar_12 q_12 OV (Ins.self Ek_12)) (g := (mkF m 89 #[.val (.int p1), .val (.int p2), .val (.int p3), .unset, .unset, .unset, .unset, .unset, .unset, .unset, .unset, .unset, .unset, .unset, .unset] [(.ref (ak 12)), (.int (12 : Int32)), (.ref bb), (.ref bb)])) rfl rfl (hb hby at_89)
  have N52 := Fr.snoc X52 N48 g_bb
  have Zs52 : n0 ≤ h52.size := Nat.le_trans Zs48 (Nat.le_of_eq W52.size.symm)
  have Kp52 : Keep h0 h52 [] := Kp48.wr W52 (Or.inr sz_bb)
  have F_12 := own_V_set F_11 (show Wr _ _ _ 12 (.ref (ak 12)) from W52)
  have Kq_12 : Keep hS h52 [bb] := Kq_11.wr W52 (Or.inl (List.mem_of_getElem? (i := 0) rfl))
  have pre53 : ∀ t, Steps p.tables e below (T52.setTop (mkF m 93 #[.val (.int p1), .val (.int p2), .val (.int p3), .unset, .unset, .unset, .unset, .unset, .unset, .unset, .unset, .unset, .unset, .unset, .unset] [(.int (13 : Int32)), (.ref bb), (.ref bb)])) t → Steps p.tables e below _ t := fun t kt => pre51 t (by
    show Steps p.tables e below (T50.setTop (mkF m 89 #[.val (.int p1), .val (.int p2), .val (.int p3), .unset, .unset, .unset, .unset, .unset, .unset, .unset, .unset, .unset, .unset, .unset, .unset] [(.ref (ak 12)), (.int (12 : Int32)), (.ref bb), (.ref bb)])) _
    refine st52 _ ?_
    show Steps p.tables e below (T52.setTop (mkF m 90 #[.val (.int p1), .val (.int p2), .val (.int p3), .unset, .unset, .unset, .unset, .unset, .unset, .unset, .unset, .unset, .unset, .unset, .unset] [(.ref bb)])) _
    refine XS.dup X52.here hx rfl (hb hby at_90) rfl rfl ?_
    show Steps p.tables e below (T52.setTop (mkF m 91 #[.val (.int p1), .val (.int p2), .val (.int p3), .unset, .unset, .unset, .unset, .unset, .unset, .unset, .unset, .unset, .unset, .unset, .unset] [(.ref bb), (.ref bb)])) _
    refine XS.bipush X52.here hx rfl (hb hby at_91) ?_
    exact kt)
  obtain ⟨T54, X54, e54, st54⟩ := getS X52 hx hZ hown (hw _ (List.mem_of_getElem? (i := 30) rfl)) Via.refl e52 (own_Sta_keep S13 Kp52) (g := (mkF m 93 #[.val (.int p1), .val (.int p2), .val (.int p3), .unset, .unset, .unset, .unset, .unset, .unset, .unset, .unset, .unset, .unset, .unset, .unset] [(.int (13 : Int32)), (.ref bb), (.ref bb)])) rfl (hb hby at_93) (host := "")
  have pre55 : ∀ t, Steps p.tables e below (T54.setTop (mkF m 96 #[.val (.int p1), .val (.int p2), .val (.int p3), .unset, .unset, .unset, .unset, .unset, .unset, .unset, .unset, .unset, .unset, .unset, .unset] [(.ref (ak 13)), (.int (13 : Int32)), (.ref bb), (.ref bb)])) t → Steps p.tables e below _ t := fun t kt => pre53 t (by
    show Steps p.tables e below (T52.setTop (mkF m 93 #[.val (.int p1), .val (.int p2), .val (.int p3), .unset, .unset, .unset, .unset, .unset, .unset, .unset, .unset, .unset, .unset, .unset, .unset] [(.int (13 : Int32)), (.ref bb), (.ref bb)])) _
    refine st54 _ ?_
    exact kt)
  obtain ⟨cl_13, Ar_13, q_13, Sz_13, -⟩ := id F_12
  have Ek_13 := (EK 13 (by decide)).keep Kp52
  obtain ⟨T56, h56, X56, e56, W56, st56⟩ := stR X54 hx hZ e54 Ar_13 (j := (13 : Int32)) (within (c := 13) rfl (by rw [Sz_13]; decide) (by rw [Sz_13]; decide)) rfl (Sto.ofV Ar_13 q_13 OV (Ins.self Ek_13)) (g := (mkF m 96 #[.val (.int p1), .val (.int p2), .val (.int p3), .unset, .unset, .unset, .unset, .unset, .unset, .unset, .unset, .unset, .unset, .unset, .unset] [(.ref (ak 13)), (.int (13 : Int32)), (.ref bb), (.ref bb)])) rfl rfl (hb hby at_96)
  have N56 := Fr.snoc X56 N52 g_bb
  have Zs56 : n0 ≤ h56.size := Nat.le_trans Zs52 (Nat.le_of_eq W56.size.symm)
  have Kp56 : Keep h0 h56 [] := Kp52.wr W56 (Or.inr sz_bb)
  have F_13 := own_V_set F_12 (show Wr _ _ _ 13 (.ref (ak 13)) from W56)
  have Kq_13 : Keep hS h56 [bb] := Kq_12.wr W56 (Or.inl (List.mem_of_getElem? (i := 0) rfl))
  have pre57 : ∀ t, Steps p.tables e below (T56.setTop (mkF m 100 #[.val (.int p1), .val (.int p2), .val (.int p3), .unset, .unset, .unset, .unset, .unset, .unset, .unset, .unset, .unset, .unset, .unset, .unset] [(.int (14 : Int32)), (.ref bb), (.ref bb)])) t → Steps p.tables e below _ t := fun t kt => pre55 t (by
    show Steps p.tables e below (T54.setTop (mkF m 96 #[.val (.int p1), .val (.int p2), .val (.int p3), .unset, .unset, .unset, .unset, .unset, .unset, .unset, .unset, .unset, .unset, .unset, .unset] [(.ref (ak 13)), (.int (13 : Int32)), (.ref bb), (.ref bb)])) _
    refine st56 _ ?_
    show Steps p.tables e below (T56.setTop (mkF m 97 #[.val (.int p1), .val (.int p2), .val (.int p3), .unset, .unset, .unset, .unset, .unset, .unset, .unset, .unset, .unset, .unset, .unset, .unset] [(.ref bb)])) _
    refine XS.dup X56.here hx rfl (hb hby at_97) rfl rfl ?_
    show Steps p.tables e below (T56.setTop (mkF m 98 #[.val (.int p1), .val (.int p2), .val (.int p3), .unset, .unset, .unset, .unset, .unset, .unset, .unset, .unset, .unset, .unset, .unset, .unset] [(.ref bb), (.ref bb)])) _
    refine XS.bipush X56.here hx rfl (hb hby at_98) ?_
    exact kt)
  obtain ⟨T58, X58, e58, st58⟩ := getS X56 hx hZ hown (hw _ (List.mem_of_getElem? (i := 32) rfl)) Via.refl e56 (own_Sta_keep S14 Kp56) (g := (mkF m 100 #[.val (.int p1), .val (.int p2), .val (.int p3), .unset, .unset, .unset, .unset, .unset, .unset, .unset, .unset, .unset, .unset, .unset, .unset] [(.int (14 : Int32)), (.ref bb), (.ref bb)])) rfl (hb hby at_100) (host := "")
  have pre59 : ∀ t, Steps p.tables e below (T58.setTop (mkF m 103 #[.val (.int p1), .val (.int p2), .val (.int p3), .unset, .unset, .unset, .unset, .unset, .unset, .unset, .unset, .unset, .unset, .unset, .unset] [(.ref (ak 14)), (.int (14 : Int32)), (.ref bb), (.ref bb)])) t → Steps p.tables e below _ t := fun t kt => pre57 t (by
    show Steps p.tables e below (T56.setTop (mkF m 100 #[.val (.int p1), .val (.int p2), .val (.int p3), .unset, .unset, .unset, .unset, .unset, .unset, .unset, .unset, .unset, .unset, .unset, .unset] [(.int (14 : Int32)), (.ref bb), (.ref bb)])) _
    refine st58 _ ?_
    exact kt)
  obtain ⟨cl_14, Ar_14, q_14, Sz_14, -⟩ := id F_13
  have Ek_14 := (EK 14 (by decide)).keep Kp56
  obtain ⟨T60, h60, X60, e60, W60, st60⟩ := stR X58 hx hZ e58 Ar_14 (j := (14 : Int32)) (within (c := 14) rfl (by rw [Sz_14]; decide) (by rw [Sz_14]; decide)) rfl (Sto.ofV Ar_14 q_14 OV (Ins.self Ek_14)) (g := (mkF m 103 #[.val (.int p1), .val (.int p2), .val (.int p3), .unset, .unset, .unset, .unset, .unset, .unset, .unset, .unset, .unset, .unset, .unset, .unset] [(.ref (ak 14)), (.int (14 : Int32)), (.ref bb), (.ref bb)])) rfl rfl (hb hby at_103)
  have N60 := Fr.snoc X60 N56 g_bb
  have Zs60 : n0 ≤ h60.size := Nat.le_trans Zs56 (Nat.le_of_eq W60.size.symm)
  have Kp60 : Keep h0 h60 [] := Kp56.wr W60 (Or.inr sz_bb)
  have F_14 := own_V_set F_13 (show Wr _ _ _ 14 (.ref (ak 14)) from W60)
  have Kq_14 : Keep hS h60 [bb] := Kq_13.wr W60 (Or.inl (List.mem_of_getElem? (i := 0) rfl))
  have pre61 : ∀ t, Steps p.tables e below (T60.setTop (mkF m 104 #[.val (.int p1), .val (.int p2), .val (.int p3), .unset, .unset, .unset, .unset, .unset, .unset, .unset, .unset, .unset, .unset, .unset, .unset] [(.ref bb)])) t → Steps p.tables e below _ t := fun t kt => pre59 t (by
    show Steps p.tables e below (T58.setTop (mkF m 103 #[.val (.int p1), .val (.int p2), .val (.int p3), .unset, .unset, .unset, .unset, .unset, .unset, .unset, .unset, .unset, .unset, .unset, .unset] [(.ref (ak 14)), (.int (14 : Int32)), (.ref bb), (.ref bb)])) _
    refine st60 _ ?_
    exact kt)
  refine ⟨T60, h60, _, X60, e60, N60, Zs60, Kp60, Kq_14, own_V_congr F_14 ?_, pre61⟩
  intro j hj
  have hj' : j = 0 ∨ j = 1 ∨ j = 2 ∨ j = 3 ∨ j = 4 ∨ j = 5 ∨ j = 6 ∨ j = 7 ∨ j = 8 ∨ j = 9 ∨ j = 10 ∨ j = 11 ∨ j = 12 ∨ j = 13 ∨ j = 14 := by omega
  rcases hj' with rfl | rfl | rfl | rfl | rfl | rfl | rfl | rfl | rfl | rfl | rfl | rfl | rfl | rfl | rfl <;> rfl
set_option maxRecDepth 65536 in
set_option maxHeartbeats 40000000 in
theorem own_fillL {p : Program} {l : Launch} {e : Env} {R : Room} {s : State} {m : MethodId} {args : Array Value} {below : List Frame} {meth : Method} {c : Code} {T0 : State} {locs : List Loc} {cells slots : Nat} {Z : State} {a0 : Array Value} {h0 : Heap} {n0 : Nat} {hS : Heap} (p1 p2 p3 : Int32) (bk bb : Addr)
    (X0 : Stand p l e R s m args below meth c T0 locs cells slots) (hx : p.tables.exec = Jvm.exec) (hZ : Z.Warmed39 s.vm) (hw : ∀ d ∈ tables_1, d.before a0 Z = true) (hby : c.code = code) (hml : c.maxLocals = 15) (hown : s.vm.findClass "com/example/ledgerstream/ledgerstream/io/ApiKeySupportsPinLaw" = some m.cls) (e0 : T0.heap = hS) (N0 : Fr n0 locs) (Z0 : n0 ≤ hS.size) (KE : Keep h0 hS []) (sz_bb : h0.size ≤ bb) (g_bb : n0 ≤ bb) (F0 : own_A Z hS bb .int 15 (fun _ => 0)) :
    ∃ (T' : State) (h' : Heap) (locs' : List Loc), Stand p l e R s m args below meth c T' locs' cells slots ∧ T'.heap = h' ∧ Fr n0 locs' ∧ n0 ≤ h'.size ∧ Keep h0 h' [] ∧ Keep hS h' [bb] ∧ own_A Z h' bb .int 15 own_lo ∧
      ∀ t, Steps p.tables e below (T'.setTop (mkF m 178 #[.val (.int p1), .val (.int p2), .val (.int p3), .val (.ref bk), .unset, .unset, .unset, .unset, .unset, .unset, .unset, .unset, .unset, .unset, .unset] [(.ref bb)])) t → Steps p.tables e below (T0.setTop (mkF m 109 #[.val (.int p1), .val (.int p2), .val (.int p3), .val (.ref bk), .unset, .unset, .unset, .unset, .unset, .unset, .unset, .unset, .unset, .unset, .unset] [(.ref bb)])) t := by
  have pre0 : ∀ t, Steps p.tables e below (T0.setTop (mkF m 109 #[.val (.int p1), .val (.int p2), .val (.int p3), .val (.ref bk), .unset, .unset, .unset, .unset, .unset, .unset, .unset, .unset, .unset, .unset, .unset] [(.ref bb)])) t → Steps p.tables e below (T0.setTop (mkF m 109 #[.val (.int p1), .val (.int p2), .val (.int p3), .val (.ref bk), .unset, .unset, .unset, .unset, .unset, .unset, .unset, .unset, .unset, .unset, .unset] [(.ref bb)])) t := fun t k => k
  have pre1 : ∀ t, Steps p.tables e below (T0.setTop (mkF m 112 #[.val (.int p1), .val (.int p2), .val (.int p3), .val (.ref bk), .unset, .unset, .unset, .unset, .unset, .unset, .unset, .unset, .unset, .unset, .unset] [(.int (3 : Int32)), (.int (0 : Int32)), (.ref bb), (.ref bb)])) t → Steps p.tables e below _ t := fun t kt => pre0 t (by
    show Steps p.tables e below (T0.setTop (mkF m 109 #[.val (.int p1), .val (.int p2), .val (.int p3), .val (.ref bk), .unset, .unset, .unset, .unset, .unset, .unset, .unset, .unset, .unset, .unset, .unset] [(.ref bb)])) _
    refine XS.dup X0.here hx rfl (hb hby at_109) rfl rfl ?_
    show Steps p.tables e below (T0.setTop (mkF m 110 #[.val (.int p1), .val (.int p2), .val (.int p3), .val (.ref bk), .unset, .unset, .unset, .unset, .unset, .unset, .unset, .unset, .unset, .unset, .unset] [(.ref bb), (.ref bb)])) _
    refine XS.iconst X0.here hx rfl (hb hby at_110) ?_
    show Steps p.tables e below (T0.setTop (mkF m 111 #[.val (.int p1), .val (.int p2), .val (.int p3), .val (.ref bk), .unset, .unset, .unset, .unset, .unset, .unset, .unset, .unset, .unset, .unset, .unset] [(.int (0 : Int32)), (.ref bb), (.ref bb)])) _
    refine XS.iconst X0.here hx rfl (hb hby at_111) ?_
    exact kt)
  obtain ⟨cl_0, Ar_0, Sz_0, -⟩ := id F0
  obtain ⟨T2, h2, X2, e2, W2, st2⟩ := stI X0 hx hZ e0 Ar_0 (j := (0 : Int32)) (within (c := 0) rfl (by rw [Sz_0]; decide) (by rw [Sz_0]; decide)) (g := (mkF m 112 #[.val (.int p1), .val (.int p2), .val (.int p3), .val (.ref bk), .unset, .unset, .unset, .unset, .unset, .unset, .unset, .unset, .unset, .unset, .unset] [(.int (3 : Int32)), (.int (0 : Int32)), (.ref bb), (.ref bb)])) rfl rfl (hb hby at_112)
  have N2 := Fr.snoc X2 N0 g_bb
  have Zs2 : n0 ≤ h2.size := Nat.le_trans Z0 (Nat.le_of_eq W2.size.symm)
  have Kp2 : Keep h0 h2 [] := KE.wr W2 (Or.inr sz_bb)
  have F_0 := own_A_set F0 (show Wr _ _ _ 0 (.int (3 : Int32)) from W2)
  have Kq_0 : Keep hS h2 [bb] := (Keep.refl hS [bb]).wr W2 (Or.inl (List.mem_of_getElem? (i := 0) rfl))
  have pre3 : ∀ t, Steps p.tables e below (T2.setTop (mkF m 116 #[.val (.int p1), .val (.int p2), .val (.int p3), .val (.ref bk), .unset, .unset, .unset, .unset, .unset, .unset, .unset, .unset, .unset, .unset, .unset] [(.int (4 : Int32)), (.int (1 : Int32)), (.ref bb), (.ref bb)])) t → Steps p.tables e below _ t := fun t kt => pre1 t (by
    show Steps p.tables e below (T0.setTop (mkF m 112 #[.val (.int p1), .val (.int p2), .val (.int p3), .val (.ref bk), .unset, .unset, .unset, .unset, .unset, .unset, .unset, .unset, .unset, .unset, .unset] [(.int (3 : Int32)), (.int (0 : Int32)), (.ref bb), (.ref bb)])) _
    refine st2 _ ?_
    show Steps p.tables e below (T2.setTop (mkF m 113 #[.val (.int p1), .val (.int p2), .val (.int p3), .val (.ref bk), .unset, .unset, .unset, .unset, .unset, .unset, .unset, .unset, .unset, .unset, .unset] [(.ref bb)])) _
    refine XS.dup X2.here hx rfl (hb hby at_113) rfl rfl ?_
    show Steps p.tables e below (T2.setTop (mkF m 114 #[.val (.int p1), .val (.int p2), .val (.int p3), .val (.ref bk), .unset, .unset, .unset, .unset, .unset, .unset, .unset, .unset, .unset, .unset, .unset] [(.ref bb), (.ref bb)])) _
    refine XS.iconst X2.here hx rfl (hb hby at_114) ?_
    show Steps p.tables e below (T2.setTop (mkF m 115 #[.val (.int p1), .val (.int p2), .val (.int p3), .val (.ref bk), .unset, .unset, .unset, .unset, .unset, .unset, .unset, .unset, .unset, .unset, .unset] [(.int (1 : Int32)), (.ref bb), (.ref bb)])) _
    refine XS.iconst X2.here hx rfl (hb hby at_115) ?_
    exact kt)
  obtain ⟨cl_1, Ar_1, Sz_1, -⟩ := id F_0
  obtain ⟨T4, h4, X4, e4, W4, st4⟩ := stI X2 hx hZ e2 Ar_1 (j := (1 : Int32)) (within (c := 1) rfl (by rw [Sz_1]; decide) (by rw [Sz_1]; decide)) (g := (mkF m 116 #[.val (.int p1), .val (.int p2), .val (.int p3), .val (.ref bk), .unset, .unset, .unset, .unset, .unset, .unset, .unset, .unset, .unset, .unset, .unset] [(.int (4 : Int32)), (.int (1 : Int32)), (.ref bb), (.ref bb)])) rfl rfl (hb hby at_116)
  have N4 := Fr.snoc X4 N2 g_bb
  have Zs4 : n0 ≤ h4.size := Nat.le_trans Zs2 (Nat.le_of_eq W4.size.symm)
  have Kp4 : Keep h0 h4 [] := Kp2.wr W4 (Or.inr sz_bb)
  have F_1 := own_A_set F_0 (show Wr _ _ _ 1 (.int (4 : Int32)) from W4)
  have Kq_1 : Keep hS h4 [bb] := Kq_0.wr W4 (Or.inl (List.mem_of_getElem? (i := 0) rfl))
  have pre5 : ∀ t, Steps p.tables e below (T4.setTop (mkF m 120 #[.val (.int p1), .val (.int p2), .val (.int p3), .val (.ref bk), .unset, .unset, .unset, .unset, .unset, .unset, .unset, .unset, .unset, .unset, .unset] [(.int (1 : Int32)), (.int (2 : Int32)), (.ref bb), (.ref bb)])) t → Steps p.tables e below _ t := fun t kt => pre3 t (by
    show Steps p.tables e below (T2.setTop (mkF m 116 #[.val (.int p1), .val (.int p2), .val (.int p3), .val (.ref bk), .unset, .unset, .unset, .unset, .unset, .unset, .unset, .unset, .unset, .unset, .unset] [(.int (4 : Int32)), (.int (1 : Int32)), (.ref bb), (.ref bb)])) _
    refine st4 _ ?_
    show Steps p.tables e below (T4.setTop (mkF m 117 #[.val (.int p1), .val (.int p2), .val (.int p3), .val (.ref bk), .unset, .unset, .unset, .unset, .unset, .unset, .unset, .unset, .unset, .unset, .unset] [(.ref bb)])) _
    refine XS.dup X4.here hx rfl (hb hby at_117) rfl rfl ?_
    show Steps p.tables e below (T4.setTop (mkF m 118 #[.val (.int p1), .val (.int p2), .val (.int p3), .val (.ref bk), .unset, .unset, .unset, .unset, .unset, .unset, .unset, .unset, .unset, .unset, .unset] [(.ref bb), (.ref bb)])) _
    refine XS.iconst X4.here hx rfl (hb hby at_118) ?_
    show Steps p.tables e below (T4.setTop (mkF m 119 #[.val (.int p1), .val (.int p2), .val (.int p3), .val (.ref bk), .unset, .unset, .unset, .unset, .unset, .unset, .unset, .unset, .unset, .unset, .unset] [(.int (2 : Int32)), (.ref bb), (.ref bb)])) _
    refine XS.iconst X4.here hx rfl (hb hby at_119) ?_
    exact kt)
  obtain ⟨cl_2, Ar_2, Sz_2, -⟩ := id F_1
  obtain ⟨T6, h6, X6, e6, W6, st6⟩ := stI X4 hx hZ e4 Ar_2 (j := (2 : Int32)) (within (c := 2) rfl (by rw [Sz_2]; decide) (by rw [Sz_2]; decide)) (g := (mkF m 120 #[.val (.int p1), .val (.int p2), .val (.int p3), .val (.ref bk), .unset, .unset, .unset, .unset, .unset, .unset, .unset, .unset, .unset, .unset, .unset] [(.int (1 : Int32)), (.int (2 : Int32)), (.ref bb), (.ref bb)])) rfl rfl (hb hby at_120)
  have N6 := Fr.snoc X6 N4 g_bb
  have Zs6 : n0 ≤ h6.size := Nat.le_trans Zs4 (Nat.le_of_eq W6.size.symm)
  have Kp6 : Keep h0 h6 [] := Kp4.wr W6 (Or.inr sz_bb)
  have F_2 := own_A_set F_1 (show Wr _ _ _ 2 (.int (1 : Int32)) from W6)
  have Kq_2 : Keep hS h6 [bb] := Kq_1.wr W6 (Or.inl (List.mem_of_getElem? (i := 0) rfl))
  have pre7 : ∀ t, Steps p.tables e below (T6.setTop (mkF m 124 #[.val (.int p1), .val (.int p2), .val (.int p3), .val (.ref bk), .unset, .unset, .unset, .unset, .unset, .unset, .unset, .unset, .unset, .unset, .unset] [(.int (1 : Int32)), (.int (3 : Int32)), (.ref bb), (.ref bb)])) t → Steps p.tables e below _ t := fun t kt => pre5 t (by
    show Steps p.tables e below (T4.setTop (mkF m 120 #[.val (.int p1), .val (.int p2), .val (.int p3), .val (.ref bk), .unset, .unset, .unset, .unset, .unset, .unset, .unset, .unset, .unset, .unset, .unset] [(.int (1 : Int32)), (.int (2 : Int32)), (.ref bb), (.ref bb)])) _
    refine st6 _ ?_
    show Steps p.tables e below (T6.setTop (mkF m 121 #[.val (.int p1), .val (.int p2), .val (.int p3), .val (.ref bk), .unset, .unset, .unset, .unset, .unset, .unset, .unset, .unset, .unset, .unset, .unset] [(.ref bb)])) _
    refine XS.dup X6.here hx rfl (hb hby at_121) rfl rfl ?_
    show Steps p.tables e below (T6.setTop (mkF m 122 #[.val (.int p1), .val (.int p2), .val (.int p3), .val (.ref bk), .unset, .unset, .unset, .unset, .unset, .unset, .unset, .unset, .unset, .unset, .unset] [(.ref bb), (.ref bb)])) _
    refine XS.iconst X6.here hx rfl (hb hby at_122) ?_
    show Steps p.tables e below (T6.setTop (mkF m 123 #[.val (.int p1), .val (.int p2), .val (.int p3), .val (.ref bk), .unset, .unset, .unset, .unset, .unset, .unset, .unset, .unset, .unset, .unset, .unset] [(.int (3 : Int32)), (.ref bb), (.ref bb)])) _
    refine XS.iconst X6.here hx rfl (hb hby at_123) ?_
    exact kt)
  obtain ⟨cl_3, Ar_3, Sz_3, -⟩ := id F_2
  obtain ⟨T8, h8, X8, e8, W8, st8⟩ := stI X6 hx hZ e6 Ar_3 (j := (3 : Int32)) (within (c := 3) rfl (by rw [Sz_3]; decide) (by rw [Sz_3]; decide)) (g := (mkF m 124 #[.val (.int p1), .val (.int p2), .val (.int p3), .val (.ref bk), .unset, .unset, .unset, .unset, .unset, .unset, .unset, .unset, .unset, .unset, .unset] [(.int (1 : Int32)), (.int (3 : Int32)), (.ref bb), (.ref bb)])) rfl rfl (hb hby at_124)
  have N8 := Fr.snoc X8 N6 g_bb
  have Zs8 : n0 ≤ h8.size := Nat.le_trans Zs6 (Nat.le_of_eq W8.size.symm)
  have Kp8 : Keep h0 h8 [] := Kp6.wr W8 (Or.inr sz_bb)
  have F_3 := own_A_set F_2 (show Wr _ _ _ 3 (.int (1 : Int32)) from W8)
  have Kq_3 : Keep hS h8 [bb] := Kq_2.wr W8 (Or.inl (List.mem_of_getElem? (i := 0) rfl))
  have pre9 : ∀ t, Steps p.tables e below (T8.setTop (mkF m 128 #[.val (.int p1), .val (.int p2), .val (.int p3), .val (.ref bk), .unset, .unset, .unset, .unset, .unset, .unset, .unset, .unset, .unset, .unset, .unset] [(.int (2 : Int32)), (.int (4 : Int32)), (.ref bb), (.ref bb)])) t → Steps p.tables e below _ t := fun t kt => pre7 t (by
    show Steps p.tables e below (T6.setTop (mkF m 124 #[.val (.int p1), .val (.int p2), .val (.int p3), .val (.ref bk), .unset, .unset, .unset, .unset, .unset, .unset, .unset, .unset, .unset, .unset, .unset] [(.int (1 : Int32)), (.int (3 : Int32)), (.ref bb), (.ref bb)])) _
    refine st8 _ ?_
    show Steps p.tables e below (T8.setTop (mkF m 125 #[.val (.int p1), .val (.int p2), .val (.int p3), .val (.ref bk), .unset, .unset, .unset, .unset, .unset, .unset, .unset, .unset, .unset, .unset, .unset] [(.ref bb)])) _
    refine XS.dup X8.here hx rfl (hb hby at_125) rfl rfl ?_
    show Steps p.tables e below (T8.setTop (mkF m 126 #[.val (.int p1), .val (.int p2), .val (.int p3), .val (.ref bk), .unset, .unset, .unset, .unset, .unset, .unset, .unset, .unset, .unset, .unset, .unset] [(.ref bb), (.ref bb)])) _
    refine XS.iconst X8.here hx rfl (hb hby at_126) ?_
    show Steps p.tables e below (T8.setTop (mkF m 127 #[.val (.int p1), .val (.int p2), .val (.int p3), .val (.ref bk), .unset, .unset, .unset, .unset, .unset, .unset, .unset, .unset, .unset, .unset, .unset] [(.int (4 : Int32)), (.ref bb), (.ref bb)])) _
    refine XS.iconst X8.here hx rfl (hb hby at_127) ?_
    exact kt)
  obtain ⟨cl_4, Ar_4, Sz_4, -⟩ := id F_3
  obtain ⟨T10, h10, X10, e10, W10, st10⟩ := stI X8 hx hZ e8 Ar_4 (j := (4 : Int32)) (within (c := 4) rfl (by rw [Sz_4]; decide) (by rw [Sz_4]; decide)) (g := (mkF m 128 #[.val (.int p1), .val (.int p2), .val (.int p3), .val (.ref bk), .unset, .unset, .unset, .unset, .unset, .unset, .unset, .unset, .unset, .unset, .unset] [(.int (2 : Int32)), (.int (4 : Int32)), (.ref bb), (.ref bb)])) rfl rfl (hb hby at_128)
  have N10 := Fr.snoc X10 N8 g_bb
  have Zs10 : n0 ≤ h10.size := Nat.le_trans Zs8 (Nat.le_of_eq W10.size.symm)
  have Kp10 : Keep h0 h10 [] := Kp8.wr W10 (Or.inr sz_bb)
  have F_4 := own_A_set F_3 (show Wr _ _ _ 4 (.int (2 : Int32)) from W10)
  have Kq_4 : Keep hS h10 [bb] := Kq_3.wr W10 (Or.inl (List.mem_of_getElem? (i := 0) rfl))
  have pre11 : ∀ t, Steps p.tables e below (T10.setTop (mkF m 132 #[.val (.int p1), .val (.int p2), .val (.int p3), .val (.ref bk), .unset, .unset, .unset, .unset, .unset, .unset, .unset, .unset, .unset, .unset, .unset] [(.int (1 : Int32)), (.int (5 : Int32)), (.ref bb), (.ref bb)])) t → Steps p.tables e below _ t := fun t kt => pre9 t (by
    show Steps p.tables e below (T8.setTop (mkF m 128 #[.val (.int p1), .val (.int p2), .val (.int p3), .val (.ref bk), .unset, .unset, .unset, .unset, .unset, .unset, .unset, .unset, .unset, .unset, .unset] [(.int (2 : Int32)), (.int (4 : Int32)), (.ref bb), (.ref bb)])) _
    refine st10 _ ?_
    show Steps p.tables e below (T10.setTop (mkF m 129 #[.val (.int p1), .val (.int p2), .val (.int p3), .val (.ref bk), .unset, .unset, .unset, .unset, .unset, .unset, .unset, .unset, .unset, .unset, .unset] [(.ref bb)])) _
    refine XS.dup X10.here hx rfl (hb hby at_129) rfl rfl ?_
    show Steps p.tables e below (T10.setTop (mkF m 130 #[.val (.int p1), .val (.int p2), .val (.int p3), .val (.ref bk), .unset, .unset, .unset, .unset, .unset, .unset, .unset, .unset, .unset, .unset, .unset] [(.ref bb), (.ref bb)])) _
    refine XS.iconst X10.here hx rfl (hb hby at_130) ?_
    show Steps p.tables e below (T10.setTop (mkF m 131 #[.val (.int p1), .val (.int p2), .val (.int p3), .val (.ref bk), .unset, .unset, .unset, .unset, .unset, .unset, .unset, .unset, .unset, .unset, .unset] [(.int (5 : Int32)), (.ref bb), (.ref bb)])) _
    refine XS.iconst X10.here hx rfl (hb hby at_131) ?_
    exact kt)
  obtain ⟨cl_5, Ar_5, Sz_5, -⟩ := id F_4
  obtain ⟨T12, h12, X12, e12, W12, st12⟩ := stI X10 hx hZ e10 Ar_5 (j := (5 : Int32)) (within (c := 5) rfl (by rw [Sz_5]; decide) (by rw [Sz_5]; decide)) (g := (mkF m 132 #[.val (.int p1), .val (.int p2), .val (.int p3), .val (.ref bk), .unset, .unset, .unset, .unset, .unset, .unset, .unset, .unset, .unset, .unset, .unset] [(.int (1 : Int32)), (.int (5 : Int32)), (.ref bb), (.ref bb)])) rfl rfl (hb hby at_132)
  have N12 := Fr.snoc X12 N10 g_bb
  have Zs12 : n0 ≤ h12.size := Nat.le_trans Zs10 (Nat.le_of_eq W12.size.symm)
  have Kp12 : Keep h0 h12 [] := Kp10.wr W12 (Or.inr sz_bb)
  have F_5 := own_A_set F_4 (show Wr _ _ _ 5 (.int (1 : Int32)) from W12)
  have Kq_5 : Keep hS h12 [bb] := Kq_4.wr W12 (Or.inl (List.mem_of_getElem? (i := 0) rfl))
  have pre13 : ∀ t, Steps p.tables e below (T12.setTop (mkF m 137 #[.val (.int p1), .val (.int p2), .val (.int p3), .val (.ref bk), .unset, .unset, .unset, .unset, .unset, .unset, .unset, .unset, .unset, .unset, .unset] [(.int (0 : Int32)), (.int (6 : Int32)), (.ref bb), (.ref bb)])) t → Steps p.tables e below _ t := fun t kt => pre11 t (by
    show Steps p.tables e below (T10.setTop (mkF m 132 #[.val (.int p1), .val (.int p2), .val (.int p3), .val (.ref bk), .unset, .unset, .unset, .unset, .unset, .unset, .unset, .unset, .unset, .unset, .unset] [(.int (1 : Int32)), (.int (5 : Int32)), (.ref bb), (.ref bb)])) _
    refine st12 _ ?_
    show Steps p.tables e below (T12.setTop (mkF m 133 #[.val (.int p1), .val (.int p2), .val (.int p3), .val (.ref bk), .unset, .unset, .unset, .unset, .unset, .unset, .unset, .unset, .unset, .unset, .unset] [(.ref bb)])) _
    refine XS.dup X12.here hx rfl (hb hby at_133) rfl rfl ?_
    show Steps p.tables e below (T12.setTop (mkF m 134 #[.val (.int p1), .val (.int p2), .val (.int p3), .val (.ref bk), .unset, .unset, .unset, .unset, .unset, .unset, .unset, .unset, .unset, .unset, .unset] [(.ref bb), (.ref bb)])) _
    refine XS.bipush X12.here hx rfl (hb hby at_134) ?_
    show Steps p.tables e below (T12.setTop (mkF m 136 #[.val (.int p1), .val (.int p2), .val (.int p3), .val (.ref bk), .unset, .unset, .unset, .unset, .unset, .unset, .unset, .unset, .unset, .unset, .unset] [(.int (6 : Int32)), (.ref bb), (.ref bb)])) _
    refine XS.iconst X12.here hx rfl (hb hby at_136) ?_
    exact kt)
  obtain ⟨cl_6, Ar_6, Sz_6, -⟩ := id F_5
  obtain ⟨T14, h14, X14, e14, W14, st14⟩ := stI X12 hx hZ e12 Ar_6 (j := (6 : Int32)) (within (c := 6) rfl (by rw [Sz_6]; decide) (by rw [Sz_6]; decide)) (g := (mkF m 137 #[.val (.int p1), .val (.int p2), .val (.int p3), .val (.ref bk), .unset, .unset, .unset, .unset, .unset, .unset, .unset, .unset, .unset, .unset, .unset] [(.int (0 : Int32)), (.int (6 : Int32)), (.ref bb), (.ref bb)])) rfl rfl (hb hby at_137)
  have N14 := Fr.snoc X14 N12 g_bb
  have Zs14 : n0 ≤ h14.size := Nat.le_trans Zs12 (Nat.le_of_eq W14.size.symm)
  have Kp14 : Keep h0 h14 [] := Kp12.wr W14 (Or.inr sz_bb)
  have F_6 := own_A_set F_5 (show Wr _ _ _ 6 (.int (0 : Int32)) from W14)
  have Kq_6 : Keep hS h14 [bb] := Kq_5.wr W14 (Or.inl (List.mem_of_getElem? (i := 0) rfl))
  have pre15 : ∀ t, Steps p.tables e below (T14.setTop (mkF m 142 #[.val (.int p1), .val (.int p2), .val (.int p3), .val (.ref bk), .unset, .unset, .unset, .unset, .unset, .unset, .unset, .unset, .unset, .unset, .unset] [(.int (0 : Int32)), (.int (7 : Int32)), (.ref bb), (.ref bb)])) t → Steps p.tables e below _ t := fun t kt => pre13 t (by
    show Steps p.tables e below (T12.setTop (mkF m 137 #[.val (.int p1), .val (.int p2), .val (.int p3), .val (.ref bk), .unset, .unset, .unset, .unset, .unset, .unset, .unset, .unset, .unset, .unset, .unset] [(.int (0 : Int32)), (.int (6 : Int32)), (.ref bb), (.ref bb)])) _
    refine st14 _ ?_
    show Steps p.tables e below (T14.setTop (mkF m 138 #[.val (.int p1), .val (.int p2), .val (.int p3), .val (.ref bk), .unset, .unset, .unset, .unset, .unset, .unset, .unset, .unset, .unset, .unset, .unset] [(.ref bb)])) _
    refine XS.dup X14.here hx rfl (hb hby at_138) rfl rfl ?_
    show Steps p.tables e below (T14.setTop (mkF m 139 #[.val (.int p1), .val (.int p2), .val (.int p3), .val (.ref bk), .unset, .unset, .unset, .unset, .unset, .unset, .unset, .unset, .unset, .unset, .unset] [(.ref bb), (.ref bb)])) _
    refine XS.bipush X14.here hx rfl (hb hby at_139) ?_
    show Steps p.tables e below (T14.setTop (mkF m 141 #[.val (.int p1), .val (.int p2), .val (.int p3), .val (.ref bk), .unset, .unset, .unset, .unset, .unset, .unset, .unset, .unset, .unset, .unset, .unset] [(.int (7 : Int32)), (.ref bb), (.ref bb)])) _
    refine XS.iconst X14.here hx rfl (hb hby at_141) ?_
    exact kt)
  obtain ⟨cl_7, Ar_7, Sz_7, -⟩ := id F_6
  obtain ⟨T16, h16, X16, e16, W16, st16⟩ := stI X14 hx hZ e14 Ar_7 (j := (7 : Int32)) (within (c := 7) rfl (by rw [Sz_7]; decide) (by rw [Sz_7]; decide)) (g := (mkF m 142 #[.val (.int p1), .val (.int p2), .val (.int p3), .val (.ref bk), .unset, .unset, .unset, .unset, .unset, .unset, .unset, .unset, .unset, .unset, .unset] [(.int (0 : Int32)), (.int (7 : Int32)), (.ref bb), (.ref bb)])) rfl rfl (hb hby at_142)
  have N16 := Fr.snoc X16 N14 g_bb
  have Zs16 : n0 ≤ h16.size := Nat.le_trans Zs14 (Nat.le_of_eq W16.size.symm)
  have Kp16 : Keep h0 h16 [] := Kp14.wr W16 (Or.inr sz_bb)
  have F_7 := own_A_set F_6 (show Wr _ _ _ 7 (.int (0 : Int32)) from W16)
  have Kq_7 : Keep hS h16 [bb] := Kq_6.wr W16 (Or.inl (List.mem_of_getElem? (i := 0) rfl))
  have pre17 : ∀ t, Steps p.tables e below (T16.setTop (mkF m 147 #[.val (.int p1), .val (.int p2), .val (.int p3), .val (.ref bk), .unset, .unset, .unset, .unset, .unset, .unset, .unset, .unset, .unset, .unset, .unset] [(.int (0 : Int32)), (.int (8 : Int32)), (.ref bb), (.ref bb)])) t → Steps p.tables e below _ t := fun t kt => pre15 t (by
    show Steps p.tables e below (T14.setTop (mkF m 142 #[.val (.int p1), .val (.int p2), .val (.int p3), .val (.ref bk), .unset, .unset, .unset, .unset, .unset, .unset, .unset, .unset, .unset, .unset, .unset] [(.int (0 : Int32)), (.int (7 : Int32)), (.ref bb), (.ref bb)])) _
    refine st16 _ ?_
    show Steps p.tables e below (T16.setTop (mkF m 143 #[.val (.int p1), .val (.int p2), .val (.int p3), .val (.ref bk), .unset, .unset, .unset, .unset, .unset, .unset, .unset, .unset, .unset, .unset, .unset] [(.ref bb)])) _
    refine XS.dup X16.here hx rfl (hb hby at_143) rfl rfl ?_
    show Steps p.tables e below (T16.setTop (mkF m 144 #[.val (.int p1), .val (.int p2), .val (.int p3), .val (.ref bk), .unset, .unset, .unset, .unset, .unset, .unset, .unset, .unset, .unset, .unset, .unset] [(.ref bb), (.ref bb)])) _
    refine XS.bipush X16.here hx rfl (hb hby at_144) ?_
    show Steps p.tables e below (T16.setTop (mkF m 146 #[.val (.int p1), .val (.int p2), .val (.int p3), .val (.ref bk), .unset, .unset, .unset, .unset, .unset, .unset, .unset, .unset, .unset, .unset, .unset] [(.int (8 : Int32)), (.ref bb), (.ref bb)])) _
    refine XS.iconst X16.here hx rfl (hb hby at_146) ?_
    exact kt)
  obtain ⟨cl_8, Ar_8, Sz_8, -⟩ := id F_7
  obtain ⟨T18, h18, X18, e18, W18, st18⟩ := stI X16 hx hZ e16 Ar_8 (j := (8 : Int32)) (within (c := 8) rfl (by rw [Sz_8]; decide) (by rw [Sz_8]; decide)) (g := (mkF m 147 #[.val (.int p1), .val (.int p2), .val (.int p3), .val (.ref bk), .unset, .unset, .unset, .unset, .unset, .unset, .unset, .unset, .unset, .unset, .unset] [(.int (0 : Int32)), (.int (8 : Int32)), (.ref bb), (.ref bb)])) rfl rfl (hb hby at_147)
  have N18 := Fr.snoc X18 N16 g_bb
  have Zs18 : n0 ≤ h18.size := Nat.le_trans Zs16 (Nat.le_of_eq W18.size.symm)
  have Kp18 : Keep h0 h18 [] := Kp16.wr W18 (Or.inr sz_bb)
  have F_8 := own_A_set F_7 (show Wr _ _ _ 8 (.int (0 : Int32)) from W18)
  have Kq_8 : Keep hS h18 [bb] := Kq_7.wr W18 (Or.inl (List.mem_of_getElem? (i := 0) rfl))
  have pre19 : ∀ t, Steps p.tables e below (T18.setTop (mkF m 152 #[.val (.int p1), .val (.int p2), .val (.int p3), .val (.ref bk), .unset, .unset, .unset, .unset, .unset, .unset, .unset, .unset, .unset, .unset, .unset] [(.int (0 : Int32)), (.int (9 : Int32)), (.ref bb), (.ref bb)])) t → Steps p.tables e below _ t := fun t kt => pre17 t (by
    show Steps p.tables e below (T16.setTop (mkF m 147 #[.val (.int p1), .val (.int p2), .val (.int p3), .val (.ref bk), .unset, .unset, .unset, .unset, .unset, .unset, .unset, .unset, .unset, .unset, .unset] [(.int (0 : Int32)), (.int (8 : Int32)), (.ref bb), (.ref bb)])) _
    refine st18 _ ?_
    show Steps p.tables e below (T18.setTop (mkF m 148 #[.val (.int p1), .val (.int p2), .val (.int p3), .val (.ref bk), .unset, .unset, .unset, .unset, .unset, .unset, .unset, .unset, .unset, .unset, .unset] [(.ref bb)])) _
    refine XS.dup X18.here hx rfl (hb hby at_148) rfl rfl ?_
    show Steps p.tables e below (T18.setTop (mkF m 149 #[.val (.int p1), .val (.int p2), .val (.int p3), .val (.ref bk), .unset, .unset, .unset, .unset, .unset, .unset, .unset, .unset, .unset, .unset, .unset] [(.ref bb), (.ref bb)])) _
    refine XS.bipush X18.here hx rfl (hb hby at_149) ?_
    show Steps p.tables e below (T18.setTop (mkF m 151 #[.val (.int p1), .val (.int p2), .val (.int p3), .val (.ref bk), .unset, .unset, .unset, .unset, .unset, .unset, .unset, .unset, .unset, .unset, .unset] [(.int (9 : Int32)), (.ref bb), (.ref bb)])) _
    refine XS.iconst X18.here hx rfl (hb hby at_151) ?_
    exact kt)
  obtain ⟨cl_9, Ar_9, Sz_9, -⟩ := id F_8
  obtain ⟨T20, h20, X20, e20, W20, st20⟩ := stI X18 hx hZ e18 Ar_9 (j := (9 : Int32)) (within (c := 9) rfl (by rw [Sz_9]; decide) (by rw [Sz_9]; decide)) (g := (mkF m 152 #[.val (.int p1), .val (.int p2), .val (.int p3), .val (.ref bk), .unset, .unset, .unset, .unset, .unset, .unset, .unset, .unset, .unset, .unset, .unset] [(.int (0 : Int32)), (.int (9 : Int32)), (.ref bb), (.ref bb)])) rfl rfl (hb hby at_152)
  have N20 := Fr.snoc X20 N18 g_bb
  have Zs20 : n0 ≤ h20.size := Nat.le_trans Zs18 (Nat.le_of_eq W20.size.symm)
  have Kp20 : Keep h0 h20 [] := Kp18.wr W20 (Or.inr sz_bb)
  have F_9 := own_A_set F_8 (show Wr _ _ _ 9 (.int (0 : Int32)) from W20)
  have Kq_9 : Keep hS h20 [bb] := Kq_8.wr W20 (Or.inl (List.mem_of_getElem? (i := 0) rfl))
  have pre21 : ∀ t, Steps p.tables e below (T20.setTop (mkF m 157 #[.val (.int p1), .val (.int p2), .val (.int p3), .val (.ref bk), .unset, .unset, .unset, .unset, .unset, .unset, .unset, .unset, .unset, .unset, .unset] [(.int (0 : Int32)), (.int (10 : Int32)), (.ref bb), (.ref bb)])) t → Steps p.tables e below _ t := fun t kt => pre19 t (by
    show Steps p.tables e below (T18.setTop (mkF m 152 #[.val (.int p1), .val (.int p2), .val (.int p3), .val (.ref bk), .unset, .unset, .unset, .unset, .unset, .unset, .unset, .unset, .unset, .unset, .unset] [(.int (0 : Int32)), (.int (9 : Int32)), (.ref bb), (.ref bb)])) _
    refine st20 _ ?_
    show Steps p.tables e below (T20.setTop (mkF m 153 #[.val (.int p1), .val (.int p2), .val (.int p3), .val (.ref bk), .unset, .unset, .unset, .unset, .unset, .unset, .unset, .unset, .unset, .unset, .unset] [(.ref bb)])) _
    refine XS.dup X20.here hx rfl (hb hby at_153) rfl rfl ?_
    show Steps p.tables e below (T20.setTop (mkF m 154 #[.val (.int p1), .val (.int p2), .val (.int p3), .val (.ref bk), .unset, .unset, .unset, .unset, .unset, .unset, .unset, .unset, .unset, .unset, .unset] [(.ref bb), (.ref bb)])) _
    refine XS.bipush X20.here hx rfl (hb hby at_154) ?_
    show Steps p.tables e below (T20.setTop (mkF m 156 #[.val (.int p1), .val (.int p2), .val (.int p3), .val (.ref bk), .unset, .unset, .unset, .unset, .unset, .unset, .unset, .unset, .unset, .unset, .unset] [(.int (10 : Int32)), (.ref bb), (.ref bb)])) _
    refine XS.iconst X20.here hx rfl (hb hby at_156) ?_
    exact kt)
  obtain ⟨cl_10, Ar_10, Sz_10, -⟩ := id F_9
  obtain ⟨T22, h22, X22, e22, W22, st22⟩ := stI X20 hx hZ e20 Ar_10 (j := (10 : Int32)) (within (c := 10) rfl (by rw [Sz_10]; decide) (by rw [Sz_10]; decide)) (g := (mkF m 157 #[.val (.int p1), .val (.int p2), .val (.int p3), .val (.ref bk), .unset, .unset, .unset, .unset, .unset, .unset, .unset, .unset, .unset, .unset, .unset] [(.int (0 : Int32)), (.int (10 : Int32)), (.ref bb), (.ref bb)])) rfl rfl (hb hby at_157)
  have N22 := Fr.snoc X22 N20 g_bb
  have Zs22 : n0 ≤ h22.size := Nat.le_trans Zs20 (Nat.le_of_eq W22.size.symm)
  have Kp22 : Keep h0 h22 [] := Kp20.wr W22 (Or.inr sz_bb)
  have F_10 := own_A_set F_9 (show Wr _ _ _ 10 (.int (0 : Int32)) from W22)
  have Kq_10 : Keep hS h22 [bb] := Kq_9.wr W22 (Or.inl (List.mem_of_getElem? (i := 0) rfl))
  have pre23 : ∀ t, Steps p.tables e below (T22.setTop (mkF m 162 #[.val (.int p1), .val (.int p2), .val (.int p3), .val (.ref bk), .unset, .unset, .unset, .unset, .unset, .unset, .unset, .unset, .unset, .unset, .unset] [(.int (0 : Int32)), (.int (11 : Int32)), (.ref bb), (.ref bb)])) t → Steps p.tables e below _ t := fun t kt => pre21 t (by
    show Steps p.tables e below (T20.setTop (mkF m 157 #[.val (.int p1), .val (.int p2), .val (.int p3), .val (.ref bk), .unset, .unset, .unset, .unset, .unset, .unset, .unset, .unset, .unset, .unset, .unset] [(.int (0 : Int32)), (.int (10 : Int32)), (.ref bb), (.ref bb)])) _
    refine st22 _ ?_
    show Steps p.tables e below (T22.setTop (mkF m 158 #[.val (.int p1), .val (.int p2), .val (.int p3), .val (.ref bk), .unset, .unset, .unset, .unset, .unset, .unset, .unset, .unset, .unset, .unset, .unset] [(.ref bb)])) _
    refine XS.dup X22.here hx rfl (hb hby at_158) rfl rfl ?_
    show Steps p.tables e below (T22.setTop (mkF m 159 #[.val (.int p1), .val (.int p2), .val (.int p3), .val (.ref bk), .unset, .unset, .unset, .unset, .unset, .unset, .unset, .unset, .unset, .unset, .unset] [(.ref bb), (.ref bb)])) _
    refine XS.bipush X22.here hx rfl (hb hby at_159) ?_
    show Steps p.tables e below (T22.setTop (mkF m 161 #[.val (.int p1), .val (.int p2), .val (.int p3), .val (.ref bk), .unset, .unset, .unset, .unset, .unset, .unset, .unset, .unset, .unset, .unset, .unset] [(.int (11 : Int32)), (.ref bb), (.ref bb)])) _
    refine XS.iconst X22.here hx rfl (hb hby at_161) ?_
    exact kt)
  obtain ⟨cl_11, Ar_11, Sz_11, -⟩ := id F_10
  obtain ⟨T24, h24, X24, e24, W24, st24⟩ := stI X22 hx hZ e22 Ar_11 (j := (11 : Int32)) (within (c := 11) rfl (by rw [Sz_11]; decide) (by rw [Sz_11]; decide)) (g := (mkF m 162 #[.val (.int p1), .val (.int p2), .val (.int p3), .val (.ref bk), .unset, .unset, .unset, .unset, .unset, .unset, .unset, .unset, .unset, .unset, .unset] [(.int (0 : Int32)), (.int (11 : Int32)), (.ref bb), (.ref bb)])) rfl rfl (hb hby at_162)
  have N24 := Fr.snoc X24 N22 g_bb
  have Zs24 : n0 ≤ h24.size := Nat.le_trans Zs22 (Nat.le_of_eq W24.size.symm)
  have Kp24 : Keep h0 h24 [] := Kp22.wr W24 (Or.inr sz_bb)
  have F_11 := own_A_set F_10 (show Wr _ _ _ 11 (.int (0 : Int32)) from W24)
  have Kq_11 : Keep hS h24 [bb] := Kq_10.wr W24 (Or.inl (List.mem_of_getElem? (i := 0) rfl))
  have pre25 : ∀ t, Steps p.tables e below (T24.setTop (mkF m 167 #[.val (.int p1), .val (.int p2), .val (.int p3), .val (.ref bk), .unset, .unset, .unset, .unset, .unset, .unset, .unset, .unset, .unset, .unset, .unset] [(.int (0 : Int32)), (.int (12 : Int32)), (.ref bb), (.ref bb)])) t → Steps p.tables e below _ t := fun t kt => pre23 t (by
    show Steps p.tables e below (T22.setTop (mkF m 162 #[.val (.int p1), .val (.int p2), .val (.int p3), .val (.ref bk), .unset, .unset, .unset, .unset, .unset, .unset, .unset, .unset, .unset, .unset, .unset] [(.int (0 : Int32)), (.int (11 : Int32)), (.ref bb), (.ref bb)])) _
    refine st24 _ ?_
    show Steps p.tables e below (T24.setTop (mkF m 163 #[.val (.int p1), .val (.int p2), .val (.int p3), .val (.ref bk), .unset, .unset, .unset, .unset, .unset, .unset, .unset, .unset, .unset, .unset, .unset] [(.ref bb)])) _
    refine XS.dup X24.here hx rfl (hb hby at_163) rfl rfl ?_
    show Steps p.tables e below (T24.setTop (mkF m 164 #[.val (.int p1), .val (.int p2), .val (.int p3), .val (.ref bk), .unset, .unset, .unset, .unset, .unset, .unset, .unset, .unset, .unset, .unset, .unset] [(.ref bb), (.ref bb)])) _
    refine XS.bipush X24.here hx rfl (hb hby at_164) ?_
    show Steps p.tables e below (T24.setTop (mkF m 166 #[.val (.int p1), .val (.int p2), .val (.int p3), .val (.ref bk), .unset, .unset, .unset, .unset, .unset, .unset, .unset, .unset, .unset, .unset, .unset] [(.int (12 : Int32)), (.ref bb), (.ref bb)])) _
    refine XS.iconst X24.here hx rfl (hb hby at_166) ?_
    exact kt)
  obtain ⟨cl_12, Ar_12, Sz_12, -⟩ := id F_11
  obtain ⟨T26, h26, X26, e26, W26, st26⟩ := stI X24 hx hZ e24 Ar_12 (j := (12 : Int32)) (within (c := 12) rfl (by rw [Sz_12]; decide) (by rw [Sz_12]; decide)) (g := (mkF m 167 #[.val (.int p1), .val (.int p2), .val (.int p3), .val (.ref bk), .unset, .unset, .unset, .unset, .unset, .unset, .unset, .unset, .unset, .unset, .unset] [(.int (0 : Int32)), (.int (12 : Int32)), (.ref bb), (.ref bb)])) rfl rfl (hb hby at_167)
  have N26 := Fr.snoc X26 N24 g_bb
  have Zs26 : n0 ≤ h26.size := Nat.le_trans Zs24 (Nat.le_of_eq W26.size.symm)
  have Kp26 : Keep h0 h26 [] := Kp24.wr W26 (Or.inr sz_bb)
  have F_12 := own_A_set F_11 (show Wr _ _ _ 12 (.int (0 : Int32)) from W26)
  have Kq_12 : Keep hS h26 [bb] := Kq_11.wr W26 (Or.inl (List.mem_of_getElem? (i := 0) rfl))
  have pre27 : ∀ t, Steps p.tables e below (T26.setTop (mkF m 172 #[.val (.int p1), .val (.int p2), .val (.int p3), .val (.ref bk), .unset, .unset, .unset, .unset, .unset, .unset, .unset, .unset, .unset, .unset, .unset] [(.int (0 : Int32)), (.int (13 : Int32)), (.ref bb), (.ref bb)])) t → Steps p.tables e below _ t := fun t kt => pre25 t (by
    show Steps p.tables e below (T24.setTop (mkF m 167 #[.val (.int p1), .val (.int p2), .val (.int p3), .val (.ref bk), .unset, .unset, .unset, .unset, .unset, .unset, .unset, .unset, .unset, .unset, .unset] [(.int (0 : Int32)), (.int (12 : Int32)), (.ref bb), (.ref bb)])) _
    refine st26 _ ?_
    show Steps p.tables e below (T26.setTop (mkF m 168 #[.val (.int p1), .val (.int p2), .val (.int p3), .val (.ref bk), .unset, .unset, .unset, .unset, .unset, .unset, .unset, .unset, .unset, .unset, .unset] [(.ref bb)])) _
    refine XS.dup X26.here hx rfl (hb hby at_168) rfl rfl ?_
    show Steps p.tables e below (T26.setTop (mkF m 169 #[.val (.int p1), .val (.int p2), .val (.int p3), .val (.ref bk), .unset, .unset, .unset, .unset, .unset, .unset, .unset, .unset, .unset, .unset, .unset] [(.ref bb), (.ref bb)])) _
    refine XS.bipush X26.here hx rfl (hb hby at_169) ?_
    show Steps p.tables e below (T26.setTop (mkF m 171 #[.val (.int p1), .val (.int p2), .val (.int p3), .val (.ref bk), .unset, .unset, .unset, .unset, .unset, .unset, .unset, .unset, .unset, .unset, .unset] [(.int (13 : Int32)), (.ref bb), (.ref bb)])) _
    refine XS.iconst X26.here hx rfl (hb hby at_171) ?_
    exact kt)
  obtain ⟨cl_13, Ar_13, Sz_13, -⟩ := id F_12
  obtain ⟨T28, h28, X28, e28, W28, st28⟩ := stI X26 hx hZ e26 Ar_13 (j := (13 : Int32)) (within (c := 13) rfl (by rw [Sz_13]; decide) (by rw [Sz_13]; decide)) (g := (mkF m 172 #[.val (.int p1), .val (.int p2), .val (.int p3), .val (.ref bk), .unset, .unset, .unset, .unset, .unset, .unset, .unset, .unset, .unset, .unset, .unset] [(.int (0 : Int32)), (.int (13 : Int32)), (.ref bb), (.ref bb)])) rfl rfl (hb hby at_172)
  have N28 := Fr.snoc X28 N26 g_bb
  have Zs28 : n0 ≤ h28.size := Nat.le_trans Zs26 (Nat.le_of_eq W28.size.symm)
  have Kp28 : Keep h0 h28 [] := Kp26.wr W28 (Or.inr sz_bb)
  have F_13 := own_A_set F_12 (show Wr _ _ _ 13 (.int (0 : Int32)) from W28)
  have Kq_13 : Keep hS h28 [bb] := Kq_12.wr W28 (Or.inl (List.mem_of_getElem? (i := 0) rfl))
  have pre29 : ∀ t, Steps p.tables e below (T28.setTop (mkF m 177 #[.val (.int p1), .val (.int p2), .val (.int p3), .val (.ref bk), .unset, .unset, .unset, .unset, .unset, .unset, .unset, .unset, .unset, .unset, .unset] [(.int (0 : Int32)), (.int (14 : Int32)), (.ref bb), (.ref bb)])) t → Steps p.tables e below _ t := fun t kt => pre27 t (by
    show Steps p.tables e below (T26.setTop (mkF m 172 #[.val (.int p1), .val (.int p2), .val (.int p3), .val (.ref bk), .unset, .unset, .unset, .unset, .unset, .unset, .unset, .unset, .unset, .unset, .unset] [(.int (0 : Int32)), (.int (13 : Int32)), (.ref bb), (.ref bb)])) _
    refine st28 _ ?_
    show Steps p.tables e below (T28.setTop (mkF m 173 #[.val (.int p1), .val (.int p2), .val (.int p3), .val (.ref bk), .unset, .unset, .unset, .unset, .unset, .unset, .unset, .unset, .unset, .unset, .unset] [(.ref bb)])) _
    refine XS.dup X28.here hx rfl (hb hby at_173) rfl rfl ?_
    show Steps p.tables e below (T28.setTop (mkF m 174 #[.val (.int p1), .val (.int p2), .val (.int p3), .val (.ref bk), .unset, .unset, .unset, .unset, .unset, .unset, .unset, .unset, .unset, .unset, .unset] [(.ref bb), (.ref bb)])) _
    refine XS.bipush X28.here hx rfl (hb hby at_174) ?_
    show Steps p.tables e below (T28.setTop (mkF m 176 #[.val (.int p1), .val (.int p2), .val (.int p3), .val (.ref bk), .unset, .unset, .unset, .unset, .unset, .unset, .unset, .unset, .unset, .unset, .unset] [(.int (14 : Int32)), (.ref bb), (.ref bb)])) _
    refine XS.iconst X28.here hx rfl (hb hby at_176) ?_
    exact kt)
  obtain ⟨cl_14, Ar_14, Sz_14, -⟩ := id F_13
  obtain ⟨T30, h30, X30, e30, W30, st30⟩ := stI X28 hx hZ e28 Ar_14 (j := (14 : Int32)) (within (c := 14) rfl (by rw [Sz_14]; decide) (by rw [Sz_14]; decide)) (g := (mkF m 177 #[.val (.int p1), .val (.int p2), .val (.int p3), .val (.ref bk), .unset, .unset, .unset, .unset, .unset, .unset, .unset, .unset, .unset, .unset, .unset] [(.int (0 : Int32)), (.int (14 : Int32)), (.ref bb), (.ref bb)])) rfl rfl (hb hby at_177)
  have N30 := Fr.snoc X30 N28 g_bb
  have Zs30 : n0 ≤ h30.size := Nat.le_trans Zs28 (Nat.le_of_eq W30.size.symm)
  have Kp30 : Keep h0 h30 [] := Kp28.wr W30 (Or.inr sz_bb)
  have F_14 := own_A_set F_13 (show Wr _ _ _ 14 (.int (0 : Int32)) from W30)
  have Kq_14 : Keep hS h30 [bb] := Kq_13.wr W30 (Or.inl (List.mem_of_getElem? (i := 0) rfl))
  have pre31 : ∀ t, Steps p.tables e below (T30.setTop (mkF m 178 #[.val (.int p1), .val (.int p2), .val (.int p3), .val (.ref bk), .unset, .unset, .unset, .unset, .unset, .unset, .unset, .unset, .unset, .unset, .unset] [(.ref bb)])) t → Steps p.tables e below _ t := fun t kt => pre29 t (by
    show Steps p.tables e below (T28.setTop (mkF m 177 #[.val (.int p1), .val (.int p2), .val (.int p3), .val (.ref bk), .unset, .unset, .unset, .unset, .unset, .unset, .unset, .unset, .unset, .unset, .unset] [(.int (0 : Int32)), (.int (14 : Int32)), (.ref bb), (.ref bb)])) _
    refine st30 _ ?_
    exact kt)
  exact ⟨T30, h30, _, X30, e30, N30, Zs30, Kp30, Kq_14, own_A_congr F_14 (by decide), pre31⟩
set_option maxRecDepth 65536 in
set_option maxHeartbeats 40000000 in
theorem own_fillH {p : Program} {l : Launch} {e : Env} {R : Room} {s : State} {m : MethodId} {args : Array Value} {below : List Frame} {meth : Method} {c : Code} {T0 : State} {locs : List Loc} {cells slots : Nat} {Z : State} {a0 : Array Value} {h0 : Heap} {n0 : Nat} {hS : Heap} (p1 p2 p3 : Int32) (bk bl bb : Addr)
    (X0 : Stand p l e R s m args below meth c T0 locs cells slots) (hx : p.tables.exec = Jvm.exec) (hZ : Z.Warmed39 s.vm) (hw : ∀ d ∈ tables_1, d.before a0 Z = true) (hby : c.code = code) (hml : c.maxLocals = 15) (hown : s.vm.findClass "com/example/ledgerstream/ledgerstream/io/ApiKeySupportsPinLaw" = some m.cls) (e0 : T0.heap = hS) (N0 : Fr n0 locs) (Z0 : n0 ≤ hS.size) (KE : Keep h0 hS []) (sz_bb : h0.size ≤ bb) (g_bb : n0 ≤ bb) (F0 : own_A Z hS bb .int 15 (fun _ => 0)) :
    ∃ (T' : State) (h' : Heap) (locs' : List Loc), Stand p l e R s m args below meth c T' locs' cells slots ∧ T'.heap = h' ∧ Fr n0 locs' ∧ n0 ≤ h'.size ∧ Keep h0 h' [] ∧ Keep hS h' [bb] ∧ own_A Z h' bb .int 15 own_hi ∧
      ∀ t, Steps p.tables e below (T'.setTop (mkF m 255 #[.val (.int p1), .val (.int p2), .val (.int p3), .val (.ref bk), .val (.ref bl), .unset, .unset, .unset, .unset, .unset, .unset, .unset, .unset, .unset, .unset] [(.ref bb)])) t → Steps p.tables e below (T0.setTop (mkF m 184 #[.val (.int p1), .val (.int p2), .val (.int p3), .val (.ref bk), .val (.ref bl), .unset, .unset, .unset, .unset, .unset, .unset, .unset, .unset, .unset, .unset] [(.ref bb)])) t := by
  have pre0 : ∀ t, Steps p.tables e below (T0.setTop (mkF m 184 #[.val (.int p1), .val (.int p2), .val (.int p3), .val (.ref bk), .val (.ref bl), .unset, .unset, .unset, .unset, .unset, .unset, .unset, .unset, .unset, .unset] [(.ref bb)])) t → Steps p.tables e below (T0.setTop (mkF m 184 #[.val (.int p1), .val (.int p2), .val (.int p3), .val (.ref bk), .val (.ref bl), .unset, .unset, .unset, .unset, .unset, .unset, .unset, .unset, .unset, .unset] [(.ref bb)])) t := fun t k => k
  have pre1 : ∀ t, Steps p.tables e below (T0.setTop (mkF m 188 #[.val (.int p1), .val (.int p2), .val (.int p3), .val (.ref bk), .val (.ref bl), .unset, .unset, .unset, .unset, .unset, .unset, .unset, .unset, .unset, .unset] [(.int (7 : Int32)), (.int (0 : Int32)), (.ref bb), (.ref bb)])) t → Steps p.tables e below _ t := fun t kt => pre0 t (by
    show Steps p.tables e below (T0.setTop (mkF m 184 #[.val (.int p1), .val (.int p2), .val (.int p3), .val (.ref bk), .val (.ref bl), .unset, .unset, .unset, .unset, .unset, .unset, .unset, .unset, .unset, .unset] [(.ref bb)])) _
    refine XS.dup X0.here hx rfl (hb hby at_184) rfl rfl ?_
    show Steps p.tables e below (T0.setTop (mkF m 185 #[.val (.int p1), .val (.int p2), .val (.int p3), .val (.ref bk), .val (.ref bl), .unset, .unset, .unset, .unset, .unset, .unset, .unset, .unset, .unset, .unset] [(.ref bb), (.ref bb)])) _
    refine XS.iconst X0.here hx rfl (hb hby at_185) ?_
    show Steps p.tables e below (T0.setTop (mkF m 186 #[.val (.int p1), .val (.int p2), .val (.int p3), .val (.ref bk), .val (.ref bl), .unset, .unset, .unset, .unset, .unset, .unset, .unset, .unset, .unset, .unset] [(.int (0 : Int32)), (.ref bb), (.ref bb)])) _
    refine XS.bipush X0.here hx rfl (hb hby at_186) ?_
    exact kt)
  obtain ⟨cl_0, Ar_0, Sz_0, -⟩ := id F0
  obtain ⟨T2, h2, X2, e2, W2, st2⟩ := stI X0 hx hZ e0 Ar_0 (j := (0 : Int32)) (within (c := 0) rfl (by rw [Sz_0]; decide) (by rw [Sz_0]; decide)) (g := (mkF m 188 #[.val (.int p1), .val (.int p2), .val (.int p3), .val (.ref bk), .val (.ref bl), .unset, .unset, .unset, .unset, .unset, .unset, .unset, .unset, .unset, .unset] [(.int (7 : Int32)), (.int (0 : Int32)), (.ref bb), (.ref bb)])) rfl rfl (hb hby at_188)
  have N2 := Fr.snoc X2 N0 g_bb
  have Zs2 : n0 ≤ h2.size := Nat.le_trans Z0 (Nat.le_of_eq W2.size.symm)
  have Kp2 : Keep h0 h2 [] := KE.wr W2 (Or.inr sz_bb)
  have F_0 := own_A_set F0 (show Wr _ _ _ 0 (.int (7 : Int32)) from W2)
  have Kq_0 : Keep hS h2 [bb] := (Keep.refl hS [bb]).wr W2 (Or.inl (List.mem_of_getElem? (i := 0) rfl))
  have pre3 : ∀ t, Steps p.tables e below (T2.setTop (mkF m 193 #[.val (.int p1), .val (.int p2), .val (.int p3), .val (.ref bk), .val (.ref bl), .unset, .unset, .unset, .unset, .unset, .unset, .unset, .unset, .unset, .unset] [(.int (11 : Int32)), (.int (1 : Int32)), (.ref bb), (.ref bb)])) t → Steps p.tables e below _ t := fun t kt => pre1 t (by
    show Steps p.tables e below (T0.setTop (mkF m 188 #[.val (.int p1), .val (.int p2), .val (.int p3), .val (.ref bk), .val (.ref bl), .unset, .unset, .unset, .unset, .unset, .unset, .unset, .unset, .unset, .unset] [(.int (7 : Int32)), (.int (0 : Int32)), (.ref bb), (.ref bb)])) _
    refine st2 _ ?_
    show Steps p.tables e below (T2.setTop (mkF m 189 #[.val (.int p1), .val (.int p2), .val (.int p3), .val (.ref bk), .val (.ref bl), .unset, .unset, .unset, .unset, .unset, .unset, .unset, .unset, .unset, .unset] [(.ref bb)])) _
    refine XS.dup X2.here hx rfl (hb hby at_189) rfl rfl ?_
    show Steps p.tables e below (T2.setTop (mkF m 190 #[.val (.int p1), .val (.int p2), .val (.int p3), .val (.ref bk), .val (.ref bl), .unset, .unset, .unset, .unset, .unset, .unset, .unset, .unset, .unset, .unset] [(.ref bb), (.ref bb)])) _
    refine XS.iconst X2.here hx rfl (hb hby at_190) ?_
    show Steps p.tables e below (T2.setTop (mkF m 191 #[.val (.int p1), .val (.int p2), .val (.int p3), .val (.ref bk), .val (.ref bl), .unset, .unset, .unset, .unset, .unset, .unset, .unset, .unset, .unset, .unset] [(.int (1 : Int32)), (.ref bb), (.ref bb)])) _
    refine XS.bipush X2.here hx rfl (hb hby at_191) ?_
    exact kt)
  obtain ⟨cl_1, Ar_1, Sz_1, -⟩ := id F_0
  obtain ⟨T4, h4, X4, e4, W4, st4⟩ := stI X2 hx hZ e2 Ar_1 (j := (1 : Int32)) (within (c := 1) rfl (by rw [Sz_1]; decide) (by rw [Sz_1]; decide)) (g := (mkF m 193 #[.val (.int p1), .val (.int p2), .val (.int p3), .val (.ref bk), .val (.ref bl), .unset, .unset, .unset, .unset, .unset, .unset, .unset, .unset, .unset, .unset] [(.int (11 : Int32)), (.int (1 : Int32)), (.ref bb), (.ref bb)])) rfl rfl (hb hby at_193)
  have N4 := Fr.snoc X4 N2 g_bb
  have Zs4 : n0 ≤ h4.size := Nat.le_trans Zs2 (Nat.le_of_eq W4.size.symm)
  have Kp4 : Keep h0 h4 [] := Kp2.wr W4 (Or.inr sz_bb)
  have F_1 := own_A_set F_0 (show Wr _ _ _ 1 (.int (11 : Int32)) from W4)
  have Kq_1 : Keep hS h4 [bb] := Kq_0.wr W4 (Or.inl (List.mem_of_getElem? (i := 0) rfl))
  have pre5 : ∀ t, Steps p.tables e below (T4.setTop (mkF m 197 #[.val (.int p1), .val (.int p2), .val (.int p3), .val (.ref bk), .val (.ref bl), .unset, .unset, .unset, .unset, .unset, .unset, .unset, .unset, .unset, .unset] [(.int (2 : Int32)), (.int (2 : Int32)), (.ref bb), (.ref bb)])) t → Steps p.tables e below _ t := fun t kt => pre3 t (by
    show Steps p.tables e below (T2.setTop (mkF m 193 #[.val (.int p1), .val (.int p2), .val (.int p3), .val (.ref bk), .val (.ref bl), .unset, .unset, .unset, .unset, .unset, .unset, .unset, .unset, .unset, .unset] [(.int (11 : Int32)), (.int (1 : Int32)), (.ref bb), (.ref bb)])) _
    refine st4 _ ?_
    show Steps p.tables e below (T4.setTop (mkF m 194 #[.val (.int p1), .val (.int p2), .val (.int p3), .val (.ref bk), .val (.ref bl), .unset, .unset, .unset, .unset, .unset, .unset, .unset, .unset, .unset, .unset] [(.ref bb)])) _
    refine XS.dup X4.here hx rfl (hb hby at_194) rfl rfl ?_
    show Steps p.tables e below (T4.setTop (mkF m 195 #[.val (.int p1), .val (.int p2), .val (.int p3), .val (.ref bk), .val (.ref bl), .unset, .unset, .unset, .unset, .unset, .unset, .unset, .unset, .unset, .unset] [(.ref bb), (.ref bb)])) _
    refine XS.iconst X4.here hx rfl (hb hby at_195) ?_
    show Steps p.tables e below (T4.setTop (mkF m 196 #[.val (.int p1), .val (.int p2), .val (.int p3), .val (.ref bk), .val (.ref bl), .unset, .unset, .unset, .unset, .unset, .unset, .unset, .unset, .unset, .unset] [(.int (2 : Int32)), (.ref bb), (.ref bb)])) _
    refine XS.iconst X4.here hx rfl (hb hby at_196) ?_
    exact kt)
  obtain ⟨cl_2, Ar_2, Sz_2, -⟩ := id F_1
  obtain ⟨T6, h6, X6, e6, W6, st6⟩ := stI X4 hx hZ e4 Ar_2 (j := (2 : Int32)) (within (c := 2) rfl (by rw [Sz_2]; decide) (by rw [Sz_2]; decide)) (g := (mkF m 197 #[.val (.int p1), .val (.int p2), .val (.int p3), .val (.ref bk), .val (.ref bl), .unset, .unset, .unset, .unset, .unset, .unset, .unset, .unset, .unset, .unset] [(.int (2 : Int32)), (.int (2 : Int32)), (.ref bb), (.ref bb)])) rfl rfl (hb hby at_197)
  have N6 := Fr.snoc X6 N4 g_bb
  have Zs6 : n0 ≤ h6.size := Nat.le_trans Zs4 (Nat.le_of_eq W6.size.symm)
  have Kp6 : Keep h0 h6 [] := Kp4.wr W6 (Or.inr sz_bb)
  have F_2 := own_A_set F_1 (show Wr _ _ _ 2 (.int (2 : Int32)) from W6)
  have Kq_2 : Keep hS h6 [bb] := Kq_1.wr W6 (Or.inl (List.mem_of_getElem? (i := 0) rfl))
  have pre7 : ∀ t, Steps p.tables e below (T6.setTop (mkF m 201 #[.val (.int p1), .val (.int p2), .val (.int p3), .val (.ref bk), .val (.ref bl), .unset, .unset, .unset, .unset, .unset, .unset, .unset, .unset, .unset, .unset] [(.int (5 : Int32)), (.int (3 : Int32)), (.ref bb), (.ref bb)])) t → Steps p.tables e below _ t := fun t kt => pre5 t (by
    show Steps p.tables e below (T4.setTop (mkF m 197 #[.val (.int p1), .val (.int p2), .val (.int p3), .val (.ref bk), .val (.ref bl), .unset, .unset, .unset, .unset, .unset, .unset, .unset, .unset, .unset, .unset] [(.int (2 : Int32)), (.int (2 : Int32)), (.ref bb), (.ref bb)])) _
    refine st6 _ ?_
    show Steps p.tables e below (T6.setTop (mkF m 198 #[.val (.int p1), .val (.int p2), .val (.int p3), .val (.ref bk), .val (.ref bl), .unset, .unset, .unset, .unset, .unset, .unset, .unset, .unset, .unset, .unset] [(.ref bb)])) _
    refine XS.dup X6.here hx rfl (hb hby at_198) rfl rfl ?_
    show Steps p.tables e below (T6.setTop (mkF m 199 #[.val (.int p1), .val (.int p2), .val (.int p3), .val (.ref bk), .val (.ref bl), .unset, .unset, .unset, .unset, .unset, .unset, .unset, .unset, .unset, .unset] [(.ref bb), (.ref bb)])) _
    refine XS.iconst X6.here hx rfl (hb hby at_199) ?_
    show Steps p.tables e below (T6.setTop (mkF m 200 #[.val (.int p1), .val (.int p2), .val (.int p3), .val (.ref bk), .val (.ref bl), .unset, .unset, .unset, .unset, .unset, .unset, .unset, .unset, .unset, .unset] [(.int (3 : Int32)), (.ref bb), (.ref bb)])) _
    refine XS.iconst X6.here hx rfl (hb hby at_200) ?_
    exact kt)
  obtain ⟨cl_3, Ar_3, Sz_3, -⟩ := id F_2
  obtain ⟨T8, h8, X8, e8, W8, st8⟩ := stI X6 hx hZ e6 Ar_3 (j := (3 : Int32)) (within (c := 3) rfl (by rw [Sz_3]; decide) (by rw [Sz_3]; decide)) (g := (mkF m 201 #[.val (.int p1), .val (.int p2), .val (.int p3), .val (.ref bk), .val (.ref bl), .unset, .unset, .unset, .unset, .unset, .unset, .unset, .unset, .unset, .unset] [(.int (5 : Int32)), (.int (3 : Int32)), (.ref bb), (.ref bb)])) rfl rfl (hb hby at_201)
  have N8 := Fr.snoc X8 N6 g_bb
  have Zs8 : n0 ≤ h8.size := Nat.le_trans Zs6 (Nat.le_of_eq W8.size.symm)
  have Kp8 : Keep h0 h8 [] := Kp6.wr W8 (Or.inr sz_bb)
  have F_3 := own_A_set F_2 (show Wr _ _ _ 3 (.int (5 : Int32)) from W8)
  have Kq_3 : Keep hS h8 [bb] := Kq_2.wr W8 (Or.inl (List.mem_of_getElem? (i := 0) rfl))
  have pre9 : ∀ t, Steps p.tables e below (T8.setTop (mkF m 205 #[.val (.int p1), .val (.int p2), .val (.int p3), .val (.ref bk), .val (.ref bl), .unset, .unset, .unset, .unset, .unset, .unset, .unset, .unset, .unset, .unset] [(.int (3 : Int32)), (.int (4 : Int32)), (.ref bb), (.ref bb)])) t → Steps p.tables e below _ t := fun t kt => pre7 t (by
    show Steps p.tables e below (T6.setTop (mkF m 201 #[.val (.int p1), .val (.int p2), .val (.int p3), .val (.ref bk), .val (.ref bl), .unset, .unset, .unset, .unset, .unset, .unset, .unset, .unset, .unset, .unset] [(.int (5 : Int32)), (.int (3 : Int32)), (.ref bb), (.ref bb)])) _
    refine st8 _ ?_
    show Steps p.tables e below (T8.setTop (mkF m 202 #[.val (.int p1), .val (.int p2), .val (.int p3), .val (.ref bk), .val (.ref bl), .unset, .unset, .unset, .unset, .unset, .unset, .unset, .unset, .unset, .unset] [(.ref bb)])) _
    refine XS.dup X8.here hx rfl (hb hby at_202) rfl rfl ?_
    show Steps p.tables e below (T8.setTop (mkF m 203 #[.val (.int p1), .val (.int p2), .val (.int p3), .val (.ref bk), .val (.ref bl), .unset, .unset, .unset, .unset, .unset, .unset, .unset, .unset, .unset, .unset] [(.ref bb), (.ref bb)])) _
    refine XS.iconst X8.here hx rfl (hb hby at_203) ?_
    show Steps p.tables e below (T8.setTop (mkF m 204 #[.val (.int p1), .val (.int p2), .val (.int p3), .val (.ref bk), .val (.ref bl), .unset, .unset, .unset, .unset, .unset, .unset, .unset, .unset, .unset, .unset] [(.int (4 : Int32)), (.ref bb), (.ref bb)])) _
    refine XS.iconst X8.here hx rfl (hb hby at_204) ?_
    exact kt)
  obtain ⟨cl_4, Ar_4, Sz_4, -⟩ := id F_3
  obtain ⟨T10, h10, X10, e10, W10, st10⟩ := stI X8 hx hZ e8 Ar_4 (j := (4 : Int32)) (within (c := 4) rfl (by rw [Sz_4]; decide) (by rw [Sz_4]; decide)) (g := (mkF m 205 #[.val (.int p1), .val (.int p2), .val (.int p3), .val (.ref bk), .val (.ref bl), .unset, .unset, .unset, .unset, .unset, .unset, .unset, .unset, .unset, .unset] [(.int (3 : Int32)), (.int (4 : Int32)), (.ref bb), (.ref bb)])) rfl rfl (hb hby at_205)
  have N10 := Fr.snoc X10 N8 g_bb
  have Zs10 : n0 ≤ h10.size := Nat.le_trans Zs8 (Nat.le_of_eq W10.size.symm)
  have Kp10 : Keep h0 h10 [] := Kp8.wr W10 (Or.inr sz_bb)
  have F_4 := own_A_set F_3 (show Wr _ _ _ 4 (.int (3 : Int32)) from W10)
  have Kq_4 : Keep hS h10 [bb] := Kq_3.wr W10 (Or.inl (List.mem_of_getElem? (i := 0) rfl))
  have pre11 : ∀ t, Steps p.tables e below (T10.setTop (mkF m 209 #[.val (.int p1), .val (.int p2), .val (.int p3), .val (.ref bk), .val (.ref bl), .unset, .unset, .unset, .unset, .unset, .unset, .unset, .unset, .unset, .unset] [(.int (3 : Int32)), (.int (5 : Int32)), (.ref bb), (.ref bb)])) t → Steps p.tables e below _ t := fun t kt => pre9 t (by
    show Steps p.tables e below (T8.setTop (mkF m 205 #[.val (.int p1), .val (.int p2), .val (.int p3), .val (.ref bk), .val (.ref bl), .unset, .unset, .unset, .unset, .unset, .unset, .unset, .unset, .unset, .unset] [(.int (3 : Int32)), (.int (4 : Int32)), (.ref bb), (.ref bb)])) _
    refine st10 _ ?_
    show Steps p.tables e below (T10.setTop (mkF m 206 #[.val (.int p1), .val (.int p2), .val (.int p3), .val (.ref bk), .val (.ref bl), .unset, .unset, .unset, .unset, .unset, .unset, .unset, .unset, .unset, .unset] [(.ref bb)])) _
    refine XS.dup X10.here hx rfl (hb hby at_206) rfl rfl ?_
    show Steps p.tables e below (T10.setTop (mkF m 207 #[.val (.int p1), .val (.int p2), .val (.int p3), .val (.ref bk), .val (.ref bl), .unset, .unset, .unset, .unset, .unset, .unset, .unset, .unset, .unset, .unset] [(.ref bb), (.ref bb)])) _
    refine XS.iconst X10.here hx rfl (hb hby at_207) ?_
    show Steps p.tables e below (T10.setTop (mkF m 208 #[.val (.int p1), .val (.int p2), .val (.int p3), .val (.ref bk), .val (.ref bl), .unset, .unset, .unset, .unset, .unset, .unset, .unset, .unset, .unset, .unset] [(.int (5 : Int32)), (.ref bb), (.ref bb)])) _
    refine XS.iconst X10.here hx rfl (hb hby at_208) ?_
    exact kt)
  obtain ⟨cl_5, Ar_5, Sz_5, -⟩ := id F_4
  obtain ⟨T12, h12, X12, e12, W12, st12⟩ := stI X10 hx hZ e10 Ar_5 (j := (5 : Int32)) (within (c := 5) rfl (by rw [Sz_5]; decide) (by rw [Sz_5]; decide)) (g := (mkF m 209 #[.val (.int p1), .val (.int p2), .val (.int p3), .val (.ref bk), .val (.ref bl), .unset, .unset, .unset, .unset, .unset, .unset, .unset, .unset, .unset, .unset] [(.int (3 : Int32)), (.int (5 : Int32)), (.ref bb), (.ref bb)])) rfl rfl (hb hby at_209)
  have N12 := Fr.snoc X12 N10 g_bb
  have Zs12 : n0 ≤ h12.size := Nat.le_trans Zs10 (Nat.le_of_eq W12.size.symm)
  have Kp12 : Keep h0 h12 [] := Kp10.wr W12 (Or.inr sz_bb)
  have F_5 := own_A_set F_4 (show Wr _ _ _ 5 (.int (3 : Int32)) from W12)
  have Kq_5 : Keep hS h12 [bb] := Kq_4.wr W12 (Or.inl (List.mem_of_getElem? (i := 0) rfl))
  have pre13 : ∀ t, Steps p.tables e below (T12.setTop (mkF m 214 #[.val (.int p1), .val (.int p2), .val (.int p3), .val (.ref bk), .val (.ref bl), .unset, .unset, .unset, .unset, .unset, .unset, .unset, .unset, .unset, .unset] [(.int (1 : Int32)), (.int (6 : Int32)), (.ref bb), (.ref bb)])) t → Steps p.tables e below _ t := fun t kt => pre11 t (by
    show Steps p.tables e below (T10.setTop (mkF m 209 #[.val (.int p1), .val (.int p2), .val (.int p3), .val (.ref bk), .val (.ref bl), .unset, .unset, .unset, .unset, .unset, .unset, .unset, .unset, .unset, .unset] [(.int (3 : Int32)), (.int (5 : Int32)), (.ref bb), (.ref bb)])) _
    refine st12 _ ?_
    show Steps p.tables e below (T12.setTop (mkF m 210 #[.val (.int p1), .val (.int p2), .val (.int p3), .val (.ref bk), .val (.ref bl), .unset, .unset, .unset, .unset, .unset, .unset, .unset, .unset, .unset, .unset] [(.ref bb)])) _
    refine XS.dup X12.here hx rfl (hb hby at_210) rfl rfl ?_
    show Steps p.tables e below (T12.setTop (mkF m 211 #[.val (.int p1), .val (.int p2), .val (.int p3), .val (.ref bk), .val (.ref bl), .unset, .unset, .unset, .unset, .unset, .unset, .unset, .unset, .unset, .unset] [(.ref bb), (.ref bb)])) _
    refine XS.bipush X12.here hx rfl (hb hby at_211) ?_
    show Steps p.tables e below (T12.setTop (mkF m 213 #[.val (.int p1), .val (.int p2), .val (.int p3), .val (.ref bk), .val (.ref bl), .unset, .unset, .unset, .unset, .unset, .unset, .unset, .unset, .unset, .unset] [(.int (6 : Int32)), (.ref bb), (.ref bb)])) _
    refine XS.iconst X12.here hx rfl (hb hby at_213) ?_
    exact kt)
  obtain ⟨cl_6, Ar_6, Sz_6, -⟩ := id F_5
  obtain ⟨T14, h14, X14, e14, W14, st14⟩ := stI X12 hx hZ e12 Ar_6 (j := (6 : Int32)) (within (c := 6) rfl (by rw [Sz_6]; decide) (by rw [Sz_6]; decide)) (g := (mkF m 214 #[.val (.int p1), .val (.int p2), .val (.int p3), .val (.ref bk), .val (.ref bl), .unset, .unset, .unset, .unset, .unset, .unset, .unset, .unset, .unset, .unset] [(.int (1 : Int32)), (.int (6 : Int32)), (.ref bb), (.ref bb)])) rfl rfl (hb hby at_214)
  have N14 := Fr.snoc X14 N12 g_bb
  have Zs14 : n0 ≤ h14.size := Nat.le_trans Zs12 (Nat.le_of_eq W14.size.symm)
  have Kp14 : Keep h0 h14 [] := Kp12.wr W14 (Or.inr sz_bb)
  have F_6 := own_A_set F_5 (show Wr _ _ _ 6 (.int (1 : Int32)) from W14)
  have Kq_6 : Keep hS h14 [bb] := Kq_5.wr W14 (Or.inl (List.mem_of_getElem? (i := 0) rfl))
  have pre15 : ∀ t, Steps p.tables e below (T14.setTop (mkF m 219 #[.val (.int p1), .val (.int p2), .val (.int p3), .val (.ref bk), .val (.ref bl), .unset, .unset, .unset, .unset, .unset, .unset, .unset, .unset, .unset, .unset] [(.int (2 : Int32)), (.int (7 : Int32)), (.ref bb), (.ref bb)])) t → Steps p.tables e below _ t := fun t kt => pre13 t (by
    show Steps p.tables e below (T12.setTop (mkF m 214 #[.val (.int p1), .val (.int p2), .val (.int p3), .val (.ref bk), .val (.ref bl), .unset, .unset, .unset, .unset, .unset, .unset, .unset, .unset, .unset, .unset] [(.int (1 : Int32)), (.int (6 : Int32)), (.ref bb), (.ref bb)])) _
    refine st14 _ ?_
    show Steps p.tables e below (T14.setTop (mkF m 215 #[.val (.int p1), .val (.int p2), .val (.int p3), .val (.ref bk), .val (.ref bl), .unset, .unset, .unset, .unset, .unset, .unset, .unset, .unset, .unset, .unset] [(.ref bb)])) _
    refine XS.dup X14.here hx rfl (hb hby at_215) rfl rfl ?_
    show Steps p.tables e below (T14.setTop (mkF m 216 #[.val (.int p1), .val (.int p2), .val (.int p3), .val (.ref bk), .val (.ref bl), .unset, .unset, .unset, .unset, .unset, .unset, .unset, .unset, .unset, .unset] [(.ref bb), (.ref bb)])) _
    refine XS.bipush X14.here hx rfl (hb hby at_216) ?_
    show Steps p.tables e below (T14.setTop (mkF m 218 #[.val (.int p1), .val (.int p2), .val (.int p3), .val (.ref bk), .val (.ref bl), .unset, .unset, .unset, .unset, .unset, .unset, .unset, .unset, .unset, .unset] [(.int (7 : Int32)), (.ref bb), (.ref bb)])) _
    refine XS.iconst X14.here hx rfl (hb hby at_218) ?_
    exact kt)
  obtain ⟨cl_7, Ar_7, Sz_7, -⟩ := id F_6
  obtain ⟨T16, h16, X16, e16, W16, st16⟩ := stI X14 hx hZ e14 Ar_7 (j := (7 : Int32)) (within (c := 7) rfl (by rw [Sz_7]; decide) (by rw [Sz_7]; decide)) (g := (mkF m 219 #[.val (.int p1), .val (.int p2), .val (.int p3), .val (.ref bk), .val (.ref bl), .unset, .unset, .unset, .unset, .unset, .unset, .unset, .unset, .unset, .unset] [(.int (2 : Int32)), (.int (7 : Int32)), (.ref bb), (.ref bb)])) rfl rfl (hb hby at_219)
  have N16 := Fr.snoc X16 N14 g_bb
  have Zs16 : n0 ≤ h16.size := Nat.le_trans Zs14 (Nat.le_of_eq W16.size.symm)
  have Kp16 : Keep h0 h16 [] := Kp14.wr W16 (Or.inr sz_bb)
  have F_7 := own_A_set F_6 (show Wr _ _ _ 7 (.int (2 : Int32)) from W16)
  have Kq_7 : Keep hS h16 [bb] := Kq_6.wr W16 (Or.inl (List.mem_of_getElem? (i := 0) rfl))
  have pre17 : ∀ t, Steps p.tables e below (T16.setTop (mkF m 224 #[.val (.int p1), .val (.int p2), .val (.int p3), .val (.ref bk), .val (.ref bl), .unset, .unset, .unset, .unset, .unset, .unset, .unset, .unset, .unset, .unset] [(.int (1 : Int32)), (.int (8 : Int32)), (.ref bb), (.ref bb)])) t → Steps p.tables e below _ t := fun t kt => pre15 t (by
    show Steps p.tables e below (T14.setTop (mkF m 219 #[.val (.int p1), .val (.int p2), .val (.int p3), .val (.ref bk), .val (.ref bl), .unset, .unset, .unset, .unset, .unset, .unset, .unset, .unset, .unset, .unset] [(.int (2 : Int32)), (.int (7 : Int32)), (.ref bb), (.ref bb)])) _
    refine st16 _ ?_
    show Steps p.tables e below (T16.setTop (mkF m 220 #[.val (.int p1), .val (.int p2), .val (.int p3), .val (.ref bk), .val (.ref bl), .unset, .unset, .unset, .unset, .unset, .unset, .unset, .unset, .unset, .unset] [(.ref bb)])) _
    refine XS.dup X16.here hx rfl (hb hby at_220) rfl rfl ?_
    show Steps p.tables e below (T16.setTop (mkF m 221 #[.val (.int p1), .val (.int p2), .val (.int p3), .val (.ref bk), .val (.ref bl), .unset, .unset, .unset, .unset, .unset, .unset, .unset, .unset, .unset, .unset] [(.ref bb), (.ref bb)])) _
    refine XS.bipush X16.here hx rfl (hb hby at_221) ?_
    show Steps p.tables e below (T16.setTop (mkF m 223 #[.val (.int p1), .val (.int p2), .val (.int p3), .val (.ref bk), .val (.ref bl), .unset, .unset, .unset, .unset, .unset, .unset, .unset, .unset, .unset, .unset] [(.int (8 : Int32)), (.ref bb), (.ref bb)])) _
    refine XS.iconst X16.here hx rfl (hb hby at_223) ?_
    exact kt)
  obtain ⟨cl_8, Ar_8, Sz_8, -⟩ := id F_7
  obtain ⟨T18, h18, X18, e18, W18, st18⟩ := stI X16 hx hZ e16 Ar_8 (j := (8 : Int32)) (within (c := 8) rfl (by rw [Sz_8]; decide) (by rw [Sz_8]; decide)) (g := (mkF m 224 #[.val (.int p1), .val (.int p2), .val (.int p3), .val (.ref bk), .val (.ref bl), .unset, .unset, .unset, .unset, .unset, .unset, .unset, .unset, .unset, .unset] [(.int (1 : Int32)), (.int (8 : Int32)), (.ref bb), (.ref bb)])) rfl rfl (hb hby at_224)
  have N18 := Fr.snoc X18 N16 g_bb
  have Zs18 : n0 ≤ h18.size := Nat.le_trans Zs16 (Nat.le_of_eq W18.size.symm)
  have Kp18 : Keep h0 h18 [] := Kp16.wr W18 (Or.inr sz_bb)
  have F_8 := own_A_set F_7 (show Wr _ _ _ 8 (.int (1 : Int32)) from W18)
  have Kq_8 : Keep hS h18 [bb] := Kq_7.wr W18 (Or.inl (List.mem_of_getElem? (i := 0) rfl))
  have pre19 : ∀ t, Steps p.tables e below (T18.setTop (mkF m 229 #[.val (.int p1), .val (.int p2), .val (.int p3), .val (.ref bk), .val (.ref bl), .unset, .unset, .unset, .unset, .unset, .unset, .unset, .unset, .unset, .unset] [(.int (1 : Int32)), (.int (9 : Int32)), (.ref bb), (.ref bb)])) t → Steps p.tables e below _ t := fun t kt => pre17 t (by
    show Steps p.tables e below (T16.setTop (mkF m 224 #[.val (.int p1), .val (.int p2), .val (.int p3), .val (.ref bk), .val (.ref bl), .unset, .unset, .unset, .unset, .unset, .unset, .unset, .unset, .unset, .unset] [(.int (1 : Int32)), (.int (8 : Int32)), (.ref bb), (.ref bb)])) _
    refine st18 _ ?_
    show Steps p.tables e below (T18.setTop (mkF m 225 #[.val (.int p1), .val (.int p2), .val (.int p3), .val (.ref bk), .val (.ref bl), .unset, .unset, .unset, .unset, .unset, .unset, .unset, .unset, .unset, .unset] [(.ref bb)])) _
    refine XS.dup X18.here hx rfl (hb hby at_225) rfl rfl ?_
    show Steps p.tables e below (T18.setTop (mkF m 226 #[.val (.int p1), .val (.int p2), .val (.int p3), .val (.ref bk), .val (.ref bl), .unset, .unset, .unset, .unset, .unset, .unset, .unset, .unset, .unset, .unset] [(.ref bb), (.ref bb)])) _
    refine XS.bipush X18.here hx rfl (hb hby at_226) ?_
    show Steps p.tables e below (T18.setTop (mkF m 228 #[.val (.int p1), .val (.int p2), .val (.int p3), .val (.ref bk), .val (.ref bl), .unset, .unset, .unset, .unset, .unset, .unset, .unset, .unset, .unset, .unset] [(.int (9 : Int32)), (.ref bb), (.ref bb)])) _
    refine XS.iconst X18.here hx rfl (hb hby at_228) ?_
    exact kt)
  obtain ⟨cl_9, Ar_9, Sz_9, -⟩ := id F_8
  obtain ⟨T20, h20, X20, e20, W20, st20⟩ := stI X18 hx hZ e18 Ar_9 (j := (9 : Int32)) (within (c := 9) rfl (by rw [Sz_9]; decide) (by rw [Sz_9]; decide)) (g := (mkF m 229 #[.val (.int p1), .val (.int p2), .val (.int p3), .val (.ref bk), .val (.ref bl), .unset, .unset, .unset, .unset, .unset, .unset, .unset, .unset, .unset, .unset] [(.int (1 : Int32)), (.int (9 : Int32)), (.ref bb), (.ref bb)])) rfl rfl (hb hby at_229)
  have N20 := Fr.snoc X20 N18 g_bb
  have Zs20 : n0 ≤ h20.size := Nat.le_trans Zs18 (Nat.le_of_eq W20.size.symm)
  have Kp20 : Keep h0 h20 [] := Kp18.wr W20 (Or.inr sz_bb)
  have F_9 := own_A_set F_8 (show Wr _ _ _ 9 (.int (1 : Int32)) from W20)
  have Kq_9 : Keep hS h20 [bb] := Kq_8.wr W20 (Or.inl (List.mem_of_getElem? (i := 0) rfl))
  have pre21 : ∀ t, Steps p.tables e below (T20.setTop (mkF m 234 #[.val (.int p1), .val (.int p2), .val (.int p3), .val (.ref bk), .val (.ref bl), .unset, .unset, .unset, .unset, .unset, .unset, .unset, .unset, .unset, .unset] [(.int (1 : Int32)), (.int (10 : Int32)), (.ref bb), (.ref bb)])) t → Steps p.tables e below _ t := fun t kt => pre19 t (by
    show Steps p.tables e below (T18.setTop (mkF m 229 #[.val (.int p1), .val (.int p2), .val (.int p3), .val (.ref bk), .val (.ref bl), .unset, .unset, .unset, .unset, .unset, .unset, .unset, .unset, .unset, .unset] [(.int (1 : Int32)), (.int (9 : Int32)), (.ref bb), (.ref bb)])) _
    refine st20 _ ?_
    show Steps p.tables e below (T20.setTop (mkF m 230 #[.val (.int p1), .val (.int p2), .val (.int p3), .val (.ref bk), .val (.ref bl), .unset, .unset, .unset, .unset, .unset, .unset, .unset, .unset, .unset, .unset] [(.ref bb)])) _
    refine XS.dup X20.here hx rfl (hb hby at_230) rfl rfl ?_
    show Steps p.tables e below (T20.setTop (mkF m 231 #[.val (.int p1), .val (.int p2), .val (.int p3), .val (.ref bk), .val (.ref bl), .unset, .unset, .unset, .unset, .unset, .unset, .unset, .unset, .unset, .unset] [(.ref bb), (.ref bb)])) _
    refine XS.bipush X20.here hx rfl (hb hby at_231) ?_
    show Steps p.tables e below (T20.setTop (mkF m 233 #[.val (.int p1), .val (.int p2), .val (.int p3), .val (.ref bk), .val (.ref bl), .unset, .unset, .unset, .unset, .unset, .unset, .unset, .unset, .unset, .unset] [(.int (10 : Int32)), (.ref bb), (.ref bb)])) _
    refine XS.iconst X20.here hx rfl (hb hby at_233) ?_
    exact kt)
  obtain ⟨cl_10, Ar_10, Sz_10, -⟩ := id F_9
  obtain ⟨T22, h22, X22, e22, W22, st22⟩ := stI X20 hx hZ e20 Ar_10 (j := (10 : Int32)) (within (c := 10) rfl (by rw [Sz_10]; decide) (by rw [Sz_10]; decide)) (g := (mkF m 234 #[.val (.int p1), .val (.int p2), .val (.int p3), .val (.ref bk), .val (.ref bl), .unset, .unset, .unset, .unset, .unset, .unset, .unset, .unset, .unset, .unset] [(.int (1 : Int32)), (.int (10 : Int32)), (.ref bb), (.ref bb)])) rfl rfl (hb hby at_234)
  have N22 := Fr.snoc X22 N20 g_bb
  have Zs22 : n0 ≤ h22.size := Nat.le_trans Zs20 (Nat.le_of_eq W22.size.symm)
  have Kp22 : Keep h0 h22 [] := Kp20.wr W22 (Or.inr sz_bb)
  have F_10 := own_A_set F_9 (show Wr _ _ _ 10 (.int (1 : Int32)) from W22)
  have Kq_10 : Keep hS h22 [bb] := Kq_9.wr W22 (Or.inl (List.mem_of_getElem? (i := 0) rfl))
  have pre23 : ∀ t, Steps p.tables e below (T22.setTop (mkF m 239 #[.val (.int p1), .val (.int p2), .val (.int p3), .val (.ref bk), .val (.ref bl), .unset, .unset, .unset, .unset, .unset, .unset, .unset, .unset, .unset, .unset] [(.int (2 : Int32)), (.int (11 : Int32)), (.ref bb), (.ref bb)])) t → Steps p.tables e below _ t := fun t kt => pre21 t (by
    show Steps p.tables e below (T20.setTop (mkF m 234 #[.val (.int p1), .val (.int p2), .val (.int p3), .val (.ref bk), .val (.ref bl), .unset, .unset, .unset, .unset, .unset, .unset, .unset, .unset, .unset, .unset] [(.int (1 : Int32)), (.int (10 : Int32)), (.ref bb), (.ref bb)])) _
    refine st22 _ ?_
    show Steps p.tables e below (T22.setTop (mkF m 235 #[.val (.int p1), .val (.int p2), .val (.int p3), .val (.ref bk), .val (.ref bl), .unset, .unset, .unset, .unset, .unset, .unset, .unset, .unset, .unset, .unset] [(.ref bb)])) _
    refine XS.dup X22.here hx rfl (hb hby at_235) rfl rfl ?_
    show Steps p.tables e below (T22.setTop (mkF m 236 #[.val (.int p1), .val (.int p2), .val (.int p3), .val (.ref bk), .val (.ref bl), .unset, .unset, .unset, .unset, .unset, .unset, .unset, .unset, .unset, .unset] [(.ref bb), (.ref bb)])) _
    refine XS.bipush X22.here hx rfl (hb hby at_236) ?_
    show Steps p.tables e below (T22.setTop (mkF m 238 #[.val (.int p1), .val (.int p2), .val (.int p3), .val (.ref bk), .val (.ref bl), .unset, .unset, .unset, .unset, .unset, .unset, .unset, .unset, .unset, .unset] [(.int (11 : Int32)), (.ref bb), (.ref bb)])) _
    refine XS.iconst X22.here hx rfl (hb hby at_238) ?_
    exact kt)
  obtain ⟨cl_11, Ar_11, Sz_11, -⟩ := id F_10
  obtain ⟨T24, h24, X24, e24, W24, st24⟩ := stI X22 hx hZ e22 Ar_11 (j := (11 : Int32)) (within (c := 11) rfl (by rw [Sz_11]; decide) (by rw [Sz_11]; decide)) (g := (mkF m 239 #[.val (.int p1), .val (.int p2), .val (.int p3), .val (.ref bk), .val (.ref bl), .unset, .unset, .unset, .unset, .unset, .unset, .unset, .unset, .unset, .unset] [(.int (2 : Int32)), (.int (11 : Int32)), (.ref bb), (.ref bb)])) rfl rfl (hb hby at_239)
  have N24 := Fr.snoc X24 N22 g_bb
  have Zs24 : n0 ≤ h24.size := Nat.le_trans Zs22 (Nat.le_of_eq W24.size.symm)
  have Kp24 : Keep h0 h24 [] := Kp22.wr W24 (Or.inr sz_bb)
  have F_11 := own_A_set F_10 (show Wr _ _ _ 11 (.int (2 : Int32)) from W24)
  have Kq_11 : Keep hS h24 [bb] := Kq_10.wr W24 (Or.inl (List.mem_of_getElem? (i := 0) rfl))
  have pre25 : ∀ t, Steps p.tables e below (T24.setTop (mkF m 244 #[.val (.int p1), .val (.int p2), .val (.int p3), .val (.ref bk), .val (.ref bl), .unset, .unset, .unset, .unset, .unset, .unset, .unset, .unset, .unset, .unset] [(.int (2 : Int32)), (.int (12 : Int32)), (.ref bb), (.ref bb)])) t → Steps p.tables e below _ t := fun t kt => pre23 t (by
    show Steps p.tables e below (T22.setTop (mkF m 239 #[.val (.int p1), .val (.int p2), .val (.int p3), .val (.ref bk), .val (.ref bl), .unset, .unset, .unset, .unset, .unset, .unset, .unset, .unset, .unset, .unset] [(.int (2 : Int32)), (.int (11 : Int32)), (.ref bb), (.ref bb)])) _
    refine st24 _ ?_
    show Steps p.tables e below (T24.setTop (mkF m 240 #[.val (.int p1), .val (.int p2), .val (.int p3), .val (.ref bk), .val (.ref bl), .unset, .unset, .unset, .unset, .unset, .unset, .unset, .unset, .unset, .unset] [(.ref bb)])) _
    refine XS.dup X24.here hx rfl (hb hby at_240) rfl rfl ?_
    show Steps p.tables e below (T24.setTop (mkF m 241 #[.val (.int p1), .val (.int p2), .val (.int p3), .val (.ref bk), .val (.ref bl), .unset, .unset, .unset, .unset, .unset, .unset, .unset, .unset, .unset, .unset] [(.ref bb), (.ref bb)])) _
    refine XS.bipush X24.here hx rfl (hb hby at_241) ?_
    show Steps p.tables e below (T24.setTop (mkF m 243 #[.val (.int p1), .val (.int p2), .val (.int p3), .val (.ref bk), .val (.ref bl), .unset, .unset, .unset, .unset, .unset, .unset, .unset, .unset, .unset, .unset] [(.int (12 : Int32)), (.ref bb), (.ref bb)])) _
    refine XS.iconst X24.here hx rfl (hb hby at_243) ?_
    exact kt)
  obtain ⟨cl_12, Ar_12, Sz_12, -⟩ := id F_11
  obtain ⟨T26, h26, X26, e26, W26, st26⟩ := stI X24 hx hZ e24 Ar_12 (j := (12 : Int32)) (within (c := 12) rfl (by rw [Sz_12]; decide) (by rw [Sz_12]; decide)) (g := (mkF m 244 #[.val (.int p1), .val (.int p2), .val (.int p3), .val (.ref bk), .val (.ref bl), .unset, .unset, .unset, .unset, .unset, .unset, .unset, .unset, .unset, .unset] [(.int (2 : Int32)), (.int (12 : Int32)), (.ref bb), (.ref bb)])) rfl rfl (hb hby at_244)
  have N26 := Fr.snoc X26 N24 g_bb
  have Zs26 : n0 ≤ h26.size := Nat.le_trans Zs24 (Nat.le_of_eq W26.size.symm)
  have Kp26 : Keep h0 h26 [] := Kp24.wr W26 (Or.inr sz_bb)
  have F_12 := own_A_set F_11 (show Wr _ _ _ 12 (.int (2 : Int32)) from W26)
  have Kq_12 : Keep hS h26 [bb] := Kq_11.wr W26 (Or.inl (List.mem_of_getElem? (i := 0) rfl))
  have pre27 : ∀ t, Steps p.tables e below (T26.setTop (mkF m 249 #[.val (.int p1), .val (.int p2), .val (.int p3), .val (.ref bk), .val (.ref bl), .unset, .unset, .unset, .unset, .unset, .unset, .unset, .unset, .unset, .unset] [(.int (3 : Int32)), (.int (13 : Int32)), (.ref bb), (.ref bb)])) t → Steps p.tables e below _ t := fun t kt => pre25 t (by
    show Steps p.tables e below (T24.setTop (mkF m 244 #[.val (.int p1), .val (.int p2), .val (.int p3), .val (.ref bk), .val (.ref bl), .unset, .unset, .unset, .unset, .unset, .unset, .unset, .unset, .unset, .unset] [(.int (2 : Int32)), (.int (12 : Int32)), (.ref bb), (.ref bb)])) _
    refine st26 _ ?_
    show Steps p.tables e below (T26.setTop (mkF m 245 #[.val (.int p1), .val (.int p2), .val (.int p3), .val (.ref bk), .val (.ref bl), .unset, .unset, .unset, .unset, .unset, .unset, .unset, .unset, .unset, .unset] [(.ref bb)])) _
    refine XS.dup X26.here hx rfl (hb hby at_245) rfl rfl ?_
    show Steps p.tables e below (T26.setTop (mkF m 246 #[.val (.int p1), .val (.int p2), .val (.int p3), .val (.ref bk), .val (.ref bl), .unset, .unset, .unset, .unset, .unset, .unset, .unset, .unset, .unset, .unset] [(.ref bb), (.ref bb)])) _
    refine XS.bipush X26.here hx rfl (hb hby at_246) ?_
    show Steps p.tables e below (T26.setTop (mkF m 248 #[.val (.int p1), .val (.int p2), .val (.int p3), .val (.ref bk), .val (.ref bl), .unset, .unset, .unset, .unset, .unset, .unset, .unset, .unset, .unset, .unset] [(.int (13 : Int32)), (.ref bb), (.ref bb)])) _
    refine XS.iconst X26.here hx rfl (hb hby at_248) ?_
    exact kt)
  obtain ⟨cl_13, Ar_13, Sz_13, -⟩ := id F_12
  obtain ⟨T28, h28, X28, e28, W28, st28⟩ := stI X26 hx hZ e26 Ar_13 (j := (13 : Int32)) (within (c := 13) rfl (by rw [Sz_13]; decide) (by rw [Sz_13]; decide)) (g := (mkF m 249 #[.val (.int p1), .val (.int p2), .val (.int p3), .val (.ref bk), .val (.ref bl), .unset, .unset, .unset, .unset, .unset, .unset, .unset, .unset, .unset, .unset] [(.int (3 : Int32)), (.int (13 : Int32)), (.ref bb), (.ref bb)])) rfl rfl (hb hby at_249)
  have N28 := Fr.snoc X28 N26 g_bb
  have Zs28 : n0 ≤ h28.size := Nat.le_trans Zs26 (Nat.le_of_eq W28.size.symm)
  have Kp28 : Keep h0 h28 [] := Kp26.wr W28 (Or.inr sz_bb)
  have F_13 := own_A_set F_12 (show Wr _ _ _ 13 (.int (3 : Int32)) from W28)
  have Kq_13 : Keep hS h28 [bb] := Kq_12.wr W28 (Or.inl (List.mem_of_getElem? (i := 0) rfl))
  have pre29 : ∀ t, Steps p.tables e below (T28.setTop (mkF m 254 #[.val (.int p1), .val (.int p2), .val (.int p3), .val (.ref bk), .val (.ref bl), .unset, .unset, .unset, .unset, .unset, .unset, .unset, .unset, .unset, .unset] [(.int (3 : Int32)), (.int (14 : Int32)), (.ref bb), (.ref bb)])) t → Steps p.tables e below _ t := fun t kt => pre27 t (by
    show Steps p.tables e below (T26.setTop (mkF m 249 #[.val (.int p1), .val (.int p2), .val (.int p3), .val (.ref bk), .val (.ref bl), .unset, .unset, .unset, .unset, .unset, .unset, .unset, .unset, .unset, .unset] [(.int (3 : Int32)), (.int (13 : Int32)), (.ref bb), (.ref bb)])) _
    refine st28 _ ?_
    show Steps p.tables e below (T28.setTop (mkF m 250 #[.val (.int p1), .val (.int p2), .val (.int p3), .val (.ref bk), .val (.ref bl), .unset, .unset, .unset, .unset, .unset, .unset, .unset, .unset, .unset, .unset] [(.ref bb)])) _
    refine XS.dup X28.here hx rfl (hb hby at_250) rfl rfl ?_
    show Steps p.tables e below (T28.setTop (mkF m 251 #[.val (.int p1), .val (.int p2), .val (.int p3), .val (.ref bk), .val (.ref bl), .unset, .unset, .unset, .unset, .unset, .unset, .unset, .unset, .unset, .unset] [(.ref bb), (.ref bb)])) _
    refine XS.bipush X28.here hx rfl (hb hby at_251) ?_
    show Steps p.tables e below (T28.setTop (mkF m 253 #[.val (.int p1), .val (.int p2), .val (.int p3), .val (.ref bk), .val (.ref bl), .unset, .unset, .unset, .unset, .unset, .unset, .unset, .unset, .unset, .unset] [(.int (14 : Int32)), (.ref bb), (.ref bb)])) _
    refine XS.iconst X28.here hx rfl (hb hby at_253) ?_
    exact kt)
  obtain ⟨cl_14, Ar_14, Sz_14, -⟩ := id F_13
  obtain ⟨T30, h30, X30, e30, W30, st30⟩ := stI X28 hx hZ e28 Ar_14 (j := (14 : Int32)) (within (c := 14) rfl (by rw [Sz_14]; decide) (by rw [Sz_14]; decide)) (g := (mkF m 254 #[.val (.int p1), .val (.int p2), .val (.int p3), .val (.ref bk), .val (.ref bl), .unset, .unset, .unset, .unset, .unset, .unset, .unset, .unset, .unset, .unset] [(.int (3 : Int32)), (.int (14 : Int32)), (.ref bb), (.ref bb)])) rfl rfl (hb hby at_254)
  have N30 := Fr.snoc X30 N28 g_bb
  have Zs30 : n0 ≤ h30.size := Nat.le_trans Zs28 (Nat.le_of_eq W30.size.symm)
  have Kp30 : Keep h0 h30 [] := Kp28.wr W30 (Or.inr sz_bb)
  have F_14 := own_A_set F_13 (show Wr _ _ _ 14 (.int (3 : Int32)) from W30)
  have Kq_14 : Keep hS h30 [bb] := Kq_13.wr W30 (Or.inl (List.mem_of_getElem? (i := 0) rfl))
  have pre31 : ∀ t, Steps p.tables e below (T30.setTop (mkF m 255 #[.val (.int p1), .val (.int p2), .val (.int p3), .val (.ref bk), .val (.ref bl), .unset, .unset, .unset, .unset, .unset, .unset, .unset, .unset, .unset, .unset] [(.ref bb)])) t → Steps p.tables e below _ t := fun t kt => pre29 t (by
    show Steps p.tables e below (T28.setTop (mkF m 254 #[.val (.int p1), .val (.int p2), .val (.int p3), .val (.ref bk), .val (.ref bl), .unset, .unset, .unset, .unset, .unset, .unset, .unset, .unset, .unset, .unset] [(.int (3 : Int32)), (.int (14 : Int32)), (.ref bb), (.ref bb)])) _
    refine st30 _ ?_
    exact kt)
  exact ⟨T30, h30, _, X30, e30, N30, Zs30, Kp30, Kq_14, own_A_congr F_14 (by decide), pre31⟩

theorem own_fifteen (x : Int32) : ∃ k : Nat, (x &&& (2147483647 : Int32)) % (15 : Int32) = Int32.ofNat k ∧ k < 15 := by
  obtain ⟨n, h, hb⟩ := own_mask x 2147483647 (k := 31) (by decide) (by decide)
  refine ⟨n % 15, ?_, Nat.mod_lt _ (by decide)⟩
  rw [h]
  exact own_rem (b := 15) hb (by decide)
theorem own_static {args : Array Value} {s : State} {f C D : String} (h : (Jvm.Cond.exactly (Jvm.Term.static C f D) C).value args s none s [] = some true) : ∃ a, (Jvm.Term.static C f D).eval args s none [] s = some (.ref a) := by
  obtain ⟨a', c', cell, k, e1, -⟩ := Cond.exactly_spec (Cond.before_iff.mpr h)
  exact ⟨a', e1⟩
theorem own_fld {args : Array Value} {s : State} {t : Term} {a : Addr} {C f D : String} {k : Int32} (e : t.eval args s none [] s = some (.ref a)) (h : (Jvm.Cond.eq (Jvm.Term.field t C f D) (Jvm.Term.int k)).value args s none s [] = some true) : Fld s s.heap a C f D (.int k) := by
  obtain ⟨v, h1, h2⟩ := Cond.eq_worth h
  have h3 : v = .int k := (Option.some.inj h2).symm
  subst h3
  have h4 : (Jvm.Term.field t C f D).eval args s none [] s = s.fieldOf? a C f D := by simp only [Term.eval, e, Option.bind_eq_bind, Option.bind_some]
  rw [h4] at h1
  exact Fld.start h1
theorem pn_0 : plainName "com/example/ledgerstream/ledgerstream/io/ApiKeySupportsPinLaw" = true := by first | (simp [plainName, overriddenIn]; done) | decide +kernel
theorem ef_0 (m : MethodId) (x0 : Int32) (x1 : Int32) (x2 : Int32) : entryFrame m #[(.int x0), (.int x1), (.int x2)] maxLocals = mkF m 0 #[.val (.int x0), .val (.int x1), .val (.int x2), .unset, .unset, .unset, .unset, .unset, .unset, .unset, .unset, .unset, .unset, .unset, .unset] [] := by first | (simp [entryFrame, mkF, argsToLocals, Value.category, maxLocals]; done) | rfl
theorem pd_0 : parseMethodDescriptor "(S)Z" = some ⟨[.short], some .boolean⟩ := by decide +kernel
def Q0 (Z : State) (h0 : Heap) (n0 : Nat) (v : Option Value) (h : Heap) (L : List Loc) : Prop := v = some (.int (1 : Int32)) ∧ Fr n0 L
set_option maxRecDepth 65536 in
set_option maxHeartbeats 40000000 in
theorem rm0 (l : Launch) (Z : State) (a0 : Array Value) (hw : ∀ d ∈ tables_1, d.before a0 Z = true) (ws : List Jvm.Cond) (p1 : Int32) (p2 : Int32) (p3 : Int32) (ak : Nat → Addr) (h0 : Heap) (n0 : Nat) (Z0 : n0 ≤ h0.size) (S0 : Sta Z h0 "com/example/ledgerstream/ledgerstream/io/ApiKey" "PRODUCE" "Lcom/example/ledgerstream/ledgerstream/io/ApiKey;" (.ref (ak 0))) (S1 : Sta Z h0 "com/example/ledgerstream/ledgerstream/io/ApiKey" "FETCH" "Lcom/example/ledgerstream/ledgerstream/io/ApiKey;" (.ref (ak 1))) (S2 : Sta Z h0 "com/example/ledgerstream/ledgerstream/io/ApiKey" "LIST_OFFSETS" "Lcom/example/ledgerstream/ledgerstream/io/ApiKey;" (.ref (ak 2))) (S3 : Sta Z h0 "com/example/ledgerstream/ledgerstream/io/ApiKey" "METADATA" "Lcom/example/ledgerstream/ledgerstream/io/ApiKey;" (.ref (ak 3))) (S4 : Sta Z h0 "com/example/ledgerstream/ledgerstream/io/ApiKey" "OFFSET_COMMIT" "Lcom/example/ledgerstream/ledgerstream/io/ApiKey;" (.ref (ak 4))) (S5 : Sta Z h0 "com/example/ledgerstream/ledgerstream/io/ApiKey" "OFFSET_FETCH" "Lcom/example/ledgerstream/ledgerstream/io/ApiKey;" (.ref (ak 5))) (S6 : Sta Z h0 "com/example/ledgerstream/ledgerstream/io/ApiKey" "FIND_COORDINATOR" "Lcom/example/ledgerstream/ledgerstream/io/ApiKey;" (.ref (ak 6))) (S7 : Sta Z h0 "com/example/ledgerstream/ledgerstream/io/ApiKey" "JOIN_GROUP" "Lcom/example/ledgerstream/ledgerstream/io/ApiKey;" (.ref (ak 7))) (S8 : Sta Z h0 "com/example/ledgerstream/ledgerstream/io/ApiKey" "HEARTBEAT" "Lcom/example/ledgerstream/ledgerstream/io/ApiKey;" (.ref (ak 8))) (S9 : Sta Z h0 "com/example/ledgerstream/ledgerstream/io/ApiKey" "LEAVE_GROUP" "Lcom/example/ledgerstream/ledgerstream/io/ApiKey;" (.ref (ak 9))) (S10 : Sta Z h0 "com/example/ledgerstream/ledgerstream/io/ApiKey" "SYNC_GROUP" "Lcom/example/ledgerstream/ledgerstream/io/ApiKey;" (.ref (ak 10))) (S11 : Sta Z h0 "com/example/ledgerstream/ledgerstream/io/ApiKey" "DESCRIBE_GROUPS" "Lcom/example/ledgerstream/ledgerstream/io/ApiKey;" (.ref (ak 11))) (S12 : Sta Z h0 "com/example/ledgerstream/ledgerstream/io/ApiKey" "LIST_GROUPS" "Lcom/example/ledgerstream/ledgerstream/io/ApiKey;" (.ref (ak 12))) (S13 : Sta Z h0 "com/example/ledgerstream/ledgerstream/io/ApiKey" "API_VERSIONS" "Lcom/example/ledgerstream/ledgerstream/io/ApiKey;" (.ref (ak 13))) (S14 : Sta Z h0 "com/example/ledgerstream/ledgerstream/io/ApiKey" "CREATE_TOPICS" "Lcom/example/ledgerstream/ledgerstream/io/ApiKey;" (.ref (ak 14))) (EK : ∀ i, i < 15 → Exa Z h0 (ak i) "com/example/ledgerstream/ledgerstream/io/ApiKey") (FM : ∀ i, i < 15 → Fld Z h0 (ak i) "com/example/ledgerstream/ledgerstream/io/ApiKey" "minVersion" "S" (.int (own_lo i))) (FX : ∀ i, i < 15 → Fld Z h0 (ak i) "com/example/ledgerstream/ledgerstream/io/ApiKey" "maxVersion" "S" (.int (own_hi i))) :
    MetFree l x (head1 (Jvm.Cond.code x code maxLocals ret :: ws) room_1) (fun aa_ U => aa_ = #[(.int p1), (.int p2), (.int p3)] ∧ Z.Warmed39 U.vm ∧ U.heap = h0) (fun _ _ _ _ _ => True) (fun _ U o U' => ∃ v_ L_, o = .returned v_ ∧ Q0 Z  h0 n0 v_ U'.heap L_ ∧ FrameEnd U o U' L_ room_1.cells room_1.slots) := by
  refine MetFree.of_bodySF (plainFor_of_name pn_0) hisR ?_
  intro p e s m args below meth c s₁ Bd hml0 hP hK
  obtain ⟨rfl, hZ, hh⟩ := hP
  have hx := Bd.exec
  have hby := Bd.bytes
  have hml : c.maxLocals = 15 := hml0
  have hown : s.vm.findClass "com/example/ledgerstream/ledgerstream/io/ApiKeySupportsPinLaw" = some m.cls := findClass_of_methodNamed Bd.named
  have hnm := (name_of_methodNamed Bd.named Bd.method).1
  have X0 : Stand p l e room_1 s m #[(.int p1), (.int p2), (.int p3)] below meth c s₁ [] 0 0 := Stand.of_body Bd
  have e0 : s₁.heap = h0 := by rw [← hh, Bd.state]; rfl
  have N0 := Fr.nil n0
  have pre0 : ∀ t, Steps p.tables e below (s₁.setTop (mkF m 0 #[.val (.int p1), .val (.int p2), .val (.int p3), .unset, .unset, .unset, .unset, .unset, .unset, .unset, .unset, .unset, .unset, .unset, .unset] [])) t → Steps p.tables e below (s₁.setTop (entryFrame m #[(.int p1), (.int p2), (.int p3)] maxLocals)) t := fun t k_ => castTop (ef_0 m p1 p2 p3) k_
  have pre1 : ∀ t, Steps p.tables e below (s₁.setTop (mkF m 2 #[.val (.int p1), .val (.int p2), .val (.int p3), .unset, .unset, .unset, .unset, .unset, .unset, .unset, .unset, .unset, .unset, .unset, .unset] [(.int (15 : Int32))])) t → Steps p.tables e below _ t := fun t kt => pre0 t (by
    show Steps p.tables e below (s₁.setTop (mkF m 0 #[.val (.int p1), .val (.int p2), .val (.int p3), .unset, .unset, .unset, .unset, .unset, .unset, .unset, .unset, .unset, .unset, .unset, .unset] [])) _
    refine XS.bipush X0.here hx rfl (hb hby at_0) ?_
    exact kt)
  obtain ⟨T2, h2, k2, X2, e2, E2, A2, O2, st2⟩ := newR X0 hx hZ hown (hw _ (List.mem_of_getElem? (i := 0) rfl)) (hw _ (List.mem_of_getElem? (i := 1) rfl)) e0 (g := (mkF m 2 #[.val (.int p1), .val (.int p2), .val (.int p3), .unset, .unset, .unset, .unset, .unset, .unset, .unset, .unset, .unset, .unset, .unset, .unset] [(.int (15 : Int32))])) rfl (hb hby at_2) rfl (by decide) (cap := 15) (by decide) (by decide) (by decide) (by decide)
  obtain ⟨b2, gb2⟩ : ∃ z, z = h0.size := ⟨_, rfl⟩
  rw [← gb2] at A2 st2
  have g_b2 : n0 ≤ b2 := Nat.le_trans Z0 (Nat.le_of_eq gb2.symm)
  have Zs2 : n0 ≤ h2.size := Nat.le_trans Z0 E2.1
  have sz_b2 : h0.size ≤ b2 := Nat.le_trans (Keep.refl h0 []).1 (Nat.le_of_eq gb2.symm)
  have Kp2 : Keep h0 h2 [] := (Keep.refl h0 []).ext E2
  have VK0 := own_V_new (n := 15) A2 rfl
  have pre3 : ∀ t, Steps p.tables e below (T2.setTop (mkF m 5 #[.val (.int p1), .val (.int p2), .val (.int p3), .unset, .unset, .unset, .unset, .unset, .unset, .unset, .unset, .unset, .unset, .unset, .unset] [(.ref b2)])) t → Steps p.tables e below _ t := fun t kt => pre1 t (by
    show Steps p.tables e below (s₁.setTop (mkF m 2 #[.val (.int p1), .val (.int p2), .val (.int p3), .unset, .unset, .unset, .unset, .unset, .unset, .unset, .unset, .unset, .unset, .unset, .unset] [(.int (15 : Int32))])) _
    refine st2 _ ?_
    exact kt)
  obtain ⟨T4, h4, L4, X4, e4, N4, Z4, Kp4, Kq4, F4, st4⟩ := own_fillK (h0 := h0) p1 p2 p3 b2 k2 ak X2 hx hZ hw hby hml hown e2 N0 Zs2 Kp2 sz_b2 g_b2 VK0 O2 S0 S1 S2 S3 S4 S5 S6 S7 S8 S9 S10 S11 S12 S13 S14 EK
  have pre5 : ∀ t, Steps p.tables e below (T4.setTop (mkF m 107 #[.val (.int p1), .val (.int p2), .val (.int p3), .val (.ref b2), .unset, .unset, .unset, .unset, .unset, .unset, .unset, .unset, .unset, .unset, .unset] [(.int (15 : Int32))])) t → Steps p.tables e below _ t := fun t kt => pre3 t (by
    show Steps p.tables e below (T2.setTop (mkF m 5 #[.val (.int p1), .val (.int p2), .val (.int p3), .unset, .unset, .unset, .unset, .unset, .unset, .unset, .unset, .unset, .unset, .unset, .unset] [(.ref b2)])) _
    refine st4 _ ?_
    show Steps p.tables e below (T4.setTop (mkF m 104 #[.val (.int p1), .val (.int p2), .val (.int p3), .unset, .unset, .unset, .unset, .unset, .unset, .unset, .unset, .unset, .unset, .unset, .unset] [(.ref b2)])) _
    refine XS.astoreN X4.here hx rfl (hb hby at_104) rfl rfl (l' := #[.val (.int p1), .val (.int p2), .val (.int p3), .val (.ref b2), .unset, .unset, .unset, .unset, .unset, .unset, .unset, .unset, .unset, .unset, .unset]) rfl ?_
    show Steps p.tables e below (T4.setTop (mkF m 105 #[.val (.int p1), .val (.int p2), .val (.int p3), .val (.ref b2), .unset, .unset, .unset, .unset, .unset, .unset, .unset, .unset, .unset, .unset, .unset] [])) _
    refine XS.bipush X4.here hx rfl (hb hby at_105) ?_
    exact kt)
  obtain ⟨T6, h6, k6, X6, e6, E6, A6, st6⟩ := newP X4 hx hZ (hw _ (List.mem_of_getElem? (i := 34) rfl)) e4 (g := (mkF m 107 #[.val (.int p1), .val (.int p2), .val (.int p3), .val (.ref b2), .unset, .unset, .unset, .unset, .unset, .unset, .unset, .unset, .unset, .unset, .unset] [(.int (15 : Int32))])) rfl (hb hby at_107) rfl (by decide) (cap := 15) (by decide) (by decide) (by decide) (by decide)
  obtain ⟨b6, gb6⟩ : ∃ z, z = h4.size := ⟨_, rfl⟩
  rw [← gb6] at A6 st6
  have g_b6 : n0 ≤ b6 := Nat.le_trans Z4 (Nat.le_of_eq gb6.symm)
  have Zs6 : n0 ≤ h6.size := Nat.le_trans Z4 E6.1
  have sz_b6 : h0.size ≤ b6 := Nat.le_trans Kp4.1 (Nat.le_of_eq gb6.symm)
  have Kp6 : Keep h0 h6 [] := Kp4.ext E6
  have neL : b2 ≠ b6 := by have q := own_V_lt F4; rw [gb6]; exact Nat.ne_of_lt q
  have VKL := own_V_ext F4 E6
  have FL0 : own_A Z h6 b6 .int 15 (fun _ => 0) := own_A_new A6 rfl rfl
  have pre7 : ∀ t, Steps p.tables e below (T6.setTop (mkF m 109 #[.val (.int p1), .val (.int p2), .val (.int p3), .val (.ref b2), .unset, .unset, .unset, .unset, .unset, .unset, .unset, .unset, .unset, .unset, .unset] [(.ref b6)])) t → Steps p.tables e below _ t := fun t kt => pre5 t (by
    show Steps p.tables e below (T4.setTop (mkF m 107 #[.val (.int p1), .val (.int p2), .val (.int p3), .val (.ref b2), .unset, .unset, .unset, .unset, .unset, .unset, .unset, .unset, .unset, .unset, .unset] [(.int (15 : Int32))])) _
    refine st6 _ ?_
    exact kt)
  obtain ⟨T8, h8, L8, X8, e8, N8, Z8, Kp8, Kq8, F8, st8⟩ := own_fillL (h0 := h0) p1 p2 p3 b2 b6 X6 hx hZ hw hby hml hown e6 N4 Zs6 Kp6 sz_b6 g_b6 FL0
  have VLL := own_V_keep VKL Kq8 (ninS neL nin0)
  have pre9 : ∀ t, Steps p.tables e below (T8.setTop (mkF m 182 #[.val (.int p1), .val (.int p2), .val (.int p3), .val (.ref b2), .val (.ref b6), .unset, .unset, .unset, .unset, .unset, .unset, .unset, .unset, .unset, .unset] [(.int (15 : Int32))])) t → Steps p.tables e below _ t := fun t kt => pre7 t (by
    show Steps p.tables e below (T6.setTop (mkF m 109 #[.val (.int p1), .val (.int p2), .val (.int p3), .val (.ref b2), .unset, .unset, .unset, .unset, .unset, .unset, .unset, .unset, .unset, .unset, .unset] [(.ref b6)])) _
    refine st8 _ ?_
    show Steps p.tables e below (T8.setTop (mkF m 178 #[.val (.int p1), .val (.int p2), .val (.int p3), .val (.ref b2), .unset, .unset, .unset, .unset, .unset, .unset, .unset, .unset, .unset, .unset, .unset] [(.ref b6)])) _
    refine XS.astore X8.here hx rfl (hb hby at_178) rfl rfl (l' := #[.val (.int p1), .val (.int p2), .val (.int p3), .val (.ref b2), .val (.ref b6), .unset, .unset, .unset, .unset, .unset, .unset, .unset, .unset, .unset, .unset]) rfl ?_
    show Steps p.tables e below (T8.setTop (mkF m 180 #[.val (.int p1), .val (.int p2), .val (.int p3), .val (.ref b2), .val (.ref b6), .unset, .unset, .unset, .unset, .unset, .unset, .unset, .unset, .unset, .unset] [])) _
    refine XS.bipush X8.here hx rfl (hb hby at_180) ?_
    exact kt)
  obtain ⟨T10, h10, k10, X10, e10, E10, A10, st10⟩ := newP X8 hx hZ (hw _ (List.mem_of_getElem? (i := 34) rfl)) e8 (g := (mkF m 182 #[.val (.int p1), .val (.int p2), .val (.int p3), .val (.ref b2), .val (.ref b6), .unset, .unset, .unset, .unset, .unset, .unset, .unset, .unset, .unset, .unset] [(.int (15 : Int32))])) rfl (hb hby at_182) rfl (by decide) (cap := 15) (by decide) (by decide) (by decide) (by decide)
  obtain ⟨b10, gb10⟩ : ∃ z, z = h8.size := ⟨_, rfl⟩
  rw [← gb10] at A10 st10
  have g_b10 : n0 ≤ b10 := Nat.le_trans Z8 (Nat.le_of_eq gb10.symm)
  have Zs10 : n0 ≤ h10.size := Nat.le_trans Z8 E10.1
  have sz_b10 : h0.size ≤ b10 := Nat.le_trans Kp8.1 (Nat.le_of_eq gb10.symm)
  have Kp10 : Keep h0 h10 [] := Kp8.ext E10
  have neH : b2 ≠ b10 := by have q := own_V_lt VLL; rw [gb10]; exact Nat.ne_of_lt q
  have VKH := own_V_ext VLL E10
  have neLH : b6 ≠ b10 := by have q := own_A_lt F8; rw [gb10]; exact Nat.ne_of_lt q
  have FLx := own_A_ext F8 E10
  have FH0 : own_A Z h10 b10 .int 15 (fun _ => 0) := own_A_new A10 rfl rfl
  have pre11 : ∀ t, Steps p.tables e below (T10.setTop (mkF m 184 #[.val (.int p1), .val (.int p2), .val (.int p3), .val (.ref b2), .val (.ref b6), .unset, .unset, .unset, .unset, .unset, .unset, .unset, .unset, .unset, .unset] [(.ref b10)])) t → Steps p.tables e below _ t := fun t kt => pre9 t (by
    show Steps p.tables e below (T8.setTop (mkF m 182 #[.val (.int p1), .val (.int p2), .val (.int p3), .val (.ref b2), .val (.ref b6), .unset, .unset, .unset, .unset, .unset, .unset, .unset, .unset, .unset, .unset] [(.int (15 : Int32))])) _
    refine st10 _ ?_
    exact kt)
  obtain ⟨T12, h12, L12, X12, e12, N12, Z12, Kp12, Kq12, F12, st12⟩ := own_fillH (h0 := h0) p1 p2 p3 b2 b6 b10 X10 hx hZ hw hby hml hown e10 N8 Zs10 Kp10 sz_b10 g_b10 FH0
  have VLH := own_V_keep VKH Kq12 (ninS neH nin0)
  have FLy := own_A_keep FLx Kq12 (ninS neLH nin0)
  have pre13 : ∀ t, Steps p.tables e below (T12.setTop (mkF m 266 #[.val (.int p1), .val (.int p2), .val (.int p3), .val (.ref b2), .val (.ref b6), .val (.ref b10), .val (.int ((p1 &&& (2147483647 : Int32)) % (15 : Int32))), .unset, .unset, .unset, .unset, .unset, .unset, .unset, .unset] [])) t → Steps p.tables e below _ t := fun t kt => pre11 t (by
    show Steps p.tables e below (T10.setTop (mkF m 184 #[.val (.int p1), .val (.int p2), .val (.int p3), .val (.ref b2), .val (.ref b6), .unset, .unset, .unset, .unset, .unset, .unset, .unset, .unset, .unset, .unset] [(.ref b10)])) _
    refine st12 _ ?_
    show Steps p.tables e below (T12.setTop (mkF m 255 #[.val (.int p1), .val (.int p2), .val (.int p3), .val (.ref b2), .val (.ref b6), .unset, .unset, .unset, .unset, .unset, .unset, .unset, .unset, .unset, .unset] [(.ref b10)])) _
    refine XS.astore X12.here hx rfl (hb hby at_255) rfl rfl (l' := #[.val (.int p1), .val (.int p2), .val (.int p3), .val (.ref b2), .val (.ref b6), .val (.ref b10), .unset, .unset, .unset, .unset, .unset, .unset, .unset, .unset, .unset]) rfl ?_
    show Steps p.tables e below (T12.setTop (mkF m 257 #[.val (.int p1), .val (.int p2), .val (.int p3), .val (.ref b2), .val (.ref b6), .val (.ref b10), .unset, .unset, .unset, .unset, .unset, .unset, .unset, .unset, .unset] [])) _
    refine XS.iloadN X12.here hx rfl (hb hby at_257) rfl ?_
    show Steps p.tables e below (T12.setTop (mkF m 258 #[.val (.int p1), .val (.int p2), .val (.int p3), .val (.ref b2), .val (.ref b6), .val (.ref b10), .unset, .unset, .unset, .unset, .unset, .unset, .unset, .unset, .unset] [(.int p1)])) _
    refine X12.ldcInt hx hown (mvT hZ (hw _ (List.mem_of_getElem? (i := 35) rfl))) (g := (mkF m 258 #[.val (.int p1), .val (.int p2), .val (.int p3), .val (.ref b2), .val (.ref b6), .val (.ref b10), .unset, .unset, .unset, .unset, .unset, .unset, .unset, .unset, .unset] [(.int p1)])) rfl (hb hby at_258) _ ?_
    show Steps p.tables e below (T12.setTop (mkF m 260 #[.val (.int p1), .val (.int p2), .val (.int p3), .val (.ref b2), .val (.ref b6), .val (.ref b10), .unset, .unset, .unset, .unset, .unset, .unset, .unset, .unset, .unset] [(.int (2147483647 : Int32)), (.int p1)])) _
    refine XS.iand X12.here hx rfl (hb hby at_260) rfl ?_
    show Steps p.tables e below (T12.setTop (mkF m 261 #[.val (.int p1), .val (.int p2), .val (.int p3), .val (.ref b2), .val (.ref b6), .val (.ref b10), .unset, .unset, .unset, .unset, .unset, .unset, .unset, .unset, .unset] [(.int (p1 &&& (2147483647 : Int32)))])) _
    refine XS.bipush X12.here hx rfl (hb hby at_261) ?_
    show Steps p.tables e below (T12.setTop (mkF m 263 #[.val (.int p1), .val (.int p2), .val (.int p3), .val (.ref b2), .val (.ref b6), .val (.ref b10), .unset, .unset, .unset, .unset, .unset, .unset, .unset, .unset, .unset] [(.int (15 : Int32)), (.int (p1 &&& (2147483647 : Int32)))])) _
    refine iremM X12 hx rfl (hb hby at_263) rfl (by decide) ?_
    show Steps p.tables e below (T12.setTop (mkF m 264 #[.val (.int p1), .val (.int p2), .val (.int p3), .val (.ref b2), .val (.ref b6), .val (.ref b10), .unset, .unset, .unset, .unset, .unset, .unset, .unset, .unset, .unset] [(.int ((p1 &&& (2147483647 : Int32)) % (15 : Int32)))])) _
    refine XS.istore X12.here hx rfl (hb hby at_264) rfl (l' := #[.val (.int p1), .val (.int p2), .val (.int p3), .val (.ref b2), .val (.ref b6), .val (.ref b10), .val (.int ((p1 &&& (2147483647 : Int32)) % (15 : Int32))), .unset, .unset, .unset, .unset, .unset, .unset, .unset, .unset]) rfl ?_
    exact kt)
  obtain ⟨kk, hkk, bkk⟩ := own_fifteen p1
  have hv14 : ((p1 &&& (2147483647 : Int32)) % (15 : Int32)) = (Int32.ofNat kk) := hkk
  rw [hv14] at pre13
  obtain ⟨clA, ArA, -, SzA, HfA⟩ := id VLH
  obtain ⟨clB, ArB, SzB, HfB⟩ := id FLy
  obtain ⟨clC, ArC, SzC, HfC⟩ := id F12
  have pre15 : ∀ t, Steps p.tables e below (T12.setTop (mkF m 289 #[.val (.int p1), .val (.int p2), .val (.int p3), .val (.ref b2), .val (.ref b6), .val (.ref b10), .val (.int (Int32.ofNat kk)), .val (.ref (ak kk)), .val (.int (own_lo kk)), .val (.int (own_hi kk)), .unset, .unset, .unset, .unset, .unset] [(.int (p2 &&& (2 : Int32)))])) t → Steps p.tables e below _ t := fun t kt => pre13 t (by
    show Steps p.tables e below (T12.setTop (mkF m 266 #[.val (.int p1), .val (.int p2), .val (.int p3), .val (.ref b2), .val (.ref b6), .val (.ref b10), .val (.int (Int32.ofNat kk)), .unset, .unset, .unset, .unset, .unset, .unset, .unset, .unset] [])) _
    refine XS.aloadN X12.here hx rfl (hb hby at_266) rfl rfl ?_
    show Steps p.tables e below (T12.setTop (mkF m 267 #[.val (.int p1), .val (.int p2), .val (.int p3), .val (.ref b2), .val (.ref b6), .val (.ref b10), .val (.int (Int32.ofNat kk)), .unset, .unset, .unset, .unset, .unset, .unset, .unset, .unset] [(.ref b2)])) _
    refine XS.iload X12.here hx rfl (hb hby at_267) rfl ?_
    show Steps p.tables e below (T12.setTop (mkF m 269 #[.val (.int p1), .val (.int p2), .val (.int p3), .val (.ref b2), .val (.ref b6), .val (.ref b10), .val (.int (Int32.ofNat kk)), .unset, .unset, .unset, .unset, .unset, .unset, .unset, .unset] [(.int (Int32.ofNat kk)), (.ref b2)])) _
    refine X12.aaload hx (j := (Int32.ofNat kk)) (v := (.ref (ak kk))) (by rw [e12]; exact ArA.1) (State.isArrayOf_alike hZ.alike ArA.2.1) rfl ArA.2.2 (within (c := kk) rfl (by omega) (by omega)) (by rw [clamp_of (c := kk) rfl (by omega), HfA _ bkk]) (g := (mkF m 269 #[.val (.int p1), .val (.int p2), .val (.int p3), .val (.ref b2), .val (.ref b6), .val (.ref b10), .val (.int (Int32.ofNat kk)), .unset, .unset, .unset, .unset, .unset, .unset, .unset, .unset] [(.int (Int32.ofNat kk)), (.ref b2)])) rfl rfl (hb hby at_269) _ ?_
    show Steps p.tables e below (T12.setTop (mkF m 270 #[.val (.int p1), .val (.int p2), .val (.int p3), .val (.ref b2), .val (.ref b6), .val (.ref b10), .val (.int (Int32.ofNat kk)), .unset, .unset, .unset, .unset, .unset, .unset, .unset, .unset] [(.ref (ak kk))])) _
    refine XS.astore X12.here hx rfl (hb hby at_270) rfl rfl (l' := #[.val (.int p1), .val (.int p2), .val (.int p3), .val (.ref b2), .val (.ref b6), .val (.ref b10), .val (.int (Int32.ofNat kk)), .val (.ref (ak kk)), .unset, .unset, .unset, .unset, .unset, .unset, .unset]) rfl ?_
    show Steps p.tables e below (T12.setTop (mkF m 272 #[.val (.int p1), .val (.int p2), .val (.int p3), .val (.ref b2), .val (.ref b6), .val (.ref b10), .val (.int (Int32.ofNat kk)), .val (.ref (ak kk)), .unset, .unset, .unset, .unset, .unset, .unset, .unset] [])) _
    refine XS.aload X12.here hx rfl (hb hby at_272) rfl rfl ?_
    show Steps p.tables e below (T12.setTop (mkF m 274 #[.val (.int p1), .val (.int p2), .val (.int p3), .val (.ref b2), .val (.ref b6), .val (.ref b10), .val (.int (Int32.ofNat kk)), .val (.ref (ak kk)), .unset, .unset, .unset, .unset, .unset, .unset, .unset] [(.ref b6)])) _
    refine XS.iload X12.here hx rfl (hb hby at_274) rfl ?_
    show Steps p.tables e below (T12.setTop (mkF m 276 #[.val (.int p1), .val (.int p2), .val (.int p3), .val (.ref b2), .val (.ref b6), .val (.ref b10), .val (.int (Int32.ofNat kk)), .val (.ref (ak kk)), .unset, .unset, .unset, .unset, .unset, .unset, .unset] [(.int (Int32.ofNat kk)), (.ref b6)])) _
    refine X12.iaload hx (j := (Int32.ofNat kk)) (v := (.int (own_lo kk))) (by rw [e12]; exact ArB.1) (State.isArrayOf_alike hZ.alike ArB.2.1) ArB.2.2 (within (c := kk) rfl (by omega) (by omega)) (by rw [clamp_of (c := kk) rfl (by omega), HfB _ bkk]) (g := (mkF m 276 #[.val (.int p1), .val (.int p2), .val (.int p3), .val (.ref b2), .val (.ref b6), .val (.ref b10), .val (.int (Int32.ofNat kk)), .val (.ref (ak kk)), .unset, .unset, .unset, .unset, .unset, .unset, .unset] [(.int (Int32.ofNat kk)), (.ref b6)])) rfl rfl (hb hby at_276) _ ?_
    show Steps p.tables e below (T12.setTop (mkF m 277 #[.val (.int p1), .val (.int p2), .val (.int p3), .val (.ref b2), .val (.ref b6), .val (.ref b10), .val (.int (Int32.ofNat kk)), .val (.ref (ak kk)), .unset, .unset, .unset, .unset, .unset, .unset, .unset] [(.int (own_lo kk))])) _
    refine XS.istore X12.here hx rfl (hb hby at_277) rfl (l' := #[.val (.int p1), .val (.int p2), .val (.int p3), .val (.ref b2), .val (.ref b6), .val (.ref b10), .val (.int (Int32.ofNat kk)), .val (.ref (ak kk)), .val (.int (own_lo kk)), .unset, .unset, .unset, .unset, .unset, .unset]) rfl ?_
    show Steps p.tables e below (T12.setTop (mkF m 279 #[.val (.int p1), .val (.int p2), .val (.int p3), .val (.ref b2), .val (.ref b6), .val (.ref b10), .val (.int (Int32.ofNat kk)), .val (.ref (ak kk)), .val (.int (own_lo kk)), .unset, .unset, .unset, .unset, .unset, .unset] [])) _
    refine XS.aload X12.here hx rfl (hb hby at_279) rfl rfl ?_
    show Steps p.tables e below (T12.setTop (mkF m 281 #[.val (.int p1), .val (.int p2), .val (.int p3), .val (.ref b2), .val (.ref b6), .val (.ref b10), .val (.int (Int32.ofNat kk)), .val (.ref (ak kk)), .val (.int (own_lo kk)), .unset, .unset, .unset, .unset, .unset, .unset] [(.ref b10)])) _
    refine XS.iload X12.here hx rfl (hb hby at_281) rfl ?_
    show Steps p.tables e below (T12.setTop (mkF m 283 #[.val (.int p1), .val (.int p2), .val (.int p3), .val (.ref b2), .val (.ref b6), .val (.ref b10), .val (.int (Int32.ofNat kk)), .val (.ref (ak kk)), .val (.int (own_lo kk)), .unset, .unset, .unset, .unset, .unset, .unset] [(.int (Int32.ofNat kk)), (.ref b10)])) _
    refine X12.iaload hx (j := (Int32.ofNat kk)) (v := (.int (own_hi kk))) (by rw [e12]; exact ArC.1) (State.isArrayOf_alike hZ.alike ArC.2.1) ArC.2.2 (within (c := kk) rfl (by omega) (by omega)) (by rw [clamp_of (c := kk) rfl (by omega), HfC _ bkk]) (g := (mkF m 283 #[.val (.int p1), .val (.int p2), .val (.int p3), .val (.ref b2), .val (.ref b6), .val (.ref b10), .val (.int (Int32.ofNat kk)), .val (.ref (ak kk)), .val (.int (own_lo kk)), .unset, .unset, .unset, .unset, .unset, .unset] [(.int (Int32.ofNat kk)), (.ref b10)])) rfl rfl (hb hby at_283) _ ?_
    show Steps p.tables e below (T12.setTop (mkF m 284 #[.val (.int p1), .val (.int p2), .val (.int p3), .val (.ref b2), .val (.ref b6), .val (.ref b10), .val (.int (Int32.ofNat kk)), .val (.ref (ak kk)), .val (.int (own_lo kk)), .unset, .unset, .unset, .unset, .unset, .unset] [(.int (own_hi kk))])) _
    refine XS.istore X12.here hx rfl (hb hby at_284) rfl (l' := #[.val (.int p1), .val (.int p2), .val (.int p3), .val (.ref b2), .val (.ref b6), .val (.ref b10), .val (.int (Int32.ofNat kk)), .val (.ref (ak kk)), .val (.int (own_lo kk)), .val (.int (own_hi kk)), .unset, .unset, .unset, .unset, .unset]) rfl ?_
    show Steps p.tables e below (T12.setTop (mkF m 286 #[.val (.int p1), .val (.int p2), .val (.int p3), .val (.ref b2), .val (.ref b6), .val (.ref b10), .val (.int (Int32.ofNat kk)), .val (.ref (ak kk)), .val (.int (own_lo kk)), .val (.int (own_hi kk)), .unset, .unset, .unset, .unset, .unset] [])) _
    refine XS.iloadN X12.here hx rfl (hb hby at_286) rfl ?_
    show Steps p.tables e below (T12.setTop (mkF m 287 #[.val (.int p1), .val (.int p2), .val (.int p3), .val (.ref b2), .val (.ref b6), .val (.ref b10), .val (.int (Int32.ofNat kk)), .val (.ref (ak kk)), .val (.int (own_lo kk)), .val (.int (own_hi kk)), .unset, .unset, .unset, .unset, .unset] [(.int p2)])) _
    refine XS.iconst X12.here hx rfl (hb hby at_287) ?_
    show Steps p.tables e below (T12.setTop (mkF m 288 #[.val (.int p1), .val (.int p2), .val (.int p3), .val (.ref b2), .val (.ref b6), .val (.ref b10), .val (.int (Int32.ofNat kk)), .val (.ref (ak kk)), .val (.int (own_lo kk)), .val (.int (own_hi kk)), .unset, .unset, .unset, .unset, .unset] [(.int (2 : Int32)), (.int p2)])) _
    refine XS.iand X12.here hx rfl (hb hby at_288) rfl ?_
    exact kt)
  have pre16 : ∀ t, Steps p.tables e below (T12.setTop (mkF m 299 #[.val (.int p1), .val (.int p2), .val (.int p3), .val (.ref b2), .val (.ref b6), .val (.ref b10), .val (.int (Int32.ofNat kk)), .val (.ref (ak kk)), .val (.int (own_lo kk)), .val (.int (own_hi kk)), .unset, .unset, .unset, .unset, .unset] [(.int (if (p2 &&& (2 : Int32)) = (0 : Int32) then (own_lo kk) else (own_hi kk)))])) t → Steps p.tables e below (s₁.setTop (entryFrame m #[(.int p1), (.int p2), (.int p3)] maxLocals)) t := fun t kt => by
    refine pre15 t ?_
    by_cases hd289 : (p2 &&& (2 : Int32)) = (0 : Int32)
    · simp only [if_pos hd289] at kt
      show Steps p.tables e below (T12.setTop (mkF m 289 #[.val (.int p1), .val (.int p2), .val (.int p3), .val (.ref b2), .val (.ref b6), .val (.ref b10), .val (.int (Int32.ofNat kk)), .val (.ref (ak kk)), .val (.int (own_lo kk)), .val (.int (own_hi kk)), .unset, .unset, .unset, .unset, .unset] [(.int (p2 &&& (2 : Int32)))])) _
      refine XS.ifYes X12.here hx rfl (pc0 := 289) (pc' := 297) rfl (hb hby at_289) rfl ((if0 _ _).trans (teq hd289).1) (by decide) (by decide) ?_
      show Steps p.tables e below (T12.setTop (mkF m 297 #[.val (.int p1), .val (.int p2), .val (.int p3), .val (.ref b2), .val (.ref b6), .val (.ref b10), .val (.int (Int32.ofNat kk)), .val (.ref (ak kk)), .val (.int (own_lo kk)), .val (.int (own_hi kk)), .unset, .unset, .unset, .unset, .unset] [])) _
      refine XS.iload X12.here hx rfl (hb hby at_297) rfl ?_
      exact kt
    · simp only [if_neg hd289] at kt
      show Steps p.tables e below (T12.setTop (mkF m 289 #[.val (.int p1), .val (.int p2), .val (.int p3), .val (.ref b2), .val (.ref b6), .val (.ref b10), .val (.int (Int32.ofNat kk)), .val (.ref (ak kk)), .val (.int (own_lo kk)), .val (.int (own_hi kk)), .unset, .unset, .unset, .unset, .unset] [(.int (p2 &&& (2 : Int32)))])) _
      refine XS.ifNo X12.here hx rfl (hb hby at_289) rfl ((if0 _ _).trans (feq hd289).1) ?_
      show Steps p.tables e below (T12.setTop (mkF m 292 #[.val (.int p1), .val (.int p2), .val (.int p3), .val (.ref b2), .val (.ref b6), .val (.ref b10), .val (.int (Int32.ofNat kk)), .val (.ref (ak kk)), .val (.int (own_lo kk)), .val (.int (own_hi kk)), .unset, .unset, .unset, .unset, .unset] [])) _
      refine XS.iload X12.here hx rfl (hb hby at_292) rfl ?_
      show Steps p.tables e below (T12.setTop (mkF m 294 #[.val (.int p1), .val (.int p2), .val (.int p3), .val (.ref b2), .val (.ref b6), .val (.ref b10), .val (.int (Int32.ofNat kk)), .val (.ref (ak kk)), .val (.int (own_lo kk)), .val (.int (own_hi kk)), .unset, .unset, .unset, .unset, .unset] [(.int (own_hi kk))])) _
      refine XS.goto X12.here hx rfl (pc0 := 294) (pc' := 299) rfl (hb hby at_294) (by decide) (by decide) ?_
      exact kt
  have pre17 : ∀ t, Steps p.tables e below (T12.setTop (mkF m 304 #[.val (.int p1), .val (.int p2), .val (.int p3), .val (.ref b2), .val (.ref b6), .val (.ref b10), .val (.int (Int32.ofNat kk)), .val (.ref (ak kk)), .val (.int (own_lo kk)), .val (.int (own_hi kk)), .val (.int (if (p2 &&& (2 : Int32)) = (0 : Int32) then (own_lo kk) else (own_hi kk))), .unset, .unset, .unset, .unset] [(.int (p2 &&& (1 : Int32)))])) t → Steps p.tables e below _ t := fun t kt => pre16 t (by
    show Steps p.tables e below (T12.setTop (mkF m 299 #[.val (.int p1), .val (.int p2), .val (.int p3), .val (.ref b2), .val (.ref b6), .val (.ref b10), .val (.int (Int32.ofNat kk)), .val (.ref (ak kk)), .val (.int (own_lo kk)), .val (.int (own_hi kk)), .unset, .unset, .unset, .unset, .unset] [(.int (if (p2 &&& (2 : Int32)) = (0 : Int32) then (own_lo kk) else (own_hi kk)))])) _
    refine XS.istore X12.here hx rfl (hb hby at_299) rfl (l' := #[.val (.int p1), .val (.int p2), .val (.int p3), .val (.ref b2), .val (.ref b6), .val (.ref b10), .val (.int (Int32.ofNat kk)), .val (.ref (ak kk)), .val (.int (own_lo kk)), .val (.int (own_hi kk)), .val (.int (if (p2 &&& (2 : Int32)) = (0 : Int32) then (own_lo kk) else (own_hi kk))), .unset, .unset, .unset, .unset]) rfl ?_
    show Steps p.tables e below (T12.setTop (mkF m 301 #[.val (.int p1), .val (.int p2), .val (.int p3), .val (.ref b2), .val (.ref b6), .val (.ref b10), .val (.int (Int32.ofNat kk)), .val (.ref (ak kk)), .val (.int (own_lo kk)), .val (.int (own_hi kk)), .val (.int (if (p2 &&& (2 : Int32)) = (0 : Int32) then (own_lo kk) else (own_hi kk))), .unset, .unset, .unset, .unset] [])) _
    refine XS.iloadN X12.here hx rfl (hb hby at_301) rfl ?_
    show Steps p.tables e below (T12.setTop (mkF m 302 #[.val (.int p1), .val (.int p2), .val (.int p3), .val (.ref b2), .val (.ref b6), .val (.ref b10), .val (.int (Int32.ofNat kk)), .val (.ref (ak kk)), .val (.int (own_lo kk)), .val (.int (own_hi kk)), .val (.int (if (p2 &&& (2 : Int32)) = (0 : Int32) then (own_lo kk) else (own_hi kk))), .unset, .unset, .unset, .unset] [(.int p2)])) _
    refine XS.iconst X12.here hx rfl (hb hby at_302) ?_
    show Steps p.tables e below (T12.setTop (mkF m 303 #[.val (.int p1), .val (.int p2), .val (.int p3), .val (.ref b2), .val (.ref b6), .val (.ref b10), .val (.int (Int32.ofNat kk)), .val (.ref (ak kk)), .val (.int (own_lo kk)), .val (.int (own_hi kk)), .val (.int (if (p2 &&& (2 : Int32)) = (0 : Int32) then (own_lo kk) else (own_hi kk))), .unset, .unset, .unset, .unset] [(.int (1 : Int32)), (.int p2)])) _
    refine XS.iand X12.here hx rfl (hb hby at_303) rfl ?_
    exact kt)
  have pre18 : ∀ t, Steps p.tables e below (T12.setTop (mkF m 320 #[.val (.int p1), .val (.int p2), .val (.int p3), .val (.ref b2), .val (.ref b6), .val (.ref b10), .val (.int (Int32.ofNat kk)), .val (.ref (ak kk)), .val (.int (own_lo kk)), .val (.int (own_hi kk)), .val (.int (if (p2 &&& (2 : Int32)) = (0 : Int32) then (own_lo kk) else (own_hi kk))), .unset, .unset, .unset, .unset] [(.int (if (p2 &&& (1 : Int32)) = (0 : Int32) then p3 else ((if (p2 &&& (2 : Int32)) = (0 : Int32) then (own_lo kk) else (own_hi kk)) + ((p3 &&& (7 : Int32)) - (4 : Int32)))))])) t → Steps p.tables e below (s₁.setTop (entryFrame m #[(.int p1), (.int p2), (.int p3)] maxLocals)) t := fun t kt => by
    refine pre17 t ?_
    by_cases hd304 : (p2 &&& (1 : Int32)) = (0 : Int32)
    · simp only [if_pos hd304] at kt
      show Steps p.tables e below (T12.setTop (mkF m 304 #[.val (.int p1), .val (.int p2), .val (.int p3), .val (.ref b2), .val (.ref b6), .val (.ref b10), .val (.int (Int32.ofNat kk)), .val (.ref (ak kk)), .val (.int (own_lo kk)), .val (.int (own_hi kk)), .val (.int (if (p2 &&& (2 : Int32)) = (0 : Int32) then (own_lo kk) else (own_hi kk))), .unset, .unset, .unset, .unset] [(.int (p2 &&& (1 : Int32)))])) _
      refine XS.ifYes X12.here hx rfl (pc0 := 304) (pc' := 319) rfl (hb hby at_304) rfl ((if0 _ _).trans (teq hd304).1) (by decide) (by decide) ?_
      show Steps p.tables e below (T12.setTop (mkF m 319 #[.val (.int p1), .val (.int p2), .val (.int p3), .val (.ref b2), .val (.ref b6), .val (.ref b10), .val (.int (Int32.ofNat kk)), .val (.ref (ak kk)), .val (.int (own_lo kk)), .val (.int (own_hi kk)), .val (.int (if (p2 &&& (2 : Int32)) = (0 : Int32) then (own_lo kk) else (own_hi kk))), .unset, .unset, .unset, .unset] [])) _
      refine XS.iloadN X12.here hx rfl (hb hby at_319) rfl ?_
      exact kt
    · simp only [if_neg hd304] at kt
      show Steps p.tables e below (T12.setTop (mkF m 304 #[.val (.int p1), .val (.int p2), .val (.int p3), .val (.ref b2), .val (.ref b6), .val (.ref b10), .val (.int (Int32.ofNat kk)), .val (.ref (ak kk)), .val (.int (own_lo kk)), .val (.int (own_hi kk)), .val (.int (if (p2 &&& (2 : Int32)) = (0 : Int32) then (own_lo kk) else (own_hi kk))), .unset, .unset, .unset, .unset] [(.int (p2 &&& (1 : Int32)))])) _
      refine XS.ifNo X12.here hx rfl (hb hby at_304) rfl ((if0 _ _).trans (feq hd304).1) ?_
      show Steps p.tables e below (T12.setTop (mkF m 307 #[.val (.int p1), .val (.int p2), .val (.int p3), .val (.ref b2), .val (.ref b6), .val (.ref b10), .val (.int (Int32.ofNat kk)), .val (.ref (ak kk)), .val (.int (own_lo kk)), .val (.int (own_hi kk)), .val (.int (if (p2 &&& (2 : Int32)) = (0 : Int32) then (own_lo kk) else (own_hi kk))), .unset, .unset, .unset, .unset] [])) _
      refine XS.iload X12.here hx rfl (hb hby at_307) rfl ?_
      show Steps p.tables e below (T12.setTop (mkF m 309 #[.val (.int p1), .val (.int p2), .val (.int p3), .val (.ref b2), .val (.ref b6), .val (.ref b10), .val (.int (Int32.ofNat kk)), .val (.ref (ak kk)), .val (.int (own_lo kk)), .val (.int (own_hi kk)), .val (.int (if (p2 &&& (2 : Int32)) = (0 : Int32) then (own_lo kk) else (own_hi kk))), .unset, .unset, .unset, .unset] [(.int (if (p2 &&& (2 : Int32)) = (0 : Int32) then (own_lo kk) else (own_hi kk)))])) _
      refine XS.iloadN X12.here hx rfl (hb hby at_309) rfl ?_
      show Steps p.tables e below (T12.setTop (mkF m 310 #[.val (.int p1), .val (.int p2), .val (.int p3), .val (.ref b2), .val (.ref b6), .val (.ref b10), .val (.int (Int32.ofNat kk)), .val (.ref (ak kk)), .val (.int (own_lo kk)), .val (.int (own_hi kk)), .val (.int (if (p2 &&& (2 : Int32)) = (0 : Int32) then (own_lo kk) else (own_hi kk))), .unset, .unset, .unset, .unset] [(.int p3), (.int (if (p2 &&& (2 : Int32)) = (0 : Int32) then (own_lo kk) else (own_hi kk)))])) _
      refine XS.bipush X12.here hx rfl (hb hby at_310) ?_
      show Steps p.tables e below (T12.setTop (mkF m 312 #[.val (.int p1), .val (.int p2), .val (.int p3), .val (.ref b2), .val (.ref b6), .val (.ref b10), .val (.int (Int32.ofNat kk)), .val (.ref (ak kk)), .val (.int (own_lo kk)), .val (.int (own_hi kk)), .val (.int (if (p2 &&& (2 : Int32)) = (0 : Int32) then (own_lo kk) else (own_hi kk))), .unset, .unset, .unset, .unset] [(.int (7 : Int32)), (.int p3), (.int (if (p2 &&& (2 : Int32)) = (0 : Int32) then (own_lo kk) else (own_hi kk)))])) _
      refine XS.iand X12.here hx rfl (hb hby at_312) rfl ?_
      show Steps p.tables e below (T12.setTop (mkF m 313 #[.val (.int p1), .val (.int p2), .val (.int p3), .val (.ref b2), .val (.ref b6), .val (.ref b10), .val (.int (Int32.ofNat kk)), .val (.ref (ak kk)), .val (.int (own_lo kk)), .val (.int (own_hi kk)), .val (.int (if (p2 &&& (2 : Int32)) = (0 : Int32) then (own_lo kk) else (own_hi kk))), .unset, .unset, .unset, .unset] [(.int (p3 &&& (7 : Int32))), (.int (if (p2 &&& (2 : Int32)) = (0 : Int32) then (own_lo kk) else (own_hi kk)))])) _
      refine XS.iconst X12.here hx rfl (hb hby at_313) ?_
      show Steps p.tables e below (T12.setTop (mkF m 314 #[.val (.int p1), .val (.int p2), .val (.int p3), .val (.ref b2), .val (.ref b6), .val (.ref b10), .val (.int (Int32.ofNat kk)), .val (.ref (ak kk)), .val (.int (own_lo kk)), .val (.int (own_hi kk)), .val (.int (if (p2 &&& (2 : Int32)) = (0 : Int32) then (own_lo kk) else (own_hi kk))), .unset, .unset, .unset, .unset] [(.int (4 : Int32)), (.int (p3 &&& (7 : Int32))), (.int (if (p2 &&& (2 : Int32)) = (0 : Int32) then (own_lo kk) else (own_hi kk)))])) _
      refine XS.isub X12.here hx rfl (hb hby at_314) rfl ?_
      show Steps p.tables e below (T12.setTop (mkF m 315 #[.val (.int p1), .val (.int p2), .val (.int p3), .val (.ref b2), .val (.ref b6), .val (.ref b10), .val (.int (Int32.ofNat kk)), .val (.ref (ak kk)), .val (.int (own_lo kk)), .val (.int (own_hi kk)), .val (.int (if (p2 &&& (2 : Int32)) = (0 : Int32) then (own_lo kk) else (own_hi kk))), .unset, .unset, .unset, .unset] [(.int ((p3 &&& (7 : Int32)) - (4 : Int32))), (.int (if (p2 &&& (2 : Int32)) = (0 : Int32) then (own_lo kk) else (own_hi kk)))])) _
      refine XS.iadd X12.here hx rfl (hb hby at_315) rfl ?_
      show Steps p.tables e below (T12.setTop (mkF m 316 #[.val (.int p1), .val (.int p2), .val (.int p3), .val (.ref b2), .val (.ref b6), .val (.ref b10), .val (.int (Int32.ofNat kk)), .val (.ref (ak kk)), .val (.int (own_lo kk)), .val (.int (own_hi kk)), .val (.int (if (p2 &&& (2 : Int32)) = (0 : Int32) then (own_lo kk) else (own_hi kk))), .unset, .unset, .unset, .unset] [(.int ((if (p2 &&& (2 : Int32)) = (0 : Int32) then (own_lo kk) else (own_hi kk)) + ((p3 &&& (7 : Int32)) - (4 : Int32))))])) _
      refine XS.goto X12.here hx rfl (pc0 := 316) (pc' := 320) rfl (hb hby at_316) (by decide) (by decide) ?_
      exact kt
  have pre19 : ∀ t, Steps p.tables e below (T12.setTop (mkF m 327 #[.val (.int p1), .val (.int p2), .val (.int p3), .val (.ref b2), .val (.ref b6), .val (.ref b10), .val (.int (Int32.ofNat kk)), .val (.ref (ak kk)), .val (.int (own_lo kk)), .val (.int (own_hi kk)), .val (.int (if (p2 &&& (2 : Int32)) = (0 : Int32) then (own_lo kk) else (own_hi kk))), .val (.int (if (p2 &&& (1 : Int32)) = (0 : Int32) then p3 else ((if (p2 &&& (2 : Int32)) = (0 : Int32) then (own_lo kk) else (own_hi kk)) + ((p3 &&& (7 : Int32)) - (4 : Int32))))), .val (.int ((if (p2 &&& (1 : Int32)) = (0 : Int32) then p3 else ((if (p2 &&& (2 : Int32)) = (0 : Int32) then (own_lo kk) else (own_hi kk)) + ((p3 &&& (7 : Int32)) - (4 : Int32)))).toInt16.toInt32)), .unset, .unset] [])) t → Steps p.tables e below _ t := fun t kt => pre18 t (by
    show Steps p.tables e below (T12.setTop (mkF m 320 #[.val (.int p1), .val (.int p2), .val (.int p3), .val (.ref b2), .val (.ref b6), .val (.ref b10), .val (.int (Int32.ofNat kk)), .val (.ref (ak kk)), .val (.int (own_lo kk)), .val (.int (own_hi kk)), .val (.int (if (p2 &&& (2 : Int32)) = (0 : Int32) then (own_lo kk) else (own_hi kk))), .unset, .unset, .unset, .unset] [(.int (if (p2 &&& (1 : Int32)) = (0 : Int32) then p3 else ((if (p2 &&& (2 : Int32)) = (0 : Int32) then (own_lo kk) else (own_hi kk)) + ((p3 &&& (7 : Int32)) - (4 : Int32)))))])) _
    refine XS.istore X12.here hx rfl (hb hby at_320) rfl (l' := #[.val (.int p1), .val (.int p2), .val (.int p3), .val (.ref b2), .val (.ref b6), .val (.ref b10), .val (.int (Int32.ofNat kk)), .val (.ref (ak kk)), .val (.int (own_lo kk)), .val (.int (own_hi kk)), .val (.int (if (p2 &&& (2 : Int32)) = (0 : Int32) then (own_lo kk) else (own_hi kk))), .val (.int (if (p2 &&& (1 : Int32)) = (0 : Int32) then p3 else ((if (p2 &&& (2 : Int32)) = (0 : Int32) then (own_lo kk) else (own_hi kk)) + ((p3 &&& (7 : Int32)) - (4 : Int32))))), .unset, .unset, .unset]) rfl ?_
    show Steps p.tables e below (T12.setTop (mkF m 322 #[.val (.int p1), .val (.int p2), .val (.int p3), .val (.ref b2), .val (.ref b6), .val (.ref b10), .val (.int (Int32.ofNat kk)), .val (.ref (ak kk)), .val (.int (own_lo kk)), .val (.int (own_hi kk)), .val (.int (if (p2 &&& (2 : Int32)) = (0 : Int32) then (own_lo kk) else (own_hi kk))), .val (.int (if (p2 &&& (1 : Int32)) = (0 : Int32) then p3 else ((if (p2 &&& (2 : Int32)) = (0 : Int32) then (own_lo kk) else (own_hi kk)) + ((p3 &&& (7 : Int32)) - (4 : Int32))))), .unset, .unset, .unset] [])) _
    refine XS.iload X12.here hx rfl (hb hby at_322) rfl ?_
    show Steps p.tables e below (T12.setTop (mkF m 324 #[.val (.int p1), .val (.int p2), .val (.int p3), .val (.ref b2), .val (.ref b6), .val (.ref b10), .val (.int (Int32.ofNat kk)), .val (.ref (ak kk)), .val (.int (own_lo kk)), .val (.int (own_hi kk)), .val (.int (if (p2 &&& (2 : Int32)) = (0 : Int32) then (own_lo kk) else (own_hi kk))), .val (.int (if (p2 &&& (1 : Int32)) = (0 : Int32) then p3 else ((if (p2 &&& (2 : Int32)) = (0 : Int32) then (own_lo kk) else (own_hi kk)) + ((p3 &&& (7 : Int32)) - (4 : Int32))))), .unset, .unset, .unset] [(.int (if (p2 &&& (1 : Int32)) = (0 : Int32) then p3 else ((if (p2 &&& (2 : Int32)) = (0 : Int32) then (own_lo kk) else (own_hi kk)) + ((p3 &&& (7 : Int32)) - (4 : Int32)))))])) _
    refine XS.i2s X12.here hx rfl (hb hby at_324) rfl ?_
    show Steps p.tables e below (T12.setTop (mkF m 325 #[.val (.int p1), .val (.int p2), .val (.int p3), .val (.ref b2), .val (.ref b6), .val (.ref b10), .val (.int (Int32.ofNat kk)), .val (.ref (ak kk)), .val (.int (own_lo kk)), .val (.int (own_hi kk)), .val (.int (if (p2 &&& (2 : Int32)) = (0 : Int32) then (own_lo kk) else (own_hi kk))), .val (.int (if (p2 &&& (1 : Int32)) = (0 : Int32) then p3 else ((if (p2 &&& (2 : Int32)) = (0 : Int32) then (own_lo kk) else (own_hi kk)) + ((p3 &&& (7 : Int32)) - (4 : Int32))))), .unset, .unset, .unset] [(.int ((if (p2 &&& (1 : Int32)) = (0 : Int32) then p3 else ((if (p2 &&& (2 : Int32)) = (0 : Int32) then (own_lo kk) else (own_hi kk)) + ((p3 &&& (7 : Int32)) - (4 : Int32)))).toInt16.toInt32))])) _
    refine XS.istore X12.here hx rfl (hb hby at_325) rfl (l' := #[.val (.int p1), .val (.int p2), .val (.int p3), .val (.ref b2), .val (.ref b6), .val (.ref b10), .val (.int (Int32.ofNat kk)), .val (.ref (ak kk)), .val (.int (own_lo kk)), .val (.int (own_hi kk)), .val (.int (if (p2 &&& (2 : Int32)) = (0 : Int32) then (own_lo kk) else (own_hi kk))), .val (.int (if (p2 &&& (1 : Int32)) = (0 : Int32) then p3 else ((if (p2 &&& (2 : Int32)) = (0 : Int32) then (own_lo kk) else (own_hi kk)) + ((p3 &&& (7 : Int32)) - (4 : Int32))))), .val (.int ((if (p2 &&& (1 : Int32)) = (0 : Int32) then p3 else ((if (p2 &&& (2 : Int32)) = (0 : Int32) then (own_lo kk) else (own_hi kk)) + ((p3 &&& (7 : Int32)) - (4 : Int32)))).toInt16.toInt32)), .unset, .unset]) rfl ?_
    exact kt)
  obtain ⟨sv, hsv⟩ : ∃ z : Int32, z = ((if (p2 &&& (1 : Int32)) = (0 : Int32) then p3 else ((if (p2 &&& (2 : Int32)) = (0 : Int32) then (own_lo kk) else (own_hi kk)) + ((p3 &&& (7 : Int32)) - (4 : Int32)))).toInt16.toInt32) := ⟨_, rfl⟩
  rw [← hsv] at pre19
  have pre20 : ∀ t, Steps p.tables e below (T12.setTop (mkF m 335 #[.val (.int p1), .val (.int p2), .val (.int p3), .val (.ref b2), .val (.ref b6), .val (.ref b10), .val (.int (Int32.ofNat kk)), .val (.ref (ak kk)), .val (.int (own_lo kk)), .val (.int (own_hi kk)), .val (.int (if (p2 &&& (2 : Int32)) = (0 : Int32) then (own_lo kk) else (own_hi kk))), .val (.int (if (p2 &&& (1 : Int32)) = (0 : Int32) then p3 else ((if (p2 &&& (2 : Int32)) = (0 : Int32) then (own_lo kk) else (own_hi kk)) + ((p3 &&& (7 : Int32)) - (4 : Int32))))), .val (.int sv), .val (.int sv), .unset] [(.int (own_lo kk)), (.int sv)])) t → Steps p.tables e below _ t := fun t kt => pre19 t (by
    show Steps p.tables e below (T12.setTop (mkF m 327 #[.val (.int p1), .val (.int p2), .val (.int p3), .val (.ref b2), .val (.ref b6), .val (.ref b10), .val (.int (Int32.ofNat kk)), .val (.ref (ak kk)), .val (.int (own_lo kk)), .val (.int (own_hi kk)), .val (.int (if (p2 &&& (2 : Int32)) = (0 : Int32) then (own_lo kk) else (own_hi kk))), .val (.int (if (p2 &&& (1 : Int32)) = (0 : Int32) then p3 else ((if (p2 &&& (2 : Int32)) = (0 : Int32) then (own_lo kk) else (own_hi kk)) + ((p3 &&& (7 : Int32)) - (4 : Int32))))), .val (.int sv), .unset, .unset] [])) _
    refine XS.iload X12.here hx rfl (hb hby at_327) rfl ?_
    show Steps p.tables e below (T12.setTop (mkF m 329 #[.val (.int p1), .val (.int p2), .val (.int p3), .val (.ref b2), .val (.ref b6), .val (.ref b10), .val (.int (Int32.ofNat kk)), .val (.ref (ak kk)), .val (.int (own_lo kk)), .val (.int (own_hi kk)), .val (.int (if (p2 &&& (2 : Int32)) = (0 : Int32) then (own_lo kk) else (own_hi kk))), .val (.int (if (p2 &&& (1 : Int32)) = (0 : Int32) then p3 else ((if (p2 &&& (2 : Int32)) = (0 : Int32) then (own_lo kk) else (own_hi kk)) + ((p3 &&& (7 : Int32)) - (4 : Int32))))), .val (.int sv), .unset, .unset] [(.int sv)])) _
    refine XS.istore X12.here hx rfl (hb hby at_329) rfl (l' := #[.val (.int p1), .val (.int p2), .val (.int p3), .val (.ref b2), .val (.ref b6), .val (.ref b10), .val (.int (Int32.ofNat kk)), .val (.ref (ak kk)), .val (.int (own_lo kk)), .val (.int (own_hi kk)), .val (.int (if (p2 &&& (2 : Int32)) = (0 : Int32) then (own_lo kk) else (own_hi kk))), .val (.int (if (p2 &&& (1 : Int32)) = (0 : Int32) then p3 else ((if (p2 &&& (2 : Int32)) = (0 : Int32) then (own_lo kk) else (own_hi kk)) + ((p3 &&& (7 : Int32)) - (4 : Int32))))), .val (.int sv), .val (.int sv), .unset]) rfl ?_
    show Steps p.tables e below (T12.setTop (mkF m 331 #[.val (.int p1), .val (.int p2), .val (.int p3), .val (.ref b2), .val (.ref b6), .val (.ref b10), .val (.int (Int32.ofNat kk)), .val (.ref (ak kk)), .val (.int (own_lo kk)), .val (.int (own_hi kk)), .val (.int (if (p2 &&& (2 : Int32)) = (0 : Int32) then (own_lo kk) else (own_hi kk))), .val (.int (if (p2 &&& (1 : Int32)) = (0 : Int32) then p3 else ((if (p2 &&& (2 : Int32)) = (0 : Int32) then (own_lo kk) else (own_hi kk)) + ((p3 &&& (7 : Int32)) - (4 : Int32))))), .val (.int sv), .val (.int sv), .unset] [])) _
    refine XS.iload X12.here hx rfl (hb hby at_331) rfl ?_
    show Steps p.tables e below (T12.setTop (mkF m 333 #[.val (.int p1), .val (.int p2), .val (.int p3), .val (.ref b2), .val (.ref b6), .val (.ref b10), .val (.int (Int32.ofNat kk)), .val (.ref (ak kk)), .val (.int (own_lo kk)), .val (.int (own_hi kk)), .val (.int (if (p2 &&& (2 : Int32)) = (0 : Int32) then (own_lo kk) else (own_hi kk))), .val (.int (if (p2 &&& (1 : Int32)) = (0 : Int32) then p3 else ((if (p2 &&& (2 : Int32)) = (0 : Int32) then (own_lo kk) else (own_hi kk)) + ((p3 &&& (7 : Int32)) - (4 : Int32))))), .val (.int sv), .val (.int sv), .unset] [(.int sv)])) _
    refine XS.iload X12.here hx rfl (hb hby at_333) rfl ?_
    exact kt)
  have pre21 : ∀ t, Steps p.tables e below (T12.setTop (mkF m 350 #[.val (.int p1), .val (.int p2), .val (.int p3), .val (.ref b2), .val (.ref b6), .val (.ref b10), .val (.int (Int32.ofNat kk)), .val (.ref (ak kk)), .val (.int (own_lo kk)), .val (.int (own_hi kk)), .val (.int (if (p2 &&& (2 : Int32)) = (0 : Int32) then (own_lo kk) else (own_hi kk))), .val (.int (if (p2 &&& (1 : Int32)) = (0 : Int32) then p3 else ((if (p2 &&& (2 : Int32)) = (0 : Int32) then (own_lo kk) else (own_hi kk)) + ((p3 &&& (7 : Int32)) - (4 : Int32))))), .val (.int sv), .val (.int sv), .unset] [(.int (if sv < (own_lo kk) then (0 : Int32) else (if (own_hi kk) < sv then (0 : Int32) else (1 : Int32))))])) t → Steps p.tables e below (s₁.setTop (entryFrame m #[(.int p1), (.int p2), (.int p3)] maxLocals)) t := fun t kt => by
    refine pre20 t ?_
    by_cases hd335 : sv < (own_lo kk)
    · simp only [if_pos hd335] at kt
      show Steps p.tables e below (T12.setTop (mkF m 335 #[.val (.int p1), .val (.int p2), .val (.int p3), .val (.ref b2), .val (.ref b6), .val (.ref b10), .val (.int (Int32.ofNat kk)), .val (.ref (ak kk)), .val (.int (own_lo kk)), .val (.int (own_hi kk)), .val (.int (if (p2 &&& (2 : Int32)) = (0 : Int32) then (own_lo kk) else (own_hi kk))), .val (.int (if (p2 &&& (1 : Int32)) = (0 : Int32) then p3 else ((if (p2 &&& (2 : Int32)) = (0 : Int32) then (own_lo kk) else (own_hi kk)) + ((p3 &&& (7 : Int32)) - (4 : Int32))))), .val (.int sv), .val (.int sv), .unset] [(.int (own_lo kk)), (.int sv)])) _
      refine XS.icmpYes X12.here hx rfl (pc0 := 335) (pc' := 349) rfl (hb hby at_335) rfl (tlt hd335).1 (by decide) (by decide) ?_
      show Steps p.tables e below (T12.setTop (mkF m 349 #[.val (.int p1), .val (.int p2), .val (.int p3), .val (.ref b2), .val (.ref b6), .val (.ref b10), .val (.int (Int32.ofNat kk)), .val (.ref (ak kk)), .val (.int (own_lo kk)), .val (.int (own_hi kk)), .val (.int (if (p2 &&& (2 : Int32)) = (0 : Int32) then (own_lo kk) else (own_hi kk))), .val (.int (if (p2 &&& (1 : Int32)) = (0 : Int32) then p3 else ((if (p2 &&& (2 : Int32)) = (0 : Int32) then (own_lo kk) else (own_hi kk)) + ((p3 &&& (7 : Int32)) - (4 : Int32))))), .val (.int sv), .val (.int sv), .unset] [])) _
      refine XS.iconst X12.here hx rfl (hb hby at_349) ?_
      exact kt
    · by_cases hd342 : (own_hi kk) < sv
      · simp only [if_neg hd335, if_pos hd342] at kt
        show Steps p.tables e below (T12.setTop (mkF m 335 #[.val (.int p1), .val (.int p2), .val (.int p3), .val (.ref b2), .val (.ref b6), .val (.ref b10), .val (.int (Int32.ofNat kk)), .val (.ref (ak kk)), .val (.int (own_lo kk)), .val (.int (own_hi kk)), .val (.int (if (p2 &&& (2 : Int32)) = (0 : Int32) then (own_lo kk) else (own_hi kk))), .val (.int (if (p2 &&& (1 : Int32)) = (0 : Int32) then p3 else ((if (p2 &&& (2 : Int32)) = (0 : Int32) then (own_lo kk) else (own_hi kk)) + ((p3 &&& (7 : Int32)) - (4 : Int32))))), .val (.int sv), .val (.int sv), .unset] [(.int (own_lo kk)), (.int sv)])) _
        refine XS.icmpNo X12.here hx rfl (hb hby at_335) rfl (flt hd335).1 ?_
        show Steps p.tables e below (T12.setTop (mkF m 338 #[.val (.int p1), .val (.int p2), .val (.int p3), .val (.ref b2), .val (.ref b6), .val (.ref b10), .val (.int (Int32.ofNat kk)), .val (.ref (ak kk)), .val (.int (own_lo kk)), .val (.int (own_hi kk)), .val (.int (if (p2 &&& (2 : Int32)) = (0 : Int32) then (own_lo kk) else (own_hi kk))), .val (.int (if (p2 &&& (1 : Int32)) = (0 : Int32) then p3 else ((if (p2 &&& (2 : Int32)) = (0 : Int32) then (own_lo kk) else (own_hi kk)) + ((p3 &&& (7 : Int32)) - (4 : Int32))))), .val (.int sv), .val (.int sv), .unset] [])) _
        refine XS.iload X12.here hx rfl (hb hby at_338) rfl ?_
        show Steps p.tables e below (T12.setTop (mkF m 340 #[.val (.int p1), .val (.int p2), .val (.int p3), .val (.ref b2), .val (.ref b6), .val (.ref b10), .val (.int (Int32.ofNat kk)), .val (.ref (ak kk)), .val (.int (own_lo kk)), .val (.int (own_hi kk)), .val (.int (if (p2 &&& (2 : Int32)) = (0 : Int32) then (own_lo kk) else (own_hi kk))), .val (.int (if (p2 &&& (1 : Int32)) = (0 : Int32) then p3 else ((if (p2 &&& (2 : Int32)) = (0 : Int32) then (own_lo kk) else (own_hi kk)) + ((p3 &&& (7 : Int32)) - (4 : Int32))))), .val (.int sv), .val (.int sv), .unset] [(.int sv)])) _
        refine XS.iload X12.here hx rfl (hb hby at_340) rfl ?_
        show Steps p.tables e below (T12.setTop (mkF m 342 #[.val (.int p1), .val (.int p2), .val (.int p3), .val (.ref b2), .val (.ref b6), .val (.ref b10), .val (.int (Int32.ofNat kk)), .val (.ref (ak kk)), .val (.int (own_lo kk)), .val (.int (own_hi kk)), .val (.int (if (p2 &&& (2 : Int32)) = (0 : Int32) then (own_lo kk) else (own_hi kk))), .val (.int (if (p2 &&& (1 : Int32)) = (0 : Int32) then p3 else ((if (p2 &&& (2 : Int32)) = (0 : Int32) then (own_lo kk) else (own_hi kk)) + ((p3 &&& (7 : Int32)) - (4 : Int32))))), .val (.int sv), .val (.int sv), .unset] [(.int (own_hi kk)), (.int sv)])) _
        refine XS.icmpYes X12.here hx rfl (pc0 := 342) (pc' := 349) rfl (hb hby at_342) rfl (tlt hd342).2.2.1 (by decide) (by decide) ?_
        show Steps p.tables e below (T12.setTop (mkF m 349 #[.val (.int p1), .val (.int p2), .val (.int p3), .val (.ref b2), .val (.ref b6), .val (.ref b10), .val (.int (Int32.ofNat kk)), .val (.ref (ak kk)), .val (.int (own_lo kk)), .val (.int (own_hi kk)), .val (.int (if (p2 &&& (2 : Int32)) = (0 : Int32) then (own_lo kk) else (own_hi kk))), .val (.int (if (p2 &&& (1 : Int32)) = (0 : Int32) then p3 else ((if (p2 &&& (2 : Int32)) = (0 : Int32) then (own_lo kk) else (own_hi kk)) + ((p3 &&& (7 : Int32)) - (4 : Int32))))), .val (.int sv), .val (.int sv), .unset] [])) _
        refine XS.iconst X12.here hx rfl (hb hby at_349) ?_
        exact kt
      · simp only [if_neg hd335, if_neg hd342] at kt
        show Steps p.tables e below (T12.setTop (mkF m 335 #[.val (.int p1), .val (.int p2), .val (.int p3), .val (.ref b2), .val (.ref b6), .val (.ref b10), .val (.int (Int32.ofNat kk)), .val (.ref (ak kk)), .val (.int (own_lo kk)), .val (.int (own_hi kk)), .val (.int (if (p2 &&& (2 : Int32)) = (0 : Int32) then (own_lo kk) else (own_hi kk))), .val (.int (if (p2 &&& (1 : Int32)) = (0 : Int32) then p3 else ((if (p2 &&& (2 : Int32)) = (0 : Int32) then (own_lo kk) else (own_hi kk)) + ((p3 &&& (7 : Int32)) - (4 : Int32))))), .val (.int sv), .val (.int sv), .unset] [(.int (own_lo kk)), (.int sv)])) _
        refine XS.icmpNo X12.here hx rfl (hb hby at_335) rfl (flt hd335).1 ?_
        show Steps p.tables e below (T12.setTop (mkF m 338 #[.val (.int p1), .val (.int p2), .val (.int p3), .val (.ref b2), .val (.ref b6), .val (.ref b10), .val (.int (Int32.ofNat kk)), .val (.ref (ak kk)), .val (.int (own_lo kk)), .val (.int (own_hi kk)), .val (.int (if (p2 &&& (2 : Int32)) = (0 : Int32) then (own_lo kk) else (own_hi kk))), .val (.int (if (p2 &&& (1 : Int32)) = (0 : Int32) then p3 else ((if (p2 &&& (2 : Int32)) = (0 : Int32) then (own_lo kk) else (own_hi kk)) + ((p3 &&& (7 : Int32)) - (4 : Int32))))), .val (.int sv), .val (.int sv), .unset] [])) _
        refine XS.iload X12.here hx rfl (hb hby at_338) rfl ?_
        show Steps p.tables e below (T12.setTop (mkF m 340 #[.val (.int p1), .val (.int p2), .val (.int p3), .val (.ref b2), .val (.ref b6), .val (.ref b10), .val (.int (Int32.ofNat kk)), .val (.ref (ak kk)), .val (.int (own_lo kk)), .val (.int (own_hi kk)), .val (.int (if (p2 &&& (2 : Int32)) = (0 : Int32) then (own_lo kk) else (own_hi kk))), .val (.int (if (p2 &&& (1 : Int32)) = (0 : Int32) then p3 else ((if (p2 &&& (2 : Int32)) = (0 : Int32) then (own_lo kk) else (own_hi kk)) + ((p3 &&& (7 : Int32)) - (4 : Int32))))), .val (.int sv), .val (.int sv), .unset] [(.int sv)])) _
        refine XS.iload X12.here hx rfl (hb hby at_340) rfl ?_
        show Steps p.tables e below (T12.setTop (mkF m 342 #[.val (.int p1), .val (.int p2), .val (.int p3), .val (.ref b2), .val (.ref b6), .val (.ref b10), .val (.int (Int32.ofNat kk)), .val (.ref (ak kk)), .val (.int (own_lo kk)), .val (.int (own_hi kk)), .val (.int (if (p2 &&& (2 : Int32)) = (0 : Int32) then (own_lo kk) else (own_hi kk))), .val (.int (if (p2 &&& (1 : Int32)) = (0 : Int32) then p3 else ((if (p2 &&& (2 : Int32)) = (0 : Int32) then (own_lo kk) else (own_hi kk)) + ((p3 &&& (7 : Int32)) - (4 : Int32))))), .val (.int sv), .val (.int sv), .unset] [(.int (own_hi kk)), (.int sv)])) _
        refine XS.icmpNo X12.here hx rfl (hb hby at_342) rfl (flt hd342).2.2.1 ?_
        show Steps p.tables e below (T12.setTop (mkF m 345 #[.val (.int p1), .val (.int p2), .val (.int p3), .val (.ref b2), .val (.ref b6), .val (.ref b10), .val (.int (Int32.ofNat kk)), .val (.ref (ak kk)), .val (.int (own_lo kk)), .val (.int (own_hi kk)), .val (.int (if (p2 &&& (2 : Int32)) = (0 : Int32) then (own_lo kk) else (own_hi kk))), .val (.int (if (p2 &&& (1 : Int32)) = (0 : Int32) then p3 else ((if (p2 &&& (2 : Int32)) = (0 : Int32) then (own_lo kk) else (own_hi kk)) + ((p3 &&& (7 : Int32)) - (4 : Int32))))), .val (.int sv), .val (.int sv), .unset] [])) _
        refine XS.iconst X12.here hx rfl (hb hby at_345) ?_
        show Steps p.tables e below (T12.setTop (mkF m 346 #[.val (.int p1), .val (.int p2), .val (.int p3), .val (.ref b2), .val (.ref b6), .val (.ref b10), .val (.int (Int32.ofNat kk)), .val (.ref (ak kk)), .val (.int (own_lo kk)), .val (.int (own_hi kk)), .val (.int (if (p2 &&& (2 : Int32)) = (0 : Int32) then (own_lo kk) else (own_hi kk))), .val (.int (if (p2 &&& (1 : Int32)) = (0 : Int32) then p3 else ((if (p2 &&& (2 : Int32)) = (0 : Int32) then (own_lo kk) else (own_hi kk)) + ((p3 &&& (7 : Int32)) - (4 : Int32))))), .val (.int sv), .val (.int sv), .unset] [(.int (1 : Int32))])) _
        refine XS.goto X12.here hx rfl (pc0 := 346) (pc' := 350) rfl (hb hby at_346) (by decide) (by decide) ?_
        exact kt
  have Eo := (EK kk bkk).keep Kp12
  have pre22 : ∀ t, Steps p.tables e below (T12.setTop (mkF m 356 #[.val (.int p1), .val (.int p2), .val (.int p3), .val (.ref b2), .val (.ref b6), .val (.ref b10), .val (.int (Int32.ofNat kk)), .val (.ref (ak kk)), .val (.int (own_lo kk)), .val (.int (own_hi kk)), .val (.int (if (p2 &&& (2 : Int32)) = (0 : Int32) then (own_lo kk) else (own_hi kk))), .val (.int (if (p2 &&& (1 : Int32)) = (0 : Int32) then p3 else ((if (p2 &&& (2 : Int32)) = (0 : Int32) then (own_lo kk) else (own_hi kk)) + ((p3 &&& (7 : Int32)) - (4 : Int32))))), .val (.int sv), .val (.int sv), .val (.int (if sv < (own_lo kk) then (0 : Int32) else (if (own_hi kk) < sv then (0 : Int32) else (1 : Int32))))] [(.int sv), (.ref (ak kk))])) t → Steps p.tables e below _ t := fun t kt => pre21 t (by
    show Steps p.tables e below (T12.setTop (mkF m 350 #[.val (.int p1), .val (.int p2), .val (.int p3), .val (.ref b2), .val (.ref b6), .val (.ref b10), .val (.int (Int32.ofNat kk)), .val (.ref (ak kk)), .val (.int (own_lo kk)), .val (.int (own_hi kk)), .val (.int (if (p2 &&& (2 : Int32)) = (0 : Int32) then (own_lo kk) else (own_hi kk))), .val (.int (if (p2 &&& (1 : Int32)) = (0 : Int32) then p3 else ((if (p2 &&& (2 : Int32)) = (0 : Int32) then (own_lo kk) else (own_hi kk)) + ((p3 &&& (7 : Int32)) - (4 : Int32))))), .val (.int sv), .val (.int sv), .unset] [(.int (if sv < (own_lo kk) then (0 : Int32) else (if (own_hi kk) < sv then (0 : Int32) else (1 : Int32))))])) _
    refine XS.istore X12.here hx rfl (hb hby at_350) rfl (l' := #[.val (.int p1), .val (.int p2), .val (.int p3), .val (.ref b2), .val (.ref b6), .val (.ref b10), .val (.int (Int32.ofNat kk)), .val (.ref (ak kk)), .val (.int (own_lo kk)), .val (.int (own_hi kk)), .val (.int (if (p2 &&& (2 : Int32)) = (0 : Int32) then (own_lo kk) else (own_hi kk))), .val (.int (if (p2 &&& (1 : Int32)) = (0 : Int32) then p3 else ((if (p2 &&& (2 : Int32)) = (0 : Int32) then (own_lo kk) else (own_hi kk)) + ((p3 &&& (7 : Int32)) - (4 : Int32))))), .val (.int sv), .val (.int sv), .val (.int (if sv < (own_lo kk) then (0 : Int32) else (if (own_hi kk) < sv then (0 : Int32) else (1 : Int32))))]) rfl ?_
    show Steps p.tables e below (T12.setTop (mkF m 352 #[.val (.int p1), .val (.int p2), .val (.int p3), .val (.ref b2), .val (.ref b6), .val (.ref b10), .val (.int (Int32.ofNat kk)), .val (.ref (ak kk)), .val (.int (own_lo kk)), .val (.int (own_hi kk)), .val (.int (if (p2 &&& (2 : Int32)) = (0 : Int32) then (own_lo kk) else (own_hi kk))), .val (.int (if (p2 &&& (1 : Int32)) = (0 : Int32) then p3 else ((if (p2 &&& (2 : Int32)) = (0 : Int32) then (own_lo kk) else (own_hi kk)) + ((p3 &&& (7 : Int32)) - (4 : Int32))))), .val (.int sv), .val (.int sv), .val (.int (if sv < (own_lo kk) then (0 : Int32) else (if (own_hi kk) < sv then (0 : Int32) else (1 : Int32))))] [])) _
    refine XS.aload X12.here hx rfl (hb hby at_352) rfl rfl ?_
    show Steps p.tables e below (T12.setTop (mkF m 354 #[.val (.int p1), .val (.int p2), .val (.int p3), .val (.ref b2), .val (.ref b6), .val (.ref b10), .val (.int (Int32.ofNat kk)), .val (.ref (ak kk)), .val (.int (own_lo kk)), .val (.int (own_hi kk)), .val (.int (if (p2 &&& (2 : Int32)) = (0 : Int32) then (own_lo kk) else (own_hi kk))), .val (.int (if (p2 &&& (1 : Int32)) = (0 : Int32) then p3 else ((if (p2 &&& (2 : Int32)) = (0 : Int32) then (own_lo kk) else (own_hi kk)) + ((p3 &&& (7 : Int32)) - (4 : Int32))))), .val (.int sv), .val (.int sv), .val (.int (if sv < (own_lo kk) then (0 : Int32) else (if (own_hi kk) < sv then (0 : Int32) else (1 : Int32))))] [(.ref (ak kk))])) _
    refine XS.iload X12.here hx rfl (hb hby at_354) rfl ?_
    exact kt)
  obtain ⟨cq23, kq23, q23a, q23b, q23c⟩ := isOf hZ e12 Eo
  obtain ⟨_, _, ⟨T23, L23, k23, n23⟩, -, X23, ⟨Lc23, hQ23, l23, y23, z23⟩, st23⟩ := X12.virtualBack hx (y := (⟨"com/example/ledgerstream/ledgerstream/io/ApiKey", "supports", "(S)Z"⟩ : MethodName)) (z := (⟨"com/example/ledgerstream/ledgerstream/io/ApiKey", "supports", "(S)Z"⟩ : MethodName)) hown (mvT hZ (hw _ (List.mem_of_getElem? (i := 36) rfl))) (mvT hZ (hw _ (List.mem_of_getElem? (i := 37) rfl))) (notFace_of_selects (args := #[]) (mvT hZ (hw _ (List.mem_of_getElem? (i := 39) rfl)))) (mvT hZ (hw _ (List.mem_of_getElem? (i := 39) rfl))) (mvT hZ (hw _ (List.mem_of_getElem? (i := 38) rfl))) (by decide) (backOf (W := 0) (rm1 l Z a0 hw [] (ak kk) sv (own_lo kk) (own_hi kk) h12 n0 Z12 ((FM kk bkk).keep Kp12 nin0) ((FX kk bkk).keep Kp12 nin0)) hZ (hw _ (List.mem_of_getElem? (i := 40) rfl)) (hw _ (List.mem_of_getElem? (i := 3) rfl)) (by decide) (by decide)) q23a q23c (g := (mkF m 356 #[.val (.int p1), .val (.int p2), .val (.int p3), .val (.ref b2), .val (.ref b6), .val (.ref b10), .val (.int (Int32.ofNat kk)), .val (.ref (ak kk)), .val (.int (own_lo kk)), .val (.int (own_hi kk)), .val (.int (if (p2 &&& (2 : Int32)) = (0 : Int32) then (own_lo kk) else (own_hi kk))), .val (.int (if (p2 &&& (1 : Int32)) = (0 : Int32) then p3 else ((if (p2 &&& (2 : Int32)) = (0 : Int32) then (own_lo kk) else (own_hi kk)) + ((p3 &&& (7 : Int32)) - (4 : Int32))))), .val (.int sv), .val (.int sv), .val (.int (if sv < (own_lo kk) then (0 : Int32) else (if (own_hi kk) < sv then (0 : Int32) else (1 : Int32))))] [(.int sv), (.ref (ak kk))])) rfl (by rw [hml]; rfl) (Steps.refl _) (argsL := [(.int sv)]) (rest := []) (lenOf pd_0 rfl) rfl (by show 2 * 0 + _ ≤ _; exact Nat.le_of_eq rfl) (hb hby at_356) (fun _ _ => ⟨rfl, e12, (by decide : 3 + 0 ≤ _), (by decide : 45 + 0 ≤ _)⟩)
  dsimp only [Pt.U, Pt.locs, Pt.cells, Pt.slots] at X23 l23 y23 z23 st23 hQ23
  subst l23 y23 z23
  obtain ⟨rfl, N23q, e23⟩ := hQ23
  have N23 := Fr.app N12 N23q
  obtain ⟨fs, hr, hrun, hended, hW, hsame⟩ := X23.leave (v := some (.int (1 : Int32))) (fun h => by rw [Bd.returns] at h; cases h)
  refine ⟨_, _, pre22 _ ?_, hrun, hended, _, _, rfl, ?_, ⟨_, rfl⟩, hW, hsame.mono (by decide) (by decide)⟩
  · show Steps p.tables e below (T12.setTop (mkF m 356 #[.val (.int p1), .val (.int p2), .val (.int p3), .val (.ref b2), .val (.ref b6), .val (.ref b10), .val (.int (Int32.ofNat kk)), .val (.ref (ak kk)), .val (.int (own_lo kk)), .val (.int (own_hi kk)), .val (.int (if (p2 &&& (2 : Int32)) = (0 : Int32) then (own_lo kk) else (own_hi kk))), .val (.int (if (p2 &&& (1 : Int32)) = (0 : Int32) then p3 else ((if (p2 &&& (2 : Int32)) = (0 : Int32) then (own_lo kk) else (own_hi kk)) + ((p3 &&& (7 : Int32)) - (4 : Int32))))), .val (.int sv), .val (.int sv), .val (.int (if sv < (own_lo kk) then (0 : Int32) else (if (own_hi kk) < sv then (0 : Int32) else (1 : Int32))))] [(.int sv), (.ref (ak kk))])) _
    refine st23.trans ?_
    show Steps p.tables e below (T23.setTop (mkF m 359 #[.val (.int p1), .val (.int p2), .val (.int p3), .val (.ref b2), .val (.ref b6), .val (.ref b10), .val (.int (Int32.ofNat kk)), .val (.ref (ak kk)), .val (.int (own_lo kk)), .val (.int (own_hi kk)), .val (.int (if (p2 &&& (2 : Int32)) = (0 : Int32) then (own_lo kk) else (own_hi kk))), .val (.int (if (p2 &&& (1 : Int32)) = (0 : Int32) then p3 else ((if (p2 &&& (2 : Int32)) = (0 : Int32) then (own_lo kk) else (own_hi kk)) + ((p3 &&& (7 : Int32)) - (4 : Int32))))), .val (.int sv), .val (.int sv), .val (.int (if sv < (own_lo kk) then (0 : Int32) else (if (own_hi kk) < sv then (0 : Int32) else (1 : Int32))))] [(.int (own_sup (ak kk) sv (own_lo kk) (own_hi kk)))])) _
    refine XS.iload X23.here hx rfl (hb hby at_359) rfl ?_
    have hc361 : (own_sup (ak kk) sv (own_lo kk) (own_hi kk)) = (if sv < (own_lo kk) then (0 : Int32) else (if (own_hi kk) < sv then (0 : Int32) else (1 : Int32))) := rfl
    show Steps p.tables e below (T23.setTop (mkF m 361 #[.val (.int p1), .val (.int p2), .val (.int p3), .val (.ref b2), .val (.ref b6), .val (.ref b10), .val (.int (Int32.ofNat kk)), .val (.ref (ak kk)), .val (.int (own_lo kk)), .val (.int (own_hi kk)), .val (.int (if (p2 &&& (2 : Int32)) = (0 : Int32) then (own_lo kk) else (own_hi kk))), .val (.int (if (p2 &&& (1 : Int32)) = (0 : Int32) then p3 else ((if (p2 &&& (2 : Int32)) = (0 : Int32) then (own_lo kk) else (own_hi kk)) + ((p3 &&& (7 : Int32)) - (4 : Int32))))), .val (.int sv), .val (.int sv), .val (.int (if sv < (own_lo kk) then (0 : Int32) else (if (own_hi kk) < sv then (0 : Int32) else (1 : Int32))))] [(.int (if sv < (own_lo kk) then (0 : Int32) else (if (own_hi kk) < sv then (0 : Int32) else (1 : Int32)))), (.int (own_sup (ak kk) sv (own_lo kk) (own_hi kk)))])) _
    refine XS.icmpNo X23.here hx rfl (hb hby at_361) rfl (teq hc361).2 ?_
    show Steps p.tables e below (T23.setTop (mkF m 364 #[.val (.int p1), .val (.int p2), .val (.int p3), .val (.ref b2), .val (.ref b6), .val (.ref b10), .val (.int (Int32.ofNat kk)), .val (.ref (ak kk)), .val (.int (own_lo kk)), .val (.int (own_hi kk)), .val (.int (if (p2 &&& (2 : Int32)) = (0 : Int32) then (own_lo kk) else (own_hi kk))), .val (.int (if (p2 &&& (1 : Int32)) = (0 : Int32) then p3 else ((if (p2 &&& (2 : Int32)) = (0 : Int32) then (own_lo kk) else (own_hi kk)) + ((p3 &&& (7 : Int32)) - (4 : Int32))))), .val (.int sv), .val (.int sv), .val (.int (if sv < (own_lo kk) then (0 : Int32) else (if (own_hi kk) < sv then (0 : Int32) else (1 : Int32))))] [])) _
    refine XS.iconst X23.here hx rfl (hb hby at_364) ?_
    show Steps p.tables e below (T23.setTop (mkF m 365 #[.val (.int p1), .val (.int p2), .val (.int p3), .val (.ref b2), .val (.ref b6), .val (.ref b10), .val (.int (Int32.ofNat kk)), .val (.ref (ak kk)), .val (.int (own_lo kk)), .val (.int (own_hi kk)), .val (.int (if (p2 &&& (2 : Int32)) = (0 : Int32) then (own_lo kk) else (own_hi kk))), .val (.int (if (p2 &&& (1 : Int32)) = (0 : Int32) then p3 else ((if (p2 &&& (2 : Int32)) = (0 : Int32) then (own_lo kk) else (own_hi kk)) + ((p3 &&& (7 : Int32)) - (4 : Int32))))), .val (.int sv), .val (.int sv), .val (.int (if sv < (own_lo kk) then (0 : Int32) else (if (own_hi kk) < sv then (0 : Int32) else (1 : Int32))))] [(.int (1 : Int32))])) _
    refine XS.goto X23.here hx rfl (pc0 := 365) (pc' := 369) rfl (hb hby at_365) (by decide) (by decide) ?_
    show Steps p.tables e below (T23.setTop (mkF m 369 #[.val (.int p1), .val (.int p2), .val (.int p3), .val (.ref b2), .val (.ref b6), .val (.ref b10), .val (.int (Int32.ofNat kk)), .val (.ref (ak kk)), .val (.int (own_lo kk)), .val (.int (own_hi kk)), .val (.int (if (p2 &&& (2 : Int32)) = (0 : Int32) then (own_lo kk) else (own_hi kk))), .val (.int (if (p2 &&& (1 : Int32)) = (0 : Int32) then p3 else ((if (p2 &&& (2 : Int32)) = (0 : Int32) then (own_lo kk) else (own_hi kk)) + ((p3 &&& (7 : Int32)) - (4 : Int32))))), .val (.int sv), .val (.int sv), .val (.int (if sv < (own_lo kk) then (0 : Int32) else (if (own_hi kk) < sv then (0 : Int32) else (1 : Int32))))] [(.int (1 : Int32))])) _
    exact retN X23 hx (t := .boolean) Bd.returns (by simp) (hb hby at_369) hr
  · exact ⟨rfl, N23⟩
set_option maxRecDepth 65536 in
set_option maxHeartbeats 40000000 in
theorem comes_1 {Post : Tables → Env → Array Value → State → Outcome → State → Prop} (hpost : ∀ tb e args s v u, (limb_1_1.after args s (.returned v) u = true ∧ limb_1_2.after args s (.returned v) u = true ∧ True) → FrameEnd s (.returned v) u (Jvm.fieldLocs frame_1_writes args s ++ Jvm.arrayLocs frame_1_arrays args s ++ Jvm.staticLocs frame_1_statics s) 16 192 → Post tb e args s (.returned v) u) :
    ArmFor flags0 classFile x code maxLocals ret World_1 tables_1 room_1 Calls_1 rest_1 Pre_1 Post := by
  intro l hfl _ _ p e ha hc hk s m args below hf hA hF happ hP
  obtain ⟨hcalls, hrest, hpre⟩ := hP
  obtain ⟨-, -, -, hnamed, -, -, -, hat⟩ := (Spec.applies_iff hf).mp happ
  obtain ⟨hg, hn⟩ := and_e (Cond.before_iff.mp (show (Jvm.Cond.and given_1 narrow_1).before args s = true from hpre))
  obtain ⟨gc, gr0⟩ := and_e hg
  obtain ⟨ga0, gr1⟩ := and_e gr0
  obtain ⟨ga1, gr2⟩ := and_e gr1
  obtain ⟨w0, w1, w2, rfl⟩ : ∃ w0 w1 w2 : Value, args = #[w0, w1, w2] := by
    have hs : args.size = 3 := by simpa [Cond.value, given_1] using gc
    obtain ⟨L⟩ := args
    match L, hs with
    | [w0, w1, w2], _ => exact ⟨w0, w1, w2, rfl⟩
  have hw := fun d (hd : d ∈ tables_1) => atoms_spec (ws := Jvm.Cond.code x code maxLocals ret :: tables_1) hat d (List.mem_cons_of_mem _ hd)
  have hfit : Fit s := fun {y c} hc i hi => by
    obtain ⟨ha, rfl⟩ := Array.getElem?_eq_some_iff.mp hc
    have q := List.all_eq_true.mp ((Array.all_eq_true_iff_forall_mem.mp hF) _ (Array.getElem_mem ha)) i (List.mem_range.mpr hi)
    simpa [Array.getElem?_eq_getElem hi] using q
  obtain ⟨i0, ei0⟩ := is_v ga0
  obtain rfl : w0 = (.int i0) := Option.some.inj ei0
  obtain ⟨i1, ei1⟩ := is_v ga1
  obtain rfl : w1 = (.int i1) := Option.some.inj ei1
  obtain ⟨i2, ei2⟩ := is_v gr2
  obtain rfl : w2 = (.int i2) := Option.some.inj ei2
  obtain ⟨nl1, nr1⟩ := and_e hn
  obtain ⟨nl2, nr2⟩ := and_e nr1
  obtain ⟨nl3, nr3⟩ := and_e nr2
  obtain ⟨nl4, nr4⟩ := and_e nr3
  obtain ⟨nl5, nr5⟩ := and_e nr4
  obtain ⟨nl6, nr6⟩ := and_e nr5
  obtain ⟨nl7, nr7⟩ := and_e nr6
  obtain ⟨nl8, nr8⟩ := and_e nr7
  obtain ⟨nl9, nr9⟩ := and_e nr8
  obtain ⟨nl10, nr10⟩ := and_e nr9
  obtain ⟨nl11, nr11⟩ := and_e nr10
  obtain ⟨nl12, nr12⟩ := and_e nr11
  obtain ⟨nl13, nr13⟩ := and_e nr12
  obtain ⟨nl14, nr14⟩ := and_e nr13
  obtain ⟨nl15, nr15⟩ := and_e nr14
  obtain ⟨nl16, nr16⟩ := and_e nr15
  obtain ⟨nl17, nr17⟩ := and_e nr16
  obtain ⟨nl18, nr18⟩ := and_e nr17
  obtain ⟨nl19, nr19⟩ := and_e nr18
  obtain ⟨nl20, nr20⟩ := and_e nr19
  obtain ⟨nl21, nr21⟩ := and_e nr20
  obtain ⟨nl22, nr22⟩ := and_e nr21
  obtain ⟨nl23, nr23⟩ := and_e nr22
  obtain ⟨nl24, nr24⟩ := and_e nr23
  obtain ⟨nl25, nr25⟩ := and_e nr24
  obtain ⟨nl26, nr26⟩ := and_e nr25
  obtain ⟨nl27, nr27⟩ := and_e nr26
  obtain ⟨nl28, nr28⟩ := and_e nr27
  obtain ⟨nl29, nr29⟩ := and_e nr28
  obtain ⟨nl30, nr30⟩ := and_e nr29
  obtain ⟨nl31, nr31⟩ := and_e nr30
  obtain ⟨nl32, nr32⟩ := and_e nr31
  obtain ⟨nl33, nr33⟩ := and_e nr32
  obtain ⟨nl34, nr34⟩ := and_e nr33
  obtain ⟨nl35, nr35⟩ := and_e nr34
  obtain ⟨nl36, nr36⟩ := and_e nr35
  obtain ⟨nl37, nr37⟩ := and_e nr36
  obtain ⟨nl38, nr38⟩ := and_e nr37
  obtain ⟨nl39, nr39⟩ := and_e nr38
  obtain ⟨nl40, nr40⟩ := and_e nr39
  obtain ⟨nl41, nr41⟩ := and_e nr40
  obtain ⟨nl42, nr42⟩ := and_e nr41
  obtain ⟨nl43, nr43⟩ := and_e nr42
  obtain ⟨nl44, nr44⟩ := and_e nr43
  obtain ⟨a_0, e_0⟩ := own_static nl1
  obtain ⟨a_1, e_1⟩ := own_static nl2
  obtain ⟨a_2, e_2⟩ := own_static nl3
  obtain ⟨a_3, e_3⟩ := own_static nl4
  obtain ⟨a_4, e_4⟩ := own_static nl5
  obtain ⟨a_5, e_5⟩ := own_static nl6
  obtain ⟨a_6, e_6⟩ := own_static nl7
  obtain ⟨a_7, e_7⟩ := own_static nl8
  obtain ⟨a_8, e_8⟩ := own_static nl9
  obtain ⟨a_9, e_9⟩ := own_static nl10
  obtain ⟨a_10, e_10⟩ := own_static nl11
  obtain ⟨a_11, e_11⟩ := own_static nl12
  obtain ⟨a_12, e_12⟩ := own_static nl13
  obtain ⟨a_13, e_13⟩ := own_static nl14
  obtain ⟨a_14, e_14⟩ := own_static nl15
  obtain ⟨ak, hak⟩ : ∃ g : Nat → Addr, g = (fun i => match i with | 0 => a_0 | 1 => a_1 | 2 => a_2 | 3 => a_3 | 4 => a_4 | 5 => a_5 | 6 => a_6 | 7 => a_7 | 8 => a_8 | 9 => a_9 | 10 => a_10 | 11 => a_11 | 12 => a_12 | 13 => a_13 | 14 => a_14 | _ => a_0) := ⟨_, rfl⟩
  have S0 : Sta s s.heap "com/example/ledgerstream/ledgerstream/io/ApiKey" "PRODUCE" "Lcom/example/ledgerstream/ledgerstream/io/ApiKey;" (.ref (ak 0)) := by rw [hak]; exact Sta.start e_0 (Or.inr ⟨(hw _ (List.mem_of_getElem? (i := 3) rfl)), (hw _ (List.mem_of_getElem? (i := 4) rfl))⟩)
  have S1 : Sta s s.heap "com/example/ledgerstream/ledgerstream/io/ApiKey" "FETCH" "Lcom/example/ledgerstream/ledgerstream/io/ApiKey;" (.ref (ak 1)) := by rw [hak]; exact Sta.start e_1 (Or.inr ⟨(hw _ (List.mem_of_getElem? (i := 3) rfl)), (hw _ (List.mem_of_getElem? (i := 7) rfl))⟩)
  have S2 : Sta s s.heap "com/example/ledgerstream/ledgerstream/io/ApiKey" "LIST_OFFSETS" "Lcom/example/ledgerstream/ledgerstream/io/ApiKey;" (.ref (ak 2)) := by rw [hak]; exact Sta.start e_2 (Or.inr ⟨(hw _ (List.mem_of_getElem? (i := 3) rfl)), (hw _ (List.mem_of_getElem? (i := 9) rfl))⟩)
  have S3 : Sta s s.heap "com/example/ledgerstream/ledgerstream/io/ApiKey" "METADATA" "Lcom/example/ledgerstream/ledgerstream/io/ApiKey;" (.ref (ak 3)) := by rw [hak]; exact Sta.start e_3 (Or.inr ⟨(hw _ (List.mem_of_getElem? (i := 3) rfl)), (hw _ (List.mem_of_getElem? (i := 11) rfl))⟩)
  have S4 : Sta s s.heap "com/example/ledgerstream/ledgerstream/io/ApiKey" "OFFSET_COMMIT" "Lcom/example/ledgerstream/ledgerstream/io/ApiKey;" (.ref (ak 4)) := by rw [hak]; exact Sta.start e_4 (Or.inr ⟨(hw _ (List.mem_of_getElem? (i := 3) rfl)), (hw _ (List.mem_of_getElem? (i := 13) rfl))⟩)
  have S5 : Sta s s.heap "com/example/ledgerstream/ledgerstream/io/ApiKey" "OFFSET_FETCH" "Lcom/example/ledgerstream/ledgerstream/io/ApiKey;" (.ref (ak 5)) := by rw [hak]; exact Sta.start e_5 (Or.inr ⟨(hw _ (List.mem_of_getElem? (i := 3) rfl)), (hw _ (List.mem_of_getElem? (i := 15) rfl))⟩)
  have S6 : Sta s s.heap "com/example/ledgerstream/ledgerstream/io/ApiKey" "FIND_COORDINATOR" "Lcom/example/ledgerstream/ledgerstream/io/ApiKey;" (.ref (ak 6)) := by rw [hak]; exact Sta.start e_6 (Or.inr ⟨(hw _ (List.mem_of_getElem? (i := 3) rfl)), (hw _ (List.mem_of_getElem? (i := 17) rfl))⟩)
  have S7 : Sta s s.heap "com/example/ledgerstream/ledgerstream/io/ApiKey" "JOIN_GROUP" "Lcom/example/ledgerstream/ledgerstream/io/ApiKey;" (.ref (ak 7)) := by rw [hak]; exact Sta.start e_7 (Or.inr ⟨(hw _ (List.mem_of_getElem? (i := 3) rfl)), (hw _ (List.mem_of_getElem? (i := 19) rfl))⟩)
  have S8 : Sta s s.heap "com/example/ledgerstream/ledgerstream/io/ApiKey" "HEARTBEAT" "Lcom/example/ledgerstream/ledgerstream/io/ApiKey;" (.ref (ak 8)) := by rw [hak]; exact Sta.start e_8 (Or.inr ⟨(hw _ (List.mem_of_getElem? (i := 3) rfl)), (hw _ (List.mem_of_getElem? (i := 21) rfl))⟩)
  have S9 : Sta s s.heap "com/example/ledgerstream/ledgerstream/io/ApiKey" "LEAVE_GROUP" "Lcom/example/ledgerstream/ledgerstream/io/ApiKey;" (.ref (ak 9)) := by rw [hak]; exact Sta.start e_9 (Or.inr ⟨(hw _ (List.mem_of_getElem? (i := 3) rfl)), (hw _ (List.mem_of_getElem? (i := 23) rfl))⟩)
  have S10 : Sta s s.heap "com/example/ledgerstream/ledgerstream/io/ApiKey" "SYNC_GROUP" "Lcom/example/ledgerstream/ledgerstream/io/ApiKey;" (.ref (ak 10)) := by rw [hak]; exact Sta.start e_10 (Or.inr ⟨(hw _ (List.mem_of_getElem? (i := 3) rfl)), (hw _ (List.mem_of_getElem? (i := 25) rfl))⟩)
  have S11 : Sta s s.heap "com/example/ledgerstream/ledgerstream/io/ApiKey" "DESCRIBE_GROUPS" "Lcom/example/ledgerstream/ledgerstream/io/ApiKey;" (.ref (ak 11)) := by rw [hak]; exact Sta.start e_11 (Or.inr ⟨(hw _ (List.mem_of_getElem? (i := 3) rfl)), (hw _ (List.mem_of_getElem? (i := 27) rfl))⟩)
  have S12 : Sta s s.heap "com/example/ledgerstream/ledgerstream/io/ApiKey" "LIST_GROUPS" "Lcom/example/ledgerstream/ledgerstream/io/ApiKey;" (.ref (ak 12)) := by rw [hak]; exact Sta.start e_12 (Or.inr ⟨(hw _ (List.mem_of_getElem? (i := 3) rfl)), (hw _ (List.mem_of_getElem? (i := 29) rfl))⟩)
  have S13 : Sta s s.heap "com/example/ledgerstream/ledgerstream/io/ApiKey" "API_VERSIONS" "Lcom/example/ledgerstream/ledgerstream/io/ApiKey;" (.ref (ak 13)) := by rw [hak]; exact Sta.start e_13 (Or.inr ⟨(hw _ (List.mem_of_getElem? (i := 3) rfl)), (hw _ (List.mem_of_getElem? (i := 31) rfl))⟩)
  have S14 : Sta s s.heap "com/example/ledgerstream/ledgerstream/io/ApiKey" "CREATE_TOPICS" "Lcom/example/ledgerstream/ledgerstream/io/ApiKey;" (.ref (ak 14)) := by rw [hak]; exact Sta.start e_14 (Or.inr ⟨(hw _ (List.mem_of_getElem? (i := 3) rfl)), (hw _ (List.mem_of_getElem? (i := 33) rfl))⟩)
  have EK : ∀ i, i < 15 → Exa s s.heap (ak i) "com/example/ledgerstream/ledgerstream/io/ApiKey" := by
    intro i hi
    have hi' : i = 0 ∨ i = 1 ∨ i = 2 ∨ i = 3 ∨ i = 4 ∨ i = 5 ∨ i = 6 ∨ i = 7 ∨ i = 8 ∨ i = 9 ∨ i = 10 ∨ i = 11 ∨ i = 12 ∨ i = 13 ∨ i = 14 := by omega
    rw [hak]
    rcases hi' with rfl | rfl | rfl | rfl | rfl | rfl | rfl | rfl | rfl | rfl | rfl | rfl | rfl | rfl | rfl
    · exact Exa.start e_0 nl1
    · exact Exa.start e_1 nl2
    · exact Exa.start e_2 nl3
    · exact Exa.start e_3 nl4
    · exact Exa.start e_4 nl5
    · exact Exa.start e_5 nl6
    · exact Exa.start e_6 nl7
    · exact Exa.start e_7 nl8
    · exact Exa.start e_8 nl9
    · exact Exa.start e_9 nl10
    · exact Exa.start e_10 nl11
    · exact Exa.start e_11 nl12
    · exact Exa.start e_12 nl13
    · exact Exa.start e_13 nl14
    · exact Exa.start e_14 nl15
  have FM : ∀ i, i < 15 → Fld s s.heap (ak i) "com/example/ledgerstream/ledgerstream/io/ApiKey" "minVersion" "S" (.int (own_lo i)) := by
    intro i hi
    have hi' : i = 0 ∨ i = 1 ∨ i = 2 ∨ i = 3 ∨ i = 4 ∨ i = 5 ∨ i = 6 ∨ i = 7 ∨ i = 8 ∨ i = 9 ∨ i = 10 ∨ i = 11 ∨ i = 12 ∨ i = 13 ∨ i = 14 := by omega
    rw [hak]
    rcases hi' with rfl | rfl | rfl | rfl | rfl | rfl | rfl | rfl | rfl | rfl | rfl | rfl | rfl | rfl | rfl
    · exact own_fld e_0 nl16
    · exact own_fld e_1 nl18
    · exact own_fld e_2 nl32
    · exact own_fld e_3 nl28
    · exact own_fld e_4 nl34
    · exact own_fld e_5 nl21
    · exact own_fld e_6 nl38
    · exact own_fld e_7 nl37
    · exact own_fld e_8 nl23
    · exact own_fld e_9 nl24
    · exact own_fld e_10 nl27
    · exact own_fld e_11 nl31
    · exact own_fld e_12 nl43
    · exact own_fld e_13 nl40
    · exact own_fld e_14 nl19
  have FX : ∀ i, i < 15 → Fld s s.heap (ak i) "com/example/ledgerstream/ledgerstream/io/ApiKey" "maxVersion" "S" (.int (own_hi i)) := by
    intro i hi
    have hi' : i = 0 ∨ i = 1 ∨ i = 2 ∨ i = 3 ∨ i = 4 ∨ i = 5 ∨ i = 6 ∨ i = 7 ∨ i = 8 ∨ i = 9 ∨ i = 10 ∨ i = 11 ∨ i = 12 ∨ i = 13 ∨ i = 14 := by omega
    rw [hak]
    rcases hi' with rfl | rfl | rfl | rfl | rfl | rfl | rfl | rfl | rfl | rfl | rfl | rfl | rfl | rfl | rfl
    · exact own_fld e_0 nl17
    · exact own_fld e_1 nl30
    · exact own_fld e_2 nl33
    · exact own_fld e_3 nl42
    · exact own_fld e_4 nl35
    · exact own_fld e_5 nl22
    · exact own_fld e_6 nl39
    · exact own_fld e_7 nr44
    · exact own_fld e_8 nl26
    · exact own_fld e_9 nl25
    · exact own_fld e_10 nl29
    · exact own_fld e_11 nl36
    · exact own_fld e_12 nl44
    · exact own_fld e_13 nl41
    · exact own_fld e_14 nl20
  obtain ⟨n, o, h1, h2, h3, _, L, rfl, ⟨rfl, N⟩, hq⟩ := rm0 l s _ hw tables_1 i0 i1 i2 ak s.heap s.heap.size (Nat.le_refl _) S0 S1 S2 S3 S4 S5 S6 S7 S8 S9 S10 S11 S12 S13 S14 EK FM FX p e ha hc hk s m _ below hf ((Spec.applies_iff_loose hf).mp happ).1 ⟨rfl, State.Warmed39.refl s, rfl⟩ trivial
  refine ⟨n, _, h1, h2, h3, hpost _ _ _ _ _ _ ⟨Cond.after_iff.mpr rfl, Cond.after_iff.mpr (eq_i res_at (Term.int_eval (1)) rfl), trivial⟩ ⟨hq.1, hq.2.1, (hq.2.2.sift fun y hy => Or.inr (N y hy)).mono (by decide) (by decide)⟩⟩
theorem main_1_1 : Claimed_1_1 := comes_1 fun _ _ _ _ _ _ h hF => ⟨h.1, hF⟩
theorem main_1_2 : Claimed_1_2 := comes_1 fun _ _ _ _ _ _ h hF => ⟨h.2.1, hF⟩
end Jvm.Pilot.@@N@@
namespace Jvm.Pilot.@@N@@
open Jvm Jvm.ClassFile Sem Op Lib Jvm.Free Jvm.Stand Jvm.Pilot.@@N@@.Jvm.D
/-! MADE BY PROGRAM (witnessworld.py) out of the Statement's table words and the real class files: 13 classes; the members and pool entries that the words name. The judged class is class 1, her method 1. -/
namespace start1
open Jvm.ClassFile
def u (s : String) : CpInfo := .utf8 (stringToUtf16 s)
/-- a pool by its gaps: so many unusable entries, then the entry; so many at the end -/
def gap : Nat → List CpInfo → List CpInfo
  | 0, r => r
  | n + 1, r => .unusable :: gap n r
def poolList (es : List (Nat × CpInfo)) (last : Nat) : List CpInfo := es.foldr (fun e r => gap e.1 (e.2 :: r)) (gap last [])
def pool (es : List (Nat × CpInfo)) (last : Nat) : Array CpInfo := ⟨poolList es last⟩
def fileOf (pool : Array CpInfo) (this : Nat) (attrs : Array Attribute := #[]) (ms : Array MethodInfo := #[]) (fl : Nat := 33) (sup : Nat := 0) (ifs : Array Nat := #[]) (fds : Array FieldInfo := #[]) : ClassFile where
  minorVersion := 0
  majorVersion := 65
  constantPool := pool
  accessFlags := fl
  thisClass := this
  superClass := sup
  interfaces := ifs
  fields := fds
  methods := ms
  attributes := attrs
def plain (name : String) (sup : Option ClassId) : Class where
  name := name
  kind := .ordinary
  loader := none
  accessFlags := 33
  super := sup
  interfaces := #[]
  cf := none
  fields := #[]
  methods := #[]
  instanceTypes := #[]
  staticTypes := #[]
  resolved := #[]
  callSites := []
  init := .initialized
  statics := none
  mirror := none

def pool0 : Array CpInfo := pool [(5, u "<init>"), (0, u "()V"), (1, .class_ 10), (1, u "java/lang/Object")] 113

def k0m0 : Method := { name := "<init>", desc := "()V", sig := { parameters := [], returnType := none }, accessFlags := 1, code := none }
/-- java/lang/Object -/
def k0 : Class := { plain "java/lang/Object" none with
  accessFlags := 33
  interfaces := #[]
  cf := some (fileOf pool0 8 #[] #[{ accessFlags := 1, nameIndex := 5, descriptorIndex := 6, attributes := #[] }] 33 0 #[] #[])
  fields := #[]
  methods := #[k0m0]
  instanceTypes := #[]
  staticTypes := #[]
  resolved := Array.replicate 124 none
  statics := none }

def pool1 : Array CpInfo := pool [(2, .class_ 4), (1, u "java/lang/Object"), (0, u "<init>"), (0, u "()V"), (0, .class_ 8), (0, u "com/example/ledgerstream/ledgerstream/io/ApiKey"), (0, .fieldref 7 10), (0, .nameAndType 11 12), (0, u "PRODUCE"), (0, u "Lcom/example/ledgerstream/ledgerstream/io/ApiKey;"), (0, .fieldref 7 14), (0, .nameAndType 15 12), (0, u "FETCH"), (0, .fieldref 7 17), (0, .nameAndType 18 12), (0, u "LIST_OFFSETS"), (0, .fieldref 7 20), (0, .nameAndType 21 12), (0, u "METADATA"), (0, .fieldref 7 23), (0, .nameAndType 24 12), (0, u "OFFSET_COMMIT"), (0, .fieldref 7 26), (0, .nameAndType 27 12), (0, u "OFFSET_FETCH"), (0, .fieldref 7 29), (0, .nameAndType 30 12), (0, u "FIND_COORDINATOR"), (0, .fieldref 7 32), (0, .nameAndType 33 12), (0, u "JOIN_GROUP"), (0, .fieldref 7 35), (0, .nameAndType 36 12), (0, u "HEARTBEAT"), (0, .fieldref 7 38), (0, .nameAndType 39 12), (0, u "LEAVE_GROUP"), (0, .fieldref 7 41), (0, .nameAndType 42 12), (0, u "SYNC_GROUP"), (0, .fieldref 7 44), (0, .nameAndType 45 12), (0, u "DESCRIBE_GROUPS"), (0, .fieldref 7 47), (0, .nameAndType 48 12), (0, u "LIST_GROUPS"), (0, .fieldref 7 50), (0, .nameAndType 51 12), (0, u "API_VERSIONS"), (0, .fieldref 7 53), (0, .nameAndType 54 12), (0, u "CREATE_TOPICS"), (0, .integer 2147483647), (0, .methodref 7 57), (0, .nameAndType 58 59), (0, u "supports"), (0, u "(S)Z"), (0, .class_ 61), (0, u "com/example/ledgerstream/ledgerstream/io/ApiKeySupportsPinLaw"), (2, u "law"), (0, u "(III)Z")] 7

def k1m0 : Method := { name := "<init>", desc := "()V", sig := { parameters := [], returnType := none }, accessFlags := 1, code := none }
def k1c1 : Code := { maxStack := 4, maxLocals := 15, code := code, exceptionTable := #[], attributes := #[] }
def k1m1 : Method := { name := "law", desc := "(III)Z", sig := { parameters := [.int, .int, .int], returnType := some .boolean }, accessFlags := 9, code := some k1c1 }
/-- com/example/ledgerstream/ledgerstream/io/ApiKeySupportsPinLaw -/
def k1 : Class := { plain "com/example/ledgerstream/ledgerstream/io/ApiKeySupportsPinLaw" (some 0) with
  accessFlags := 49
  interfaces := #[]
  cf := some (fileOf pool1 60 #[] #[{ accessFlags := 1, nameIndex := 5, descriptorIndex := 6, attributes := #[] }, { accessFlags := 9, nameIndex := 64, descriptorIndex := 65, attributes := #[] }] 49 2 #[] #[])
  fields := #[]
  methods := #[k1m0, k1m1]
  instanceTypes := #[]
  staticTypes := #[]
  resolved := Array.replicate 73 none
  statics := none }

def pool2 : Array CpInfo := pool [(1, .class_ 2), (0, u "java/lang/constant/Constable"), (0, .class_ 4), (0, u "java/lang/Object")] 6

/-- java/lang/constant/Constable -/
def k2 : Class := { plain "java/lang/constant/Constable" (some 0) with
  accessFlags := 1537
  interfaces := #[]
  cf := some (fileOf pool2 1 #[] #[] 1537 3 #[] #[])
  fields := #[]
  methods := #[]
  instanceTypes := #[]
  staticTypes := #[]
  resolved := Array.replicate 11 none
  statics := none }

def pool3 : Array CpInfo := pool [(1, .class_ 2), (0, u "java/lang/Comparable"), (0, .class_ 4), (0, u "java/lang/Object")] 7

/-- java/lang/Comparable -/
def k3 : Class := { plain "java/lang/Comparable" (some 0) with
  accessFlags := 1537
  interfaces := #[]
  cf := some (fileOf pool3 1 #[] #[] 1537 3 #[] #[])
  fields := #[]
  methods := #[]
  instanceTypes := #[]
  staticTypes := #[]
  resolved := Array.replicate 12 none
  statics := none }

def pool4 : Array CpInfo := pool [(1, .class_ 2), (0, u "java/io/Serializable"), (0, .class_ 4), (0, u "java/lang/Object")] 2

/-- java/io/Serializable -/
def k4 : Class := { plain "java/io/Serializable" (some 0) with
  accessFlags := 1537
  interfaces := #[]
  cf := some (fileOf pool4 1 #[] #[] 1537 3 #[] #[])
  fields := #[]
  methods := #[]
  instanceTypes := #[]
  staticTypes := #[]
  resolved := Array.replicate 7 none
  statics := none }

def pool5 : Array CpInfo := pool [(2, .class_ 4), (1, u "java/lang/Enum"), (0, u "name"), (0, u "Ljava/lang/String;"), (2, u "ordinal"), (0, u "I"), (1, .class_ 14), (1, u "java/lang/Object"), (4, u "hash"), (86, .class_ 108), (1, u "java/lang/Enum$EnumDesc"), (2, .class_ 112), (0, u "java/lang/constant/Constable"), (0, .class_ 114), (0, u "java/lang/Comparable"), (0, .class_ 116), (0, u "java/io/Serializable")] 87

/-- java/lang/Enum -/
def k5 : Class := { plain "java/lang/Enum" (some 0) with
  accessFlags := 1057
  interfaces := #[2, 3, 4]
  cf := some (fileOf pool5 2 #[.nestMembers #[106]] #[] 1057 12 #[111, 113, 115] #[{ accessFlags := 18, nameIndex := 5, descriptorIndex := 6, attributes := #[] }, { accessFlags := 18, nameIndex := 9, descriptorIndex := 10, attributes := #[] }, { accessFlags := 2, nameIndex := 19, descriptorIndex := 10, attributes := #[] }])
  fields := #[{ name := "name", type := (.object "java/lang/String"), accessFlags := 18, slot := 0, constantValue := 0 }, { name := "ordinal", type := .int, accessFlags := 18, slot := 1, constantValue := 0 }, { name := "hash", type := .int, accessFlags := 2, slot := 2, constantValue := 0 }]
  methods := #[]
  instanceTypes := #[(.object "java/lang/String"), .int, .int]
  staticTypes := #[]
  resolved := Array.replicate 204 none
  statics := none }

def pool6 : Array CpInfo := pool [(1, .class_ 2), (0, u "com/example/ledgerstream/ledgerstream/io/ApiKey"), (2, u "PRODUCE"), (0, u "Lcom/example/ledgerstream/ledgerstream/io/ApiKey;"), (2, u "FETCH"), (2, u "LIST_OFFSETS"), (2, u "METADATA"), (2, u "OFFSET_COMMIT"), (2, u "OFFSET_FETCH"), (2, u "FIND_COORDINATOR"), (2, u "JOIN_GROUP"), (2, u "HEARTBEAT"), (2, u "LEAVE_GROUP"), (2, u "SYNC_GROUP"), (2, u "DESCRIBE_GROUPS"), (2, u "LIST_GROUPS"), (2, u "API_VERSIONS"), (2, u "CREATE_TOPICS"), (2, u "$VALUES"), (0, u "[Lcom/example/ledgerstream/ledgerstream/io/ApiKey;"), (6, .class_ 61), (1, u "java/lang/Enum"), (8, u "displayName"), (0, u "Ljava/lang/String;"), (2, u "id"), (0, u "S"), (0, .fieldref 1 77), (0, .nameAndType 78 75), (0, u "minVersion"), (0, .fieldref 1 80), (0, .nameAndType 81 75), (0, u "maxVersion"), (2, u "firstFlexibleVersion"), (79, u "supports"), (0, u "(S)Z")] 23

def k6c0 : Code := { maxStack := 2, maxLocals := 2, code := prog_5_method_8_code, exceptionTable := #[], attributes := #[] }
def k6m0 : Method := { name := "supports", desc := "(S)Z", sig := { parameters := [.short], returnType := some .boolean }, accessFlags := 1, code := some k6c0 }
/-- com/example/ledgerstream/ledgerstream/io/ApiKey -/
def k6 : Class := { plain "com/example/ledgerstream/ledgerstream/io/ApiKey" (some 5) with
  accessFlags := 16433
  interfaces := #[]
  cf := some (fileOf pool6 1 #[] #[{ accessFlags := 1, nameIndex := 164, descriptorIndex := 165, attributes := #[] }] 16433 59 #[] #[{ accessFlags := 16409, nameIndex := 5, descriptorIndex := 6, attributes := #[] }, { accessFlags := 16409, nameIndex := 9, descriptorIndex := 6, attributes := #[] }, { accessFlags := 16409, nameIndex := 12, descriptorIndex := 6, attributes := #[] }, { accessFlags := 16409, nameIndex := 15, descriptorIndex := 6, attributes := #[] }, { accessFlags := 16409, nameIndex := 18, descriptorIndex := 6, attributes := #[] }, { accessFlags := 16409, nameIndex := 21, descriptorIndex := 6, attributes := #[] }, { accessFlags := 16409, nameIndex := 24, descriptorIndex := 6, attributes := #[] }, { accessFlags := 16409, nameIndex := 27, descriptorIndex := 6, attributes := #[] }, { accessFlags := 16409, nameIndex := 30, descriptorIndex := 6, attributes := #[] }, { accessFlags := 16409, nameIndex := 33, descriptorIndex := 6, attributes := #[] }, { accessFlags := 16409, nameIndex := 36, descriptorIndex := 6, attributes := #[] }, { accessFlags := 16409, nameIndex := 39, descriptorIndex := 6, attributes := #[] }, { accessFlags := 16409, nameIndex := 42, descriptorIndex := 6, attributes := #[] }, { accessFlags := 16409, nameIndex := 45, descriptorIndex := 6, attributes := #[] }, { accessFlags := 16409, nameIndex := 48, descriptorIndex := 6, attributes := #[] }, { accessFlags := 18, nameIndex := 70, descriptorIndex := 71, attributes := #[] }, { accessFlags := 18, nameIndex := 74, descriptorIndex := 75, attributes := #[] }, { accessFlags := 18, nameIndex := 78, descriptorIndex := 75, attributes := #[] }, { accessFlags := 18, nameIndex := 81, descriptorIndex := 75, attributes := #[] }, { accessFlags := 18, nameIndex := 84, descriptorIndex := 75, attributes := #[] }, { accessFlags := 4122, nameIndex := 51, descriptorIndex := 52, attributes := #[] }])
  fields := #[{ name := "PRODUCE", type := (.object "com/example/ledgerstream/ledgerstream/io/ApiKey"), accessFlags := 16409, slot := 0, constantValue := 0 }, { name := "FETCH", type := (.object "com/example/ledgerstream/ledgerstream/io/ApiKey"), accessFlags := 16409, slot := 1, constantValue := 0 }, { name := "LIST_OFFSETS", type := (.object "com/example/ledgerstream/ledgerstream/io/ApiKey"), accessFlags := 16409, slot := 2, constantValue := 0 }, { name := "METADATA", type := (.object "com/example/ledgerstream/ledgerstream/io/ApiKey"), accessFlags := 16409, slot := 3, constantValue := 0 }, { name := "OFFSET_COMMIT", type := (.object "com/example/ledgerstream/ledgerstream/io/ApiKey"), accessFlags := 16409, slot := 4, constantValue := 0 }, { name := "OFFSET_FETCH", type := (.object "com/example/ledgerstream/ledgerstream/io/ApiKey"), accessFlags := 16409, slot := 5, constantValue := 0 }, { name := "FIND_COORDINATOR", type := (.object "com/example/ledgerstream/ledgerstream/io/ApiKey"), accessFlags := 16409, slot := 6, constantValue := 0 }, { name := "JOIN_GROUP", type := (.object "com/example/ledgerstream/ledgerstream/io/ApiKey"), accessFlags := 16409, slot := 7, constantValue := 0 }, { name := "HEARTBEAT", type := (.object "com/example/ledgerstream/ledgerstream/io/ApiKey"), accessFlags := 16409, slot := 8, constantValue := 0 }, { name := "LEAVE_GROUP", type := (.object "com/example/ledgerstream/ledgerstream/io/ApiKey"), accessFlags := 16409, slot := 9, constantValue := 0 }, { name := "SYNC_GROUP", type := (.object "com/example/ledgerstream/ledgerstream/io/ApiKey"), accessFlags := 16409, slot := 10, constantValue := 0 }, { name := "DESCRIBE_GROUPS", type := (.object "com/example/ledgerstream/ledgerstream/io/ApiKey"), accessFlags := 16409, slot := 11, constantValue := 0 }, { name := "LIST_GROUPS", type := (.object "com/example/ledgerstream/ledgerstream/io/ApiKey"), accessFlags := 16409, slot := 12, constantValue := 0 }, { name := "API_VERSIONS", type := (.object "com/example/ledgerstream/ledgerstream/io/ApiKey"), accessFlags := 16409, slot := 13, constantValue := 0 }, { name := "CREATE_TOPICS", type := (.object "com/example/ledgerstream/ledgerstream/io/ApiKey"), accessFlags := 16409, slot := 14, constantValue := 0 }, { name := "displayName", type := (.object "java/lang/String"), accessFlags := 18, slot := 3, constantValue := 0 }, { name := "id", type := .short, accessFlags := 18, slot := 4, constantValue := 0 }, { name := "minVersion", type := .short, accessFlags := 18, slot := 5, constantValue := 0 }, { name := "maxVersion", type := .short, accessFlags := 18, slot := 6, constantValue := 0 }, { name := "firstFlexibleVersion", type := .short, accessFlags := 18, slot := 7, constantValue := 0 }, { name := "$VALUES", type := (.array (.object "com/example/ledgerstream/ledgerstream/io/ApiKey")), accessFlags := 4122, slot := 15, constantValue := 0 }]
  methods := #[k6m0]
  instanceTypes := #[(.object "java/lang/String"), .int, .int, (.object "java/lang/String"), .short, .short, .short, .short]
  staticTypes := #[(.object "com/example/ledgerstream/ledgerstream/io/ApiKey"), (.object "com/example/ledgerstream/ledgerstream/io/ApiKey"), (.object "com/example/ledgerstream/ledgerstream/io/ApiKey"), (.object "com/example/ledgerstream/ledgerstream/io/ApiKey"), (.object "com/example/ledgerstream/ledgerstream/io/ApiKey"), (.object "com/example/ledgerstream/ledgerstream/io/ApiKey"), (.object "com/example/ledgerstream/ledgerstream/io/ApiKey"), (.object "com/example/ledgerstream/ledgerstream/io/ApiKey"), (.object "com/example/ledgerstream/ledgerstream/io/ApiKey"), (.object "com/example/ledgerstream/ledgerstream/io/ApiKey"), (.object "com/example/ledgerstream/ledgerstream/io/ApiKey"), (.object "com/example/ledgerstream/ledgerstream/io/ApiKey"), (.object "com/example/ledgerstream/ledgerstream/io/ApiKey"), (.object "com/example/ledgerstream/ledgerstream/io/ApiKey"), (.object "com/example/ledgerstream/ledgerstream/io/ApiKey"), (.array (.object "com/example/ledgerstream/ledgerstream/io/ApiKey"))]
  resolved := Array.replicate 189 none
  statics := some 0 }

def pool7 : Array CpInfo := pool [(1, u "java/lang/Cloneable"), (0, .class_ 1), (0, u "java/lang/Object"), (0, .class_ 3)] 3

/-- java/lang/Cloneable -/
def k7 : Class := { plain "java/lang/Cloneable" (some 0) with
  accessFlags := 1537
  interfaces := #[]
  cf := some (fileOf pool7 2 #[] #[] 1537 4 #[] #[])
  fields := #[]
  methods := #[]
  instanceTypes := #[]
  staticTypes := #[]
  resolved := Array.replicate 8 none
  statics := none }

/-- the primitive byte -/
def k8 : Class := { plain "byte" none with kind := .primitive 'B', accessFlags := 0x411 }
/-- [B -/
def k9 : Class := { plain "[B" (some 0) with kind := .array 8 .byte, interfaces := #[7, 4], accessFlags := 1041 }

/-- the primitive int -/
def k10 : Class := { plain "int" none with kind := .primitive 'I', accessFlags := 0x411 }
/-- [I -/
def k11 : Class := { plain "[I" (some 0) with kind := .array 10 .int, interfaces := #[7, 4], accessFlags := 1041 }

/-- [Lcom/example/ledgerstream/ledgerstream/io/ApiKey; -/
def k12 : Class := { plain "[Lcom/example/ledgerstream/ledgerstream/io/ApiKey;" (some 0) with kind := .array 6 (.object "com/example/ledgerstream/ledgerstream/io/ApiKey"), interfaces := #[7, 4], accessFlags := 1041 }

def heap : Heap := #[{ cls := 6, slots := #[.ref 1, .ref 2, .ref 3, .ref 4, .ref 5, .ref 6, .ref 7, .ref 8, .ref 9, .ref 10, .ref 11, .ref 12, .ref 13, .ref 14, .ref 15, .null], vm := .statics 6 },
  { cls := 6, slots := #[.null, .int 0, .int 0, .null, .int 0, .int 3, .int 7, .int 0], vm := .none },
  { cls := 6, slots := #[.null, .int 1, .int 0, .null, .int 0, .int 4, .int 11, .int 0], vm := .none },
  { cls := 6, slots := #[.null, .int 2, .int 0, .null, .int 0, .int 1, .int 2, .int 0], vm := .none },
  { cls := 6, slots := #[.null, .int 3, .int 0, .null, .int 0, .int 1, .int 5, .int 0], vm := .none },
  { cls := 6, slots := #[.null, .int 4, .int 0, .null, .int 0, .int 2, .int 3, .int 0], vm := .none },
  { cls := 6, slots := #[.null, .int 5, .int 0, .null, .int 0, .int 1, .int 3, .int 0], vm := .none },
  { cls := 6, slots := #[.null, .int 6, .int 0, .null, .int 0, .int 0, .int 1, .int 0], vm := .none },
  { cls := 6, slots := #[.null, .int 7, .int 0, .null, .int 0, .int 0, .int 2, .int 0], vm := .none },
  { cls := 6, slots := #[.null, .int 8, .int 0, .null, .int 0, .int 0, .int 1, .int 0], vm := .none },
  { cls := 6, slots := #[.null, .int 9, .int 0, .null, .int 0, .int 0, .int 1, .int 0], vm := .none },
  { cls := 6, slots := #[.null, .int 10, .int 0, .null, .int 0, .int 0, .int 1, .int 0], vm := .none },
  { cls := 6, slots := #[.null, .int 11, .int 0, .null, .int 0, .int 0, .int 2, .int 0], vm := .none },
  { cls := 6, slots := #[.null, .int 12, .int 0, .null, .int 0, .int 0, .int 2, .int 0], vm := .none },
  { cls := 6, slots := #[.null, .int 13, .int 0, .null, .int 0, .int 0, .int 3, .int 0], vm := .none },
  { cls := 6, slots := #[.null, .int 14, .int 0, .null, .int 0, .int 0, .int 3, .int 0], vm := .none }]
def classes : Array Class := #[k0, k1, k2, k3, k4, k5, k6, k7, k8, k9, k10, k11, k12]
def interned : List (Array UInt16 × Addr) := []
def slotsUsed : Nat := 136
def theMethod : MethodId := ⟨1, 1⟩
def args0 : Array Value := #[.int 5, .int 3, .int 4]
def aboutOver (below : List Frame) : State where
  vm := { classes := classes, interned := interned.toArray }
  heap := heap
  slotsUsed := slotsUsed
  threads := #[{ frames := .invoking theMethod args0 :: below }]
def below0 : List Frame := [.native { method := ⟨0, 0⟩, args := #[] }]
def about1 : State := aboutOver below0
def p0 : Program := .bare "" "" ""
def e0 : Env := launch0.env 0 0 0
theorem w_frames : about1.frames = Frame.invoking theMethod args0 :: below0 := rfl
set_option maxRecDepth 65536 in
theorem w_args : argsFit about1.vm theMethod args0 = true := by decide +kernel
set_option maxRecDepth 65536 in
theorem w_heap : heapFits about1 = true := by decide +kernel
set_option maxRecDepth 65536 in
theorem w_runnable : about1.curStatus? = some .runnable := by decide +kernel
set_option maxRecDepth 65536 in
theorem w_alone : about1.alone = true := by decide +kernel
set_option maxRecDepth 65536 in
theorem w_named : about1.methodNamed? x = some theMethod := by decide +kernel
set_option maxRecDepth 65536 in
theorem w_hears : about1.hears theMethod below0 = true := by decide +kernel
set_option maxRecDepth 65536 in
theorem w_ripe : about1.ripe theMethod args0 below0 = true := by decide +kernel
theorem w_running : about1.status = .running := rfl
set_option maxRecDepth 65536 in
theorem w_room : about1.hasRoom e0.platform room_1 = true :=
  launch0.hasRoom_least _ room_1 (by decide +kernel) (by decide +kernel) (by decide +kernel) (by decide +kernel) (by decide +kernel) (by decide +kernel)
theorem allAtoms_all (ts : List Jvm.Cond) (a : Array Jvm.Value) (st : Jvm.State) : (allAtoms ts).before a st = ts.all (fun c => c.before a st) := by
  induction ts with
  | nil => rfl
  | cons c t ih =>
    show (Jvm.Cond.and c (allAtoms t)).before a st = _
    rw [Jvm.Cond.before_and, ih, List.all_cons]
def words1 : List Jvm.Cond := Jvm.Cond.code x code maxLocals ret :: tables_1
/-- a 'code' word, met by the world's own term for the bytes: nothing is compared byte by byte -/
theorem code_word {y : MethodName} {bytes : ByteArray} {mx : Nat} {rt : Option FieldType} {a : Array Value} {s : State} {m : MethodId} {meth : Method} {c : Code} (h1 : s.methodNamed? y = some m) (h2 : s.vm.method? m = some meth) (h3 : meth.code = some c) (h4 : c.code = bytes)
    (h5 : (c.maxLocals == mx && c.exceptionTable.isEmpty && decide (c.maxStack ≤ mostOperands) && decide (meth.sig.returnType = rt) && !meth.locks && decide (parseMethodDescriptor y.desc = some meth.sig)) = true) : (Jvm.Cond.code y bytes mx rt).before a s = true := by
  simp only [Bool.and_eq_true, beq_iff_eq, Bool.not_eq_true', decide_eq_true_eq] at h5
  obtain ⟨⟨⟨⟨⟨g1, g2⟩, g3⟩, g4⟩, g5⟩, g6⟩ := h5
  simp [Cond.before, Cond.holds, Cond.value, h1, h2, h3, h4, g1, g2, g3, g4, g5, g6]
def isCode : Jvm.Cond → Bool
  | .code _ _ _ _ => true
  | _ => false
theorem all_split {L : List Jvm.Cond} {P : Jvm.Cond → Bool} (h1 : L.all (fun c => isCode c || P c) = true) (h2 : ∀ c ∈ L.filter isCode, P c = true) : L.all P = true := by
  refine List.all_eq_true.mpr fun c hc => ?_
  have h := List.all_eq_true.mp h1 c hc
  rcases Bool.eq_false_or_eq_true (isCode c) with hi | hi
  · exact h2 c (List.mem_filter.mpr ⟨hc, hi⟩)
  · simpa [hi] using h
set_option maxRecDepth 65536 in
theorem w_c0 : (Jvm.Cond.code x code maxLocals ret).before args0 about1 = true := code_word (m := ⟨1, 1⟩) (meth := k1m1) (c := k1c1) (by decide +kernel) rfl rfl rfl (by decide +kernel)
set_option maxRecDepth 65536 in
theorem w_c1 : (Jvm.Cond.code ({ cls := "com/example/ledgerstream/ledgerstream/io/ApiKey", name := "supports", desc := "(S)Z" } : Jvm.MethodName) prog_5_method_8_code (2 : Nat) (Option.some Jvm.ClassFile.FieldType.boolean)).before args0 about1 = true := code_word (m := ⟨6, 0⟩) (meth := k6m0) (c := k6c0) (by decide +kernel) rfl rfl rfl (by decide +kernel)
def codes1 : List Jvm.Cond := [Jvm.Cond.code x code maxLocals ret, Jvm.Cond.code ({ cls := "com/example/ledgerstream/ledgerstream/io/ApiKey", name := "supports", desc := "(S)Z" } : Jvm.MethodName) prog_5_method_8_code (2 : Nat) (Option.some Jvm.ClassFile.FieldType.boolean)]
set_option maxRecDepth 65536 in
theorem codes_eq : words1.filter isCode = codes1 := rfl
theorem w_codes : ∀ c ∈ words1.filter isCode, c.before args0 about1 = true := by
  rw [codes_eq]
  intro c hc
  simp only [codes1, List.mem_cons, List.not_mem_nil, or_false] at hc
  rcases hc with rfl | rfl
  · exact w_c0
  · exact w_c1
set_option maxRecDepth 65536 in
theorem w_t1 : (words1.take 24).all (fun c => isCode c || c.before args0 about1) = true := by decide +kernel
set_option maxRecDepth 65536 in
theorem w_t2 : (words1.drop 24).all (fun c => isCode c || c.before args0 about1) = true := by decide +kernel
theorem w_tables : (allAtoms (Jvm.Cond.code x code maxLocals ret :: tables_1)).before args0 about1 = true := by
  rw [allAtoms_all]
  show words1.all (fun c => c.before args0 about1) = true
  refine all_split ?_ w_codes
  rw [← List.take_append_drop 24 words1, List.all_append, w_t1, w_t2]
  rfl
set_option maxRecDepth 65536 in
theorem w_case : (Jvm.Cond.and given_1 narrow_1).before args0 about1 = true := by decide +kernel
theorem w_applies : (headSpec (Jvm.Cond.code x code maxLocals ret :: tables_1) room_1).applies x e0.platform about1 = true :=
  (Spec.applies_iff w_frames).mpr ⟨w_running, w_runnable, w_alone, w_named, w_hears, w_ripe, w_room, w_tables⟩
theorem atStart : AtStart classFile x code maxLocals ret World_1 tables_1 room_1 Calls_1 rest_1 Pre_1 launch0 p0 e0 about1 theMethod args0 below0 :=
  ⟨lists_1, trivial, launch0.admits_env _ _ _, launch0.least_env, fairChoices_fair.cas, fairChoices_fair.clock, w_frames, w_args, w_heap, w_applies, trivial, trivial, w_case⟩
end start1
theorem witness_1 : WitnessClaimed_1 := ⟨start1.p0, start1.e0, start1.about1, start1.theMethod, start1.args0, start1.below0, start1.atStart⟩
end Jvm.Pilot.@@N@@
