import JvmDerived
import JvmDerived.Pilot.@@N@@Statement
import JvmDerived.Pilot.@@N@@Code
set_option linter.unusedVariables false
set_option linter.unusedSimpArgs false
@@BLOCK:NumsL.lean.txt@@
namespace Jvm.RoadKit
open Sem ClassFile Op Lib Jvm.Stand Jvm.Free Jvm.LawKit
section New
variable {p : Program} {l : Launch} {e : Env} {R : Room} {s : State} {m : MethodId} {args : Array Value} {below : List Frame} {meth : Method} {c : Code} {T : State} {locs : List Loc} {cells slots : Nat}
theorem retI (X : Stand p l e R s m args below meth c T locs cells slots) (hx : p.tables.exec = Jvm.exec) {pc : Nat} {Ls : Array Slot} {z : Int32} {rest : List Value} (hret : meth.sig.returnType = some .int) (hd : decode c.code pc = .ok (.ireturn, 1)) {fs : List Frame}
    (hl : ∀ (f : JFrame) (acts : List Action), f.method = m → f.locked = none → f.entered = [] → (doReturn e (T.setTop f) acts (some (.int z))).1 = T.setFrames fs) : Steps p.tables e below (T.setTop (mkF m pc Ls (.int z :: rest))) (T.setFrames fs) := by
  have hm' : T.vm.method? m = some meth := X.method'
  have hn : narrow .int (.int z) = .int z := rfl
  show Steps p.tables e below (T.setTop { method := m, pc := pc, locals := Ls, stack := _ :: rest, locked := none }) _
  jvm_step X.here [X.here.top, hx, hd, hm', hret, hn]
  first | (intro acts; rw [hl _ acts rfl rfl rfl]) | rw [hl _ _ rfl rfl rfl]
  exact Steps.refl _
end New
end Jvm.RoadKit
namespace Jvm.Pilot.@@N@@
open Jvm Jvm.ClassFile Sem Op Lib Jvm.Free Jvm.Stand Jvm.LawKit Jvm.RoadKit Bundle Jvm.Pilot.@@N@@.Jvm.D

def own_A (Z : State) (h : Heap) (a : Addr) (ty : FieldType) (n : Nat) (f : Nat → Int32) : Prop := ∃ c : Cell, Arr Z h a c ty ∧ c.slots.size = n ∧ ∀ j, j < n → c.slots[j]? = some (.int (f j))
theorem own_A_new {Z : State} {h : Heap} {a : Addr} {k : ClassId} {ty : FieldType} {z : Int32} {n : Nat} (A : Arr Z h a (newA k ty z) ty) (hd : defaultValue ty = .int 0) (hn : z.toNatClampNeg = n) : own_A Z h a ty n (fun _ => 0) :=
  ⟨_, A, by rw [sz_new, hn], fun j hj => by simp [newA, hn, hd, hj]⟩
theorem own_A_set {Z : State} {h h' : Heap} {a : Addr} {ty : FieldType} {n i : Nat} {f : Nat → Int32} {v : Int32} (F : own_A Z h a ty n f) (W : Wr h h' a i (.int v)) : own_A Z h' a ty n (upd f i v) := by
  obtain ⟨c, A, S, H⟩ := F
  refine ⟨_, A.same W, by rw [sz_set, S], fun j hj => ?_⟩
  show (c.slots.setIfInBounds i (.int v))[j]? = _
  rw [Array.getElem?_setIfInBounds]
  by_cases e : i = j
  · subst e; rw [if_pos rfl, if_pos (by rw [S]; exact hj)]; simp [upd]
  · rw [if_neg e, H j hj]; simp [upd, Ne.symm e]
theorem own_A_ext {Z : State} {h h' : Heap} {a : Addr} {ty : FieldType} {n : Nat} {f : Nat → Int32} (F : own_A Z h a ty n f) (E : Ext h h') : own_A Z h' a ty n f := by
  obtain ⟨c, A, S, H⟩ := F; exact ⟨c, A.ext E, S, H⟩
theorem own_A_other {Z : State} {h h' : Heap} {a b : Addr} {ty : FieldType} {n sl : Nat} {f : Nat → Int32} {v : Value} (F : own_A Z h a ty n f) (W : Wr h h' b sl v) (q : a ≠ b) : own_A Z h' a ty n f := by
  obtain ⟨c, A, S, H⟩ := F; exact ⟨c, A.other W q, S, H⟩
theorem own_A_keep {Z : State} {h h' : Heap} {a : Addr} {ty : FieldType} {n : Nat} {f : Nat → Int32} {ws : List Addr} (F : own_A Z h a ty n f) (K : Keep h h' ws) (q : a ∉ ws) : own_A Z h' a ty n f := by
  obtain ⟨c, A, S, H⟩ := F; exact ⟨c, ⟨K.2.1 a c A.1 q, A.2⟩, S, H⟩
theorem own_A_lt {Z : State} {h : Heap} {a : Addr} {ty : FieldType} {n : Nat} {f : Nat → Int32} (F : own_A Z h a ty n f) : a < h.size := by obtain ⟨c, A, -⟩ := F; exact A.lt
theorem own_upd_same (f : Nat → Int32) (i : Nat) (v : Int32) : upd f i v i = v := by simp [upd]
theorem own_upd_ne (f : Nat → Int32) {i j : Nat} (v : Int32) (h : j ≠ i) : upd f i v j = f j := by simp [upd, h]
theorem own_toNat (y : Int32) (h : 0 ≤ y.toInt) : y = Int32.ofNat y.toInt.toNat := by
  have a := y.toInt_lt
  rw [← Int32.toInt_inj, toInt_of rfl (by omega)]
  omega
theorem own_mask (x m : Int32) {k : Nat} (hk : k < 32) (hm : m.toBitVec.toNat = 2 ^ k - 1) : ∃ n : Nat, x &&& m = Int32.ofNat n ∧ n < 2 ^ k := by
  have h := Jvm.Kit.i32_mask x m hk hm
  have hp : (0 : Int) < 2 ^ k := Int.pow_pos (by decide)
  have h1 := Int.emod_nonneg x.toInt (b := 2 ^ k) (by omega)
  have h2 := Int.emod_lt_of_pos x.toInt hp
  refine ⟨(x &&& m).toInt.toNat, own_toNat _ (by omega), ?_⟩
  have h3 : ((2 ^ k : Nat) : Int) = 2 ^ k := by simp
  omega
theorem own_lt {i n : Nat} (h : i < n) (hn : n < 2 ^ 31) : Int32.ofNat i < Int32.ofNat n := by
  rw [Int32.lt_iff_toInt_lt, toInt_of rfl (by omega : i < 2 ^ 31), toInt_of rfl hn]; omega
theorem own_nlt {i n : Nat} (h : n ≤ i) (hi : i < 2 ^ 31) : ¬ (Int32.ofNat i < Int32.ofNat n) := by
  rw [Int32.lt_iff_toInt_lt, toInt_of rfl hi, toInt_of rfl (by omega : n < 2 ^ 31)]; omega
theorem own_ne {i n : Nat} (h : i ≠ n) (hi : i < 2 ^ 31) (hn : n < 2 ^ 31) : ¬ (Int32.ofNat i = Int32.ofNat n) := by
  rw [← Int32.toInt_inj, toInt_of rfl hi, toInt_of rfl hn]; omega
theorem own_add (a b : Nat) : Int32.ofNat a + Int32.ofNat b = Int32.ofNat (a + b) := (Int32.ofNat_add a b).symm
theorem own_sub {a b : Nat} (h : b ≤ a) (ha : a < 2 ^ 31) : Int32.ofNat a - Int32.ofNat b = Int32.ofNat (a - b) := by
  rw [← Int32.toInt_inj, toInt_of rfl (by omega : a - b < 2 ^ 31)]
  have h1 : (Int32.ofNat a).toInt = a := toInt_of rfl ha
  have h2 : (Int32.ofNat b).toInt = b := toInt_of rfl (by omega)
  rw [Jvm.Kit.i32_sub (by omega) (by omega)]
  omega
theorem own_rem {a b : Nat} (ha : a < 2 ^ 31) (hb : b < 2 ^ 31) : Int32.ofNat a % Int32.ofNat b = Int32.ofNat (a % b) := by
  have h3 : a % b ≤ a := Nat.mod_le a b
  have h1 : (Int32.ofNat a).toInt = a := toInt_of rfl ha
  have h2 : (Int32.ofNat b).toInt = b := toInt_of rfl hb
  rw [← Int32.toInt_inj, toInt_of rfl (by omega : a % b < 2 ^ 31), Jvm.Kit.i32_rem_nonneg (by omega), h1, h2]
  omega

def own_B (Z : State) (h : Heap) (a : Addr) (n : Nat) (f : Nat → Int32) : Prop := ∃ c : Cell, Arr Z h a c .byte ∧ c.slots.size = n ∧ (∀ j, j < n → c.slots[j]? = some (.int (f j))) ∧ (∀ j, j < n → fits .byte (.int (f j)) = true) ∧ Exa Z h a "[B"
theorem own_B_new {Z : State} {h : Heap} {a : Addr} {k : ClassId} {z : Int32} {n : Nat} (A : Arr Z h a (newA k .byte z) .byte) (E : Exa Z h a "[B") (hn : z.toNatClampNeg = n) : own_B Z h a n (fun _ => 0) :=
  ⟨_, A, by rw [sz_new, hn], fun j hj => by simp [newA, hn, hj, defaultValue], fun _ _ => (by decide : fits .byte (.int (0 : Int32)) = true), E⟩
theorem own_B_set {Z : State} {h h' : Heap} {a : Addr} {n i : Nat} {f : Nat → Int32} {v : Int32} (F : own_B Z h a n f) (W : Wr h h' a i (.int v)) (hv : fits .byte (.int v) = true) : own_B Z h' a n (upd f i v) := by
  obtain ⟨c, A, S, H, G, E⟩ := F
  refine ⟨_, A.same W, by rw [sz_set, S], fun j hj => ?_, fun j hj => ?_, E.wr W⟩
  · show (c.slots.setIfInBounds i (.int v))[j]? = _
    rw [Array.getElem?_setIfInBounds]
    by_cases e : i = j
    · subst e; rw [if_pos rfl, if_pos (by rw [S]; exact hj)]; simp [upd]
    · rw [if_neg e, H j hj]; simp [upd, Ne.symm e]
  · by_cases e : j = i
    · rw [e, own_upd_same]; exact hv
    · rw [own_upd_ne _ _ e]; exact G j hj
theorem own_B_ext {Z : State} {h h' : Heap} {a : Addr} {n : Nat} {f : Nat → Int32} (F : own_B Z h a n f) (E : Ext h h') : own_B Z h' a n f := by
  obtain ⟨c, A, S, H, G, X⟩ := F; exact ⟨c, A.ext E, S, H, G, X.ext E⟩
theorem own_B_other {Z : State} {h h' : Heap} {a b : Addr} {n sl : Nat} {f : Nat → Int32} {v : Value} (F : own_B Z h a n f) (W : Wr h h' b sl v) (q : a ≠ b) : own_B Z h' a n f := by
  obtain ⟨c, A, S, H, G, X⟩ := F; exact ⟨c, A.other W q, S, H, G, X.wr W⟩
theorem own_B_keep {Z : State} {h h' : Heap} {a : Addr} {n : Nat} {f : Nat → Int32} {ws : List Addr} (F : own_B Z h a n f) (K : Keep h h' ws) (q : a ∉ ws) : own_B Z h' a n f := by
  obtain ⟨c, A, S, H, G, X⟩ := F; exact ⟨c, ⟨K.2.1 a c A.1 q, A.2⟩, S, H, G, X.keep K⟩
theorem own_B_lt {Z : State} {h : Heap} {a : Addr} {n : Nat} {f : Nat → Int32} (F : own_B Z h a n f) : a < h.size := by obtain ⟨c, A, -⟩ := F; exact A.lt
theorem own_B_congr {Z : State} {h : Heap} {a : Addr} {n : Nat} {f g : Nat → Int32} (F : own_B Z h a n f) (q : ∀ j, j < n → f j = g j) : own_B Z h a n g := by
  obtain ⟨c, A, S, H, G, X⟩ := F; exact ⟨c, A, S, fun j hj => by rw [← q j hj]; exact H j hj, fun j hj => by rw [← q j hj]; exact G j hj, X⟩
def own_vals (f : Nat → Int32) (n : Nat) : List Value := (List.range n).map fun j => Value.int (f j)
theorem own_vals_len (f : Nat → Int32) (n : Nat) : (own_vals f n).length = n := by simp [own_vals]
theorem own_vals_at (f : Nat → Int32) {n j : Nat} (d : Value) (h : j < n) : (own_vals f n).getD j d = .int (f j) := by
  rw [List.getD_eq_getElem?_getD, own_vals, List.getElem?_map, List.getElem?_range h]; rfl
theorem own_nneg {n : Nat} (h : n < 2 ^ 31) : ¬ (Int32.ofNat n < (0 : Int32)) := by
  rw [Int32.lt_iff_toInt_lt, toInt_of rfl h]
  have h0 : (0 : Int32).toInt = 0 := by decide
  omega
theorem own_B_arv {Z : State} {h : Heap} {a : Addr} {n : Nat} {f : Nat → Int32} (F : own_B Z h a n f) (hn : n < 2 ^ 31) : ∃ k, Arv Z h a k .byte (Int32.ofNat n) (own_vals f n) (.int 0) := by
  obtain ⟨c, A, S, H, G, X⟩ := F
  refine ⟨c.cls, c, A, rfl, by rw [S, clamp_of rfl hn], own_nneg hn, fun j hj => ?_, fun j hj => ?_⟩
  · rw [own_vals_at f _ (by omega)]; exact H j (by omega)
  · rw [own_vals_at f _ (by omega)]; exact G j (by omega)
theorem own_B_of {Z : State} {h : Heap} {a : Addr} {k : ClassId} {n : Nat} {vs : List Value} {f : Nat → Int32} (A : Arv Z h a k .byte (Int32.ofNat n) vs (.int 0)) (E : Exa Z h a "[B") (hn : n < 2 ^ 31) (hv : ∀ j, j < n → vs.getD j (.int 0) = .int (f j)) : own_B Z h a n f := by
  obtain ⟨c, Ar, -, S, -, H, G⟩ := A
  have S' : c.slots.size = n := by rw [S, clamp_of rfl hn]
  exact ⟨c, Ar, S', fun j hj => by rw [H j (by omega), hv j hj], fun j hj => by have q := G j (by omega); rw [hv j hj] at q; exact q, E⟩
theorem own_cp {p : Program} {l : Launch} {e : Env} {R : Room} {s : State} {m : MethodId} {args : Array Value} {below : List Frame} {meth : Method} {c : Code} {T : State} {locs : List Loc} {cells slots : Nat} {Z : State} {h : Heap} (X : Stand p l e R s m args below meth c T locs cells slots) (hx : p.tables.exec = Jvm.exec) (hZ : Z.Warmed39 s.vm) {a0 : Array Value} {own : String} {index : Nat} (hown : s.vm.findClass own = some m.cls)
    (w1 : (Cond.methodLink own index Jvm.Stand.acN).before a0 Z = true) (w2 : (Cond.native Jvm.Stand.acN).before a0 Z = true) (w3 : (Cond.static Jvm.Stand.acN).before a0 Z = true) (w4 : (Cond.initialized "java/lang/System").before a0 Z = true) (eT : T.heap = h)
    {a b : Addr} {n n' sp dp nn : Nat} {f f' : Nat → Int32} (A : own_B Z h a n f) (B : own_B Z h b n' f') (hn : n < 2 ^ 31) (hn' : n' < 2 ^ 31) (h4 : sp + nn ≤ n) (h5 : dp + nn ≤ n') {n0 : Nat} (N : Fr n0 locs) (ge : n0 ≤ b)
    {g : JFrame} (hg : g.method = m) (hsize : g.locals.size = c.maxLocals) {rest : List Value} (hs : g.stack = .int (Int32.ofNat nn) :: .int (Int32.ofNat dp) :: .ref b :: .int (Int32.ofNat sp) :: .ref a :: rest) (hd : decode c.code g.pc = .ok (.invokestatic index, 3))
    (hf : 1 ≤ R.frames) {W : Nat} (hW : 2 * g.monitorRoom + (rest.map fun v => v.category).sum ≤ W) (hlo : W + (nativeFrameWords "java/lang/System" "arraycopy" 5 + 11) ≤ R.locals) :
    ∃ T' h' L, Stand p l e R s m args below meth c T' L cells slots ∧ T'.heap = h' ∧ Fr n0 L ∧ Keep h h' [b] ∧ own_B Z h' b n' (fun j => if dp ≤ j ∧ j < dp + nn then f (sp + (j - dp)) else f' j) ∧
      ∀ target, Steps p.tables e below (T'.setTop { g with pc := g.pc + 3, stack := rest }) target → Steps p.tables e below (T.setTop g) target := by
  obtain ⟨k, A'⟩ := own_B_arv A hn
  obtain ⟨k', B'⟩ := own_B_arv B hn'
  have c1 : (Int32.ofNat sp).toNatClampNeg = sp := clamp_of rfl (by omega)
  have c2 : (Int32.ofNat dp).toNatClampNeg = dp := clamp_of rfl (by omega)
  have c3 : (Int32.ofNat nn).toNatClampNeg = nn := clamp_of rfl (by omega)
  have c4 : (Int32.ofNat n).toNatClampNeg = n := clamp_of rfl hn
  have c5 : (Int32.ofNat n').toNatClampNeg = n' := clamp_of rfl hn'
  obtain ⟨T', h', L, X', e', N', K, C, st⟩ := cpA X hx hZ hown w1 w2 w3 w4 eT A' B' (Or.inl ⟨rfl, rfl⟩) (own_nneg (by omega)) (own_nneg (by omega)) (own_nneg (by omega)) (by rw [c1, c3, c4]; exact h4) (by rw [c2, c3, c5]; exact h5) rfl (by rw [c2, c3, own_vals_len]; exact h5) N ge hg hsize hs hd hf hW hlo
  refine ⟨T', h', L, X', e', N', K, own_B_of C (by obtain ⟨_, _, _, _, _, E⟩ := B; exact E.keep K) hn' ?_, st⟩
  intro j hj
  rw [c1, c2, c3]
  rw [List.getD_eq_getElem?_getD]
  by_cases q1 : j < dp
  · rw [if_neg (by omega), List.append_assoc, List.getElem?_append_left (by rw [List.length_take, own_vals_len]; omega), List.getElem?_take_of_lt q1, ← List.getD_eq_getElem?_getD, own_vals_at _ _ hj]
  · by_cases q2 : j < dp + nn
    · rw [if_pos ⟨by omega, q2⟩, List.append_assoc, List.getElem?_append_right (by rw [List.length_take, own_vals_len]; omega), List.getElem?_append_left (by rw [List.length_map, List.length_range, List.length_take, own_vals_len]; omega)]
      have q3 : j - (List.take dp (own_vals f' n')).length = j - dp := by rw [List.length_take, own_vals_len]; omega
      rw [q3, List.getElem?_map, List.getElem?_range (by omega)]
      show (own_vals f n).getD (sp + (j - dp)) (.int 0) = _
      exact own_vals_at _ _ (by omega)
    · rw [if_neg (by omega), List.getElem?_append_right (by rw [List.length_append, List.length_map, List.length_range, List.length_take, own_vals_len]; omega)]
      have q3 : j - (List.take dp (own_vals f' n') ++ List.map (fun i => (own_vals f n).getD (sp + i) (.int 0)) (List.range nn)).length = j - (dp + nn) := by rw [List.length_append, List.length_map, List.length_range, List.length_take, own_vals_len]; omega
      rw [q3, List.getElem?_drop, show dp + nn + (j - (dp + nn)) = j by omega, ← List.getD_eq_getElem?_getD, own_vals_at _ _ hj]

def own_cut (f : Nat → Int32) (n : Nat) : Nat → Int32 := fun j => if j < n then f j else 0
theorem own_sel {Z : State} {a0 : Array Value} {y : MethodName} {n : Nat} (hy : y.cls ≠ "java/lang/invoke/MethodHandle" ∧ y.cls ≠ "java/lang/invoke/VarHandle") (hins : (Cond.instantiable y.cls n).before a0 Z = true) (hpriv : (Cond.privateMethod y).before a0 Z = true) (hinst : (Cond.instanceMethod y).before a0 Z = true) : (Cond.selects y.cls y y).before a0 Z = true := by
  obtain ⟨c, k, hc, hk, -, hniab, -, -⟩ := Cond.instantiable_spec hins
  have hni : k.isInterface = false := (Bool.or_eq_false_iff.mp hniab).1
  obtain ⟨mk, methM, hnamed, hmethM, -, -⟩ := Cond.instanceMethod_spec hinst
  have hfound : Z.methodFound? y.cls y.name y.desc = some mk := State.methodFound?_of_named hnamed hy
  have hcls : mk.cls = c := Option.some.inj ((findClass_of_methodNamed hnamed).symm.trans hc)
  have hsel : selectMethod {} Z.vm c mk = .method mk := selectMethod_private hmethM (Cond.privateMethod_at hpriv mk methM hnamed hmethM)
  simp only [Cond.before, Cond.holds, Cond.value, hc, hfound, hnamed, hsel, hcls, hk]
  simp; exact hni
theorem ef_5 (m : MethodId) (x0 : Int32) (x1 : Int32) : entryFrame m #[(.int x0), (.int x1)] 2 = mkF m 0 #[.val (.int x0), .val (.int x1)] [] := by first | (simp [entryFrame, mkF, argsToLocals, Value.category]; done) | rfl
theorem d5_0 : decode jdk_29_method_69_code 0 = .ok (.iload_n 0, 1) := by decide +kernel
theorem d5_1 : decode jdk_29_method_69_code 1 = .ok (.iload_n 1, 1) := by decide +kernel
theorem d5_2 : decode jdk_29_method_69_code 2 = .ok (.if_icmp .gt 7, 3) := by decide +kernel
theorem d5_9 : decode jdk_29_method_69_code 9 = .ok (.iload_n 1, 1) := by decide +kernel
theorem d5_10 : decode jdk_29_method_69_code 10 = .ok (.ireturn, 1) := by decide +kernel
theorem d5_5 : decode jdk_29_method_69_code 5 = .ok (.iload_n 0, 1) := by decide +kernel
theorem d5_6 : decode jdk_29_method_69_code 6 = .ok (.goto 4, 3) := by decide +kernel
def own_min (p1 : Int32) (p2 : Int32) : Int32 := if p2 < p1 then (p2) else (p1)
def Q5 (Z : State) (p1 : Int32) (p2 : Int32) (h0 : Heap) (n0 : Nat) (v : Option Value) (h : Heap) (L : List Loc) : Prop := v = some (.int (own_min p1 p2)) ∧ Fr n0 L ∧ h = h0
set_option maxRecDepth 65536 in
set_option maxHeartbeats 40000000 in
theorem rm5 (l : Launch) (Z : State) (a0 : Array Value) (hw : ∀ d ∈ tables_1, d.before a0 Z = true) (ws : List Jvm.Cond) (p1 : Int32) (p2 : Int32) (h0 : Heap) (n0 : Nat) (Z0 : n0 ≤ h0.size) :
    MetFree l (⟨"java/lang/Math", "min", "(II)I"⟩ : MethodName) (head1 (Jvm.Cond.code (⟨"java/lang/Math", "min", "(II)I"⟩ : MethodName) jdk_29_method_69_code 2 (some .int) :: ws) ({ frames := 0, cells := 0, slots := 0, locals := 0 } : Room)) (fun aa_ U => aa_ = #[(.int p1), (.int p2)] ∧ Z.Warmed39 U.vm ∧ U.heap = h0) (fun _ _ _ _ _ => True) (fun _ U o U' => ∃ v_ L_, o = .returned v_ ∧ Q5 Z p1 p2 h0 n0 v_ U'.heap L_ ∧ FrameEnd U o U' L_ ({ frames := 0, cells := 0, slots := 0, locals := 0 } : Room).cells ({ frames := 0, cells := 0, slots := 0, locals := 0 } : Room).slots) := by
  refine MetFree.of_bodySF (Jvm.Free.JP.mathPlain rfl (by decide +kernel)) hisR ?_
  intro p e s m args below meth c s₁ Bd hml0 hP hK
  obtain ⟨rfl, hZ, hh⟩ := hP
  have hx := Bd.exec
  have hby := Bd.bytes
  have hml : c.maxLocals = 2 := hml0
  have hown : s.vm.findClass "java/lang/Math" = some m.cls := findClass_of_methodNamed Bd.named
  have hnm := (name_of_methodNamed Bd.named Bd.method).1
  have X0 : Stand p l e ({ frames := 0, cells := 0, slots := 0, locals := 0 } : Room) s m #[(.int p1), (.int p2)] below meth c s₁ [] 0 0 := Stand.of_body Bd
  have e0 : s₁.heap = h0 := by rw [← hh, Bd.state]; rfl
  have N0 := Fr.nil n0
  have pre0 : ∀ t, Steps p.tables e below (s₁.setTop (mkF m 0 #[.val (.int p1), .val (.int p2)] [])) t → Steps p.tables e below (s₁.setTop (entryFrame m #[(.int p1), (.int p2)] 2)) t := fun t k_ => castTop (ef_5 m p1 p2) k_
  have pre1 : ∀ t, Steps p.tables e below (s₁.setTop (mkF m 2 #[.val (.int p1), .val (.int p2)] [(.int p2), (.int p1)])) t → Steps p.tables e below _ t := fun t kt => pre0 t (by
    show Steps p.tables e below (s₁.setTop (mkF m 0 #[.val (.int p1), .val (.int p2)] [])) _
    refine XS.iloadN X0.here hx rfl (hb hby d5_0) rfl ?_
    refine XS.iloadN X0.here hx rfl (hb hby d5_1) rfl ?_
    exact kt)
  by_cases hc2 : p2 < p1
  · obtain ⟨fs, hr, hrun, hended, hW, hsame⟩ := X0.leave (v := some (.int p2)) (fun h => by rw [Bd.returns] at h; cases h)
    refine ⟨_, _, pre1 _ ?_, hrun, hended, _, _, rfl, ?_, ⟨_, rfl⟩, hW, hsame.mono (by decide) (by decide)⟩
    · show Steps p.tables e below (s₁.setTop (mkF m 2 #[.val (.int p1), .val (.int p2)] [(.int p2), (.int p1)])) _
      refine XS.icmpYes X0.here hx rfl (pc0 := 2) (pc' := 9) rfl (hb hby d5_2) rfl (tlt hc2).2.2.1 (by decide) (by decide) ?_
      refine XS.iloadN X0.here hx rfl (hb hby d5_9) rfl ?_
      show Steps p.tables e below (s₁.setTop (mkF m 10 #[.val (.int p1), .val (.int p2)] [(.int p2)])) _
      exact retI X0 hx Bd.returns (hb hby d5_10) hr
    · show Q5 Z p1 p2 h0 n0 _ s₁.heap _
      rw [e0]
      exact ⟨by simp only [own_min, if_pos hc2], N0, rfl⟩
  · obtain ⟨fs, hr, hrun, hended, hW, hsame⟩ := X0.leave (v := some (.int p1)) (fun h => by rw [Bd.returns] at h; cases h)
    refine ⟨_, _, pre1 _ ?_, hrun, hended, _, _, rfl, ?_, ⟨_, rfl⟩, hW, hsame.mono (by decide) (by decide)⟩
    · show Steps p.tables e below (s₁.setTop (mkF m 2 #[.val (.int p1), .val (.int p2)] [(.int p2), (.int p1)])) _
      refine XS.icmpNo X0.here hx rfl (hb hby d5_2) rfl (flt hc2).2.2.1 ?_
      refine XS.iloadN X0.here hx rfl (hb hby d5_5) rfl ?_
      refine XS.goto X0.here hx rfl (pc0 := 6) (pc' := 10) rfl (hb hby d5_6) (by decide) (by decide) ?_
      show Steps p.tables e below (s₁.setTop (mkF m 10 #[.val (.int p1), .val (.int p2)] [(.int p1)])) _
      exact retI X0 hx Bd.returns (hb hby d5_10) hr
    · show Q5 Z p1 p2 h0 n0 _ s₁.heap _
      rw [e0]
      exact ⟨by simp only [own_min, if_neg hc2], N0, rfl⟩
theorem ef_13 (m : MethodId) (x0 : Int32) (x1 : Int32) : entryFrame m #[(.int x0), (.int x1)] 2 = mkF m 0 #[.val (.int x0), .val (.int x1)] [] := by first | (simp [entryFrame, mkF, argsToLocals, Value.category]; done) | rfl
theorem d13_0 : decode jdk_29_method_65_code 0 = .ok (.iload_n 0, 1) := by decide +kernel
theorem d13_1 : decode jdk_29_method_65_code 1 = .ok (.iload_n 1, 1) := by decide +kernel
theorem d13_2 : decode jdk_29_method_65_code 2 = .ok (.if_icmp .lt 7, 3) := by decide +kernel
theorem d13_9 : decode jdk_29_method_65_code 9 = .ok (.iload_n 1, 1) := by decide +kernel
theorem d13_10 : decode jdk_29_method_65_code 10 = .ok (.ireturn, 1) := by decide +kernel
theorem d13_5 : decode jdk_29_method_65_code 5 = .ok (.iload_n 0, 1) := by decide +kernel
theorem d13_6 : decode jdk_29_method_65_code 6 = .ok (.goto 4, 3) := by decide +kernel
def own_max (p1 : Int32) (p2 : Int32) : Int32 := if p1 < p2 then (p2) else (p1)
def Q13 (Z : State) (p1 : Int32) (p2 : Int32) (h0 : Heap) (n0 : Nat) (v : Option Value) (h : Heap) (L : List Loc) : Prop := v = some (.int (own_max p1 p2)) ∧ Fr n0 L ∧ h = h0
set_option maxRecDepth 65536 in
set_option maxHeartbeats 40000000 in
theorem rm13 (l : Launch) (Z : State) (a0 : Array Value) (hw : ∀ d ∈ tables_1, d.before a0 Z = true) (ws : List Jvm.Cond) (p1 : Int32) (p2 : Int32) (h0 : Heap) (n0 : Nat) (Z0 : n0 ≤ h0.size) :
    MetFree l (⟨"java/lang/Math", "max", "(II)I"⟩ : MethodName) (head1 (Jvm.Cond.code (⟨"java/lang/Math", "max", "(II)I"⟩ : MethodName) jdk_29_method_65_code 2 (some .int) :: ws) ({ frames := 0, cells := 0, slots := 0, locals := 0 } : Room)) (fun aa_ U => aa_ = #[(.int p1), (.int p2)] ∧ Z.Warmed39 U.vm ∧ U.heap = h0) (fun _ _ _ _ _ => True) (fun _ U o U' => ∃ v_ L_, o = .returned v_ ∧ Q13 Z p1 p2 h0 n0 v_ U'.heap L_ ∧ FrameEnd U o U' L_ ({ frames := 0, cells := 0, slots := 0, locals := 0 } : Room).cells ({ frames := 0, cells := 0, slots := 0, locals := 0 } : Room).slots) := by
  refine MetFree.of_bodySF (Jvm.Free.JP.mathPlain rfl (by decide +kernel)) hisR ?_
  intro p e s m args below meth c s₁ Bd hml0 hP hK
  obtain ⟨rfl, hZ, hh⟩ := hP
  have hx := Bd.exec
  have hby := Bd.bytes
  have hml : c.maxLocals = 2 := hml0
  have hown : s.vm.findClass "java/lang/Math" = some m.cls := findClass_of_methodNamed Bd.named
  have hnm := (name_of_methodNamed Bd.named Bd.method).1
  have X0 : Stand p l e ({ frames := 0, cells := 0, slots := 0, locals := 0 } : Room) s m #[(.int p1), (.int p2)] below meth c s₁ [] 0 0 := Stand.of_body Bd
  have e0 : s₁.heap = h0 := by rw [← hh, Bd.state]; rfl
  have N0 := Fr.nil n0
  have pre0 : ∀ t, Steps p.tables e below (s₁.setTop (mkF m 0 #[.val (.int p1), .val (.int p2)] [])) t → Steps p.tables e below (s₁.setTop (entryFrame m #[(.int p1), (.int p2)] 2)) t := fun t k_ => castTop (ef_13 m p1 p2) k_
  have pre1 : ∀ t, Steps p.tables e below (s₁.setTop (mkF m 2 #[.val (.int p1), .val (.int p2)] [(.int p2), (.int p1)])) t → Steps p.tables e below _ t := fun t kt => pre0 t (by
    show Steps p.tables e below (s₁.setTop (mkF m 0 #[.val (.int p1), .val (.int p2)] [])) _
    refine XS.iloadN X0.here hx rfl (hb hby d13_0) rfl ?_
    refine XS.iloadN X0.here hx rfl (hb hby d13_1) rfl ?_
    exact kt)
  by_cases hc2 : p1 < p2
  · obtain ⟨fs, hr, hrun, hended, hW, hsame⟩ := X0.leave (v := some (.int p2)) (fun h => by rw [Bd.returns] at h; cases h)
    refine ⟨_, _, pre1 _ ?_, hrun, hended, _, _, rfl, ?_, ⟨_, rfl⟩, hW, hsame.mono (by decide) (by decide)⟩
    · show Steps p.tables e below (s₁.setTop (mkF m 2 #[.val (.int p1), .val (.int p2)] [(.int p2), (.int p1)])) _
      refine XS.icmpYes X0.here hx rfl (pc0 := 2) (pc' := 9) rfl (hb hby d13_2) rfl (tlt hc2).1 (by decide) (by decide) ?_
      refine XS.iloadN X0.here hx rfl (hb hby d13_9) rfl ?_
      show Steps p.tables e below (s₁.setTop (mkF m 10 #[.val (.int p1), .val (.int p2)] [(.int p2)])) _
      exact retI X0 hx Bd.returns (hb hby d13_10) hr
    · show Q13 Z p1 p2 h0 n0 _ s₁.heap _
      rw [e0]
      exact ⟨by simp only [own_max, if_pos hc2], N0, rfl⟩
  · obtain ⟨fs, hr, hrun, hended, hW, hsame⟩ := X0.leave (v := some (.int p1)) (fun h => by rw [Bd.returns] at h; cases h)
    refine ⟨_, _, pre1 _ ?_, hrun, hended, _, _, rfl, ?_, ⟨_, rfl⟩, hW, hsame.mono (by decide) (by decide)⟩
    · show Steps p.tables e below (s₁.setTop (mkF m 2 #[.val (.int p1), .val (.int p2)] [(.int p2), (.int p1)])) _
      refine XS.icmpNo X0.here hx rfl (hb hby d13_2) rfl (flt hc2).1 ?_
      refine XS.iloadN X0.here hx rfl (hb hby d13_5) rfl ?_
      refine XS.goto X0.here hx rfl (pc0 := 6) (pc' := 10) rfl (hb hby d13_6) (by decide) (by decide) ?_
      show Steps p.tables e below (s₁.setTop (mkF m 10 #[.val (.int p1), .val (.int p2)] [(.int p1)])) _
      exact retI X0 hx Bd.returns (hb hby d13_10) hr
    · show Q13 Z p1 p2 h0 n0 _ s₁.heap _
      rw [e0]
      exact ⟨by simp only [own_max, if_neg hc2], N0, rfl⟩

theorem own_min_nat {a b : Nat} (ha : a < 2 ^ 31) (hb : b < 2 ^ 31) : own_min (Int32.ofNat a) (Int32.ofNat b) = Int32.ofNat (min a b) := by
  unfold own_min
  by_cases h : b < a
  · rw [if_pos (own_lt h ha), Nat.min_eq_right (Nat.le_of_lt h)]
  · rw [if_neg (own_nlt (by omega) hb), Nat.min_eq_left (by omega)]
theorem own_max_nat {a b : Nat} (ha : a < 2 ^ 31) (hb : b ≤ a) : own_max (Int32.ofNat a) (Int32.ofNat b) = Int32.ofNat a := by
  unfold own_max
  rw [if_neg (own_nlt hb ha)]
theorem pn_4 : plainName "java/util/Arrays" = true := by first | (simp [plainName, overriddenIn]; done) | decide +kernel
theorem ef_4 (m : MethodId) (x0 : Addr) (x1 : Int32) : entryFrame m #[(.ref x0), (.int x1)] 3 = mkF m 0 #[.val (.ref x0), .val (.int x1), .unset] [] := by first | (simp [entryFrame, mkF, argsToLocals, Value.category]; done) | rfl
theorem d4_0 : decode jdk_65_method_121_code 0 = .ok (.iload_n 1, 1) := by decide +kernel
theorem d4_1 : decode jdk_65_method_121_code 1 = .ok (.aload_n 0, 1) := by decide +kernel
theorem d4_2 : decode jdk_65_method_121_code 2 = .ok (.arraylength, 1) := by decide +kernel
theorem d4_3 : decode jdk_65_method_121_code 3 = .ok (.if_icmp .ne 11, 3) := by decide +kernel
theorem d4_6 : decode jdk_65_method_121_code 6 = .ok (.aload_n 0, 1) := by decide +kernel
theorem d4_7 : decode jdk_65_method_121_code 7 = .ok (.invokevirtual 310, 3) := by decide +kernel
theorem d4_10 : decode jdk_65_method_121_code 10 = .ok (.checkcast 311, 3) := by decide +kernel
theorem d4_13 : decode jdk_65_method_121_code 13 = .ok (.areturn, 1) := by decide +kernel
theorem d4_14 : decode jdk_65_method_121_code 14 = .ok (.iload_n 1, 1) := by decide +kernel
theorem d4_15 : decode jdk_65_method_121_code 15 = .ok (.newarray .byte, 2) := by decide +kernel
theorem d4_17 : decode jdk_65_method_121_code 17 = .ok (.astore_n 2, 1) := by decide +kernel
theorem d4_18 : decode jdk_65_method_121_code 18 = .ok (.aload_n 0, 1) := by decide +kernel
theorem d4_19 : decode jdk_65_method_121_code 19 = .ok (.iconst 0, 1) := by decide +kernel
theorem d4_20 : decode jdk_65_method_121_code 20 = .ok (.aload_n 2, 1) := by decide +kernel
theorem d4_21 : decode jdk_65_method_121_code 21 = .ok (.iconst 0, 1) := by decide +kernel
theorem d4_22 : decode jdk_65_method_121_code 22 = .ok (.aload_n 0, 1) := by decide +kernel
theorem d4_23 : decode jdk_65_method_121_code 23 = .ok (.arraylength, 1) := by decide +kernel
theorem d4_24 : decode jdk_65_method_121_code 24 = .ok (.iload_n 1, 1) := by decide +kernel
theorem pd_0 : parseMethodDescriptor "(II)I" = some ⟨[.int, .int], some .int⟩ := by decide +kernel
theorem d4_25 : decode jdk_65_method_121_code 25 = .ok (.invokestatic 304, 3) := by decide +kernel
theorem d4_28 : decode jdk_65_method_121_code 28 = .ok (.invokestatic 150, 3) := by decide +kernel
theorem d4_31 : decode jdk_65_method_121_code 31 = .ok (.aload_n 2, 1) := by decide +kernel
theorem d4_32 : decode jdk_65_method_121_code 32 = .ok (.areturn, 1) := by decide +kernel
def Q4 (Z : State) (n k : Nat) (f : Nat → Int32) (h0 : Heap) (n0 : Nat) (v : Option Value) (h : Heap) (L : List Loc) : Prop := ∃ b, v = some (.ref b) ∧ Fr n0 L ∧ Keep h0 h [] ∧ h0.size ≤ b ∧ own_B Z h b k (own_cut f n)
set_option maxRecDepth 65536 in
set_option maxHeartbeats 40000000 in
theorem rm4 (l : Launch) (Z : State) (a0 : Array Value) (hw : ∀ d ∈ tables_1, d.before a0 Z = true) (ws : List Jvm.Cond) (a1 : Addr) (n : Nat) (k : Nat) (f : Nat → Int32) (h0 : Heap) (n0 : Nat) (Z0 : n0 ≤ h0.size) (A : own_B Z h0 a1 n f) (hn : n ≤ 128) (hk : k ≤ 128) :
    MetFree l (⟨"java/util/Arrays", "copyOf", "([BI)[B"⟩ : MethodName) (head1 (Jvm.Cond.code (⟨"java/util/Arrays", "copyOf", "([BI)[B"⟩ : MethodName) jdk_65_method_121_code 3 (some (.array .byte)) :: ws) ({ frames := 1, cells := 1, slots := 128, locals := 40 } : Room)) (fun aa_ U => aa_ = #[(.ref a1), (.int (Int32.ofNat k))] ∧ Z.Warmed39 U.vm ∧ U.heap = h0) (fun _ _ _ _ _ => True) (fun _ U o U' => ∃ v_ L_, o = .returned v_ ∧ Q4 Z n k f h0 n0 v_ U'.heap L_ ∧ FrameEnd U o U' L_ ({ frames := 1, cells := 1, slots := 128, locals := 40 } : Room).cells ({ frames := 1, cells := 1, slots := 128, locals := 40 } : Room).slots) := by
  refine MetFree.of_bodySF (plainFor_of_name pn_4) hisR ?_
  intro p e s m args below meth c s₁ Bd hml0 hP hK
  obtain ⟨rfl, hZ, hh⟩ := hP
  have hx := Bd.exec
  have hby := Bd.bytes
  have hml : c.maxLocals = 3 := hml0
  have hown : s.vm.findClass "java/util/Arrays" = some m.cls := findClass_of_methodNamed Bd.named
  have hnm := (name_of_methodNamed Bd.named Bd.method).1
  have X0 : Stand p l e ({ frames := 1, cells := 1, slots := 128, locals := 40 } : Room) s m #[(.ref a1), (.int (Int32.ofNat k))] below meth c s₁ [] 0 0 := Stand.of_body Bd
  have e0 : s₁.heap = h0 := by rw [← hh, Bd.state]; rfl
  have N0 := Fr.nil n0
  have pre0 : ∀ t, Steps p.tables e below (s₁.setTop (mkF m 0 #[.val (.ref a1), .val (.int (Int32.ofNat k)), .unset] [])) t → Steps p.tables e below (s₁.setTop (entryFrame m #[(.ref a1), (.int (Int32.ofNat k))] 3)) t := fun t k_ => castTop (ef_4 m a1 (Int32.ofNat k)) k_
  obtain ⟨cl, Ar, Sz, Hf, Gf, Xf⟩ := id A
  have pre1 : ∀ t, Steps p.tables e below (s₁.setTop (mkF m 3 #[.val (.ref a1), .val (.int (Int32.ofNat k)), .unset] [(.int (Int32.ofNat n)), (.int (Int32.ofNat k))])) t → Steps p.tables e below _ t := fun t kt => pre0 t (by
    show Steps p.tables e below (s₁.setTop (mkF m 0 #[.val (.ref a1), .val (.int (Int32.ofNat k)), .unset] [])) _
    refine XS.iloadN X0.here hx rfl (hb hby d4_0) rfl ?_
    refine XS.aloadN X0.here hx rfl (hb hby d4_1) rfl rfl ?_
    refine X0.arraylength hx (by rw [e0]; exact Ar.1) (State.isArrayOf_alike hZ.alike Ar.2.1) (g := (mkF m 2 #[.val (.ref a1), .val (.int (Int32.ofNat k)), .unset] [(.ref a1), (.int (Int32.ofNat k))])) rfl rfl (hb hby d4_2) _ ?_
    rw [len_of (by rw [Sz, clamp_of (c := n) rfl (by omega)] : cl.slots.size = (Int32.ofNat n).toNatClampNeg) (own_nneg (by omega))]
    exact kt)
  by_cases hc3 : (Int32.ofNat k) = (Int32.ofNat n)
  · have pre2 : ∀ t, Steps p.tables e below (s₁.setTop (mkF m 7 #[.val (.ref a1), .val (.int (Int32.ofNat k)), .unset] [(.ref a1)])) t → Steps p.tables e below _ t := fun t kt => pre1 t (by
      show Steps p.tables e below (s₁.setTop (mkF m 3 #[.val (.ref a1), .val (.int (Int32.ofNat k)), .unset] [(.int (Int32.ofNat n)), (.int (Int32.ofNat k))])) _
      refine XS.icmpNo X0.here hx rfl (hb hby d4_3) rfl (teq hc3).2 ?_
      refine XS.aloadN X0.here hx rfl (hb hby d4_6) rfl rfl ?_
      exact kt)
    have hkn : k = n := Decidable.byContradiction fun q => own_ne q (by omega) (by omega) hc3
    have FC : FitC Z cl := fitC_of Ar fun i hi v hv => by rw [Hf i (by omega)] at hv; cases hv; exact Gf i (by omega)
    obtain ⟨T3, h3, X3, e3, E3, A3, Xa3, st3⟩ := cloneA X0 hx hZ hown (hw _ (List.mem_of_getElem? (i := 70) rfl)) (hw _ (List.mem_of_getElem? (i := 71) rfl)) (hw _ (List.mem_of_getElem? (i := 75) rfl)) (hw _ (List.mem_of_getElem? (i := 73) rfl)) (hw _ (List.mem_of_getElem? (i := 74) rfl)) (hw _ (List.mem_of_getElem? (i := 76) rfl)) e0 Ar Xf FC (g := (mkF m 7 #[.val (.ref a1), .val (.int (Int32.ofNat k)), .unset] [(.ref a1)])) rfl (by rw [hml]; rfl) rfl (hb hby d4_7) (by decide) (W := 0) (by show 2 * 0 + _ ≤ _; exact Nat.le_of_eq rfl) (by decide) (cap := 128) (by omega) (by decide) (by decide)
    obtain ⟨b3, gb3⟩ : ∃ z, z = h0.size := ⟨_, rfl⟩
    rw [← gb3] at A3 Xa3 st3
    have sz_b3 : h0.size ≤ b3 := Nat.le_trans (Keep.refl h0 []).1 (Nat.le_of_eq gb3.symm)
    have Kp3 : Keep h0 h3 [] := (Keep.refl h0 []).ext E3
    have B3 : own_B Z h3 b3 k (own_cut f n) := ⟨cloneOf cl, A3, by rw [hkn]; exact Sz, fun j hj => by rw [hkn] at hj; show cl.slots[j]? = _; rw [Hf j hj]; simp [own_cut, hj], fun j hj => by rw [hkn] at hj; have q := Gf j hj; simpa [own_cut, hj] using q, Xa3⟩
    have pre4 : ∀ t, Steps p.tables e below (T3.setTop (mkF m 10 #[.val (.ref a1), .val (.int (Int32.ofNat k)), .unset] [(.ref b3)])) t → Steps p.tables e below _ t := fun t kt => pre2 t (by
      show Steps p.tables e below (s₁.setTop (mkF m 7 #[.val (.ref a1), .val (.int (Int32.ofNat k)), .unset] [(.ref a1)])) _
      refine st3 _ ?_
      exact kt)
    obtain ⟨T5, X5, e5, st5⟩ := castY X3 hx hZ hown (hw _ (List.mem_of_getElem? (i := 77) rfl)) e3 (Ins.self Xa3) (g := (mkF m 10 #[.val (.ref a1), .val (.int (Int32.ofNat k)), .unset] [(.ref b3)])) rfl rfl (hb hby d4_10)
    obtain ⟨fs, hr, hrun, hended, hW, hsame⟩ := X5.leave (v := some (.ref b3)) (fun h => by rw [Bd.returns] at h; cases h)
    refine ⟨_, _, pre4 _ ?_, hrun, hended, _, _, rfl, ?_, ⟨_, rfl⟩, hW, hsame.mono (by decide) (by decide)⟩
    · show Steps p.tables e below (T3.setTop (mkF m 10 #[.val (.ref a1), .val (.int (Int32.ofNat k)), .unset] [(.ref b3)])) _
      refine st5 _ ?_
      show Steps p.tables e below (T5.setTop (mkF m 13 #[.val (.ref a1), .val (.int (Int32.ofNat k)), .unset] [(.ref b3)])) _
      jvm_step X5.here [X5.here.top, hx, (hb hby d4_13), X5.method', Bd.returns, Value.isRef, FieldType.isReference]
      first | (intro acts; rw [hr _ acts rfl rfl rfl]) | rw [hr _ _ rfl rfl rfl]
      exact Steps.refl _
    · show Q4 Z n k f h0 n0 _ T5.heap _
      rw [e5]
      exact ⟨b3, rfl, N0, Kp3, sz_b3, B3⟩
  · have pre6 : ∀ t, Steps p.tables e below (s₁.setTop (mkF m 15 #[.val (.ref a1), .val (.int (Int32.ofNat k)), .unset] [(.int (Int32.ofNat k))])) t → Steps p.tables e below _ t := fun t kt => pre1 t (by
      show Steps p.tables e below (s₁.setTop (mkF m 3 #[.val (.ref a1), .val (.int (Int32.ofNat k)), .unset] [(.int (Int32.ofNat n)), (.int (Int32.ofNat k))])) _
      refine XS.icmpYes X0.here hx rfl (pc0 := 3) (pc' := 14) rfl (hb hby d4_3) rfl (feq hc3).2 (by decide) (by decide) ?_
      refine XS.iloadN X0.here hx rfl (hb hby d4_14) rfl ?_
      exact kt)
    obtain ⟨T7, h7, k7, X7, e7, E7, A7, Xa7, st7⟩ := newPE X0 hx hZ (hw _ (List.mem_of_getElem? (i := 0) rfl)) e0 (g := (mkF m 15 #[.val (.ref a1), .val (.int (Int32.ofNat k)), .unset] [(.int (Int32.ofNat k))])) rfl (hb hby d4_15) rfl (own_nneg (by omega)) (cap := 128) (by rw [clamp_of (c := k) rfl (by omega)]; exact hk) (by decide) (by decide) (by decide) (ad := "[B") (by decide)
    obtain ⟨b7, gb7⟩ : ∃ z, z = h0.size := ⟨_, rfl⟩
    rw [← gb7] at A7 Xa7 st7
    have g_b7 : n0 ≤ b7 := Nat.le_trans Z0 (Nat.le_of_eq gb7.symm)
    have Zs7 : n0 ≤ h7.size := Nat.le_trans Z0 E7.1
    have sz_b7 : h0.size ≤ b7 := Nat.le_trans (Keep.refl h0 []).1 (Nat.le_of_eq gb7.symm)
    have Kp7 : Keep h0 h7 [] := (Keep.refl h0 []).ext E7
    have B7 : own_B Z h7 b7 k (fun _ => 0) := own_B_new A7 Xa7 (clamp_of (c := k) rfl (by omega))
    have Ar2 := Ar.ext E7
    have A2 : own_B Z h7 a1 n f := own_B_ext ⟨cl, Ar, Sz, Hf, Gf, Xf⟩ E7
    have pre8 : ∀ t, Steps p.tables e below (T7.setTop (mkF m 25 #[.val (.ref a1), .val (.int (Int32.ofNat k)), .val (.ref b7)] [(.int (Int32.ofNat k)), (.int (Int32.ofNat n)), (.int (0 : Int32)), (.ref b7), (.int (0 : Int32)), (.ref a1)])) t → Steps p.tables e below _ t := fun t kt => pre6 t (by
      show Steps p.tables e below (s₁.setTop (mkF m 15 #[.val (.ref a1), .val (.int (Int32.ofNat k)), .unset] [(.int (Int32.ofNat k))])) _
      refine st7 _ ?_
      refine XS.astoreN X7.here hx rfl (hb hby d4_17) rfl rfl (l' := #[.val (.ref a1), .val (.int (Int32.ofNat k)), .val (.ref b7)]) rfl ?_
      refine XS.aloadN X7.here hx rfl (hb hby d4_18) rfl rfl ?_
      show Steps p.tables e below (T7.setTop (mkF m 19 #[.val (.ref a1), .val (.int (Int32.ofNat k)), .val (.ref b7)] [(.ref a1)])) _
      refine XS.iconst X7.here hx rfl (hb hby d4_19) ?_
      refine XS.aloadN X7.here hx rfl (hb hby d4_20) rfl rfl ?_
      refine XS.iconst X7.here hx rfl (hb hby d4_21) ?_
      show Steps p.tables e below (T7.setTop (mkF m 22 #[.val (.ref a1), .val (.int (Int32.ofNat k)), .val (.ref b7)] [(.int (0 : Int32)), (.ref b7), (.int (0 : Int32)), (.ref a1)])) _
      refine XS.aloadN X7.here hx rfl (hb hby d4_22) rfl rfl ?_
      refine X7.arraylength hx (by rw [e7]; exact Ar2.1) (State.isArrayOf_alike hZ.alike Ar2.2.1) (g := (mkF m 23 #[.val (.ref a1), .val (.int (Int32.ofNat k)), .val (.ref b7)] [(.ref a1), (.int (0 : Int32)), (.ref b7), (.int (0 : Int32)), (.ref a1)])) rfl rfl (hb hby d4_23) _ ?_
      rw [len_of (by rw [Sz, clamp_of (c := n) rfl (by omega)] : cl.slots.size = (Int32.ofNat n).toNatClampNeg) (own_nneg (by omega))]
      refine XS.iloadN X7.here hx rfl (hb hby d4_24) rfl ?_
      exact kt)
    obtain ⟨_, _, ⟨T9, L9, k9, n9⟩, -, X9, ⟨Lc9, hQ9, l9, y9, z9⟩, st9⟩ := Jvm.LawKit.callS X7 hx (y := (⟨"java/lang/Math", "min", "(II)I"⟩ : MethodName)) hown (mvT hZ (hw _ (List.mem_of_getElem? (i := 23) rfl))) (mvT hZ (hw _ (List.mem_of_getElem? (i := 24) rfl))) (mvT hZ (hw _ (List.mem_of_getElem? (i := 25) rfl))) (mvT hZ (hw _ (List.mem_of_getElem? (i := 26) rfl))) (by decide) (backOf (W := 4) (rm5 l Z a0 hw [] (Int32.ofNat n) (Int32.ofNat k) h7 n0 Zs7) hZ (hw _ (List.mem_of_getElem? (i := 26) rfl)) (hw _ (List.mem_of_getElem? (i := 25) rfl)) (by decide) (by decide)) (g := (mkF m 25 #[.val (.ref a1), .val (.int (Int32.ofNat k)), .val (.ref b7)] [(.int (Int32.ofNat k)), (.int (Int32.ofNat n)), (.int (0 : Int32)), (.ref b7), (.int (0 : Int32)), (.ref a1)])) rfl (by rw [hml]; rfl) (argsL := [(.int (Int32.ofNat n)), (.int (Int32.ofNat k))]) (rest := [(.int (0 : Int32)), (.ref b7), (.int (0 : Int32)), (.ref a1)]) (lenOf pd_0 rfl) rfl (by show 2 * 0 + _ ≤ _; exact Nat.le_of_eq rfl) (hb hby d4_25) (fun _ _ => ⟨rfl, e7, (by decide : 1 + 0 ≤ _), (by decide : 128 + 0 ≤ _)⟩)
    dsimp only [Pt.U, Pt.locs, Pt.cells, Pt.slots] at X9 l9 y9 z9 st9 hQ9
    subst l9 y9 z9
    obtain ⟨rfl, N9q, e9⟩ := hQ9
    have N9 := Fr.app N0 N9q
    have pre10 : ∀ t, Steps p.tables e below (T9.setTop (mkF m 28 #[.val (.ref a1), .val (.int (Int32.ofNat k)), .val (.ref b7)] [(.int (own_min (Int32.ofNat n) (Int32.ofNat k))), (.int (0 : Int32)), (.ref b7), (.int (0 : Int32)), (.ref a1)])) t → Steps p.tables e below _ t := fun t kt => pre8 t (by
      show Steps p.tables e below (T7.setTop (mkF m 25 #[.val (.ref a1), .val (.int (Int32.ofNat k)), .val (.ref b7)] [(.int (Int32.ofNat k)), (.int (Int32.ofNat n)), (.int (0 : Int32)), (.ref b7), (.int (0 : Int32)), (.ref a1)])) _
      refine st9 _ ?_
      exact kt)
    have hv11 : (own_min (Int32.ofNat n) (Int32.ofNat k)) = (Int32.ofNat (min n k)) := own_min_nat (by omega) (by omega)
    rw [hv11] at pre10
    have hmn : min n k ≤ n ∧ min n k ≤ k := ⟨Nat.min_le_left _ _, Nat.min_le_right _ _⟩
    obtain ⟨T12, h12, L12, X12, e12, N12, Kc12, Bc12, st12⟩ := own_cp X9 hx hZ hown (hw _ (List.mem_of_getElem? (i := 27) rfl)) (hw _ (List.mem_of_getElem? (i := 30) rfl)) (hw _ (List.mem_of_getElem? (i := 28) rfl)) (hw _ (List.mem_of_getElem? (i := 29) rfl)) e9 A2 B7 (sp := 0) (dp := 0) (nn := min n k) (by omega) (by omega) (by omega) (by omega) N9 g_b7 (g := (mkF m 28 #[.val (.ref a1), .val (.int (Int32.ofNat k)), .val (.ref b7)] [(.int (Int32.ofNat (min n k))), (.int (0 : Int32)), (.ref b7), (.int (0 : Int32)), (.ref a1)])) rfl (by rw [hml]; rfl) rfl (hb hby d4_28) (by decide) (W := 0) (by show 2 * 0 + _ ≤ _; exact Nat.le_of_eq rfl) (by decide)
    have Kq : Keep h0 h12 [] := Kp7.trans Kc12 (allS (Or.inr sz_b7) all0)
    have B12 : own_B Z h12 b7 k (own_cut f n) := own_B_congr Bc12 fun j hj => by
      show (if 0 ≤ j ∧ j < 0 + min n k then f (0 + (j - 0)) else 0) = if j < n then f j else 0
      by_cases q : j < n
      · rw [if_pos q, if_pos ⟨Nat.zero_le _, by rw [Nat.zero_add, Nat.lt_min]; exact ⟨q, hj⟩⟩, Nat.zero_add, Nat.sub_zero]
      · rw [if_neg q, if_neg fun z => q (Nat.lt_of_lt_of_le z.2 (by rw [Nat.zero_add]; exact hmn.1))]
    obtain ⟨fs, hr, hrun, hended, hW, hsame⟩ := X12.leave (v := some (.ref b7)) (fun h => by rw [Bd.returns] at h; cases h)
    refine ⟨_, _, pre10 _ ?_, hrun, hended, _, _, rfl, ?_, ⟨_, rfl⟩, hW, hsame.mono (by decide) (by decide)⟩
    · show Steps p.tables e below (T9.setTop (mkF m 28 #[.val (.ref a1), .val (.int (Int32.ofNat k)), .val (.ref b7)] [(.int (Int32.ofNat (min n k))), (.int (0 : Int32)), (.ref b7), (.int (0 : Int32)), (.ref a1)])) _
      refine st12 _ ?_
      refine XS.aloadN X12.here hx rfl (hb hby d4_31) rfl rfl ?_
      show Steps p.tables e below (T12.setTop (mkF m 32 #[.val (.ref a1), .val (.int (Int32.ofNat k)), .val (.ref b7)] [(.ref b7)])) _
      jvm_step X12.here [X12.here.top, hx, (hb hby d4_32), X12.method', Bd.returns, Value.isRef, FieldType.isReference]
      first | (intro acts; rw [hr _ acts rfl rfl rfl]) | rw [hr _ _ rfl rfl rfl]
      exact Steps.refl _
    · show Q4 Z n k f h0 n0 _ T12.heap _
      rw [e12]
      exact ⟨b7, rfl, N12, Kq, sz_b7, B12⟩
theorem pn_1 : plainName "com/example/haulway/haulway/io/RecordOutput" = true := by first | (simp [plainName, overriddenIn]; done) | decide +kernel
theorem ef_1 (m : MethodId) (x0 : Addr) : entryFrame m #[(.ref x0)] 1 = mkF m 0 #[.val (.ref x0)] [] := by first | (simp [entryFrame, mkF, argsToLocals, Value.category]; done) | rfl
theorem d1_0 : decode prog_72_method_1_code 0 = .ok (.aload_n 0, 1) := by decide +kernel
theorem d1_1 : decode prog_72_method_1_code 1 = .ok (.invokespecial 1, 3) := by decide +kernel
theorem d1_4 : decode prog_72_method_1_code 4 = .ok (.aload_n 0, 1) := by decide +kernel
theorem d1_5 : decode prog_72_method_1_code 5 = .ok (.bipush 64, 2) := by decide +kernel
theorem d1_7 : decode prog_72_method_1_code 7 = .ok (.newarray .byte, 2) := by decide +kernel
theorem d1_9 : decode prog_72_method_1_code 9 = .ok (.putfield 7, 3) := by decide +kernel
theorem d1_12 : decode prog_72_method_1_code 12 = .ok (.return_, 1) := by decide +kernel
def Q1 (Z : State) (a1 : Addr) (h0 : Heap) (n0 : Nat) (v : Option Value) (h : Heap) (L : List Loc) : Prop := ∃ b, v = none ∧ Fr n0 L ∧ Keep h0 h [a1] ∧ h0.size ≤ b ∧ Exa Z h a1 "com/example/haulway/haulway/io/RecordOutput" ∧ Fld Z h a1 "com/example/haulway/haulway/io/RecordOutput" "bytes" "[B" (.ref b) ∧ Fld Z h a1 "com/example/haulway/haulway/io/RecordOutput" "length" "I" (.int (Int32.ofNat 0)) ∧ own_B Z h b 64 (fun _ => 0)
set_option maxRecDepth 65536 in
set_option maxHeartbeats 40000000 in
theorem rm1 (l : Launch) (Z : State) (a0 : Array Value) (hw : ∀ d ∈ tables_1, d.before a0 Z = true) (ws : List Jvm.Cond) (a1 : Addr) (h0 : Heap) (n0 : Nat) (Z0 : n0 ≤ h0.size) (F1 : Fld Z h0 a1 "com/example/haulway/haulway/io/RecordOutput" "bytes" "[B" .null) (F2 : Fld Z h0 a1 "com/example/haulway/haulway/io/RecordOutput" "length" "I" (.int (0 : Int32))) (E1 : Exa Z h0 a1 "com/example/haulway/haulway/io/RecordOutput") (g1 : n0 ≤ a1) :
    MetFree l (⟨"com/example/haulway/haulway/io/RecordOutput", "<init>", "()V"⟩ : MethodName) (head1 (Jvm.Cond.code (⟨"com/example/haulway/haulway/io/RecordOutput", "<init>", "()V"⟩ : MethodName) prog_72_method_1_code 1 none :: ws) ({ frames := 1, cells := 1, slots := 64, locals := 12 } : Room)) (fun aa_ U => aa_ = #[(.ref a1)] ∧ Z.Warmed39 U.vm ∧ U.heap = h0) (fun _ _ _ _ _ => True) (fun _ U o U' => ∃ v_ L_, o = .returned v_ ∧ Q1 Z a1 h0 n0 v_ U'.heap L_ ∧ FrameEnd U o U' L_ ({ frames := 1, cells := 1, slots := 64, locals := 12 } : Room).cells ({ frames := 1, cells := 1, slots := 64, locals := 12 } : Room).slots) := by
  refine MetFree.of_bodySF (plainFor_of_name pn_1) hisR ?_
  intro p e s m args below meth c s₁ Bd hml0 hP hK
  obtain ⟨rfl, hZ, hh⟩ := hP
  have hx := Bd.exec
  have hby := Bd.bytes
  have hml : c.maxLocals = 1 := hml0
  have hown : s.vm.findClass "com/example/haulway/haulway/io/RecordOutput" = some m.cls := findClass_of_methodNamed Bd.named
  have hnm := (name_of_methodNamed Bd.named Bd.method).1
  have X0 : Stand p l e ({ frames := 1, cells := 1, slots := 64, locals := 12 } : Room) s m #[(.ref a1)] below meth c s₁ [] 0 0 := Stand.of_body Bd
  have e0 : s₁.heap = h0 := by rw [← hh, Bd.state]; rfl
  have N0 := Fr.nil n0
  have pre0 : ∀ t, Steps p.tables e below (s₁.setTop (mkF m 0 #[.val (.ref a1)] [])) t → Steps p.tables e below (s₁.setTop (entryFrame m #[(.ref a1)] 1)) t := fun t k_ => castTop (ef_1 m a1) k_
  have pre1 : ∀ t, Steps p.tables e below (s₁.setTop (mkF m 1 #[.val (.ref a1)] [(.ref a1)])) t → Steps p.tables e below _ t := fun t kt => pre0 t (by
    show Steps p.tables e below (s₁.setTop (mkF m 0 #[.val (.ref a1)] [])) _
    refine XS.aloadN X0.here hx rfl (hb hby d1_0) rfl rfl ?_
    exact kt)
  obtain ⟨T2, X2, e2, st2⟩ := initO X0 hx hZ hown (hw _ (List.mem_of_getElem? (i := 7) rfl)) (hw _ (List.mem_of_getElem? (i := 8) rfl)) (hw _ (List.mem_of_getElem? (i := 9) rfl)) e0 (g := (mkF m 1 #[.val (.ref a1)] [(.ref a1)])) rfl (by rw [hml]; rfl) rfl (hb hby d1_1) (by decide) (W := 0) (by show 2 * 0 + _ ≤ _; exact Nat.le_of_eq rfl) (by decide)
  have pre3 : ∀ t, Steps p.tables e below (T2.setTop (mkF m 7 #[.val (.ref a1)] [(.int (64 : Int32)), (.ref a1)])) t → Steps p.tables e below _ t := fun t kt => pre1 t (by
    show Steps p.tables e below (s₁.setTop (mkF m 1 #[.val (.ref a1)] [(.ref a1)])) _
    refine st2 _ ?_
    refine XS.aloadN X2.here hx rfl (hb hby d1_4) rfl rfl ?_
    refine XS.bipush X2.here hx rfl (hb hby d1_5) ?_
    exact kt)
  obtain ⟨T4, h4, k4, X4, e4, E4, A4, Xa4, st4⟩ := newPE X2 hx hZ (hw _ (List.mem_of_getElem? (i := 0) rfl)) e2 (g := (mkF m 7 #[.val (.ref a1)] [(.int (64 : Int32)), (.ref a1)])) rfl (hb hby d1_7) rfl (by decide) (cap := 64) (by decide) (by decide) (by decide) (by decide) (ad := "[B") (by decide)
  obtain ⟨b4, gb4⟩ : ∃ z, z = h0.size := ⟨_, rfl⟩
  rw [← gb4] at A4 Xa4 st4
  have g_b4 : n0 ≤ b4 := Nat.le_trans Z0 (Nat.le_of_eq gb4.symm)
  have Zs4 : n0 ≤ h4.size := Nat.le_trans Z0 E4.1
  have sz_b4 : h0.size ≤ b4 := Nat.le_trans (Keep.refl h0 [a1]).1 (Nat.le_of_eq gb4.symm)
  have Kp4 : Keep h0 h4 [a1] := (Keep.refl h0 [a1]).ext E4
  have B64 : own_B Z h4 b4 64 (fun _ => 0) := own_B_new A4 Xa4 rfl
  have pre5 : ∀ t, Steps p.tables e below (T4.setTop (mkF m 9 #[.val (.ref a1)] [(.ref b4), (.ref a1)])) t → Steps p.tables e below _ t := fun t kt => pre3 t (by
    show Steps p.tables e below (T2.setTop (mkF m 7 #[.val (.ref a1)] [(.int (64 : Int32)), (.ref a1)])) _
    refine st4 _ ?_
    exact kt)
  obtain ⟨T6, h6, X6, e6, W6, st6⟩ := putF X4 hx hZ hown (host := "") (Or.inl (hw _ (List.mem_of_getElem? (i := 10) rfl))) Via.refl e4 (F1.ext E4) (E1.ext E4) (Or.inl (hw _ (List.mem_of_getElem? (i := 11) rfl))) (hw _ (List.mem_of_getElem? (i := 2) rfl)) (ty := (.array .byte)) (by decide) rfl rfl (g := (mkF m 9 #[.val (.ref a1)] [(.ref b4), (.ref a1)])) rfl rfl (hb hby d1_9)
  have Fw6 := (F1.ext E4).same W6
  have N6 := Fr.snoc X6 N0 g1
  have Zs6 : n0 ≤ h6.size := Nat.le_trans Zs4 (Nat.le_of_eq W6.size.symm)
  have Kp6 : Keep h0 h6 [a1] := Kp4.wr W6 (Or.inl (List.mem_of_getElem? (i := 0) rfl))
  have Ex := (E1.ext E4).wr W6
  have Fl := ((F2.ext E4).other W6 (Or.inr (slot_ne (Or.inl (hw _ (List.mem_of_getElem? (i := 18) rfl))) (Or.inl (hw _ (List.mem_of_getElem? (i := 11) rfl))) (by decide) (t := .int) (t' := (.array .byte)) (by decide) (by decide))))
  have Bb := own_B_other B64 W6 (Nat.ne_of_gt (Nat.lt_of_lt_of_le E1.lt sz_b4))
  obtain ⟨fs, hr, hrun, hended, hW, hsame⟩ := X6.leave (v := none) (fun _ => rfl)
  refine ⟨_, _, pre5 _ ?_, hrun, hended, _, _, rfl, ?_, ⟨_, rfl⟩, hW, hsame.mono (by decide) (by decide)⟩
  · show Steps p.tables e below (T4.setTop (mkF m 9 #[.val (.ref a1)] [(.ref b4), (.ref a1)])) _
    refine st6 _ ?_
    show Steps p.tables e below (T6.setTop (mkF m 12 #[.val (.ref a1)] [])) _
    exact X6.returnOut hx Bd.returns (hb hby d1_12) hr
  · show Q1 Z a1 h0 n0 _ T6.heap _
    rw [e6]
    exact ⟨b4, rfl, N6, Kp6, sz_b4, Ex, Fw6, Fl, Bb⟩
theorem pn_3 : plainName "com/example/haulway/haulway/io/RecordOutput" = true := by first | (simp [plainName, overriddenIn]; done) | decide +kernel
theorem ef_3 (m : MethodId) (x0 : Addr) : entryFrame m #[(.ref x0)] 1 = mkF m 0 #[.val (.ref x0)] [] := by first | (simp [entryFrame, mkF, argsToLocals, Value.category]; done) | rfl
theorem d3_0 : decode prog_72_method_8_code 0 = .ok (.aload_n 0, 1) := by decide +kernel
theorem d3_1 : decode prog_72_method_8_code 1 = .ok (.getfield 7, 3) := by decide +kernel
theorem d3_4 : decode prog_72_method_8_code 4 = .ok (.aload_n 0, 1) := by decide +kernel
theorem d3_5 : decode prog_72_method_8_code 5 = .ok (.getfield 30, 3) := by decide +kernel
theorem pd_1 : parseMethodDescriptor "([BI)[B" = some ⟨[(.array .byte), .int], some (.array .byte)⟩ := by decide +kernel
theorem d3_8 : decode prog_72_method_8_code 8 = .ok (.invokestatic 62, 3) := by decide +kernel
theorem d3_11 : decode prog_72_method_8_code 11 = .ok (.areturn, 1) := by decide +kernel
def Q3 (Z : State) (len : Nat) (f : Nat → Int32) (h0 : Heap) (n0 : Nat) (v : Option Value) (h : Heap) (L : List Loc) : Prop := ∃ b, v = some (.ref b) ∧ Fr n0 L ∧ Keep h0 h [] ∧ h0.size ≤ b ∧ own_B Z h b len f
set_option maxRecDepth 65536 in
set_option maxHeartbeats 40000000 in
theorem rm3 (l : Launch) (Z : State) (a0 : Array Value) (hw : ∀ d ∈ tables_1, d.before a0 Z = true) (ws : List Jvm.Cond) (a1 : Addr) (bb : Addr) (cap : Nat) (len : Nat) (f : Nat → Int32) (h0 : Heap) (n0 : Nat) (Z0 : n0 ≤ h0.size) (E1 : Exa Z h0 a1 "com/example/haulway/haulway/io/RecordOutput") (F1 : Fld Z h0 a1 "com/example/haulway/haulway/io/RecordOutput" "bytes" "[B" (.ref bb)) (F2 : Fld Z h0 a1 "com/example/haulway/haulway/io/RecordOutput" "length" "I" (.int (Int32.ofNat len))) (B1 : own_B Z h0 bb cap f) (hcap : cap ≤ 128) (hl : len ≤ cap) :
    MetFree l (⟨"com/example/haulway/haulway/io/RecordOutput", "toBytes", "()[B"⟩ : MethodName) (head1 (Jvm.Cond.code (⟨"com/example/haulway/haulway/io/RecordOutput", "toBytes", "()[B"⟩ : MethodName) prog_72_method_8_code 1 (some (.array .byte)) :: ws) ({ frames := 2, cells := 1, slots := 128, locals := 54 } : Room)) (fun aa_ U => aa_ = #[(.ref a1)] ∧ Z.Warmed39 U.vm ∧ U.heap = h0) (fun _ _ _ _ _ => True) (fun _ U o U' => ∃ v_ L_, o = .returned v_ ∧ Q3 Z len f h0 n0 v_ U'.heap L_ ∧ FrameEnd U o U' L_ ({ frames := 2, cells := 1, slots := 128, locals := 54 } : Room).cells ({ frames := 2, cells := 1, slots := 128, locals := 54 } : Room).slots) := by
  refine MetFree.of_bodySF (plainFor_of_name pn_3) hisR ?_
  intro p e s m args below meth c s₁ Bd hml0 hP hK
  obtain ⟨rfl, hZ, hh⟩ := hP
  have hx := Bd.exec
  have hby := Bd.bytes
  have hml : c.maxLocals = 1 := hml0
  have hown : s.vm.findClass "com/example/haulway/haulway/io/RecordOutput" = some m.cls := findClass_of_methodNamed Bd.named
  have hnm := (name_of_methodNamed Bd.named Bd.method).1
  have X0 : Stand p l e ({ frames := 2, cells := 1, slots := 128, locals := 54 } : Room) s m #[(.ref a1)] below meth c s₁ [] 0 0 := Stand.of_body Bd
  have e0 : s₁.heap = h0 := by rw [← hh, Bd.state]; rfl
  have N0 := Fr.nil n0
  have pre0 : ∀ t, Steps p.tables e below (s₁.setTop (mkF m 0 #[.val (.ref a1)] [])) t → Steps p.tables e below (s₁.setTop (entryFrame m #[(.ref a1)] 1)) t := fun t k_ => castTop (ef_3 m a1) k_
  have pre1 : ∀ t, Steps p.tables e below (s₁.setTop (mkF m 1 #[.val (.ref a1)] [(.ref a1)])) t → Steps p.tables e below _ t := fun t kt => pre0 t (by
    show Steps p.tables e below (s₁.setTop (mkF m 0 #[.val (.ref a1)] [])) _
    refine XS.aloadN X0.here hx rfl (hb hby d3_0) rfl rfl ?_
    exact kt)
  obtain ⟨T2, X2, e2, st2⟩ := getF X0 hx hZ hown (host := "") (Or.inl (hw _ (List.mem_of_getElem? (i := 10) rfl))) Via.refl e0 F1 (g := (mkF m 1 #[.val (.ref a1)] [(.ref a1)])) rfl rfl (hb hby d3_1)
  have pre3 : ∀ t, Steps p.tables e below (T2.setTop (mkF m 5 #[.val (.ref a1)] [(.ref a1), (.ref bb)])) t → Steps p.tables e below _ t := fun t kt => pre1 t (by
    show Steps p.tables e below (s₁.setTop (mkF m 1 #[.val (.ref a1)] [(.ref a1)])) _
    refine st2 _ ?_
    refine XS.aloadN X2.here hx rfl (hb hby d3_4) rfl rfl ?_
    exact kt)
  obtain ⟨T4, X4, e4, st4⟩ := getF X2 hx hZ hown (host := "") (Or.inl (hw _ (List.mem_of_getElem? (i := 17) rfl))) Via.refl e2 F2 (g := (mkF m 5 #[.val (.ref a1)] [(.ref a1), (.ref bb)])) rfl rfl (hb hby d3_5)
  have pre5 : ∀ t, Steps p.tables e below (T4.setTop (mkF m 8 #[.val (.ref a1)] [(.int (Int32.ofNat len)), (.ref bb)])) t → Steps p.tables e below _ t := fun t kt => pre3 t (by
    show Steps p.tables e below (T2.setTop (mkF m 5 #[.val (.ref a1)] [(.ref a1), (.ref bb)])) _
    refine st4 _ ?_
    exact kt)
  obtain ⟨_, _, ⟨T6, L6, k6, n6⟩, -, X6, ⟨Lc6, hQ6, l6, y6, z6⟩, st6⟩ := Jvm.LawKit.callS X4 hx (y := (⟨"java/util/Arrays", "copyOf", "([BI)[B"⟩ : MethodName)) hown (mvT hZ (hw _ (List.mem_of_getElem? (i := 19) rfl))) (mvT hZ (hw _ (List.mem_of_getElem? (i := 20) rfl))) (mvT hZ (hw _ (List.mem_of_getElem? (i := 21) rfl))) (mvT hZ (hw _ (List.mem_of_getElem? (i := 22) rfl))) (by decide) (backOf (W := 0) (rm4 l Z a0 hw [] bb cap len f h0 n0 Z0 B1 hcap (by omega)) hZ (hw _ (List.mem_of_getElem? (i := 22) rfl)) (hw _ (List.mem_of_getElem? (i := 21) rfl)) (by decide) (by decide)) (g := (mkF m 8 #[.val (.ref a1)] [(.int (Int32.ofNat len)), (.ref bb)])) rfl (by rw [hml]; rfl) (argsL := [(.ref bb), (.int (Int32.ofNat len))]) (rest := []) (lenOf pd_1 rfl) rfl (by show 2 * 0 + _ ≤ _; exact Nat.le_of_eq rfl) (hb hby d3_8) (fun _ _ => ⟨rfl, e4, (by decide : 0 + 1 ≤ _), (by decide : 0 + 128 ≤ _)⟩)
  dsimp only [Pt.U, Pt.locs, Pt.cells, Pt.slots] at X6 l6 y6 z6 st6 hQ6
  subst l6 y6 z6
  obtain ⟨bn, rfl, N6q, Kn, Sn, Bn⟩ := hQ6
  have N6 := Fr.app N0 N6q
  have Bn' : own_B Z T6.heap bn len f := own_B_congr Bn fun j hj => by show (if j < cap then f j else 0) = f j; rw [if_pos (by omega)]
  obtain ⟨fs, hr, hrun, hended, hW, hsame⟩ := X6.leave (v := some (.ref bn)) (fun h => by rw [Bd.returns] at h; cases h)
  refine ⟨_, _, pre5 _ ?_, hrun, hended, _, _, rfl, ?_, ⟨_, rfl⟩, hW, hsame.mono (by decide) (by decide)⟩
  · show Steps p.tables e below (T4.setTop (mkF m 8 #[.val (.ref a1)] [(.int (Int32.ofNat len)), (.ref bb)])) _
    refine st6 _ ?_
    show Steps p.tables e below (T6.setTop (mkF m 11 #[.val (.ref a1)] [(.ref bn)])) _
    jvm_step X6.here [X6.here.top, hx, (hb hby d3_11), X6.method', Bd.returns, Value.isRef, FieldType.isReference]
    first | (intro acts; rw [hr _ acts rfl rfl rfl]) | rw [hr _ _ rfl rfl rfl]
    exact Steps.refl _
  · exact ⟨bn, rfl, N6, Kn, Sn, Bn'⟩
theorem pn_9 : plainName "com/example/haulway/haulway/io/RecordOutput" = true := by first | (simp [plainName, overriddenIn]; done) | decide +kernel
theorem ef_9 (m : MethodId) (x0 : Addr) (x1 : Int32) : entryFrame m #[(.ref x0), (.int x1)] 2 = mkF m 0 #[.val (.ref x0), .val (.int x1)] [] := by first | (simp [entryFrame, mkF, argsToLocals, Value.category]; done) | rfl
theorem d9_0 : decode prog_72_method_9_code 0 = .ok (.aload_n 0, 1) := by decide +kernel
theorem d9_1 : decode prog_72_method_9_code 1 = .ok (.getfield 7, 3) := by decide +kernel
theorem d9_4 : decode prog_72_method_9_code 4 = .ok (.arraylength, 1) := by decide +kernel
theorem d9_5 : decode prog_72_method_9_code 5 = .ok (.aload_n 0, 1) := by decide +kernel
theorem d9_6 : decode prog_72_method_9_code 6 = .ok (.getfield 30, 3) := by decide +kernel
theorem d9_9 : decode prog_72_method_9_code 9 = .ok (.isub, 1) := by decide +kernel
theorem d9_10 : decode prog_72_method_9_code 10 = .ok (.iload_n 1, 1) := by decide +kernel
theorem d9_11 : decode prog_72_method_9_code 11 = .ok (.if_icmp .ge 30, 3) := by decide +kernel
theorem d9_41 : decode prog_72_method_9_code 41 = .ok (.return_, 1) := by decide +kernel
def Q9 (Z : State) (h0 : Heap) (n0 : Nat) (v : Option Value) (h : Heap) (L : List Loc) : Prop := v = none ∧ Fr n0 L ∧ h = h0
set_option maxRecDepth 65536 in
set_option maxHeartbeats 40000000 in
theorem rm9 (l : Launch) (Z : State) (a0 : Array Value) (hw : ∀ d ∈ tables_1, d.before a0 Z = true) (ws : List Jvm.Cond) (a1 : Addr) (bb : Addr) (cap : Nat) (len : Nat) (f : Nat → Int32) (mm : Nat) (h0 : Heap) (n0 : Nat) (Z0 : n0 ≤ h0.size) (E1 : Exa Z h0 a1 "com/example/haulway/haulway/io/RecordOutput") (F1 : Fld Z h0 a1 "com/example/haulway/haulway/io/RecordOutput" "bytes" "[B" (.ref bb)) (F2 : Fld Z h0 a1 "com/example/haulway/haulway/io/RecordOutput" "length" "I" (.int (Int32.ofNat len))) (B1 : own_B Z h0 bb cap f) (hcap : cap ≤ 128) (hl : len + mm ≤ cap) :
    MetFree l (⟨"com/example/haulway/haulway/io/RecordOutput", "room", "(I)V"⟩ : MethodName) (head1 (Jvm.Cond.code (⟨"com/example/haulway/haulway/io/RecordOutput", "room", "(I)V"⟩ : MethodName) prog_72_method_9_code 2 none :: ws) ({ frames := 0, cells := 0, slots := 0, locals := 0 } : Room)) (fun aa_ U => aa_ = #[(.ref a1), (.int (Int32.ofNat mm))] ∧ Z.Warmed39 U.vm ∧ U.heap = h0) (fun _ _ _ _ _ => True) (fun _ U o U' => ∃ v_ L_, o = .returned v_ ∧ Q9 Z  h0 n0 v_ U'.heap L_ ∧ FrameEnd U o U' L_ ({ frames := 0, cells := 0, slots := 0, locals := 0 } : Room).cells ({ frames := 0, cells := 0, slots := 0, locals := 0 } : Room).slots) := by
  refine MetFree.of_bodySF (plainFor_of_name pn_9) hisR ?_
  intro p e s m args below meth c s₁ Bd hml0 hP hK
  obtain ⟨rfl, hZ, hh⟩ := hP
  have hx := Bd.exec
  have hby := Bd.bytes
  have hml : c.maxLocals = 2 := hml0
  have hown : s.vm.findClass "com/example/haulway/haulway/io/RecordOutput" = some m.cls := findClass_of_methodNamed Bd.named
  have hnm := (name_of_methodNamed Bd.named Bd.method).1
  have X0 : Stand p l e ({ frames := 0, cells := 0, slots := 0, locals := 0 } : Room) s m #[(.ref a1), (.int (Int32.ofNat mm))] below meth c s₁ [] 0 0 := Stand.of_body Bd
  have e0 : s₁.heap = h0 := by rw [← hh, Bd.state]; rfl
  have N0 := Fr.nil n0
  have pre0 : ∀ t, Steps p.tables e below (s₁.setTop (mkF m 0 #[.val (.ref a1), .val (.int (Int32.ofNat mm))] [])) t → Steps p.tables e below (s₁.setTop (entryFrame m #[(.ref a1), (.int (Int32.ofNat mm))] 2)) t := fun t k_ => castTop (ef_9 m a1 (Int32.ofNat mm)) k_
  obtain ⟨cl, Ar, Sz, Hf, Gf, Xf⟩ := id B1
  have B1 : own_B Z h0 bb cap f := ⟨cl, Ar, Sz, Hf, Gf, Xf⟩
  have pre1 : ∀ t, Steps p.tables e below (s₁.setTop (mkF m 1 #[.val (.ref a1), .val (.int (Int32.ofNat mm))] [(.ref a1)])) t → Steps p.tables e below _ t := fun t kt => pre0 t (by
    show Steps p.tables e below (s₁.setTop (mkF m 0 #[.val (.ref a1), .val (.int (Int32.ofNat mm))] [])) _
    refine XS.aloadN X0.here hx rfl (hb hby d9_0) rfl rfl ?_
    exact kt)
  obtain ⟨T2, X2, e2, st2⟩ := getF X0 hx hZ hown (host := "") (Or.inl (hw _ (List.mem_of_getElem? (i := 10) rfl))) Via.refl e0 F1 (g := (mkF m 1 #[.val (.ref a1), .val (.int (Int32.ofNat mm))] [(.ref a1)])) rfl rfl (hb hby d9_1)
  have pre3 : ∀ t, Steps p.tables e below (T2.setTop (mkF m 6 #[.val (.ref a1), .val (.int (Int32.ofNat mm))] [(.ref a1), (.int (Int32.ofNat cap))])) t → Steps p.tables e below _ t := fun t kt => pre1 t (by
    show Steps p.tables e below (s₁.setTop (mkF m 1 #[.val (.ref a1), .val (.int (Int32.ofNat mm))] [(.ref a1)])) _
    refine st2 _ ?_
    refine X2.arraylength hx (by rw [e2]; exact Ar.1) (State.isArrayOf_alike hZ.alike Ar.2.1) (g := (mkF m 4 #[.val (.ref a1), .val (.int (Int32.ofNat mm))] [(.ref bb)])) rfl rfl (hb hby d9_4) _ ?_
    rw [len_of (by rw [Sz, clamp_of (c := cap) rfl (by omega)] : cl.slots.size = (Int32.ofNat cap).toNatClampNeg) (own_nneg (by omega))]
    refine XS.aloadN X2.here hx rfl (hb hby d9_5) rfl rfl ?_
    exact kt)
  obtain ⟨T4, X4, e4, st4⟩ := getF X2 hx hZ hown (host := "") (Or.inl (hw _ (List.mem_of_getElem? (i := 17) rfl))) Via.refl e2 F2 (g := (mkF m 6 #[.val (.ref a1), .val (.int (Int32.ofNat mm))] [(.ref a1), (.int (Int32.ofNat cap))])) rfl rfl (hb hby d9_6)
  have pre5 : ∀ t, Steps p.tables e below (T4.setTop (mkF m 10 #[.val (.ref a1), .val (.int (Int32.ofNat mm))] [(.int ((Int32.ofNat cap) - (Int32.ofNat len)))])) t → Steps p.tables e below _ t := fun t kt => pre3 t (by
    show Steps p.tables e below (T2.setTop (mkF m 6 #[.val (.ref a1), .val (.int (Int32.ofNat mm))] [(.ref a1), (.int (Int32.ofNat cap))])) _
    refine st4 _ ?_
    refine XS.isub X4.here hx rfl (hb hby d9_9) rfl ?_
    exact kt)
  have hv6 : ((Int32.ofNat cap) - (Int32.ofNat len)) = (Int32.ofNat (cap - len)) := own_sub (by omega) (by omega)
  rw [hv6] at pre5
  obtain ⟨fs, hr, hrun, hended, hW, hsame⟩ := X4.leave (v := none) (fun _ => rfl)
  refine ⟨_, _, pre5 _ ?_, hrun, hended, _, _, rfl, ?_, ⟨_, rfl⟩, hW, hsame.mono (by decide) (by decide)⟩
  · show Steps p.tables e below (T4.setTop (mkF m 10 #[.val (.ref a1), .val (.int (Int32.ofNat mm))] [(.int (Int32.ofNat (cap - len)))])) _
    refine XS.iloadN X4.here hx rfl (hb hby d9_10) rfl ?_
    have hc11 : ¬ ((Int32.ofNat (cap - len)) < (Int32.ofNat mm)) := own_nlt (by omega) (by omega)
    refine XS.icmpYes X4.here hx rfl (pc0 := 11) (pc' := 41) rfl (hb hby d9_11) rfl (flt hc11).2.1 (by decide) (by decide) ?_
    show Steps p.tables e below (T4.setTop (mkF m 41 #[.val (.ref a1), .val (.int (Int32.ofNat mm))] [])) _
    exact X4.returnOut hx Bd.returns (hb hby d9_41) hr
  · show Q9 Z  h0 n0 _ T4.heap _
    rw [e4]
    exact ⟨rfl, N0, rfl⟩
theorem ef_9g (m : MethodId) (x0 : Addr) (x1 : Int32) : entryFrame m #[(.ref x0), (.int x1)] 2 = mkF m 0 #[.val (.ref x0), .val (.int x1)] [] := by first | (simp [entryFrame, mkF, argsToLocals, Value.category]; done) | rfl
theorem d9_14 : decode prog_72_method_9_code 14 = .ok (.aload_n 0, 1) := by decide +kernel
theorem d9_15 : decode prog_72_method_9_code 15 = .ok (.aload_n 0, 1) := by decide +kernel
theorem d9_16 : decode prog_72_method_9_code 16 = .ok (.getfield 7, 3) := by decide +kernel
theorem d9_19 : decode prog_72_method_9_code 19 = .ok (.iconst 2, 1) := by decide +kernel
theorem d9_20 : decode prog_72_method_9_code 20 = .ok (.aload_n 0, 1) := by decide +kernel
theorem d9_21 : decode prog_72_method_9_code 21 = .ok (.getfield 7, 3) := by decide +kernel
theorem d9_24 : decode prog_72_method_9_code 24 = .ok (.arraylength, 1) := by decide +kernel
theorem d9_25 : decode prog_72_method_9_code 25 = .ok (.imul, 1) := by decide +kernel
theorem d9_26 : decode prog_72_method_9_code 26 = .ok (.aload_n 0, 1) := by decide +kernel
theorem d9_27 : decode prog_72_method_9_code 27 = .ok (.getfield 30, 3) := by decide +kernel
theorem d9_30 : decode prog_72_method_9_code 30 = .ok (.iload_n 1, 1) := by decide +kernel
theorem d9_31 : decode prog_72_method_9_code 31 = .ok (.iadd, 1) := by decide +kernel
theorem d9_32 : decode prog_72_method_9_code 32 = .ok (.invokestatic 68, 3) := by decide +kernel
theorem d9_35 : decode prog_72_method_9_code 35 = .ok (.invokestatic 62, 3) := by decide +kernel
theorem d9_38 : decode prog_72_method_9_code 38 = .ok (.putfield 7, 3) := by decide +kernel
def Q9g (Z : State) (a1 : Addr) (cap len : Nat) (f : Nat → Int32) (h0 : Heap) (n0 : Nat) (v : Option Value) (h : Heap) (L : List Loc) : Prop := ∃ b, v = none ∧ Fr n0 L ∧ Keep h0 h [a1] ∧ h0.size ≤ b ∧ Exa Z h a1 "com/example/haulway/haulway/io/RecordOutput" ∧ Fld Z h a1 "com/example/haulway/haulway/io/RecordOutput" "bytes" "[B" (.ref b) ∧ Fld Z h a1 "com/example/haulway/haulway/io/RecordOutput" "length" "I" (.int (Int32.ofNat len)) ∧ own_B Z h b 128 (own_cut f cap)
set_option maxRecDepth 65536 in
set_option maxHeartbeats 40000000 in
theorem rm9g (l : Launch) (Z : State) (a0 : Array Value) (hw : ∀ d ∈ tables_1, d.before a0 Z = true) (ws : List Jvm.Cond) (a1 : Addr) (bb : Addr) (cap : Nat) (len : Nat) (f : Nat → Int32) (mm : Nat) (h0 : Heap) (n0 : Nat) (Z0 : n0 ≤ h0.size) (E1 : Exa Z h0 a1 "com/example/haulway/haulway/io/RecordOutput") (F1 : Fld Z h0 a1 "com/example/haulway/haulway/io/RecordOutput" "bytes" "[B" (.ref bb)) (F2 : Fld Z h0 a1 "com/example/haulway/haulway/io/RecordOutput" "length" "I" (.int (Int32.ofNat len))) (B1 : own_B Z h0 bb cap f) (hc64 : cap = 64) (hl : cap < len + mm) (hl1 : len ≤ cap) (hl2 : len + mm ≤ 128) (g1 : n0 ≤ a1) :
    MetFree l (⟨"com/example/haulway/haulway/io/RecordOutput", "room", "(I)V"⟩ : MethodName) (head1 (Jvm.Cond.code (⟨"com/example/haulway/haulway/io/RecordOutput", "room", "(I)V"⟩ : MethodName) prog_72_method_9_code 2 none :: ws) ({ frames := 2, cells := 1, slots := 128, locals := 55 } : Room)) (fun aa_ U => aa_ = #[(.ref a1), (.int (Int32.ofNat mm))] ∧ Z.Warmed39 U.vm ∧ U.heap = h0) (fun _ _ _ _ _ => True) (fun _ U o U' => ∃ v_ L_, o = .returned v_ ∧ Q9g Z a1 cap len f h0 n0 v_ U'.heap L_ ∧ FrameEnd U o U' L_ ({ frames := 2, cells := 1, slots := 128, locals := 55 } : Room).cells ({ frames := 2, cells := 1, slots := 128, locals := 55 } : Room).slots) := by
  refine MetFree.of_bodySF (plainFor_of_name pn_9) hisR ?_
  intro p e s m args below meth c s₁ Bd hml0 hP hK
  obtain ⟨rfl, hZ, hh⟩ := hP
  have hx := Bd.exec
  have hby := Bd.bytes
  have hml : c.maxLocals = 2 := hml0
  have hown : s.vm.findClass "com/example/haulway/haulway/io/RecordOutput" = some m.cls := findClass_of_methodNamed Bd.named
  have hnm := (name_of_methodNamed Bd.named Bd.method).1
  have X0 : Stand p l e ({ frames := 2, cells := 1, slots := 128, locals := 55 } : Room) s m #[(.ref a1), (.int (Int32.ofNat mm))] below meth c s₁ [] 0 0 := Stand.of_body Bd
  have e0 : s₁.heap = h0 := by rw [← hh, Bd.state]; rfl
  have N0 := Fr.nil n0
  have pre0 : ∀ t, Steps p.tables e below (s₁.setTop (mkF m 0 #[.val (.ref a1), .val (.int (Int32.ofNat mm))] [])) t → Steps p.tables e below (s₁.setTop (entryFrame m #[(.ref a1), (.int (Int32.ofNat mm))] 2)) t := fun t k_ => castTop (ef_9g m a1 (Int32.ofNat mm)) k_
  obtain ⟨cl, Ar, Sz, Hf, Gf, Xf⟩ := id B1
  have B1 : own_B Z h0 bb cap f := ⟨cl, Ar, Sz, Hf, Gf, Xf⟩
  have pre1 : ∀ t, Steps p.tables e below (s₁.setTop (mkF m 1 #[.val (.ref a1), .val (.int (Int32.ofNat mm))] [(.ref a1)])) t → Steps p.tables e below _ t := fun t kt => pre0 t (by
    show Steps p.tables e below (s₁.setTop (mkF m 0 #[.val (.ref a1), .val (.int (Int32.ofNat mm))] [])) _
    refine XS.aloadN X0.here hx rfl (hb hby d9_0) rfl rfl ?_
    exact kt)
  obtain ⟨T2, X2, e2, st2⟩ := getF X0 hx hZ hown (host := "") (Or.inl (hw _ (List.mem_of_getElem? (i := 10) rfl))) Via.refl e0 F1 (g := (mkF m 1 #[.val (.ref a1), .val (.int (Int32.ofNat mm))] [(.ref a1)])) rfl rfl (hb hby d9_1)
  have pre3 : ∀ t, Steps p.tables e below (T2.setTop (mkF m 6 #[.val (.ref a1), .val (.int (Int32.ofNat mm))] [(.ref a1), (.int (Int32.ofNat cap))])) t → Steps p.tables e below _ t := fun t kt => pre1 t (by
    show Steps p.tables e below (s₁.setTop (mkF m 1 #[.val (.ref a1), .val (.int (Int32.ofNat mm))] [(.ref a1)])) _
    refine st2 _ ?_
    refine X2.arraylength hx (by rw [e2]; exact Ar.1) (State.isArrayOf_alike hZ.alike Ar.2.1) (g := (mkF m 4 #[.val (.ref a1), .val (.int (Int32.ofNat mm))] [(.ref bb)])) rfl rfl (hb hby d9_4) _ ?_
    rw [len_of (by rw [Sz, clamp_of (c := cap) rfl (by omega)] : cl.slots.size = (Int32.ofNat cap).toNatClampNeg) (own_nneg (by omega))]
    refine XS.aloadN X2.here hx rfl (hb hby d9_5) rfl rfl ?_
    exact kt)
  obtain ⟨T4, X4, e4, st4⟩ := getF X2 hx hZ hown (host := "") (Or.inl (hw _ (List.mem_of_getElem? (i := 17) rfl))) Via.refl e2 F2 (g := (mkF m 6 #[.val (.ref a1), .val (.int (Int32.ofNat mm))] [(.ref a1), (.int (Int32.ofNat cap))])) rfl rfl (hb hby d9_6)
  have pre5 : ∀ t, Steps p.tables e below (T4.setTop (mkF m 10 #[.val (.ref a1), .val (.int (Int32.ofNat mm))] [(.int ((Int32.ofNat cap) - (Int32.ofNat len)))])) t → Steps p.tables e below _ t := fun t kt => pre3 t (by
    show Steps p.tables e below (T2.setTop (mkF m 6 #[.val (.ref a1), .val (.int (Int32.ofNat mm))] [(.ref a1), (.int (Int32.ofNat cap))])) _
    refine st4 _ ?_
    refine XS.isub X4.here hx rfl (hb hby d9_9) rfl ?_
    exact kt)
  have hv6 : ((Int32.ofNat cap) - (Int32.ofNat len)) = (Int32.ofNat (cap - len)) := own_sub (by omega) (by omega)
  rw [hv6] at pre5
  have pre7 : ∀ t, Steps p.tables e below (T4.setTop (mkF m 16 #[.val (.ref a1), .val (.int (Int32.ofNat mm))] [(.ref a1), (.ref a1)])) t → Steps p.tables e below _ t := fun t kt => pre5 t (by
    show Steps p.tables e below (T4.setTop (mkF m 10 #[.val (.ref a1), .val (.int (Int32.ofNat mm))] [(.int (Int32.ofNat (cap - len)))])) _
    refine XS.iloadN X4.here hx rfl (hb hby d9_10) rfl ?_
    have hc11 : (Int32.ofNat (cap - len)) < (Int32.ofNat mm) := own_lt (by omega) (by omega)
    refine XS.icmpNo X4.here hx rfl (hb hby d9_11) rfl (tlt hc11).2.1 ?_
    refine XS.aloadN X4.here hx rfl (hb hby d9_14) rfl rfl ?_
    show Steps p.tables e below (T4.setTop (mkF m 15 #[.val (.ref a1), .val (.int (Int32.ofNat mm))] [(.ref a1)])) _
    refine XS.aloadN X4.here hx rfl (hb hby d9_15) rfl rfl ?_
    exact kt)
  obtain ⟨T8, X8, e8, st8⟩ := getF X4 hx hZ hown (host := "") (Or.inl (hw _ (List.mem_of_getElem? (i := 10) rfl))) Via.refl e4 F1 (g := (mkF m 16 #[.val (.ref a1), .val (.int (Int32.ofNat mm))] [(.ref a1), (.ref a1)])) rfl rfl (hb hby d9_16)
  have pre9 : ∀ t, Steps p.tables e below (T8.setTop (mkF m 21 #[.val (.ref a1), .val (.int (Int32.ofNat mm))] [(.ref a1), (.int (2 : Int32)), (.ref bb), (.ref a1)])) t → Steps p.tables e below _ t := fun t kt => pre7 t (by
    show Steps p.tables e below (T4.setTop (mkF m 16 #[.val (.ref a1), .val (.int (Int32.ofNat mm))] [(.ref a1), (.ref a1)])) _
    refine st8 _ ?_
    refine XS.iconst X8.here hx rfl (hb hby d9_19) ?_
    refine XS.aloadN X8.here hx rfl (hb hby d9_20) rfl rfl ?_
    exact kt)
  obtain ⟨T10, X10, e10, st10⟩ := getF X8 hx hZ hown (host := "") (Or.inl (hw _ (List.mem_of_getElem? (i := 10) rfl))) Via.refl e8 F1 (g := (mkF m 21 #[.val (.ref a1), .val (.int (Int32.ofNat mm))] [(.ref a1), (.int (2 : Int32)), (.ref bb), (.ref a1)])) rfl rfl (hb hby d9_21)
  have pre11 : ∀ t, Steps p.tables e below (T10.setTop (mkF m 26 #[.val (.ref a1), .val (.int (Int32.ofNat mm))] [(.int ((2 : Int32) * (Int32.ofNat cap))), (.ref bb), (.ref a1)])) t → Steps p.tables e below _ t := fun t kt => pre9 t (by
    show Steps p.tables e below (T8.setTop (mkF m 21 #[.val (.ref a1), .val (.int (Int32.ofNat mm))] [(.ref a1), (.int (2 : Int32)), (.ref bb), (.ref a1)])) _
    refine st10 _ ?_
    refine X10.arraylength hx (by rw [e10]; exact Ar.1) (State.isArrayOf_alike hZ.alike Ar.2.1) (g := (mkF m 24 #[.val (.ref a1), .val (.int (Int32.ofNat mm))] [(.ref bb), (.int (2 : Int32)), (.ref bb), (.ref a1)])) rfl rfl (hb hby d9_24) _ ?_
    rw [len_of (by rw [Sz, clamp_of (c := cap) rfl (by omega)] : cl.slots.size = (Int32.ofNat cap).toNatClampNeg) (own_nneg (by omega))]
    refine XS.imul X10.here hx rfl (hb hby d9_25) rfl ?_
    exact kt)
  have hv12 : ((2 : Int32) * (Int32.ofNat cap)) = (Int32.ofNat 128) := by rw [hc64]; rfl
  rw [hv12] at pre11
  have pre13 : ∀ t, Steps p.tables e below (T10.setTop (mkF m 27 #[.val (.ref a1), .val (.int (Int32.ofNat mm))] [(.ref a1), (.int (Int32.ofNat 128)), (.ref bb), (.ref a1)])) t → Steps p.tables e below _ t := fun t kt => pre11 t (by
    show Steps p.tables e below (T10.setTop (mkF m 26 #[.val (.ref a1), .val (.int (Int32.ofNat mm))] [(.int (Int32.ofNat 128)), (.ref bb), (.ref a1)])) _
    refine XS.aloadN X10.here hx rfl (hb hby d9_26) rfl rfl ?_
    exact kt)
  obtain ⟨T14, X14, e14, st14⟩ := getF X10 hx hZ hown (host := "") (Or.inl (hw _ (List.mem_of_getElem? (i := 17) rfl))) Via.refl e10 F2 (g := (mkF m 27 #[.val (.ref a1), .val (.int (Int32.ofNat mm))] [(.ref a1), (.int (Int32.ofNat 128)), (.ref bb), (.ref a1)])) rfl rfl (hb hby d9_27)
  have pre15 : ∀ t, Steps p.tables e below (T14.setTop (mkF m 32 #[.val (.ref a1), .val (.int (Int32.ofNat mm))] [(.int ((Int32.ofNat len) + (Int32.ofNat mm))), (.int (Int32.ofNat 128)), (.ref bb), (.ref a1)])) t → Steps p.tables e below _ t := fun t kt => pre13 t (by
    show Steps p.tables e below (T10.setTop (mkF m 27 #[.val (.ref a1), .val (.int (Int32.ofNat mm))] [(.ref a1), (.int (Int32.ofNat 128)), (.ref bb), (.ref a1)])) _
    refine st14 _ ?_
    refine XS.iloadN X14.here hx rfl (hb hby d9_30) rfl ?_
    refine XS.iadd X14.here hx rfl (hb hby d9_31) rfl ?_
    exact kt)
  have hv16 : ((Int32.ofNat len) + (Int32.ofNat mm)) = (Int32.ofNat (len + mm)) := own_add len mm
  rw [hv16] at pre15
  obtain ⟨_, _, ⟨T17, L17, k17, n17⟩, -, X17, ⟨Lc17, hQ17, l17, y17, z17⟩, st17⟩ := Jvm.LawKit.callS X14 hx (y := (⟨"java/lang/Math", "max", "(II)I"⟩ : MethodName)) hown (mvT hZ (hw _ (List.mem_of_getElem? (i := 61) rfl))) (mvT hZ (hw _ (List.mem_of_getElem? (i := 62) rfl))) (mvT hZ (hw _ (List.mem_of_getElem? (i := 25) rfl))) (mvT hZ (hw _ (List.mem_of_getElem? (i := 63) rfl))) (by decide) (backOf (W := 2) (rm13 l Z a0 hw [] (Int32.ofNat 128) (Int32.ofNat (len + mm)) h0 n0 Z0) hZ (hw _ (List.mem_of_getElem? (i := 63) rfl)) (hw _ (List.mem_of_getElem? (i := 25) rfl)) (by decide) (by decide)) (g := (mkF m 32 #[.val (.ref a1), .val (.int (Int32.ofNat mm))] [(.int (Int32.ofNat (len + mm))), (.int (Int32.ofNat 128)), (.ref bb), (.ref a1)])) rfl (by rw [hml]; rfl) (argsL := [(.int (Int32.ofNat 128)), (.int (Int32.ofNat (len + mm)))]) (rest := [(.ref bb), (.ref a1)]) (lenOf pd_0 rfl) rfl (by show 2 * 0 + _ ≤ _; exact Nat.le_of_eq rfl) (hb hby d9_32) (fun _ _ => ⟨rfl, e14, (by decide : 0 + 0 ≤ _), (by decide : 0 + 0 ≤ _)⟩)
  dsimp only [Pt.U, Pt.locs, Pt.cells, Pt.slots] at X17 l17 y17 z17 st17 hQ17
  subst l17 y17 z17
  obtain ⟨rfl, N17q, e17⟩ := hQ17
  have N17 := Fr.app N0 N17q
  have pre18 : ∀ t, Steps p.tables e below (T17.setTop (mkF m 35 #[.val (.ref a1), .val (.int (Int32.ofNat mm))] [(.int (own_max (Int32.ofNat 128) (Int32.ofNat (len + mm)))), (.ref bb), (.ref a1)])) t → Steps p.tables e below _ t := fun t kt => pre15 t (by
    show Steps p.tables e below (T14.setTop (mkF m 32 #[.val (.ref a1), .val (.int (Int32.ofNat mm))] [(.int (Int32.ofNat (len + mm))), (.int (Int32.ofNat 128)), (.ref bb), (.ref a1)])) _
    refine st17 _ ?_
    exact kt)
  have hv19 : (own_max (Int32.ofNat 128) (Int32.ofNat (len + mm))) = (Int32.ofNat 128) := own_max_nat (by decide) hl2
  rw [hv19] at pre18
  obtain ⟨_, _, ⟨T20, L20, k20, n20⟩, -, X20, ⟨Lc20, hQ20, l20, y20, z20⟩, st20⟩ := Jvm.LawKit.callS X17 hx (y := (⟨"java/util/Arrays", "copyOf", "([BI)[B"⟩ : MethodName)) hown (mvT hZ (hw _ (List.mem_of_getElem? (i := 19) rfl))) (mvT hZ (hw _ (List.mem_of_getElem? (i := 20) rfl))) (mvT hZ (hw _ (List.mem_of_getElem? (i := 21) rfl))) (mvT hZ (hw _ (List.mem_of_getElem? (i := 22) rfl))) (by decide) (backOf (W := 1) (rm4 l Z a0 hw [] bb cap 128 f h0 n0 Z0 B1 (by omega) (by decide)) hZ (hw _ (List.mem_of_getElem? (i := 22) rfl)) (hw _ (List.mem_of_getElem? (i := 21) rfl)) (by decide) (by decide)) (g := (mkF m 35 #[.val (.ref a1), .val (.int (Int32.ofNat mm))] [(.int (Int32.ofNat 128)), (.ref bb), (.ref a1)])) rfl (by rw [hml]; rfl) (argsL := [(.ref bb), (.int (Int32.ofNat 128))]) (rest := [(.ref a1)]) (lenOf pd_1 rfl) rfl (by show 2 * 0 + _ ≤ _; exact Nat.le_of_eq rfl) (hb hby d9_35) (fun _ _ => ⟨rfl, e17, (by decide : 0 + 1 ≤ _), (by decide : 0 + 128 ≤ _)⟩)
  dsimp only [Pt.U, Pt.locs, Pt.cells, Pt.slots] at X20 l20 y20 z20 st20 hQ20
  subst l20 y20 z20
  obtain ⟨bn, rfl, N20q, Kn, Sn, Bn⟩ := hQ20
  have N20 := Fr.app N17 N20q
  have sz_bn := Sn
  have Kg : Keep h0 T20.heap [a1] := (Keep.refl h0 [a1]).trans Kn all0
  have Zn : n0 ≤ T20.heap.size := Nat.le_trans Z0 Kn.1
  have pre21 : ∀ t, Steps p.tables e below (T20.setTop (mkF m 38 #[.val (.ref a1), .val (.int (Int32.ofNat mm))] [(.ref bn), (.ref a1)])) t → Steps p.tables e below _ t := fun t kt => pre18 t (by
    show Steps p.tables e below (T17.setTop (mkF m 35 #[.val (.ref a1), .val (.int (Int32.ofNat mm))] [(.int (Int32.ofNat 128)), (.ref bb), (.ref a1)])) _
    refine st20 _ ?_
    exact kt)
  obtain ⟨T22, h22, X22, e22, W22, st22⟩ := putF X20 hx hZ hown (host := "") (Or.inl (hw _ (List.mem_of_getElem? (i := 10) rfl))) Via.refl rfl (F1.keep Kn nin0) (E1.keep Kn) (Or.inl (hw _ (List.mem_of_getElem? (i := 11) rfl))) (hw _ (List.mem_of_getElem? (i := 2) rfl)) (ty := (.array .byte)) (by decide) rfl rfl (g := (mkF m 38 #[.val (.ref a1), .val (.int (Int32.ofNat mm))] [(.ref bn), (.ref a1)])) rfl rfl (hb hby d9_38)
  have Fw22 := (F1.keep Kn nin0).same W22
  have N22 := Fr.snoc X22 N20 g1
  have Zs22 : n0 ≤ h22.size := Nat.le_trans Zn (Nat.le_of_eq W22.size.symm)
  have Kp22 : Keep h0 h22 [a1] := Kg.wr W22 (Or.inl (List.mem_of_getElem? (i := 0) rfl))
  have Ex := (E1.keep Kn).wr W22
  have Fl := ((F2.keep Kn nin0).other W22 (Or.inr (slot_ne (Or.inl (hw _ (List.mem_of_getElem? (i := 18) rfl))) (Or.inl (hw _ (List.mem_of_getElem? (i := 11) rfl))) (by decide) (t := .int) (t' := (.array .byte)) (by decide) (by decide))))
  have Bb := own_B_other Bn W22 (Nat.ne_of_gt (Nat.lt_of_lt_of_le E1.lt Sn))
  obtain ⟨fs, hr, hrun, hended, hW, hsame⟩ := X22.leave (v := none) (fun _ => rfl)
  refine ⟨_, _, pre21 _ ?_, hrun, hended, _, _, rfl, ?_, ⟨_, rfl⟩, hW, hsame.mono (by decide) (by decide)⟩
  · show Steps p.tables e below (T20.setTop (mkF m 38 #[.val (.ref a1), .val (.int (Int32.ofNat mm))] [(.ref bn), (.ref a1)])) _
    refine st22 _ ?_
    show Steps p.tables e below (T22.setTop (mkF m 41 #[.val (.ref a1), .val (.int (Int32.ofNat mm))] [])) _
    exact X22.returnOut hx Bd.returns (hb hby d9_41) hr
  · show Q9g Z a1 cap len f h0 n0 _ T22.heap _
    rw [e22]
    exact ⟨bn, rfl, N22, Kp22, Sn, Ex, Fw22, Fl, Bb⟩

def own_by (v k : Int32) : Int32 := ((v.toUInt32 >>> (k &&& 31).toUInt32).toInt32).toInt8.toInt32
def own_byL (v : Int64) (k : Int32) : Int32 := (((v.toUInt64 >>> (k &&& 0x3f).toInt64.toUInt64).toInt64).toInt32).toInt8.toInt32
def own_p4 (f : Nat → Int32) (q : Nat) (v : Int32) : Nat → Int32 := upd (upd (upd (upd f q (own_by v 24)) (q + 1) (own_by v 16)) (q + 2) (own_by v 8)) (q + 3) (own_by v 0)
def own_p8 (f : Nat → Int32) (q : Nat) (v : Int64) : Nat → Int32 := upd (upd (upd (upd (upd (upd (upd (upd f q (own_byL v 56)) (q + 1) (own_byL v 48)) (q + 2) (own_byL v 40)) (q + 3) (own_byL v 32)) (q + 4) (own_byL v 24)) (q + 5) (own_byL v 16)) (q + 6) (own_byL v 8)) (q + 7) (own_byL v 0)
def own_bit (p : Int32) : Int32 := (if p = (0 : Int32) then (0 : Int32) else (1 : Int32)).toInt8.toInt32
def own_cpf (g f : Nat → Int32) (q m : Nat) : Nat → Int32 := fun j => if q ≤ j ∧ j < q + m then g (0 + (j - q)) else f j
theorem own_byte2 (x : Int32) : nar .byte (x.toInt8.toInt32) = x.toInt8.toInt32 := by
  show x.toInt8.toInt32.toInt8.toInt32 = x.toInt8.toInt32
  rw [Int8.toInt8_toInt32]
theorem own_fits8 (x : Int32) : fits .byte (.int x.toInt8.toInt32) = true := fits_nar_byte x
theorem own_by0 (v : Int32) : own_by v 0 = v.toInt8.toInt32 := by
  unfold own_by
  have h : (v.toUInt32 >>> ((0 : Int32) &&& 31).toUInt32).toInt32 = v := by
    have e : ((0 : Int32) &&& 31).toUInt32 = 0 := by decide
    rw [e]
    apply Int32.toBitVec_inj.mp
    simp
  rw [h]
theorem pn_8 : plainName "com/example/haulway/haulway/io/RecordOutput" = true := by first | (simp [plainName, overriddenIn]; done) | decide +kernel
theorem ef_8 (m : MethodId) (x0 : Addr) (x1 : Int32) : entryFrame m #[(.ref x0), (.int x1)] 3 = mkF m 0 #[.val (.ref x0), .val (.int x1), .unset] [] := by first | (simp [entryFrame, mkF, argsToLocals, Value.category]; done) | rfl
theorem d8_0 : decode prog_72_method_4_code 0 = .ok (.aload_n 0, 1) := by decide +kernel
theorem d8_1 : decode prog_72_method_4_code 1 = .ok (.iconst 4, 1) := by decide +kernel
theorem pd_2 : parseMethodDescriptor "(I)V" = some ⟨[.int], none⟩ := by decide +kernel
theorem d8_2 : decode prog_72_method_4_code 2 = .ok (.invokevirtual 24, 3) := by decide +kernel
theorem d8_5 : decode prog_72_method_4_code 5 = .ok (.bipush 24, 2) := by decide +kernel
theorem d8_7 : decode prog_72_method_4_code 7 = .ok (.istore_n 2, 1) := by decide +kernel
theorem d8_8 : decode prog_72_method_4_code 8 = .ok (.iload_n 2, 1) := by decide +kernel
theorem d8_9 : decode prog_72_method_4_code 9 = .ok (.ifCond .lt 29, 3) := by decide +kernel
theorem d8_12 : decode prog_72_method_4_code 12 = .ok (.aload_n 0, 1) := by decide +kernel
theorem d8_13 : decode prog_72_method_4_code 13 = .ok (.getfield 7, 3) := by decide +kernel
theorem d8_16 : decode prog_72_method_4_code 16 = .ok (.aload_n 0, 1) := by decide +kernel
theorem d8_17 : decode prog_72_method_4_code 17 = .ok (.dup, 1) := by decide +kernel
theorem d8_18 : decode prog_72_method_4_code 18 = .ok (.getfield 30, 3) := by decide +kernel
theorem d8_21 : decode prog_72_method_4_code 21 = .ok (.dup_x1, 1) := by decide +kernel
theorem d8_22 : decode prog_72_method_4_code 22 = .ok (.iconst 1, 1) := by decide +kernel
theorem d8_23 : decode prog_72_method_4_code 23 = .ok (.iadd, 1) := by decide +kernel
theorem d8_24 : decode prog_72_method_4_code 24 = .ok (.putfield 30, 3) := by decide +kernel
theorem d8_27 : decode prog_72_method_4_code 27 = .ok (.iload_n 1, 1) := by decide +kernel
theorem d8_28 : decode prog_72_method_4_code 28 = .ok (.iload_n 2, 1) := by decide +kernel
theorem d8_29 : decode prog_72_method_4_code 29 = .ok (.iushr, 1) := by decide +kernel
theorem d8_30 : decode prog_72_method_4_code 30 = .ok (.i2b, 1) := by decide +kernel
theorem d8_31 : decode prog_72_method_4_code 31 = .ok (.bastore, 1) := by decide +kernel
theorem d8_32 : decode prog_72_method_4_code 32 = .ok (.iinc 2 (-8), 3) := by decide +kernel
theorem d8_35 : decode prog_72_method_4_code 35 = .ok (.goto (-27), 3) := by decide +kernel
theorem d8_38 : decode prog_72_method_4_code 38 = .ok (.aload_n 0, 1) := by decide +kernel
theorem d8_39 : decode prog_72_method_4_code 39 = .ok (.areturn, 1) := by decide +kernel
def Q8 (Z : State) (a1 bb : Addr) (cap len : Nat) (f : Nat → Int32) (v : Int32) (h0 : Heap) (n0 : Nat) (r : Option Value) (h : Heap) (L : List Loc) : Prop := r = some (.ref a1) ∧ Fr n0 L ∧ Keep h0 h [a1, bb] ∧ Exa Z h a1 "com/example/haulway/haulway/io/RecordOutput" ∧ Fld Z h a1 "com/example/haulway/haulway/io/RecordOutput" "bytes" "[B" (.ref bb) ∧ Fld Z h a1 "com/example/haulway/haulway/io/RecordOutput" "length" "I" (.int (Int32.ofNat (len + 4))) ∧ own_B Z h bb cap (own_p4 f len v)
set_option maxRecDepth 65536 in
set_option maxHeartbeats 40000000 in
theorem rm8 (l : Launch) (Z : State) (a0 : Array Value) (hw : ∀ d ∈ tables_1, d.before a0 Z = true) (ws : List Jvm.Cond) (a1 : Addr) (bb : Addr) (cap : Nat) (len : Nat) (f : Nat → Int32) (v : Int32) (h0 : Heap) (n0 : Nat) (Z0 : n0 ≤ h0.size) (E1 : Exa Z h0 a1 "com/example/haulway/haulway/io/RecordOutput") (F1 : Fld Z h0 a1 "com/example/haulway/haulway/io/RecordOutput" "bytes" "[B" (.ref bb)) (F2 : Fld Z h0 a1 "com/example/haulway/haulway/io/RecordOutput" "length" "I" (.int (Int32.ofNat len))) (B1 : own_B Z h0 bb cap f) (hcap : cap ≤ 128) (hl : len + 4 ≤ cap) (ne1 : a1 ≠ bb) (g1 : n0 ≤ a1) (g2 : n0 ≤ bb) :
    MetFree l (⟨"com/example/haulway/haulway/io/RecordOutput", "putInt", "(I)Lcom/example/haulway/haulway/io/RecordOutput;"⟩ : MethodName) (head1 (Jvm.Cond.code (⟨"com/example/haulway/haulway/io/RecordOutput", "putInt", "(I)Lcom/example/haulway/haulway/io/RecordOutput;"⟩ : MethodName) prog_72_method_4_code 3 (some (.object "com/example/haulway/haulway/io/RecordOutput")) :: ws) ({ frames := 1, cells := 0, slots := 0, locals := 13 } : Room)) (fun aa_ U => aa_ = #[(.ref a1), (.int v)] ∧ Z.Warmed39 U.vm ∧ U.heap = h0) (fun _ _ _ _ _ => True) (fun _ U o U' => ∃ v_ L_, o = .returned v_ ∧ Q8 Z a1 bb cap len f v h0 n0 v_ U'.heap L_ ∧ FrameEnd U o U' L_ ({ frames := 1, cells := 0, slots := 0, locals := 13 } : Room).cells ({ frames := 1, cells := 0, slots := 0, locals := 13 } : Room).slots) := by
  refine MetFree.of_bodySF (plainFor_of_name pn_8) hisR ?_
  intro p e s m args below meth c s₁ Bd hml0 hP hK
  obtain ⟨rfl, hZ, hh⟩ := hP
  have hx := Bd.exec
  have hby := Bd.bytes
  have hml : c.maxLocals = 3 := hml0
  have hown : s.vm.findClass "com/example/haulway/haulway/io/RecordOutput" = some m.cls := findClass_of_methodNamed Bd.named
  have hnm := (name_of_methodNamed Bd.named Bd.method).1
  have X0 : Stand p l e ({ frames := 1, cells := 0, slots := 0, locals := 13 } : Room) s m #[(.ref a1), (.int v)] below meth c s₁ [] 0 0 := Stand.of_body Bd
  have e0 : s₁.heap = h0 := by rw [← hh, Bd.state]; rfl
  have N0 := Fr.nil n0
  have pre0 : ∀ t, Steps p.tables e below (s₁.setTop (mkF m 0 #[.val (.ref a1), .val (.int v), .unset] [])) t → Steps p.tables e below (s₁.setTop (entryFrame m #[(.ref a1), (.int v)] 3)) t := fun t k_ => castTop (ef_8 m a1 v) k_
  have ne2 : bb ≠ a1 := Ne.symm ne1
  have pre1 : ∀ t, Steps p.tables e below (s₁.setTop (mkF m 2 #[.val (.ref a1), .val (.int v), .unset] [(.int (4 : Int32)), (.ref a1)])) t → Steps p.tables e below _ t := fun t kt => pre0 t (by
    show Steps p.tables e below (s₁.setTop (mkF m 0 #[.val (.ref a1), .val (.int v), .unset] [])) _
    refine XS.aloadN X0.here hx rfl (hb hby d8_0) rfl rfl ?_
    refine XS.iconst X0.here hx rfl (hb hby d8_1) ?_
    exact kt)
  obtain ⟨cq2, q2, q2'⟩ := E1.cell
  obtain ⟨_, _, ⟨T2, L2, k2, n2⟩, -, X2, ⟨Lc2, hQ2, l2, y2, z2⟩, st2⟩ := X0.privateBack hx (y := (⟨"com/example/haulway/haulway/io/RecordOutput", "room", "(I)V"⟩ : MethodName)) hown (mvT hZ (hw _ (List.mem_of_getElem? (i := 43) rfl))) (mvT hZ (hw _ (List.mem_of_getElem? (i := 44) rfl))) (mvT hZ (own_sel (y := (⟨"com/example/haulway/haulway/io/RecordOutput", "room", "(I)V"⟩ : MethodName)) (by decide) (hw _ (List.mem_of_getElem? (i := 2) rfl)) (hw _ (List.mem_of_getElem? (i := 45) rfl)) (hw _ (List.mem_of_getElem? (i := 44) rfl)))) (Cond.privateMethod_at (mvP hZ (hw _ (List.mem_of_getElem? (i := 45) rfl)) (args := #[]))) (mvT hZ (hw _ (List.mem_of_getElem? (i := 46) rfl))) (by decide) (backOf (W := 0) (rm9 l Z a0 hw [] a1 bb cap len f 4 h0 n0 Z0 E1 F1 F2 B1 hcap (by omega)) hZ (hw _ (List.mem_of_getElem? (i := 46) rfl)) (hw _ (List.mem_of_getElem? (i := 3) rfl)) (by decide) (by decide)) (g := (mkF m 2 #[.val (.ref a1), .val (.int v), .unset] [(.int (4 : Int32)), (.ref a1)])) rfl (by rw [hml]; rfl) (Steps.refl _) (a := a1) (by rw [e0]; exact q2) q2' (argsL := [(.int (4 : Int32))]) (rest := []) (lenOf pd_2 rfl) rfl (by show 2 * 0 + _ ≤ _; exact Nat.le_of_eq rfl) (hb hby d8_2) (fun _ _ => ⟨rfl, e0, (by decide : 0 + 0 ≤ _), (by decide : 0 + 0 ≤ _)⟩)
  dsimp only [Pt.U, Pt.locs, Pt.cells, Pt.slots] at X2 l2 y2 z2 st2 hQ2
  subst l2 y2 z2
  obtain ⟨rfl, N2q, e2⟩ := hQ2
  have N2 := Fr.app N0 N2q
  have pre3 : ∀ t, Steps p.tables e below (T2.setTop (mkF m 13 #[.val (.ref a1), .val (.int v), .val (.int (24 : Int32))] [(.ref a1)])) t → Steps p.tables e below _ t := fun t kt => pre1 t (by
    show Steps p.tables e below (s₁.setTop (mkF m 2 #[.val (.ref a1), .val (.int v), .unset] [(.int (4 : Int32)), (.ref a1)])) _
    refine st2.trans ?_
    refine XS.bipush X2.here hx rfl (hb hby d8_5) ?_
    refine XS.istoreN X2.here hx rfl (hb hby d8_7) rfl (l' := #[.val (.ref a1), .val (.int v), .val (.int (24 : Int32))]) rfl ?_
    show Steps p.tables e below (T2.setTop (mkF m 8 #[.val (.ref a1), .val (.int v), .val (.int (24 : Int32))] [])) _
    refine XS.iloadN X2.here hx rfl (hb hby d8_8) rfl ?_
    have hc9 : ¬ ((24 : Int32) < (0 : Int32)) := by decide
    refine XS.ifNo X2.here hx rfl (hb hby d8_9) rfl ((if0 _ _).trans (flt hc9).1) ?_
    refine XS.aloadN X2.here hx rfl (hb hby d8_12) rfl rfl ?_
    exact kt)
  obtain ⟨T4, X4, e4, st4⟩ := getF X2 hx hZ hown (host := "") (Or.inl (hw _ (List.mem_of_getElem? (i := 10) rfl))) Via.refl e2 F1 (g := (mkF m 13 #[.val (.ref a1), .val (.int v), .val (.int (24 : Int32))] [(.ref a1)])) rfl rfl (hb hby d8_13)
  have pre5 : ∀ t, Steps p.tables e below (T4.setTop (mkF m 18 #[.val (.ref a1), .val (.int v), .val (.int (24 : Int32))] [(.ref a1), (.ref a1), (.ref bb)])) t → Steps p.tables e below _ t := fun t kt => pre3 t (by
    show Steps p.tables e below (T2.setTop (mkF m 13 #[.val (.ref a1), .val (.int v), .val (.int (24 : Int32))] [(.ref a1)])) _
    refine st4 _ ?_
    refine XS.aloadN X4.here hx rfl (hb hby d8_16) rfl rfl ?_
    refine XS.dup X4.here hx rfl (hb hby d8_17) rfl rfl ?_
    exact kt)
  obtain ⟨T6, X6, e6, st6⟩ := getF X4 hx hZ hown (host := "") (Or.inl (hw _ (List.mem_of_getElem? (i := 17) rfl))) Via.refl e4 F2 (g := (mkF m 18 #[.val (.ref a1), .val (.int v), .val (.int (24 : Int32))] [(.ref a1), (.ref a1), (.ref bb)])) rfl rfl (hb hby d8_18)
  have pre7 : ∀ t, Steps p.tables e below (T6.setTop (mkF m 24 #[.val (.ref a1), .val (.int v), .val (.int (24 : Int32))] [(.int ((Int32.ofNat len) + (1 : Int32))), (.ref a1), (.int (Int32.ofNat len)), (.ref bb)])) t → Steps p.tables e below _ t := fun t kt => pre5 t (by
    show Steps p.tables e below (T4.setTop (mkF m 18 #[.val (.ref a1), .val (.int v), .val (.int (24 : Int32))] [(.ref a1), (.ref a1), (.ref bb)])) _
    refine st6 _ ?_
    refine XS.dupX1 X6.here hx rfl (hb hby d8_21) rfl rfl rfl ?_
    refine XS.iconst X6.here hx rfl (hb hby d8_22) ?_
    show Steps p.tables e below (T6.setTop (mkF m 23 #[.val (.ref a1), .val (.int v), .val (.int (24 : Int32))] [(.int (1 : Int32)), (.int (Int32.ofNat len)), (.ref a1), (.int (Int32.ofNat len)), (.ref bb)])) _
    refine XS.iadd X6.here hx rfl (hb hby d8_23) rfl ?_
    exact kt)
  have hv8 : ((Int32.ofNat len) + (1 : Int32)) = (Int32.ofNat (len + 1)) := (inc_ofNat len).symm
  rw [hv8] at pre7
  obtain ⟨T9, h9, X9, e9, W9, st9⟩ := putF X6 hx hZ hown (host := "") (Or.inl (hw _ (List.mem_of_getElem? (i := 17) rfl))) Via.refl e6 F2 E1 (Or.inl (hw _ (List.mem_of_getElem? (i := 18) rfl))) (hw _ (List.mem_of_getElem? (i := 2) rfl)) (ty := .int) (by decide) rfl rfl (g := (mkF m 24 #[.val (.ref a1), .val (.int v), .val (.int (24 : Int32))] [(.int (Int32.ofNat (len + 1))), (.ref a1), (.int (Int32.ofNat len)), (.ref bb)])) rfl rfl (hb hby d8_24)
  have Fw9 := F2.same W9
  have N9 := Fr.snoc X9 N2 g1
  have Zs9 : n0 ≤ h9.size := Nat.le_trans Z0 (Nat.le_of_eq W9.size.symm)
  have Kp9 : Keep h0 h9 [a1, bb] := (Keep.refl h0 [a1, bb]).wr W9 (Or.inl (List.mem_of_getElem? (i := 0) rfl))
  have E_9 := E1.wr W9
  have FB_9 := (F1.other W9 (Or.inr (slot_ne (Or.inl (hw _ (List.mem_of_getElem? (i := 11) rfl))) (Or.inl (hw _ (List.mem_of_getElem? (i := 18) rfl))) (by decide) (t := (.array .byte)) (t' := .int) (by decide) (by decide))))
  have B_9 := own_B_other B1 W9 ne2
  have pre11 : ∀ t, Steps p.tables e below (T9.setTop (mkF m 31 #[.val (.ref a1), .val (.int v), .val (.int (24 : Int32))] [(.int (((v.toUInt32 >>> ((24 : Int32) &&& 31).toUInt32).toInt32).toInt8.toInt32)), (.int (Int32.ofNat len)), (.ref bb)])) t → Steps p.tables e below _ t := fun t kt => pre7 t (by
    show Steps p.tables e below (T6.setTop (mkF m 24 #[.val (.ref a1), .val (.int v), .val (.int (24 : Int32))] [(.int (Int32.ofNat (len + 1))), (.ref a1), (.int (Int32.ofNat len)), (.ref bb)])) _
    refine st9 _ ?_
    refine XS.iloadN X9.here hx rfl (hb hby d8_27) rfl ?_
    refine XS.iloadN X9.here hx rfl (hb hby d8_28) rfl ?_
    show Steps p.tables e below (T9.setTop (mkF m 29 #[.val (.ref a1), .val (.int v), .val (.int (24 : Int32))] [(.int (24 : Int32)), (.int v), (.int (Int32.ofNat len)), (.ref bb)])) _
    refine XS.iushr X9.here hx rfl (hb hby d8_29) rfl ?_
    refine XS.i2b X9.here hx rfl (hb hby d8_30) rfl ?_
    exact kt)
  obtain ⟨cl_10, Ar_10, Sz_10, Hf_10, Gf_10, Xf_10⟩ := id B_9
  obtain ⟨T12, h12, X12, e12, W12, st12⟩ := stB X9 hx hZ e9 Ar_10 (j := (Int32.ofNat len)) (within (c := len) rfl (by omega) (by omega)) (g := (mkF m 31 #[.val (.ref a1), .val (.int v), .val (.int (24 : Int32))] [(.int (((v.toUInt32 >>> ((24 : Int32) &&& 31).toUInt32).toInt32).toInt8.toInt32)), (.int (Int32.ofNat len)), (.ref bb)])) rfl rfl (hb hby d8_31)
  have N12 := Fr.snoc X12 N9 g2
  have Zs12 : n0 ≤ h12.size := Nat.le_trans Zs9 (Nat.le_of_eq W12.size.symm)
  have Kp12 : Keep h0 h12 [a1, bb] := Kp9.wr W12 (Or.inl (List.mem_of_getElem? (i := 1) rfl))
  have V12 : Wr h9 h12 bb len (.int (own_by v 24)) := by have z := W12; rw [clamp_of (c := len) rfl (by omega), own_byte2] at z; exact z
  have B_12 := own_B_set B_9 V12 (own_fits8 _)
  have E_12 := E_9.wr W12
  have FB_12 := FB_9.other W12 (Or.inl ne1)
  have FL_12 := Fw9.other W12 (Or.inl ne1)
  have pre13 : ∀ t, Steps p.tables e below (T12.setTop (mkF m 8 #[.val (.ref a1), .val (.int v), .val (.int ((24 : Int32) + (-8 : Int32)))] [])) t → Steps p.tables e below _ t := fun t kt => pre11 t (by
    show Steps p.tables e below (T9.setTop (mkF m 31 #[.val (.ref a1), .val (.int v), .val (.int (24 : Int32))] [(.int (((v.toUInt32 >>> ((24 : Int32) &&& 31).toUInt32).toInt32).toInt8.toInt32)), (.int (Int32.ofNat len)), (.ref bb)])) _
    refine st12 _ ?_
    refine XS.iinc X12.here hx rfl (hb hby d8_32) rfl (l' := #[.val (.ref a1), .val (.int v), .val (.int ((24 : Int32) + (-8 : Int32)))]) rfl ?_
    refine XS.goto X12.here hx rfl (pc0 := 35) (pc' := 8) rfl (hb hby d8_35) (by decide) (by decide) ?_
    exact kt)
  have hv14 : ((24 : Int32) + (-8 : Int32)) = (16 : Int32) := by decide
  rw [hv14] at pre13
  have pre15 : ∀ t, Steps p.tables e below (T12.setTop (mkF m 13 #[.val (.ref a1), .val (.int v), .val (.int (16 : Int32))] [(.ref a1)])) t → Steps p.tables e below _ t := fun t kt => pre13 t (by
    show Steps p.tables e below (T12.setTop (mkF m 8 #[.val (.ref a1), .val (.int v), .val (.int (16 : Int32))] [])) _
    refine XS.iloadN X12.here hx rfl (hb hby d8_8) rfl ?_
    have hc9 : ¬ ((16 : Int32) < (0 : Int32)) := by decide
    refine XS.ifNo X12.here hx rfl (hb hby d8_9) rfl ((if0 _ _).trans (flt hc9).1) ?_
    refine XS.aloadN X12.here hx rfl (hb hby d8_12) rfl rfl ?_
    exact kt)
  obtain ⟨T16, X16, e16, st16⟩ := getF X12 hx hZ hown (host := "") (Or.inl (hw _ (List.mem_of_getElem? (i := 10) rfl))) Via.refl e12 FB_12 (g := (mkF m 13 #[.val (.ref a1), .val (.int v), .val (.int (16 : Int32))] [(.ref a1)])) rfl rfl (hb hby d8_13)
  have pre17 : ∀ t, Steps p.tables e below (T16.setTop (mkF m 18 #[.val (.ref a1), .val (.int v), .val (.int (16 : Int32))] [(.ref a1), (.ref a1), (.ref bb)])) t → Steps p.tables e below _ t := fun t kt => pre15 t (by
    show Steps p.tables e below (T12.setTop (mkF m 13 #[.val (.ref a1), .val (.int v), .val (.int (16 : Int32))] [(.ref a1)])) _
    refine st16 _ ?_
    refine XS.aloadN X16.here hx rfl (hb hby d8_16) rfl rfl ?_
    refine XS.dup X16.here hx rfl (hb hby d8_17) rfl rfl ?_
    exact kt)
  obtain ⟨T18, X18, e18, st18⟩ := getF X16 hx hZ hown (host := "") (Or.inl (hw _ (List.mem_of_getElem? (i := 17) rfl))) Via.refl e16 FL_12 (g := (mkF m 18 #[.val (.ref a1), .val (.int v), .val (.int (16 : Int32))] [(.ref a1), (.ref a1), (.ref bb)])) rfl rfl (hb hby d8_18)
  have pre19 : ∀ t, Steps p.tables e below (T18.setTop (mkF m 24 #[.val (.ref a1), .val (.int v), .val (.int (16 : Int32))] [(.int ((Int32.ofNat (len + 1)) + (1 : Int32))), (.ref a1), (.int (Int32.ofNat (len + 1))), (.ref bb)])) t → Steps p.tables e below _ t := fun t kt => pre17 t (by
    show Steps p.tables e below (T16.setTop (mkF m 18 #[.val (.ref a1), .val (.int v), .val (.int (16 : Int32))] [(.ref a1), (.ref a1), (.ref bb)])) _
    refine st18 _ ?_
    refine XS.dupX1 X18.here hx rfl (hb hby d8_21) rfl rfl rfl ?_
    refine XS.iconst X18.here hx rfl (hb hby d8_22) ?_
    show Steps p.tables e below (T18.setTop (mkF m 23 #[.val (.ref a1), .val (.int v), .val (.int (16 : Int32))] [(.int (1 : Int32)), (.int (Int32.ofNat (len + 1))), (.ref a1), (.int (Int32.ofNat (len + 1))), (.ref bb)])) _
    refine XS.iadd X18.here hx rfl (hb hby d8_23) rfl ?_
    exact kt)
  have hv20 : ((Int32.ofNat (len + 1)) + (1 : Int32)) = (Int32.ofNat (len + 2)) := (inc_ofNat (len + 1)).symm
  rw [hv20] at pre19
  obtain ⟨T21, h21, X21, e21, W21, st21⟩ := putF X18 hx hZ hown (host := "") (Or.inl (hw _ (List.mem_of_getElem? (i := 17) rfl))) Via.refl e18 FL_12 E_12 (Or.inl (hw _ (List.mem_of_getElem? (i := 18) rfl))) (hw _ (List.mem_of_getElem? (i := 2) rfl)) (ty := .int) (by decide) rfl rfl (g := (mkF m 24 #[.val (.ref a1), .val (.int v), .val (.int (16 : Int32))] [(.int (Int32.ofNat (len + 2))), (.ref a1), (.int (Int32.ofNat (len + 1))), (.ref bb)])) rfl rfl (hb hby d8_24)
  have Fw21 := FL_12.same W21
  have N21 := Fr.snoc X21 N12 g1
  have Zs21 : n0 ≤ h21.size := Nat.le_trans Zs12 (Nat.le_of_eq W21.size.symm)
  have Kp21 : Keep h0 h21 [a1, bb] := Kp12.wr W21 (Or.inl (List.mem_of_getElem? (i := 0) rfl))
  have E_21 := E_12.wr W21
  have FB_21 := (FB_12.other W21 (Or.inr (slot_ne (Or.inl (hw _ (List.mem_of_getElem? (i := 11) rfl))) (Or.inl (hw _ (List.mem_of_getElem? (i := 18) rfl))) (by decide) (t := (.array .byte)) (t' := .int) (by decide) (by decide))))
  have B_21 := own_B_other B_12 W21 ne2
  have pre23 : ∀ t, Steps p.tables e below (T21.setTop (mkF m 31 #[.val (.ref a1), .val (.int v), .val (.int (16 : Int32))] [(.int (((v.toUInt32 >>> ((16 : Int32) &&& 31).toUInt32).toInt32).toInt8.toInt32)), (.int (Int32.ofNat (len + 1))), (.ref bb)])) t → Steps p.tables e below _ t := fun t kt => pre19 t (by
    show Steps p.tables e below (T18.setTop (mkF m 24 #[.val (.ref a1), .val (.int v), .val (.int (16 : Int32))] [(.int (Int32.ofNat (len + 2))), (.ref a1), (.int (Int32.ofNat (len + 1))), (.ref bb)])) _
    refine st21 _ ?_
    refine XS.iloadN X21.here hx rfl (hb hby d8_27) rfl ?_
    refine XS.iloadN X21.here hx rfl (hb hby d8_28) rfl ?_
    show Steps p.tables e below (T21.setTop (mkF m 29 #[.val (.ref a1), .val (.int v), .val (.int (16 : Int32))] [(.int (16 : Int32)), (.int v), (.int (Int32.ofNat (len + 1))), (.ref bb)])) _
    refine XS.iushr X21.here hx rfl (hb hby d8_29) rfl ?_
    refine XS.i2b X21.here hx rfl (hb hby d8_30) rfl ?_
    exact kt)
  obtain ⟨cl_22, Ar_22, Sz_22, Hf_22, Gf_22, Xf_22⟩ := id B_21
  obtain ⟨T24, h24, X24, e24, W24, st24⟩ := stB X21 hx hZ e21 Ar_22 (j := (Int32.ofNat (len + 1))) (within (c := (len + 1)) rfl (by omega) (by omega)) (g := (mkF m 31 #[.val (.ref a1), .val (.int v), .val (.int (16 : Int32))] [(.int (((v.toUInt32 >>> ((16 : Int32) &&& 31).toUInt32).toInt32).toInt8.toInt32)), (.int (Int32.ofNat (len + 1))), (.ref bb)])) rfl rfl (hb hby d8_31)
  have N24 := Fr.snoc X24 N21 g2
  have Zs24 : n0 ≤ h24.size := Nat.le_trans Zs21 (Nat.le_of_eq W24.size.symm)
  have Kp24 : Keep h0 h24 [a1, bb] := Kp21.wr W24 (Or.inl (List.mem_of_getElem? (i := 1) rfl))
  have V24 : Wr h21 h24 bb (len + 1) (.int (own_by v 16)) := by have z := W24; rw [clamp_of (c := (len + 1)) rfl (by omega), own_byte2] at z; exact z
  have B_24 := own_B_set B_21 V24 (own_fits8 _)
  have E_24 := E_21.wr W24
  have FB_24 := FB_21.other W24 (Or.inl ne1)
  have FL_24 := Fw21.other W24 (Or.inl ne1)
  have pre25 : ∀ t, Steps p.tables e below (T24.setTop (mkF m 8 #[.val (.ref a1), .val (.int v), .val (.int ((16 : Int32) + (-8 : Int32)))] [])) t → Steps p.tables e below _ t := fun t kt => pre23 t (by
    show Steps p.tables e below (T21.setTop (mkF m 31 #[.val (.ref a1), .val (.int v), .val (.int (16 : Int32))] [(.int (((v.toUInt32 >>> ((16 : Int32) &&& 31).toUInt32).toInt32).toInt8.toInt32)), (.int (Int32.ofNat (len + 1))), (.ref bb)])) _
    refine st24 _ ?_
    refine XS.iinc X24.here hx rfl (hb hby d8_32) rfl (l' := #[.val (.ref a1), .val (.int v), .val (.int ((16 : Int32) + (-8 : Int32)))]) rfl ?_
    refine XS.goto X24.here hx rfl (pc0 := 35) (pc' := 8) rfl (hb hby d8_35) (by decide) (by decide) ?_
    exact kt)
  have hv26 : ((16 : Int32) + (-8 : Int32)) = (8 : Int32) := by decide
  rw [hv26] at pre25
  have pre27 : ∀ t, Steps p.tables e below (T24.setTop (mkF m 13 #[.val (.ref a1), .val (.int v), .val (.int (8 : Int32))] [(.ref a1)])) t → Steps p.tables e below _ t := fun t kt => pre25 t (by
    show Steps p.tables e below (T24.setTop (mkF m 8 #[.val (.ref a1), .val (.int v), .val (.int (8 : Int32))] [])) _
    refine XS.iloadN X24.here hx rfl (hb hby d8_8) rfl ?_
    have hc9 : ¬ ((8 : Int32) < (0 : Int32)) := by decide
    refine XS.ifNo X24.here hx rfl (hb hby d8_9) rfl ((if0 _ _).trans (flt hc9).1) ?_
    refine XS.aloadN X24.here hx rfl (hb hby d8_12) rfl rfl ?_
    exact kt)
  obtain ⟨T28, X28, e28, st28⟩ := getF X24 hx hZ hown (host := "") (Or.inl (hw _ (List.mem_of_getElem? (i := 10) rfl))) Via.refl e24 FB_24 (g := (mkF m 13 #[.val (.ref a1), .val (.int v), .val (.int (8 : Int32))] [(.ref a1)])) rfl rfl (hb hby d8_13)
  have pre29 : ∀ t, Steps p.tables e below (T28.setTop (mkF m 18 #[.val (.ref a1), .val (.int v), .val (.int (8 : Int32))] [(.ref a1), (.ref a1), (.ref bb)])) t → Steps p.tables e below _ t := fun t kt => pre27 t (by
    show Steps p.tables e below (T24.setTop (mkF m 13 #[.val (.ref a1), .val (.int v), .val (.int (8 : Int32))] [(.ref a1)])) _
    refine st28 _ ?_
    refine XS.aloadN X28.here hx rfl (hb hby d8_16) rfl rfl ?_
    refine XS.dup X28.here hx rfl (hb hby d8_17) rfl rfl ?_
    exact kt)
  obtain ⟨T30, X30, e30, st30⟩ := getF X28 hx hZ hown (host := "") (Or.inl (hw _ (List.mem_of_getElem? (i := 17) rfl))) Via.refl e28 FL_24 (g := (mkF m 18 #[.val (.ref a1), .val (.int v), .val (.int (8 : Int32))] [(.ref a1), (.ref a1), (.ref bb)])) rfl rfl (hb hby d8_18)
  have pre31 : ∀ t, Steps p.tables e below (T30.setTop (mkF m 24 #[.val (.ref a1), .val (.int v), .val (.int (8 : Int32))] [(.int ((Int32.ofNat (len + 2)) + (1 : Int32))), (.ref a1), (.int (Int32.ofNat (len + 2))), (.ref bb)])) t → Steps p.tables e below _ t := fun t kt => pre29 t (by
    show Steps p.tables e below (T28.setTop (mkF m 18 #[.val (.ref a1), .val (.int v), .val (.int (8 : Int32))] [(.ref a1), (.ref a1), (.ref bb)])) _
    refine st30 _ ?_
    refine XS.dupX1 X30.here hx rfl (hb hby d8_21) rfl rfl rfl ?_
    refine XS.iconst X30.here hx rfl (hb hby d8_22) ?_
    show Steps p.tables e below (T30.setTop (mkF m 23 #[.val (.ref a1), .val (.int v), .val (.int (8 : Int32))] [(.int (1 : Int32)), (.int (Int32.ofNat (len + 2))), (.ref a1), (.int (Int32.ofNat (len + 2))), (.ref bb)])) _
    refine XS.iadd X30.here hx rfl (hb hby d8_23) rfl ?_
    exact kt)
  have hv32 : ((Int32.ofNat (len + 2)) + (1 : Int32)) = (Int32.ofNat (len + 3)) := (inc_ofNat (len + 2)).symm
  rw [hv32] at pre31
  obtain ⟨T33, h33, X33, e33, W33, st33⟩ := putF X30 hx hZ hown (host := "") (Or.inl (hw _ (List.mem_of_getElem? (i := 17) rfl))) Via.refl e30 FL_24 E_24 (Or.inl (hw _ (List.mem_of_getElem? (i := 18) rfl))) (hw _ (List.mem_of_getElem? (i := 2) rfl)) (ty := .int) (by decide) rfl rfl (g := (mkF m 24 #[.val (.ref a1), .val (.int v), .val (.int (8 : Int32))] [(.int (Int32.ofNat (len + 3))), (.ref a1), (.int (Int32.ofNat (len + 2))), (.ref bb)])) rfl rfl (hb hby d8_24)
  have Fw33 := FL_24.same W33
  have N33 := Fr.snoc X33 N24 g1
  have Zs33 : n0 ≤ h33.size := Nat.le_trans Zs24 (Nat.le_of_eq W33.size.symm)
  have Kp33 : Keep h0 h33 [a1, bb] := Kp24.wr W33 (Or.inl (List.mem_of_getElem? (i := 0) rfl))
  have E_33 := E_24.wr W33
  have FB_33 := (FB_24.other W33 (Or.inr (slot_ne (Or.inl (hw _ (List.mem_of_getElem? (i := 11) rfl))) (Or.inl (hw _ (List.mem_of_getElem? (i := 18) rfl))) (by decide) (t := (.array .byte)) (t' := .int) (by decide) (by decide))))
  have B_33 := own_B_other B_24 W33 ne2
  have pre35 : ∀ t, Steps p.tables e below (T33.setTop (mkF m 31 #[.val (.ref a1), .val (.int v), .val (.int (8 : Int32))] [(.int (((v.toUInt32 >>> ((8 : Int32) &&& 31).toUInt32).toInt32).toInt8.toInt32)), (.int (Int32.ofNat (len + 2))), (.ref bb)])) t → Steps p.tables e below _ t := fun t kt => pre31 t (by
    show Steps p.tables e below (T30.setTop (mkF m 24 #[.val (.ref a1), .val (.int v), .val (.int (8 : Int32))] [(.int (Int32.ofNat (len + 3))), (.ref a1), (.int (Int32.ofNat (len + 2))), (.ref bb)])) _
    refine st33 _ ?_
    refine XS.iloadN X33.here hx rfl (hb hby d8_27) rfl ?_
    refine XS.iloadN X33.here hx rfl (hb hby d8_28) rfl ?_
    show Steps p.tables e below (T33.setTop (mkF m 29 #[.val (.ref a1), .val (.int v), .val (.int (8 : Int32))] [(.int (8 : Int32)), (.int v), (.int (Int32.ofNat (len + 2))), (.ref bb)])) _
    refine XS.iushr X33.here hx rfl (hb hby d8_29) rfl ?_
    refine XS.i2b X33.here hx rfl (hb hby d8_30) rfl ?_
    exact kt)
  obtain ⟨cl_34, Ar_34, Sz_34, Hf_34, Gf_34, Xf_34⟩ := id B_33
  obtain ⟨T36, h36, X36, e36, W36, st36⟩ := stB X33 hx hZ e33 Ar_34 (j := (Int32.ofNat (len + 2))) (within (c := (len + 2)) rfl (by omega) (by omega)) (g := (mkF m 31 #[.val (.ref a1), .val (.int v), .val (.int (8 : Int32))] [(.int (((v.toUInt32 >>> ((8 : Int32) &&& 31).toUInt32).toInt32).toInt8.toInt32)), (.int (Int32.ofNat (len + 2))), (.ref bb)])) rfl rfl (hb hby d8_31)
  have N36 := Fr.snoc X36 N33 g2
  have Zs36 : n0 ≤ h36.size := Nat.le_trans Zs33 (Nat.le_of_eq W36.size.symm)
  have Kp36 : Keep h0 h36 [a1, bb] := Kp33.wr W36 (Or.inl (List.mem_of_getElem? (i := 1) rfl))
  have V36 : Wr h33 h36 bb (len + 2) (.int (own_by v 8)) := by have z := W36; rw [clamp_of (c := (len + 2)) rfl (by omega), own_byte2] at z; exact z
  have B_36 := own_B_set B_33 V36 (own_fits8 _)
  have E_36 := E_33.wr W36
  have FB_36 := FB_33.other W36 (Or.inl ne1)
  have FL_36 := Fw33.other W36 (Or.inl ne1)
  have pre37 : ∀ t, Steps p.tables e below (T36.setTop (mkF m 8 #[.val (.ref a1), .val (.int v), .val (.int ((8 : Int32) + (-8 : Int32)))] [])) t → Steps p.tables e below _ t := fun t kt => pre35 t (by
    show Steps p.tables e below (T33.setTop (mkF m 31 #[.val (.ref a1), .val (.int v), .val (.int (8 : Int32))] [(.int (((v.toUInt32 >>> ((8 : Int32) &&& 31).toUInt32).toInt32).toInt8.toInt32)), (.int (Int32.ofNat (len + 2))), (.ref bb)])) _
    refine st36 _ ?_
    refine XS.iinc X36.here hx rfl (hb hby d8_32) rfl (l' := #[.val (.ref a1), .val (.int v), .val (.int ((8 : Int32) + (-8 : Int32)))]) rfl ?_
    refine XS.goto X36.here hx rfl (pc0 := 35) (pc' := 8) rfl (hb hby d8_35) (by decide) (by decide) ?_
    exact kt)
  have hv38 : ((8 : Int32) + (-8 : Int32)) = (0 : Int32) := by decide
  rw [hv38] at pre37
  have pre39 : ∀ t, Steps p.tables e below (T36.setTop (mkF m 13 #[.val (.ref a1), .val (.int v), .val (.int (0 : Int32))] [(.ref a1)])) t → Steps p.tables e below _ t := fun t kt => pre37 t (by
    show Steps p.tables e below (T36.setTop (mkF m 8 #[.val (.ref a1), .val (.int v), .val (.int (0 : Int32))] [])) _
    refine XS.iloadN X36.here hx rfl (hb hby d8_8) rfl ?_
    have hc9 : ¬ ((0 : Int32) < (0 : Int32)) := by decide
    refine XS.ifNo X36.here hx rfl (hb hby d8_9) rfl ((if0 _ _).trans (flt hc9).1) ?_
    refine XS.aloadN X36.here hx rfl (hb hby d8_12) rfl rfl ?_
    exact kt)
  obtain ⟨T40, X40, e40, st40⟩ := getF X36 hx hZ hown (host := "") (Or.inl (hw _ (List.mem_of_getElem? (i := 10) rfl))) Via.refl e36 FB_36 (g := (mkF m 13 #[.val (.ref a1), .val (.int v), .val (.int (0 : Int32))] [(.ref a1)])) rfl rfl (hb hby d8_13)
  have pre41 : ∀ t, Steps p.tables e below (T40.setTop (mkF m 18 #[.val (.ref a1), .val (.int v), .val (.int (0 : Int32))] [(.ref a1), (.ref a1), (.ref bb)])) t → Steps p.tables e below _ t := fun t kt => pre39 t (by
    show Steps p.tables e below (T36.setTop (mkF m 13 #[.val (.ref a1), .val (.int v), .val (.int (0 : Int32))] [(.ref a1)])) _
    refine st40 _ ?_
    refine XS.aloadN X40.here hx rfl (hb hby d8_16) rfl rfl ?_
    refine XS.dup X40.here hx rfl (hb hby d8_17) rfl rfl ?_
    exact kt)
  obtain ⟨T42, X42, e42, st42⟩ := getF X40 hx hZ hown (host := "") (Or.inl (hw _ (List.mem_of_getElem? (i := 17) rfl))) Via.refl e40 FL_36 (g := (mkF m 18 #[.val (.ref a1), .val (.int v), .val (.int (0 : Int32))] [(.ref a1), (.ref a1), (.ref bb)])) rfl rfl (hb hby d8_18)
  have pre43 : ∀ t, Steps p.tables e below (T42.setTop (mkF m 24 #[.val (.ref a1), .val (.int v), .val (.int (0 : Int32))] [(.int ((Int32.ofNat (len + 3)) + (1 : Int32))), (.ref a1), (.int (Int32.ofNat (len + 3))), (.ref bb)])) t → Steps p.tables e below _ t := fun t kt => pre41 t (by
    show Steps p.tables e below (T40.setTop (mkF m 18 #[.val (.ref a1), .val (.int v), .val (.int (0 : Int32))] [(.ref a1), (.ref a1), (.ref bb)])) _
    refine st42 _ ?_
    refine XS.dupX1 X42.here hx rfl (hb hby d8_21) rfl rfl rfl ?_
    refine XS.iconst X42.here hx rfl (hb hby d8_22) ?_
    show Steps p.tables e below (T42.setTop (mkF m 23 #[.val (.ref a1), .val (.int v), .val (.int (0 : Int32))] [(.int (1 : Int32)), (.int (Int32.ofNat (len + 3))), (.ref a1), (.int (Int32.ofNat (len + 3))), (.ref bb)])) _
    refine XS.iadd X42.here hx rfl (hb hby d8_23) rfl ?_
    exact kt)
  have hv44 : ((Int32.ofNat (len + 3)) + (1 : Int32)) = (Int32.ofNat (len + 4)) := (inc_ofNat (len + 3)).symm
  rw [hv44] at pre43
  obtain ⟨T45, h45, X45, e45, W45, st45⟩ := putF X42 hx hZ hown (host := "") (Or.inl (hw _ (List.mem_of_getElem? (i := 17) rfl))) Via.refl e42 FL_36 E_36 (Or.inl (hw _ (List.mem_of_getElem? (i := 18) rfl))) (hw _ (List.mem_of_getElem? (i := 2) rfl)) (ty := .int) (by decide) rfl rfl (g := (mkF m 24 #[.val (.ref a1), .val (.int v), .val (.int (0 : Int32))] [(.int (Int32.ofNat (len + 4))), (.ref a1), (.int (Int32.ofNat (len + 3))), (.ref bb)])) rfl rfl (hb hby d8_24)
  have Fw45 := FL_36.same W45
  have N45 := Fr.snoc X45 N36 g1
  have Zs45 : n0 ≤ h45.size := Nat.le_trans Zs36 (Nat.le_of_eq W45.size.symm)
  have Kp45 : Keep h0 h45 [a1, bb] := Kp36.wr W45 (Or.inl (List.mem_of_getElem? (i := 0) rfl))
  have E_45 := E_36.wr W45
  have FB_45 := (FB_36.other W45 (Or.inr (slot_ne (Or.inl (hw _ (List.mem_of_getElem? (i := 11) rfl))) (Or.inl (hw _ (List.mem_of_getElem? (i := 18) rfl))) (by decide) (t := (.array .byte)) (t' := .int) (by decide) (by decide))))
  have B_45 := own_B_other B_36 W45 ne2
  have pre47 : ∀ t, Steps p.tables e below (T45.setTop (mkF m 31 #[.val (.ref a1), .val (.int v), .val (.int (0 : Int32))] [(.int (((v.toUInt32 >>> ((0 : Int32) &&& 31).toUInt32).toInt32).toInt8.toInt32)), (.int (Int32.ofNat (len + 3))), (.ref bb)])) t → Steps p.tables e below _ t := fun t kt => pre43 t (by
    show Steps p.tables e below (T42.setTop (mkF m 24 #[.val (.ref a1), .val (.int v), .val (.int (0 : Int32))] [(.int (Int32.ofNat (len + 4))), (.ref a1), (.int (Int32.ofNat (len + 3))), (.ref bb)])) _
    refine st45 _ ?_
    refine XS.iloadN X45.here hx rfl (hb hby d8_27) rfl ?_
    refine XS.iloadN X45.here hx rfl (hb hby d8_28) rfl ?_
    show Steps p.tables e below (T45.setTop (mkF m 29 #[.val (.ref a1), .val (.int v), .val (.int (0 : Int32))] [(.int (0 : Int32)), (.int v), (.int (Int32.ofNat (len + 3))), (.ref bb)])) _
    refine XS.iushr X45.here hx rfl (hb hby d8_29) rfl ?_
    refine XS.i2b X45.here hx rfl (hb hby d8_30) rfl ?_
    exact kt)
  obtain ⟨cl_46, Ar_46, Sz_46, Hf_46, Gf_46, Xf_46⟩ := id B_45
  obtain ⟨T48, h48, X48, e48, W48, st48⟩ := stB X45 hx hZ e45 Ar_46 (j := (Int32.ofNat (len + 3))) (within (c := (len + 3)) rfl (by omega) (by omega)) (g := (mkF m 31 #[.val (.ref a1), .val (.int v), .val (.int (0 : Int32))] [(.int (((v.toUInt32 >>> ((0 : Int32) &&& 31).toUInt32).toInt32).toInt8.toInt32)), (.int (Int32.ofNat (len + 3))), (.ref bb)])) rfl rfl (hb hby d8_31)
  have N48 := Fr.snoc X48 N45 g2
  have Zs48 : n0 ≤ h48.size := Nat.le_trans Zs45 (Nat.le_of_eq W48.size.symm)
  have Kp48 : Keep h0 h48 [a1, bb] := Kp45.wr W48 (Or.inl (List.mem_of_getElem? (i := 1) rfl))
  have V48 : Wr h45 h48 bb (len + 3) (.int (own_by v 0)) := by have z := W48; rw [clamp_of (c := (len + 3)) rfl (by omega), own_byte2] at z; exact z
  have B_48 := own_B_set B_45 V48 (own_fits8 _)
  have E_48 := E_45.wr W48
  have FB_48 := FB_45.other W48 (Or.inl ne1)
  have FL_48 := Fw45.other W48 (Or.inl ne1)
  have pre49 : ∀ t, Steps p.tables e below (T48.setTop (mkF m 8 #[.val (.ref a1), .val (.int v), .val (.int ((0 : Int32) + (-8 : Int32)))] [])) t → Steps p.tables e below _ t := fun t kt => pre47 t (by
    show Steps p.tables e below (T45.setTop (mkF m 31 #[.val (.ref a1), .val (.int v), .val (.int (0 : Int32))] [(.int (((v.toUInt32 >>> ((0 : Int32) &&& 31).toUInt32).toInt32).toInt8.toInt32)), (.int (Int32.ofNat (len + 3))), (.ref bb)])) _
    refine st48 _ ?_
    refine XS.iinc X48.here hx rfl (hb hby d8_32) rfl (l' := #[.val (.ref a1), .val (.int v), .val (.int ((0 : Int32) + (-8 : Int32)))]) rfl ?_
    refine XS.goto X48.here hx rfl (pc0 := 35) (pc' := 8) rfl (hb hby d8_35) (by decide) (by decide) ?_
    exact kt)
  have hv50 : ((0 : Int32) + (-8 : Int32)) = (-8 : Int32) := by decide
  rw [hv50] at pre49
  obtain ⟨fs, hr, hrun, hended, hW, hsame⟩ := X48.leave (v := some (.ref a1)) (fun h => by rw [Bd.returns] at h; cases h)
  refine ⟨_, _, pre49 _ ?_, hrun, hended, _, _, rfl, ?_, ⟨_, rfl⟩, hW, hsame.mono (by decide) (by decide)⟩
  · show Steps p.tables e below (T48.setTop (mkF m 8 #[.val (.ref a1), .val (.int v), .val (.int (-8 : Int32))] [])) _
    refine XS.iloadN X48.here hx rfl (hb hby d8_8) rfl ?_
    have hc9 : (-8 : Int32) < (0 : Int32) := by decide
    refine XS.ifYes X48.here hx rfl (pc0 := 9) (pc' := 38) rfl (hb hby d8_9) rfl ((if0 _ _).trans (tlt hc9).1) (by decide) (by decide) ?_
    refine XS.aloadN X48.here hx rfl (hb hby d8_38) rfl rfl ?_
    show Steps p.tables e below (T48.setTop (mkF m 39 #[.val (.ref a1), .val (.int v), .val (.int (-8 : Int32))] [(.ref a1)])) _
    jvm_step X48.here [X48.here.top, hx, (hb hby d8_39), X48.method', Bd.returns, Value.isRef, FieldType.isReference]
    first | (intro acts; rw [hr _ acts rfl rfl rfl]) | rw [hr _ _ rfl rfl rfl]
    exact Steps.refl _
  · show Q8 Z a1 bb cap len f v h0 n0 _ T48.heap _
    rw [e48]
    exact ⟨rfl, N48, Kp48, E_48, FB_48, FL_48, B_48⟩
theorem ef_8g (m : MethodId) (x0 : Addr) (x1 : Int32) : entryFrame m #[(.ref x0), (.int x1)] 3 = mkF m 0 #[.val (.ref x0), .val (.int x1), .unset] [] := by first | (simp [entryFrame, mkF, argsToLocals, Value.category]; done) | rfl
def Q8g (Z : State) (a1 : Addr) (cap len : Nat) (f : Nat → Int32) (v : Int32) (h0 : Heap) (n0 : Nat) (r : Option Value) (h : Heap) (L : List Loc) : Prop := ∃ b, r = some (.ref a1) ∧ Fr n0 L ∧ Keep h0 h [a1] ∧ h0.size ≤ b ∧ Exa Z h a1 "com/example/haulway/haulway/io/RecordOutput" ∧ Fld Z h a1 "com/example/haulway/haulway/io/RecordOutput" "bytes" "[B" (.ref b) ∧ Fld Z h a1 "com/example/haulway/haulway/io/RecordOutput" "length" "I" (.int (Int32.ofNat (len + 4))) ∧ own_B Z h b 128 (own_p4 (own_cut f cap) len v)
set_option maxRecDepth 65536 in
set_option maxHeartbeats 40000000 in
theorem rm8g (l : Launch) (Z : State) (a0 : Array Value) (hw : ∀ d ∈ tables_1, d.before a0 Z = true) (ws : List Jvm.Cond) (a1 : Addr) (bb : Addr) (cap : Nat) (len : Nat) (f : Nat → Int32) (v : Int32) (h0 : Heap) (n0 : Nat) (Z0 : n0 ≤ h0.size) (E1 : Exa Z h0 a1 "com/example/haulway/haulway/io/RecordOutput") (F1 : Fld Z h0 a1 "com/example/haulway/haulway/io/RecordOutput" "bytes" "[B" (.ref bb)) (F2 : Fld Z h0 a1 "com/example/haulway/haulway/io/RecordOutput" "length" "I" (.int (Int32.ofNat len))) (B1 : own_B Z h0 bb cap f) (hc64 : cap = 64) (hl : cap < len + 4) (hl1 : len ≤ cap) (g1 : n0 ≤ a1) :
    MetFree l (⟨"com/example/haulway/haulway/io/RecordOutput", "putInt", "(I)Lcom/example/haulway/haulway/io/RecordOutput;"⟩ : MethodName) (head1 (Jvm.Cond.code (⟨"com/example/haulway/haulway/io/RecordOutput", "putInt", "(I)Lcom/example/haulway/haulway/io/RecordOutput;"⟩ : MethodName) prog_72_method_4_code 3 (some (.object "com/example/haulway/haulway/io/RecordOutput")) :: ws) ({ frames := 3, cells := 1, slots := 128, locals := 68 } : Room)) (fun aa_ U => aa_ = #[(.ref a1), (.int v)] ∧ Z.Warmed39 U.vm ∧ U.heap = h0) (fun _ _ _ _ _ => True) (fun _ U o U' => ∃ v_ L_, o = .returned v_ ∧ Q8g Z a1 cap len f v h0 n0 v_ U'.heap L_ ∧ FrameEnd U o U' L_ ({ frames := 3, cells := 1, slots := 128, locals := 68 } : Room).cells ({ frames := 3, cells := 1, slots := 128, locals := 68 } : Room).slots) := by
  refine MetFree.of_bodySF (plainFor_of_name pn_8) hisR ?_
  intro p e s m args below meth c s₁ Bd hml0 hP hK
  obtain ⟨rfl, hZ, hh⟩ := hP
  have hx := Bd.exec
  have hby := Bd.bytes
  have hml : c.maxLocals = 3 := hml0
  have hown : s.vm.findClass "com/example/haulway/haulway/io/RecordOutput" = some m.cls := findClass_of_methodNamed Bd.named
  have hnm := (name_of_methodNamed Bd.named Bd.method).1
  have X0 : Stand p l e ({ frames := 3, cells := 1, slots := 128, locals := 68 } : Room) s m #[(.ref a1), (.int v)] below meth c s₁ [] 0 0 := Stand.of_body Bd
  have e0 : s₁.heap = h0 := by rw [← hh, Bd.state]; rfl
  have N0 := Fr.nil n0
  have pre0 : ∀ t, Steps p.tables e below (s₁.setTop (mkF m 0 #[.val (.ref a1), .val (.int v), .unset] [])) t → Steps p.tables e below (s₁.setTop (entryFrame m #[(.ref a1), (.int v)] 3)) t := fun t k_ => castTop (ef_8g m a1 v) k_
  have pre1 : ∀ t, Steps p.tables e below (s₁.setTop (mkF m 2 #[.val (.ref a1), .val (.int v), .unset] [(.int (4 : Int32)), (.ref a1)])) t → Steps p.tables e below _ t := fun t kt => pre0 t (by
    show Steps p.tables e below (s₁.setTop (mkF m 0 #[.val (.ref a1), .val (.int v), .unset] [])) _
    refine XS.aloadN X0.here hx rfl (hb hby d8_0) rfl rfl ?_
    refine XS.iconst X0.here hx rfl (hb hby d8_1) ?_
    exact kt)
  obtain ⟨cq2, q2, q2'⟩ := E1.cell
  obtain ⟨_, _, ⟨T2, L2, k2, n2⟩, -, X2, ⟨Lc2, hQ2, l2, y2, z2⟩, st2⟩ := X0.privateBack hx (y := (⟨"com/example/haulway/haulway/io/RecordOutput", "room", "(I)V"⟩ : MethodName)) hown (mvT hZ (hw _ (List.mem_of_getElem? (i := 43) rfl))) (mvT hZ (hw _ (List.mem_of_getElem? (i := 44) rfl))) (mvT hZ (own_sel (y := (⟨"com/example/haulway/haulway/io/RecordOutput", "room", "(I)V"⟩ : MethodName)) (by decide) (hw _ (List.mem_of_getElem? (i := 2) rfl)) (hw _ (List.mem_of_getElem? (i := 45) rfl)) (hw _ (List.mem_of_getElem? (i := 44) rfl)))) (Cond.privateMethod_at (mvP hZ (hw _ (List.mem_of_getElem? (i := 45) rfl)) (args := #[]))) (mvT hZ (hw _ (List.mem_of_getElem? (i := 46) rfl))) (by decide) (backOf (W := 0) (rm9g l Z a0 hw [] a1 bb cap len f 4 h0 n0 Z0 E1 F1 F2 B1 hc64 (by omega) (by omega) (by omega) g1) hZ (hw _ (List.mem_of_getElem? (i := 46) rfl)) (hw _ (List.mem_of_getElem? (i := 3) rfl)) (by decide) (by decide)) (g := (mkF m 2 #[.val (.ref a1), .val (.int v), .unset] [(.int (4 : Int32)), (.ref a1)])) rfl (by rw [hml]; rfl) (Steps.refl _) (a := a1) (by rw [e0]; exact q2) q2' (argsL := [(.int (4 : Int32))]) (rest := []) (lenOf pd_2 rfl) rfl (by show 2 * 0 + _ ≤ _; exact Nat.le_of_eq rfl) (hb hby d8_2) (fun _ _ => ⟨rfl, e0, (by decide : 0 + 1 ≤ _), (by decide : 0 + 128 ≤ _)⟩)
  dsimp only [Pt.U, Pt.locs, Pt.cells, Pt.slots] at X2 l2 y2 z2 st2 hQ2
  subst l2 y2 z2
  obtain ⟨bn, rfl, N2q, Kr, sz_bn, Er, Fr1, Fr2, Br⟩ := hQ2
  have N2 := Fr.app N0 N2q
  have Zr : n0 ≤ T2.heap.size := Nat.le_trans Z0 Kr.1
  have ne1 : a1 ≠ bn := Nat.ne_of_lt (Nat.lt_of_lt_of_le E1.lt sz_bn)
  have ne2 : bn ≠ a1 := Ne.symm ne1
  have g2 : n0 ≤ bn := Nat.le_trans Z0 sz_bn
  have pre3 : ∀ t, Steps p.tables e below (T2.setTop (mkF m 13 #[.val (.ref a1), .val (.int v), .val (.int (24 : Int32))] [(.ref a1)])) t → Steps p.tables e below _ t := fun t kt => pre1 t (by
    show Steps p.tables e below (s₁.setTop (mkF m 2 #[.val (.ref a1), .val (.int v), .unset] [(.int (4 : Int32)), (.ref a1)])) _
    refine st2.trans ?_
    refine XS.bipush X2.here hx rfl (hb hby d8_5) ?_
    refine XS.istoreN X2.here hx rfl (hb hby d8_7) rfl (l' := #[.val (.ref a1), .val (.int v), .val (.int (24 : Int32))]) rfl ?_
    show Steps p.tables e below (T2.setTop (mkF m 8 #[.val (.ref a1), .val (.int v), .val (.int (24 : Int32))] [])) _
    refine XS.iloadN X2.here hx rfl (hb hby d8_8) rfl ?_
    have hc9 : ¬ ((24 : Int32) < (0 : Int32)) := by decide
    refine XS.ifNo X2.here hx rfl (hb hby d8_9) rfl ((if0 _ _).trans (flt hc9).1) ?_
    refine XS.aloadN X2.here hx rfl (hb hby d8_12) rfl rfl ?_
    exact kt)
  obtain ⟨T4, X4, e4, st4⟩ := getF X2 hx hZ hown (host := "") (Or.inl (hw _ (List.mem_of_getElem? (i := 10) rfl))) Via.refl rfl Fr1 (g := (mkF m 13 #[.val (.ref a1), .val (.int v), .val (.int (24 : Int32))] [(.ref a1)])) rfl rfl (hb hby d8_13)
  have pre5 : ∀ t, Steps p.tables e below (T4.setTop (mkF m 18 #[.val (.ref a1), .val (.int v), .val (.int (24 : Int32))] [(.ref a1), (.ref a1), (.ref bn)])) t → Steps p.tables e below _ t := fun t kt => pre3 t (by
    show Steps p.tables e below (T2.setTop (mkF m 13 #[.val (.ref a1), .val (.int v), .val (.int (24 : Int32))] [(.ref a1)])) _
    refine st4 _ ?_
    refine XS.aloadN X4.here hx rfl (hb hby d8_16) rfl rfl ?_
    refine XS.dup X4.here hx rfl (hb hby d8_17) rfl rfl ?_
    exact kt)
  obtain ⟨T6, X6, e6, st6⟩ := getF X4 hx hZ hown (host := "") (Or.inl (hw _ (List.mem_of_getElem? (i := 17) rfl))) Via.refl e4 Fr2 (g := (mkF m 18 #[.val (.ref a1), .val (.int v), .val (.int (24 : Int32))] [(.ref a1), (.ref a1), (.ref bn)])) rfl rfl (hb hby d8_18)
  have pre7 : ∀ t, Steps p.tables e below (T6.setTop (mkF m 24 #[.val (.ref a1), .val (.int v), .val (.int (24 : Int32))] [(.int ((Int32.ofNat len) + (1 : Int32))), (.ref a1), (.int (Int32.ofNat len)), (.ref bn)])) t → Steps p.tables e below _ t := fun t kt => pre5 t (by
    show Steps p.tables e below (T4.setTop (mkF m 18 #[.val (.ref a1), .val (.int v), .val (.int (24 : Int32))] [(.ref a1), (.ref a1), (.ref bn)])) _
    refine st6 _ ?_
    refine XS.dupX1 X6.here hx rfl (hb hby d8_21) rfl rfl rfl ?_
    refine XS.iconst X6.here hx rfl (hb hby d8_22) ?_
    show Steps p.tables e below (T6.setTop (mkF m 23 #[.val (.ref a1), .val (.int v), .val (.int (24 : Int32))] [(.int (1 : Int32)), (.int (Int32.ofNat len)), (.ref a1), (.int (Int32.ofNat len)), (.ref bn)])) _
    refine XS.iadd X6.here hx rfl (hb hby d8_23) rfl ?_
    exact kt)
  have hv8 : ((Int32.ofNat len) + (1 : Int32)) = (Int32.ofNat (len + 1)) := (inc_ofNat len).symm
  rw [hv8] at pre7
  obtain ⟨T9, h9, X9, e9, W9, st9⟩ := putF X6 hx hZ hown (host := "") (Or.inl (hw _ (List.mem_of_getElem? (i := 17) rfl))) Via.refl e6 Fr2 Er (Or.inl (hw _ (List.mem_of_getElem? (i := 18) rfl))) (hw _ (List.mem_of_getElem? (i := 2) rfl)) (ty := .int) (by decide) rfl rfl (g := (mkF m 24 #[.val (.ref a1), .val (.int v), .val (.int (24 : Int32))] [(.int (Int32.ofNat (len + 1))), (.ref a1), (.int (Int32.ofNat len)), (.ref bn)])) rfl rfl (hb hby d8_24)
  have Fw9 := Fr2.same W9
  have N9 := Fr.snoc X9 N2 g1
  have Zs9 : n0 ≤ h9.size := Nat.le_trans Zr (Nat.le_of_eq W9.size.symm)
  have Kp9 : Keep h0 h9 [a1] := Kr.wr W9 (Or.inl (List.mem_of_getElem? (i := 0) rfl))
  have E_9 := Er.wr W9
  have FB_9 := (Fr1.other W9 (Or.inr (slot_ne (Or.inl (hw _ (List.mem_of_getElem? (i := 11) rfl))) (Or.inl (hw _ (List.mem_of_getElem? (i := 18) rfl))) (by decide) (t := (.array .byte)) (t' := .int) (by decide) (by decide))))
  have B_9 := own_B_other Br W9 ne2
  have pre11 : ∀ t, Steps p.tables e below (T9.setTop (mkF m 31 #[.val (.ref a1), .val (.int v), .val (.int (24 : Int32))] [(.int (((v.toUInt32 >>> ((24 : Int32) &&& 31).toUInt32).toInt32).toInt8.toInt32)), (.int (Int32.ofNat len)), (.ref bn)])) t → Steps p.tables e below _ t := fun t kt => pre7 t (by
    show Steps p.tables e below (T6.setTop (mkF m 24 #[.val (.ref a1), .val (.int v), .val (.int (24 : Int32))] [(.int (Int32.ofNat (len + 1))), (.ref a1), (.int (Int32.ofNat len)), (.ref bn)])) _
    refine st9 _ ?_
    refine XS.iloadN X9.here hx rfl (hb hby d8_27) rfl ?_
    refine XS.iloadN X9.here hx rfl (hb hby d8_28) rfl ?_
    show Steps p.tables e below (T9.setTop (mkF m 29 #[.val (.ref a1), .val (.int v), .val (.int (24 : Int32))] [(.int (24 : Int32)), (.int v), (.int (Int32.ofNat len)), (.ref bn)])) _
    refine XS.iushr X9.here hx rfl (hb hby d8_29) rfl ?_
    refine XS.i2b X9.here hx rfl (hb hby d8_30) rfl ?_
    exact kt)
  obtain ⟨cl_10, Ar_10, Sz_10, Hf_10, Gf_10, Xf_10⟩ := id B_9
  obtain ⟨T12, h12, X12, e12, W12, st12⟩ := stB X9 hx hZ e9 Ar_10 (j := (Int32.ofNat len)) (within (c := len) rfl (by omega) (by omega)) (g := (mkF m 31 #[.val (.ref a1), .val (.int v), .val (.int (24 : Int32))] [(.int (((v.toUInt32 >>> ((24 : Int32) &&& 31).toUInt32).toInt32).toInt8.toInt32)), (.int (Int32.ofNat len)), (.ref bn)])) rfl rfl (hb hby d8_31)
  have N12 := Fr.snoc X12 N9 g2
  have Zs12 : n0 ≤ h12.size := Nat.le_trans Zs9 (Nat.le_of_eq W12.size.symm)
  have Kp12 : Keep h0 h12 [a1] := Kp9.wr W12 (Or.inr sz_bn)
  have V12 : Wr h9 h12 bn len (.int (own_by v 24)) := by have z := W12; rw [clamp_of (c := len) rfl (by omega), own_byte2] at z; exact z
  have B_12 := own_B_set B_9 V12 (own_fits8 _)
  have E_12 := E_9.wr W12
  have FB_12 := FB_9.other W12 (Or.inl ne1)
  have FL_12 := Fw9.other W12 (Or.inl ne1)
  have pre13 : ∀ t, Steps p.tables e below (T12.setTop (mkF m 8 #[.val (.ref a1), .val (.int v), .val (.int ((24 : Int32) + (-8 : Int32)))] [])) t → Steps p.tables e below _ t := fun t kt => pre11 t (by
    show Steps p.tables e below (T9.setTop (mkF m 31 #[.val (.ref a1), .val (.int v), .val (.int (24 : Int32))] [(.int (((v.toUInt32 >>> ((24 : Int32) &&& 31).toUInt32).toInt32).toInt8.toInt32)), (.int (Int32.ofNat len)), (.ref bn)])) _
    refine st12 _ ?_
    refine XS.iinc X12.here hx rfl (hb hby d8_32) rfl (l' := #[.val (.ref a1), .val (.int v), .val (.int ((24 : Int32) + (-8 : Int32)))]) rfl ?_
    refine XS.goto X12.here hx rfl (pc0 := 35) (pc' := 8) rfl (hb hby d8_35) (by decide) (by decide) ?_
    exact kt)
  have hv14 : ((24 : Int32) + (-8 : Int32)) = (16 : Int32) := by decide
  rw [hv14] at pre13
  have pre15 : ∀ t, Steps p.tables e below (T12.setTop (mkF m 13 #[.val (.ref a1), .val (.int v), .val (.int (16 : Int32))] [(.ref a1)])) t → Steps p.tables e below _ t := fun t kt => pre13 t (by
    show Steps p.tables e below (T12.setTop (mkF m 8 #[.val (.ref a1), .val (.int v), .val (.int (16 : Int32))] [])) _
    refine XS.iloadN X12.here hx rfl (hb hby d8_8) rfl ?_
    have hc9 : ¬ ((16 : Int32) < (0 : Int32)) := by decide
    refine XS.ifNo X12.here hx rfl (hb hby d8_9) rfl ((if0 _ _).trans (flt hc9).1) ?_
    refine XS.aloadN X12.here hx rfl (hb hby d8_12) rfl rfl ?_
    exact kt)
  obtain ⟨T16, X16, e16, st16⟩ := getF X12 hx hZ hown (host := "") (Or.inl (hw _ (List.mem_of_getElem? (i := 10) rfl))) Via.refl e12 FB_12 (g := (mkF m 13 #[.val (.ref a1), .val (.int v), .val (.int (16 : Int32))] [(.ref a1)])) rfl rfl (hb hby d8_13)
  have pre17 : ∀ t, Steps p.tables e below (T16.setTop (mkF m 18 #[.val (.ref a1), .val (.int v), .val (.int (16 : Int32))] [(.ref a1), (.ref a1), (.ref bn)])) t → Steps p.tables e below _ t := fun t kt => pre15 t (by
    show Steps p.tables e below (T12.setTop (mkF m 13 #[.val (.ref a1), .val (.int v), .val (.int (16 : Int32))] [(.ref a1)])) _
    refine st16 _ ?_
    refine XS.aloadN X16.here hx rfl (hb hby d8_16) rfl rfl ?_
    refine XS.dup X16.here hx rfl (hb hby d8_17) rfl rfl ?_
    exact kt)
  obtain ⟨T18, X18, e18, st18⟩ := getF X16 hx hZ hown (host := "") (Or.inl (hw _ (List.mem_of_getElem? (i := 17) rfl))) Via.refl e16 FL_12 (g := (mkF m 18 #[.val (.ref a1), .val (.int v), .val (.int (16 : Int32))] [(.ref a1), (.ref a1), (.ref bn)])) rfl rfl (hb hby d8_18)
  have pre19 : ∀ t, Steps p.tables e below (T18.setTop (mkF m 24 #[.val (.ref a1), .val (.int v), .val (.int (16 : Int32))] [(.int ((Int32.ofNat (len + 1)) + (1 : Int32))), (.ref a1), (.int (Int32.ofNat (len + 1))), (.ref bn)])) t → Steps p.tables e below _ t := fun t kt => pre17 t (by
    show Steps p.tables e below (T16.setTop (mkF m 18 #[.val (.ref a1), .val (.int v), .val (.int (16 : Int32))] [(.ref a1), (.ref a1), (.ref bn)])) _
    refine st18 _ ?_
    refine XS.dupX1 X18.here hx rfl (hb hby d8_21) rfl rfl rfl ?_
    refine XS.iconst X18.here hx rfl (hb hby d8_22) ?_
    show Steps p.tables e below (T18.setTop (mkF m 23 #[.val (.ref a1), .val (.int v), .val (.int (16 : Int32))] [(.int (1 : Int32)), (.int (Int32.ofNat (len + 1))), (.ref a1), (.int (Int32.ofNat (len + 1))), (.ref bn)])) _
    refine XS.iadd X18.here hx rfl (hb hby d8_23) rfl ?_
    exact kt)
  have hv20 : ((Int32.ofNat (len + 1)) + (1 : Int32)) = (Int32.ofNat (len + 2)) := (inc_ofNat (len + 1)).symm
  rw [hv20] at pre19
  obtain ⟨T21, h21, X21, e21, W21, st21⟩ := putF X18 hx hZ hown (host := "") (Or.inl (hw _ (List.mem_of_getElem? (i := 17) rfl))) Via.refl e18 FL_12 E_12 (Or.inl (hw _ (List.mem_of_getElem? (i := 18) rfl))) (hw _ (List.mem_of_getElem? (i := 2) rfl)) (ty := .int) (by decide) rfl rfl (g := (mkF m 24 #[.val (.ref a1), .val (.int v), .val (.int (16 : Int32))] [(.int (Int32.ofNat (len + 2))), (.ref a1), (.int (Int32.ofNat (len + 1))), (.ref bn)])) rfl rfl (hb hby d8_24)
  have Fw21 := FL_12.same W21
  have N21 := Fr.snoc X21 N12 g1
  have Zs21 : n0 ≤ h21.size := Nat.le_trans Zs12 (Nat.le_of_eq W21.size.symm)
  have Kp21 : Keep h0 h21 [a1] := Kp12.wr W21 (Or.inl (List.mem_of_getElem? (i := 0) rfl))
  have E_21 := E_12.wr W21
  have FB_21 := (FB_12.other W21 (Or.inr (slot_ne (Or.inl (hw _ (List.mem_of_getElem? (i := 11) rfl))) (Or.inl (hw _ (List.mem_of_getElem? (i := 18) rfl))) (by decide) (t := (.array .byte)) (t' := .int) (by decide) (by decide))))
  have B_21 := own_B_other B_12 W21 ne2
  have pre23 : ∀ t, Steps p.tables e below (T21.setTop (mkF m 31 #[.val (.ref a1), .val (.int v), .val (.int (16 : Int32))] [(.int (((v.toUInt32 >>> ((16 : Int32) &&& 31).toUInt32).toInt32).toInt8.toInt32)), (.int (Int32.ofNat (len + 1))), (.ref bn)])) t → Steps p.tables e below _ t := fun t kt => pre19 t (by
    show Steps p.tables e below (T18.setTop (mkF m 24 #[.val (.ref a1), .val (.int v), .val (.int (16 : Int32))] [(.int (Int32.ofNat (len + 2))), (.ref a1), (.int (Int32.ofNat (len + 1))), (.ref bn)])) _
    refine st21 _ ?_
    refine XS.iloadN X21.here hx rfl (hb hby d8_27) rfl ?_
    refine XS.iloadN X21.here hx rfl (hb hby d8_28) rfl ?_
    show Steps p.tables e below (T21.setTop (mkF m 29 #[.val (.ref a1), .val (.int v), .val (.int (16 : Int32))] [(.int (16 : Int32)), (.int v), (.int (Int32.ofNat (len + 1))), (.ref bn)])) _
    refine XS.iushr X21.here hx rfl (hb hby d8_29) rfl ?_
    refine XS.i2b X21.here hx rfl (hb hby d8_30) rfl ?_
    exact kt)
  obtain ⟨cl_22, Ar_22, Sz_22, Hf_22, Gf_22, Xf_22⟩ := id B_21
  obtain ⟨T24, h24, X24, e24, W24, st24⟩ := stB X21 hx hZ e21 Ar_22 (j := (Int32.ofNat (len + 1))) (within (c := (len + 1)) rfl (by omega) (by omega)) (g := (mkF m 31 #[.val (.ref a1), .val (.int v), .val (.int (16 : Int32))] [(.int (((v.toUInt32 >>> ((16 : Int32) &&& 31).toUInt32).toInt32).toInt8.toInt32)), (.int (Int32.ofNat (len + 1))), (.ref bn)])) rfl rfl (hb hby d8_31)
  have N24 := Fr.snoc X24 N21 g2
  have Zs24 : n0 ≤ h24.size := Nat.le_trans Zs21 (Nat.le_of_eq W24.size.symm)
  have Kp24 : Keep h0 h24 [a1] := Kp21.wr W24 (Or.inr sz_bn)
  have V24 : Wr h21 h24 bn (len + 1) (.int (own_by v 16)) := by have z := W24; rw [clamp_of (c := (len + 1)) rfl (by omega), own_byte2] at z; exact z
  have B_24 := own_B_set B_21 V24 (own_fits8 _)
  have E_24 := E_21.wr W24
  have FB_24 := FB_21.other W24 (Or.inl ne1)
  have FL_24 := Fw21.other W24 (Or.inl ne1)
  have pre25 : ∀ t, Steps p.tables e below (T24.setTop (mkF m 8 #[.val (.ref a1), .val (.int v), .val (.int ((16 : Int32) + (-8 : Int32)))] [])) t → Steps p.tables e below _ t := fun t kt => pre23 t (by
    show Steps p.tables e below (T21.setTop (mkF m 31 #[.val (.ref a1), .val (.int v), .val (.int (16 : Int32))] [(.int (((v.toUInt32 >>> ((16 : Int32) &&& 31).toUInt32).toInt32).toInt8.toInt32)), (.int (Int32.ofNat (len + 1))), (.ref bn)])) _
    refine st24 _ ?_
    refine XS.iinc X24.here hx rfl (hb hby d8_32) rfl (l' := #[.val (.ref a1), .val (.int v), .val (.int ((16 : Int32) + (-8 : Int32)))]) rfl ?_
    refine XS.goto X24.here hx rfl (pc0 := 35) (pc' := 8) rfl (hb hby d8_35) (by decide) (by decide) ?_
    exact kt)
  have hv26 : ((16 : Int32) + (-8 : Int32)) = (8 : Int32) := by decide
  rw [hv26] at pre25
  have pre27 : ∀ t, Steps p.tables e below (T24.setTop (mkF m 13 #[.val (.ref a1), .val (.int v), .val (.int (8 : Int32))] [(.ref a1)])) t → Steps p.tables e below _ t := fun t kt => pre25 t (by
    show Steps p.tables e below (T24.setTop (mkF m 8 #[.val (.ref a1), .val (.int v), .val (.int (8 : Int32))] [])) _
    refine XS.iloadN X24.here hx rfl (hb hby d8_8) rfl ?_
    have hc9 : ¬ ((8 : Int32) < (0 : Int32)) := by decide
    refine XS.ifNo X24.here hx rfl (hb hby d8_9) rfl ((if0 _ _).trans (flt hc9).1) ?_
    refine XS.aloadN X24.here hx rfl (hb hby d8_12) rfl rfl ?_
    exact kt)
  obtain ⟨T28, X28, e28, st28⟩ := getF X24 hx hZ hown (host := "") (Or.inl (hw _ (List.mem_of_getElem? (i := 10) rfl))) Via.refl e24 FB_24 (g := (mkF m 13 #[.val (.ref a1), .val (.int v), .val (.int (8 : Int32))] [(.ref a1)])) rfl rfl (hb hby d8_13)
  have pre29 : ∀ t, Steps p.tables e below (T28.setTop (mkF m 18 #[.val (.ref a1), .val (.int v), .val (.int (8 : Int32))] [(.ref a1), (.ref a1), (.ref bn)])) t → Steps p.tables e below _ t := fun t kt => pre27 t (by
    show Steps p.tables e below (T24.setTop (mkF m 13 #[.val (.ref a1), .val (.int v), .val (.int (8 : Int32))] [(.ref a1)])) _
    refine st28 _ ?_
    refine XS.aloadN X28.here hx rfl (hb hby d8_16) rfl rfl ?_
    refine XS.dup X28.here hx rfl (hb hby d8_17) rfl rfl ?_
    exact kt)
  obtain ⟨T30, X30, e30, st30⟩ := getF X28 hx hZ hown (host := "") (Or.inl (hw _ (List.mem_of_getElem? (i := 17) rfl))) Via.refl e28 FL_24 (g := (mkF m 18 #[.val (.ref a1), .val (.int v), .val (.int (8 : Int32))] [(.ref a1), (.ref a1), (.ref bn)])) rfl rfl (hb hby d8_18)
  have pre31 : ∀ t, Steps p.tables e below (T30.setTop (mkF m 24 #[.val (.ref a1), .val (.int v), .val (.int (8 : Int32))] [(.int ((Int32.ofNat (len + 2)) + (1 : Int32))), (.ref a1), (.int (Int32.ofNat (len + 2))), (.ref bn)])) t → Steps p.tables e below _ t := fun t kt => pre29 t (by
    show Steps p.tables e below (T28.setTop (mkF m 18 #[.val (.ref a1), .val (.int v), .val (.int (8 : Int32))] [(.ref a1), (.ref a1), (.ref bn)])) _
    refine st30 _ ?_
    refine XS.dupX1 X30.here hx rfl (hb hby d8_21) rfl rfl rfl ?_
    refine XS.iconst X30.here hx rfl (hb hby d8_22) ?_
    show Steps p.tables e below (T30.setTop (mkF m 23 #[.val (.ref a1), .val (.int v), .val (.int (8 : Int32))] [(.int (1 : Int32)), (.int (Int32.ofNat (len + 2))), (.ref a1), (.int (Int32.ofNat (len + 2))), (.ref bn)])) _
    refine XS.iadd X30.here hx rfl (hb hby d8_23) rfl ?_
    exact kt)
  have hv32 : ((Int32.ofNat (len + 2)) + (1 : Int32)) = (Int32.ofNat (len + 3)) := (inc_ofNat (len + 2)).symm
  rw [hv32] at pre31
  obtain ⟨T33, h33, X33, e33, W33, st33⟩ := putF X30 hx hZ hown (host := "") (Or.inl (hw _ (List.mem_of_getElem? (i := 17) rfl))) Via.refl e30 FL_24 E_24 (Or.inl (hw _ (List.mem_of_getElem? (i := 18) rfl))) (hw _ (List.mem_of_getElem? (i := 2) rfl)) (ty := .int) (by decide) rfl rfl (g := (mkF m 24 #[.val (.ref a1), .val (.int v), .val (.int (8 : Int32))] [(.int (Int32.ofNat (len + 3))), (.ref a1), (.int (Int32.ofNat (len + 2))), (.ref bn)])) rfl rfl (hb hby d8_24)
  have Fw33 := FL_24.same W33
  have N33 := Fr.snoc X33 N24 g1
  have Zs33 : n0 ≤ h33.size := Nat.le_trans Zs24 (Nat.le_of_eq W33.size.symm)
  have Kp33 : Keep h0 h33 [a1] := Kp24.wr W33 (Or.inl (List.mem_of_getElem? (i := 0) rfl))
  have E_33 := E_24.wr W33
  have FB_33 := (FB_24.other W33 (Or.inr (slot_ne (Or.inl (hw _ (List.mem_of_getElem? (i := 11) rfl))) (Or.inl (hw _ (List.mem_of_getElem? (i := 18) rfl))) (by decide) (t := (.array .byte)) (t' := .int) (by decide) (by decide))))
  have B_33 := own_B_other B_24 W33 ne2
  have pre35 : ∀ t, Steps p.tables e below (T33.setTop (mkF m 31 #[.val (.ref a1), .val (.int v), .val (.int (8 : Int32))] [(.int (((v.toUInt32 >>> ((8 : Int32) &&& 31).toUInt32).toInt32).toInt8.toInt32)), (.int (Int32.ofNat (len + 2))), (.ref bn)])) t → Steps p.tables e below _ t := fun t kt => pre31 t (by
    show Steps p.tables e below (T30.setTop (mkF m 24 #[.val (.ref a1), .val (.int v), .val (.int (8 : Int32))] [(.int (Int32.ofNat (len + 3))), (.ref a1), (.int (Int32.ofNat (len + 2))), (.ref bn)])) _
    refine st33 _ ?_
    refine XS.iloadN X33.here hx rfl (hb hby d8_27) rfl ?_
    refine XS.iloadN X33.here hx rfl (hb hby d8_28) rfl ?_
    show Steps p.tables e below (T33.setTop (mkF m 29 #[.val (.ref a1), .val (.int v), .val (.int (8 : Int32))] [(.int (8 : Int32)), (.int v), (.int (Int32.ofNat (len + 2))), (.ref bn)])) _
    refine XS.iushr X33.here hx rfl (hb hby d8_29) rfl ?_
    refine XS.i2b X33.here hx rfl (hb hby d8_30) rfl ?_
    exact kt)
  obtain ⟨cl_34, Ar_34, Sz_34, Hf_34, Gf_34, Xf_34⟩ := id B_33
  obtain ⟨T36, h36, X36, e36, W36, st36⟩ := stB X33 hx hZ e33 Ar_34 (j := (Int32.ofNat (len + 2))) (within (c := (len + 2)) rfl (by omega) (by omega)) (g := (mkF m 31 #[.val (.ref a1), .val (.int v), .val (.int (8 : Int32))] [(.int (((v.toUInt32 >>> ((8 : Int32) &&& 31).toUInt32).toInt32).toInt8.toInt32)), (.int (Int32.ofNat (len + 2))), (.ref bn)])) rfl rfl (hb hby d8_31)
  have N36 := Fr.snoc X36 N33 g2
  have Zs36 : n0 ≤ h36.size := Nat.le_trans Zs33 (Nat.le_of_eq W36.size.symm)
  have Kp36 : Keep h0 h36 [a1] := Kp33.wr W36 (Or.inr sz_bn)
  have V36 : Wr h33 h36 bn (len + 2) (.int (own_by v 8)) := by have z := W36; rw [clamp_of (c := (len + 2)) rfl (by omega), own_byte2] at z; exact z
  have B_36 := own_B_set B_33 V36 (own_fits8 _)
  have E_36 := E_33.wr W36
  have FB_36 := FB_33.other W36 (Or.inl ne1)
  have FL_36 := Fw33.other W36 (Or.inl ne1)
  have pre37 : ∀ t, Steps p.tables e below (T36.setTop (mkF m 8 #[.val (.ref a1), .val (.int v), .val (.int ((8 : Int32) + (-8 : Int32)))] [])) t → Steps p.tables e below _ t := fun t kt => pre35 t (by
    show Steps p.tables e below (T33.setTop (mkF m 31 #[.val (.ref a1), .val (.int v), .val (.int (8 : Int32))] [(.int (((v.toUInt32 >>> ((8 : Int32) &&& 31).toUInt32).toInt32).toInt8.toInt32)), (.int (Int32.ofNat (len + 2))), (.ref bn)])) _
    refine st36 _ ?_
    refine XS.iinc X36.here hx rfl (hb hby d8_32) rfl (l' := #[.val (.ref a1), .val (.int v), .val (.int ((8 : Int32) + (-8 : Int32)))]) rfl ?_
    refine XS.goto X36.here hx rfl (pc0 := 35) (pc' := 8) rfl (hb hby d8_35) (by decide) (by decide) ?_
    exact kt)
  have hv38 : ((8 : Int32) + (-8 : Int32)) = (0 : Int32) := by decide
  rw [hv38] at pre37
  have pre39 : ∀ t, Steps p.tables e below (T36.setTop (mkF m 13 #[.val (.ref a1), .val (.int v), .val (.int (0 : Int32))] [(.ref a1)])) t → Steps p.tables e below _ t := fun t kt => pre37 t (by
    show Steps p.tables e below (T36.setTop (mkF m 8 #[.val (.ref a1), .val (.int v), .val (.int (0 : Int32))] [])) _
    refine XS.iloadN X36.here hx rfl (hb hby d8_8) rfl ?_
    have hc9 : ¬ ((0 : Int32) < (0 : Int32)) := by decide
    refine XS.ifNo X36.here hx rfl (hb hby d8_9) rfl ((if0 _ _).trans (flt hc9).1) ?_
    refine XS.aloadN X36.here hx rfl (hb hby d8_12) rfl rfl ?_
    exact kt)
  obtain ⟨T40, X40, e40, st40⟩ := getF X36 hx hZ hown (host := "") (Or.inl (hw _ (List.mem_of_getElem? (i := 10) rfl))) Via.refl e36 FB_36 (g := (mkF m 13 #[.val (.ref a1), .val (.int v), .val (.int (0 : Int32))] [(.ref a1)])) rfl rfl (hb hby d8_13)
  have pre41 : ∀ t, Steps p.tables e below (T40.setTop (mkF m 18 #[.val (.ref a1), .val (.int v), .val (.int (0 : Int32))] [(.ref a1), (.ref a1), (.ref bn)])) t → Steps p.tables e below _ t := fun t kt => pre39 t (by
    show Steps p.tables e below (T36.setTop (mkF m 13 #[.val (.ref a1), .val (.int v), .val (.int (0 : Int32))] [(.ref a1)])) _
    refine st40 _ ?_
    refine XS.aloadN X40.here hx rfl (hb hby d8_16) rfl rfl ?_
    refine XS.dup X40.here hx rfl (hb hby d8_17) rfl rfl ?_
    exact kt)
  obtain ⟨T42, X42, e42, st42⟩ := getF X40 hx hZ hown (host := "") (Or.inl (hw _ (List.mem_of_getElem? (i := 17) rfl))) Via.refl e40 FL_36 (g := (mkF m 18 #[.val (.ref a1), .val (.int v), .val (.int (0 : Int32))] [(.ref a1), (.ref a1), (.ref bn)])) rfl rfl (hb hby d8_18)
  have pre43 : ∀ t, Steps p.tables e below (T42.setTop (mkF m 24 #[.val (.ref a1), .val (.int v), .val (.int (0 : Int32))] [(.int ((Int32.ofNat (len + 3)) + (1 : Int32))), (.ref a1), (.int (Int32.ofNat (len + 3))), (.ref bn)])) t → Steps p.tables e below _ t := fun t kt => pre41 t (by
    show Steps p.tables e below (T40.setTop (mkF m 18 #[.val (.ref a1), .val (.int v), .val (.int (0 : Int32))] [(.ref a1), (.ref a1), (.ref bn)])) _
    refine st42 _ ?_
    refine XS.dupX1 X42.here hx rfl (hb hby d8_21) rfl rfl rfl ?_
    refine XS.iconst X42.here hx rfl (hb hby d8_22) ?_
    show Steps p.tables e below (T42.setTop (mkF m 23 #[.val (.ref a1), .val (.int v), .val (.int (0 : Int32))] [(.int (1 : Int32)), (.int (Int32.ofNat (len + 3))), (.ref a1), (.int (Int32.ofNat (len + 3))), (.ref bn)])) _
    refine XS.iadd X42.here hx rfl (hb hby d8_23) rfl ?_
    exact kt)
  have hv44 : ((Int32.ofNat (len + 3)) + (1 : Int32)) = (Int32.ofNat (len + 4)) := (inc_ofNat (len + 3)).symm
  rw [hv44] at pre43
  obtain ⟨T45, h45, X45, e45, W45, st45⟩ := putF X42 hx hZ hown (host := "") (Or.inl (hw _ (List.mem_of_getElem? (i := 17) rfl))) Via.refl e42 FL_36 E_36 (Or.inl (hw _ (List.mem_of_getElem? (i := 18) rfl))) (hw _ (List.mem_of_getElem? (i := 2) rfl)) (ty := .int) (by decide) rfl rfl (g := (mkF m 24 #[.val (.ref a1), .val (.int v), .val (.int (0 : Int32))] [(.int (Int32.ofNat (len + 4))), (.ref a1), (.int (Int32.ofNat (len + 3))), (.ref bn)])) rfl rfl (hb hby d8_24)
  have Fw45 := FL_36.same W45
  have N45 := Fr.snoc X45 N36 g1
  have Zs45 : n0 ≤ h45.size := Nat.le_trans Zs36 (Nat.le_of_eq W45.size.symm)
  have Kp45 : Keep h0 h45 [a1] := Kp36.wr W45 (Or.inl (List.mem_of_getElem? (i := 0) rfl))
  have E_45 := E_36.wr W45
  have FB_45 := (FB_36.other W45 (Or.inr (slot_ne (Or.inl (hw _ (List.mem_of_getElem? (i := 11) rfl))) (Or.inl (hw _ (List.mem_of_getElem? (i := 18) rfl))) (by decide) (t := (.array .byte)) (t' := .int) (by decide) (by decide))))
  have B_45 := own_B_other B_36 W45 ne2
  have pre47 : ∀ t, Steps p.tables e below (T45.setTop (mkF m 31 #[.val (.ref a1), .val (.int v), .val (.int (0 : Int32))] [(.int (((v.toUInt32 >>> ((0 : Int32) &&& 31).toUInt32).toInt32).toInt8.toInt32)), (.int (Int32.ofNat (len + 3))), (.ref bn)])) t → Steps p.tables e below _ t := fun t kt => pre43 t (by
    show Steps p.tables e below (T42.setTop (mkF m 24 #[.val (.ref a1), .val (.int v), .val (.int (0 : Int32))] [(.int (Int32.ofNat (len + 4))), (.ref a1), (.int (Int32.ofNat (len + 3))), (.ref bn)])) _
    refine st45 _ ?_
    refine XS.iloadN X45.here hx rfl (hb hby d8_27) rfl ?_
    refine XS.iloadN X45.here hx rfl (hb hby d8_28) rfl ?_
    show Steps p.tables e below (T45.setTop (mkF m 29 #[.val (.ref a1), .val (.int v), .val (.int (0 : Int32))] [(.int (0 : Int32)), (.int v), (.int (Int32.ofNat (len + 3))), (.ref bn)])) _
    refine XS.iushr X45.here hx rfl (hb hby d8_29) rfl ?_
    refine XS.i2b X45.here hx rfl (hb hby d8_30) rfl ?_
    exact kt)
  obtain ⟨cl_46, Ar_46, Sz_46, Hf_46, Gf_46, Xf_46⟩ := id B_45
  obtain ⟨T48, h48, X48, e48, W48, st48⟩ := stB X45 hx hZ e45 Ar_46 (j := (Int32.ofNat (len + 3))) (within (c := (len + 3)) rfl (by omega) (by omega)) (g := (mkF m 31 #[.val (.ref a1), .val (.int v), .val (.int (0 : Int32))] [(.int (((v.toUInt32 >>> ((0 : Int32) &&& 31).toUInt32).toInt32).toInt8.toInt32)), (.int (Int32.ofNat (len + 3))), (.ref bn)])) rfl rfl (hb hby d8_31)
  have N48 := Fr.snoc X48 N45 g2
  have Zs48 : n0 ≤ h48.size := Nat.le_trans Zs45 (Nat.le_of_eq W48.size.symm)
  have Kp48 : Keep h0 h48 [a1] := Kp45.wr W48 (Or.inr sz_bn)
  have V48 : Wr h45 h48 bn (len + 3) (.int (own_by v 0)) := by have z := W48; rw [clamp_of (c := (len + 3)) rfl (by omega), own_byte2] at z; exact z
  have B_48 := own_B_set B_45 V48 (own_fits8 _)
  have E_48 := E_45.wr W48
  have FB_48 := FB_45.other W48 (Or.inl ne1)
  have FL_48 := Fw45.other W48 (Or.inl ne1)
  have pre49 : ∀ t, Steps p.tables e below (T48.setTop (mkF m 8 #[.val (.ref a1), .val (.int v), .val (.int ((0 : Int32) + (-8 : Int32)))] [])) t → Steps p.tables e below _ t := fun t kt => pre47 t (by
    show Steps p.tables e below (T45.setTop (mkF m 31 #[.val (.ref a1), .val (.int v), .val (.int (0 : Int32))] [(.int (((v.toUInt32 >>> ((0 : Int32) &&& 31).toUInt32).toInt32).toInt8.toInt32)), (.int (Int32.ofNat (len + 3))), (.ref bn)])) _
    refine st48 _ ?_
    refine XS.iinc X48.here hx rfl (hb hby d8_32) rfl (l' := #[.val (.ref a1), .val (.int v), .val (.int ((0 : Int32) + (-8 : Int32)))]) rfl ?_
    refine XS.goto X48.here hx rfl (pc0 := 35) (pc' := 8) rfl (hb hby d8_35) (by decide) (by decide) ?_
    exact kt)
  have hv50 : ((0 : Int32) + (-8 : Int32)) = (-8 : Int32) := by decide
  rw [hv50] at pre49
  obtain ⟨fs, hr, hrun, hended, hW, hsame⟩ := X48.leave (v := some (.ref a1)) (fun h => by rw [Bd.returns] at h; cases h)
  refine ⟨_, _, pre49 _ ?_, hrun, hended, _, _, rfl, ?_, ⟨_, rfl⟩, hW, hsame.mono (by decide) (by decide)⟩
  · show Steps p.tables e below (T48.setTop (mkF m 8 #[.val (.ref a1), .val (.int v), .val (.int (-8 : Int32))] [])) _
    refine XS.iloadN X48.here hx rfl (hb hby d8_8) rfl ?_
    have hc9 : (-8 : Int32) < (0 : Int32) := by decide
    refine XS.ifYes X48.here hx rfl (pc0 := 9) (pc' := 38) rfl (hb hby d8_9) rfl ((if0 _ _).trans (tlt hc9).1) (by decide) (by decide) ?_
    refine XS.aloadN X48.here hx rfl (hb hby d8_38) rfl rfl ?_
    show Steps p.tables e below (T48.setTop (mkF m 39 #[.val (.ref a1), .val (.int v), .val (.int (-8 : Int32))] [(.ref a1)])) _
    jvm_step X48.here [X48.here.top, hx, (hb hby d8_39), X48.method', Bd.returns, Value.isRef, FieldType.isReference]
    first | (intro acts; rw [hr _ acts rfl rfl rfl]) | rw [hr _ _ rfl rfl rfl]
    exact Steps.refl _
  · show Q8g Z a1 cap len f v h0 n0 _ T48.heap _
    rw [e48]
    exact ⟨bn, rfl, N48, Kp48, sz_bn, E_48, FB_48, FL_48, B_48⟩
theorem pn_14 : plainName "com/example/haulway/haulway/io/RecordOutput" = true := by first | (simp [plainName, overriddenIn]; done) | decide +kernel
theorem ef_14 (m : MethodId) (x0 : Addr) (x1 : Int64) : entryFrame m #[(.ref x0), (.long x1)] 4 = mkF m 0 #[.val (.ref x0), .val (.long x1), .second, .unset] [] := by first | (simp [entryFrame, mkF, argsToLocals, Value.category]; done) | rfl
theorem d14_0 : decode prog_72_method_3_code 0 = .ok (.aload_n 0, 1) := by decide +kernel
theorem d14_1 : decode prog_72_method_3_code 1 = .ok (.bipush 8, 2) := by decide +kernel
theorem d14_3 : decode prog_72_method_3_code 3 = .ok (.invokevirtual 24, 3) := by decide +kernel
theorem d14_6 : decode prog_72_method_3_code 6 = .ok (.bipush 56, 2) := by decide +kernel
theorem d14_8 : decode prog_72_method_3_code 8 = .ok (.istore_n 3, 1) := by decide +kernel
theorem d14_9 : decode prog_72_method_3_code 9 = .ok (.iload_n 3, 1) := by decide +kernel
theorem d14_10 : decode prog_72_method_3_code 10 = .ok (.ifCond .lt 30, 3) := by decide +kernel
theorem d14_13 : decode prog_72_method_3_code 13 = .ok (.aload_n 0, 1) := by decide +kernel
theorem d14_14 : decode prog_72_method_3_code 14 = .ok (.getfield 7, 3) := by decide +kernel
theorem d14_17 : decode prog_72_method_3_code 17 = .ok (.aload_n 0, 1) := by decide +kernel
theorem d14_18 : decode prog_72_method_3_code 18 = .ok (.dup, 1) := by decide +kernel
theorem d14_19 : decode prog_72_method_3_code 19 = .ok (.getfield 30, 3) := by decide +kernel
theorem d14_22 : decode prog_72_method_3_code 22 = .ok (.dup_x1, 1) := by decide +kernel
theorem d14_23 : decode prog_72_method_3_code 23 = .ok (.iconst 1, 1) := by decide +kernel
theorem d14_24 : decode prog_72_method_3_code 24 = .ok (.iadd, 1) := by decide +kernel
theorem d14_25 : decode prog_72_method_3_code 25 = .ok (.putfield 30, 3) := by decide +kernel
theorem d14_28 : decode prog_72_method_3_code 28 = .ok (.lload_n 1, 1) := by decide +kernel
theorem d14_29 : decode prog_72_method_3_code 29 = .ok (.iload_n 3, 1) := by decide +kernel
theorem d14_30 : decode prog_72_method_3_code 30 = .ok (.lushr, 1) := by decide +kernel
theorem d14_31 : decode prog_72_method_3_code 31 = .ok (.l2i, 1) := by decide +kernel
theorem d14_32 : decode prog_72_method_3_code 32 = .ok (.i2b, 1) := by decide +kernel
theorem d14_33 : decode prog_72_method_3_code 33 = .ok (.bastore, 1) := by decide +kernel
theorem d14_34 : decode prog_72_method_3_code 34 = .ok (.iinc 3 (-8), 3) := by decide +kernel
theorem d14_37 : decode prog_72_method_3_code 37 = .ok (.goto (-28), 3) := by decide +kernel
theorem d14_40 : decode prog_72_method_3_code 40 = .ok (.aload_n 0, 1) := by decide +kernel
theorem d14_41 : decode prog_72_method_3_code 41 = .ok (.areturn, 1) := by decide +kernel
def Q14 (Z : State) (a1 bb : Addr) (cap len : Nat) (f : Nat → Int32) (v : Int64) (h0 : Heap) (n0 : Nat) (r : Option Value) (h : Heap) (L : List Loc) : Prop := r = some (.ref a1) ∧ Fr n0 L ∧ Keep h0 h [a1, bb] ∧ Exa Z h a1 "com/example/haulway/haulway/io/RecordOutput" ∧ Fld Z h a1 "com/example/haulway/haulway/io/RecordOutput" "bytes" "[B" (.ref bb) ∧ Fld Z h a1 "com/example/haulway/haulway/io/RecordOutput" "length" "I" (.int (Int32.ofNat (len + 8))) ∧ own_B Z h bb cap (own_p8 f len v)
set_option maxRecDepth 65536 in
set_option maxHeartbeats 40000000 in
theorem rm14 (l : Launch) (Z : State) (a0 : Array Value) (hw : ∀ d ∈ tables_1, d.before a0 Z = true) (ws : List Jvm.Cond) (a1 : Addr) (bb : Addr) (cap : Nat) (len : Nat) (f : Nat → Int32) (v : Int64) (h0 : Heap) (n0 : Nat) (Z0 : n0 ≤ h0.size) (E1 : Exa Z h0 a1 "com/example/haulway/haulway/io/RecordOutput") (F1 : Fld Z h0 a1 "com/example/haulway/haulway/io/RecordOutput" "bytes" "[B" (.ref bb)) (F2 : Fld Z h0 a1 "com/example/haulway/haulway/io/RecordOutput" "length" "I" (.int (Int32.ofNat len))) (B1 : own_B Z h0 bb cap f) (hcap : cap ≤ 128) (hl : len + 8 ≤ cap) (ne1 : a1 ≠ bb) (g1 : n0 ≤ a1) (g2 : n0 ≤ bb) :
    MetFree l (⟨"com/example/haulway/haulway/io/RecordOutput", "putLong", "(J)Lcom/example/haulway/haulway/io/RecordOutput;"⟩ : MethodName) (head1 (Jvm.Cond.code (⟨"com/example/haulway/haulway/io/RecordOutput", "putLong", "(J)Lcom/example/haulway/haulway/io/RecordOutput;"⟩ : MethodName) prog_72_method_3_code 4 (some (.object "com/example/haulway/haulway/io/RecordOutput")) :: ws) ({ frames := 1, cells := 0, slots := 0, locals := 13 } : Room)) (fun aa_ U => aa_ = #[(.ref a1), (.long v)] ∧ Z.Warmed39 U.vm ∧ U.heap = h0) (fun _ _ _ _ _ => True) (fun _ U o U' => ∃ v_ L_, o = .returned v_ ∧ Q14 Z a1 bb cap len f v h0 n0 v_ U'.heap L_ ∧ FrameEnd U o U' L_ ({ frames := 1, cells := 0, slots := 0, locals := 13 } : Room).cells ({ frames := 1, cells := 0, slots := 0, locals := 13 } : Room).slots) := by
  refine MetFree.of_bodySF (plainFor_of_name pn_14) hisR ?_
  intro p e s m args below meth c s₁ Bd hml0 hP hK
  obtain ⟨rfl, hZ, hh⟩ := hP
  have hx := Bd.exec
  have hby := Bd.bytes
  have hml : c.maxLocals = 4 := hml0
  have hown : s.vm.findClass "com/example/haulway/haulway/io/RecordOutput" = some m.cls := findClass_of_methodNamed Bd.named
  have hnm := (name_of_methodNamed Bd.named Bd.method).1
  have X0 : Stand p l e ({ frames := 1, cells := 0, slots := 0, locals := 13 } : Room) s m #[(.ref a1), (.long v)] below meth c s₁ [] 0 0 := Stand.of_body Bd
  have e0 : s₁.heap = h0 := by rw [← hh, Bd.state]; rfl
  have N0 := Fr.nil n0
  have pre0 : ∀ t, Steps p.tables e below (s₁.setTop (mkF m 0 #[.val (.ref a1), .val (.long v), .second, .unset] [])) t → Steps p.tables e below (s₁.setTop (entryFrame m #[(.ref a1), (.long v)] 4)) t := fun t k_ => castTop (ef_14 m a1 v) k_
  have ne2 : bb ≠ a1 := Ne.symm ne1
  have pre1 : ∀ t, Steps p.tables e below (s₁.setTop (mkF m 3 #[.val (.ref a1), .val (.long v), .second, .unset] [(.int (8 : Int32)), (.ref a1)])) t → Steps p.tables e below _ t := fun t kt => pre0 t (by
    show Steps p.tables e below (s₁.setTop (mkF m 0 #[.val (.ref a1), .val (.long v), .second, .unset] [])) _
    refine XS.aloadN X0.here hx rfl (hb hby d14_0) rfl rfl ?_
    refine XS.bipush X0.here hx rfl (hb hby d14_1) ?_
    exact kt)
  obtain ⟨cq2, q2, q2'⟩ := E1.cell
  obtain ⟨_, _, ⟨T2, L2, k2, n2⟩, -, X2, ⟨Lc2, hQ2, l2, y2, z2⟩, st2⟩ := X0.privateBack hx (y := (⟨"com/example/haulway/haulway/io/RecordOutput", "room", "(I)V"⟩ : MethodName)) hown (mvT hZ (hw _ (List.mem_of_getElem? (i := 43) rfl))) (mvT hZ (hw _ (List.mem_of_getElem? (i := 44) rfl))) (mvT hZ (own_sel (y := (⟨"com/example/haulway/haulway/io/RecordOutput", "room", "(I)V"⟩ : MethodName)) (by decide) (hw _ (List.mem_of_getElem? (i := 2) rfl)) (hw _ (List.mem_of_getElem? (i := 45) rfl)) (hw _ (List.mem_of_getElem? (i := 44) rfl)))) (Cond.privateMethod_at (mvP hZ (hw _ (List.mem_of_getElem? (i := 45) rfl)) (args := #[]))) (mvT hZ (hw _ (List.mem_of_getElem? (i := 46) rfl))) (by decide) (backOf (W := 0) (rm9 l Z a0 hw [] a1 bb cap len f 8 h0 n0 Z0 E1 F1 F2 B1 hcap (by omega)) hZ (hw _ (List.mem_of_getElem? (i := 46) rfl)) (hw _ (List.mem_of_getElem? (i := 3) rfl)) (by decide) (by decide)) (g := (mkF m 3 #[.val (.ref a1), .val (.long v), .second, .unset] [(.int (8 : Int32)), (.ref a1)])) rfl (by rw [hml]; rfl) (Steps.refl _) (a := a1) (by rw [e0]; exact q2) q2' (argsL := [(.int (8 : Int32))]) (rest := []) (lenOf pd_2 rfl) rfl (by show 2 * 0 + _ ≤ _; exact Nat.le_of_eq rfl) (hb hby d14_3) (fun _ _ => ⟨rfl, e0, (by decide : 0 + 0 ≤ _), (by decide : 0 + 0 ≤ _)⟩)
  dsimp only [Pt.U, Pt.locs, Pt.cells, Pt.slots] at X2 l2 y2 z2 st2 hQ2
  subst l2 y2 z2
  obtain ⟨rfl, N2q, e2⟩ := hQ2
  have N2 := Fr.app N0 N2q
  have pre3 : ∀ t, Steps p.tables e below (T2.setTop (mkF m 14 #[.val (.ref a1), .val (.long v), .second, .val (.int (56 : Int32))] [(.ref a1)])) t → Steps p.tables e below _ t := fun t kt => pre1 t (by
    show Steps p.tables e below (s₁.setTop (mkF m 3 #[.val (.ref a1), .val (.long v), .second, .unset] [(.int (8 : Int32)), (.ref a1)])) _
    refine st2.trans ?_
    refine XS.bipush X2.here hx rfl (hb hby d14_6) ?_
    refine XS.istoreN X2.here hx rfl (hb hby d14_8) rfl (l' := #[.val (.ref a1), .val (.long v), .second, .val (.int (56 : Int32))]) rfl ?_
    show Steps p.tables e below (T2.setTop (mkF m 9 #[.val (.ref a1), .val (.long v), .second, .val (.int (56 : Int32))] [])) _
    refine XS.iloadN X2.here hx rfl (hb hby d14_9) rfl ?_
    have hc10 : ¬ ((56 : Int32) < (0 : Int32)) := by decide
    refine XS.ifNo X2.here hx rfl (hb hby d14_10) rfl ((if0 _ _).trans (flt hc10).1) ?_
    refine XS.aloadN X2.here hx rfl (hb hby d14_13) rfl rfl ?_
    exact kt)
  obtain ⟨T4, X4, e4, st4⟩ := getF X2 hx hZ hown (host := "") (Or.inl (hw _ (List.mem_of_getElem? (i := 10) rfl))) Via.refl e2 F1 (g := (mkF m 14 #[.val (.ref a1), .val (.long v), .second, .val (.int (56 : Int32))] [(.ref a1)])) rfl rfl (hb hby d14_14)
  have pre5 : ∀ t, Steps p.tables e below (T4.setTop (mkF m 19 #[.val (.ref a1), .val (.long v), .second, .val (.int (56 : Int32))] [(.ref a1), (.ref a1), (.ref bb)])) t → Steps p.tables e below _ t := fun t kt => pre3 t (by
    show Steps p.tables e below (T2.setTop (mkF m 14 #[.val (.ref a1), .val (.long v), .second, .val (.int (56 : Int32))] [(.ref a1)])) _
    refine st4 _ ?_
    refine XS.aloadN X4.here hx rfl (hb hby d14_17) rfl rfl ?_
    refine XS.dup X4.here hx rfl (hb hby d14_18) rfl rfl ?_
    exact kt)
  obtain ⟨T6, X6, e6, st6⟩ := getF X4 hx hZ hown (host := "") (Or.inl (hw _ (List.mem_of_getElem? (i := 17) rfl))) Via.refl e4 F2 (g := (mkF m 19 #[.val (.ref a1), .val (.long v), .second, .val (.int (56 : Int32))] [(.ref a1), (.ref a1), (.ref bb)])) rfl rfl (hb hby d14_19)
  have pre7 : ∀ t, Steps p.tables e below (T6.setTop (mkF m 25 #[.val (.ref a1), .val (.long v), .second, .val (.int (56 : Int32))] [(.int ((Int32.ofNat len) + (1 : Int32))), (.ref a1), (.int (Int32.ofNat len)), (.ref bb)])) t → Steps p.tables e below _ t := fun t kt => pre5 t (by
    show Steps p.tables e below (T4.setTop (mkF m 19 #[.val (.ref a1), .val (.long v), .second, .val (.int (56 : Int32))] [(.ref a1), (.ref a1), (.ref bb)])) _
    refine st6 _ ?_
    refine XS.dupX1 X6.here hx rfl (hb hby d14_22) rfl rfl rfl ?_
    refine XS.iconst X6.here hx rfl (hb hby d14_23) ?_
    show Steps p.tables e below (T6.setTop (mkF m 24 #[.val (.ref a1), .val (.long v), .second, .val (.int (56 : Int32))] [(.int (1 : Int32)), (.int (Int32.ofNat len)), (.ref a1), (.int (Int32.ofNat len)), (.ref bb)])) _
    refine XS.iadd X6.here hx rfl (hb hby d14_24) rfl ?_
    exact kt)
  have hv8 : ((Int32.ofNat len) + (1 : Int32)) = (Int32.ofNat (len + 1)) := (inc_ofNat len).symm
  rw [hv8] at pre7
  obtain ⟨T9, h9, X9, e9, W9, st9⟩ := putF X6 hx hZ hown (host := "") (Or.inl (hw _ (List.mem_of_getElem? (i := 17) rfl))) Via.refl e6 F2 E1 (Or.inl (hw _ (List.mem_of_getElem? (i := 18) rfl))) (hw _ (List.mem_of_getElem? (i := 2) rfl)) (ty := .int) (by decide) rfl rfl (g := (mkF m 25 #[.val (.ref a1), .val (.long v), .second, .val (.int (56 : Int32))] [(.int (Int32.ofNat (len + 1))), (.ref a1), (.int (Int32.ofNat len)), (.ref bb)])) rfl rfl (hb hby d14_25)
  have Fw9 := F2.same W9
  have N9 := Fr.snoc X9 N2 g1
  have Zs9 : n0 ≤ h9.size := Nat.le_trans Z0 (Nat.le_of_eq W9.size.symm)
  have Kp9 : Keep h0 h9 [a1, bb] := (Keep.refl h0 [a1, bb]).wr W9 (Or.inl (List.mem_of_getElem? (i := 0) rfl))
  have E_9 := E1.wr W9
  have FB_9 := (F1.other W9 (Or.inr (slot_ne (Or.inl (hw _ (List.mem_of_getElem? (i := 11) rfl))) (Or.inl (hw _ (List.mem_of_getElem? (i := 18) rfl))) (by decide) (t := (.array .byte)) (t' := .int) (by decide) (by decide))))
  have B_9 := own_B_other B1 W9 ne2
  have pre11 : ∀ t, Steps p.tables e below (T9.setTop (mkF m 33 #[.val (.ref a1), .val (.long v), .second, .val (.int (56 : Int32))] [(.int ((((v.toUInt64 >>> ((56 : Int32) &&& 0x3f).toInt64.toUInt64).toInt64).toInt32).toInt8.toInt32)), (.int (Int32.ofNat len)), (.ref bb)])) t → Steps p.tables e below _ t := fun t kt => pre7 t (by
    show Steps p.tables e below (T6.setTop (mkF m 25 #[.val (.ref a1), .val (.long v), .second, .val (.int (56 : Int32))] [(.int (Int32.ofNat (len + 1))), (.ref a1), (.int (Int32.ofNat len)), (.ref bb)])) _
    refine st9 _ ?_
    refine XS.lloadN X9.here hx rfl (hb hby d14_28) rfl ?_
    refine XS.iloadN X9.here hx rfl (hb hby d14_29) rfl ?_
    show Steps p.tables e below (T9.setTop (mkF m 30 #[.val (.ref a1), .val (.long v), .second, .val (.int (56 : Int32))] [(.int (56 : Int32)), (.long v), (.int (Int32.ofNat len)), (.ref bb)])) _
    refine XS.lushr X9.here hx rfl (hb hby d14_30) rfl ?_
    refine XS.l2i X9.here hx rfl (hb hby d14_31) rfl ?_
    refine XS.i2b X9.here hx rfl (hb hby d14_32) rfl ?_
    exact kt)
  obtain ⟨cl_10, Ar_10, Sz_10, Hf_10, Gf_10, Xf_10⟩ := id B_9
  obtain ⟨T12, h12, X12, e12, W12, st12⟩ := stB X9 hx hZ e9 Ar_10 (j := (Int32.ofNat len)) (within (c := len) rfl (by omega) (by omega)) (g := (mkF m 33 #[.val (.ref a1), .val (.long v), .second, .val (.int (56 : Int32))] [(.int ((((v.toUInt64 >>> ((56 : Int32) &&& 0x3f).toInt64.toUInt64).toInt64).toInt32).toInt8.toInt32)), (.int (Int32.ofNat len)), (.ref bb)])) rfl rfl (hb hby d14_33)
  have N12 := Fr.snoc X12 N9 g2
  have Zs12 : n0 ≤ h12.size := Nat.le_trans Zs9 (Nat.le_of_eq W12.size.symm)
  have Kp12 : Keep h0 h12 [a1, bb] := Kp9.wr W12 (Or.inl (List.mem_of_getElem? (i := 1) rfl))
  have V12 : Wr h9 h12 bb len (.int (own_byL v 56)) := by have z := W12; rw [clamp_of (c := len) rfl (by omega), own_byte2] at z; exact z
  have B_12 := own_B_set B_9 V12 (own_fits8 _)
  have E_12 := E_9.wr W12
  have FB_12 := FB_9.other W12 (Or.inl ne1)
  have FL_12 := Fw9.other W12 (Or.inl ne1)
  have pre13 : ∀ t, Steps p.tables e below (T12.setTop (mkF m 9 #[.val (.ref a1), .val (.long v), .second, .val (.int ((56 : Int32) + (-8 : Int32)))] [])) t → Steps p.tables e below _ t := fun t kt => pre11 t (by
    show Steps p.tables e below (T9.setTop (mkF m 33 #[.val (.ref a1), .val (.long v), .second, .val (.int (56 : Int32))] [(.int ((((v.toUInt64 >>> ((56 : Int32) &&& 0x3f).toInt64.toUInt64).toInt64).toInt32).toInt8.toInt32)), (.int (Int32.ofNat len)), (.ref bb)])) _
    refine st12 _ ?_
    refine XS.iinc X12.here hx rfl (hb hby d14_34) rfl (l' := #[.val (.ref a1), .val (.long v), .second, .val (.int ((56 : Int32) + (-8 : Int32)))]) rfl ?_
    refine XS.goto X12.here hx rfl (pc0 := 37) (pc' := 9) rfl (hb hby d14_37) (by decide) (by decide) ?_
    exact kt)
  have hv14 : ((56 : Int32) + (-8 : Int32)) = (48 : Int32) := by decide
  rw [hv14] at pre13
  have pre15 : ∀ t, Steps p.tables e below (T12.setTop (mkF m 14 #[.val (.ref a1), .val (.long v), .second, .val (.int (48 : Int32))] [(.ref a1)])) t → Steps p.tables e below _ t := fun t kt => pre13 t (by
    show Steps p.tables e below (T12.setTop (mkF m 9 #[.val (.ref a1), .val (.long v), .second, .val (.int (48 : Int32))] [])) _
    refine XS.iloadN X12.here hx rfl (hb hby d14_9) rfl ?_
    have hc10 : ¬ ((48 : Int32) < (0 : Int32)) := by decide
    refine XS.ifNo X12.here hx rfl (hb hby d14_10) rfl ((if0 _ _).trans (flt hc10).1) ?_
    refine XS.aloadN X12.here hx rfl (hb hby d14_13) rfl rfl ?_
    exact kt)
  obtain ⟨T16, X16, e16, st16⟩ := getF X12 hx hZ hown (host := "") (Or.inl (hw _ (List.mem_of_getElem? (i := 10) rfl))) Via.refl e12 FB_12 (g := (mkF m 14 #[.val (.ref a1), .val (.long v), .second, .val (.int (48 : Int32))] [(.ref a1)])) rfl rfl (hb hby d14_14)
  have pre17 : ∀ t, Steps p.tables e below (T16.setTop (mkF m 19 #[.val (.ref a1), .val (.long v), .second, .val (.int (48 : Int32))] [(.ref a1), (.ref a1), (.ref bb)])) t → Steps p.tables e below _ t := fun t kt => pre15 t (by
    show Steps p.tables e below (T12.setTop (mkF m 14 #[.val (.ref a1), .val (.long v), .second, .val (.int (48 : Int32))] [(.ref a1)])) _
    refine st16 _ ?_
    refine XS.aloadN X16.here hx rfl (hb hby d14_17) rfl rfl ?_
    refine XS.dup X16.here hx rfl (hb hby d14_18) rfl rfl ?_
    exact kt)
  obtain ⟨T18, X18, e18, st18⟩ := getF X16 hx hZ hown (host := "") (Or.inl (hw _ (List.mem_of_getElem? (i := 17) rfl))) Via.refl e16 FL_12 (g := (mkF m 19 #[.val (.ref a1), .val (.long v), .second, .val (.int (48 : Int32))] [(.ref a1), (.ref a1), (.ref bb)])) rfl rfl (hb hby d14_19)
  have pre19 : ∀ t, Steps p.tables e below (T18.setTop (mkF m 25 #[.val (.ref a1), .val (.long v), .second, .val (.int (48 : Int32))] [(.int ((Int32.ofNat (len + 1)) + (1 : Int32))), (.ref a1), (.int (Int32.ofNat (len + 1))), (.ref bb)])) t → Steps p.tables e below _ t := fun t kt => pre17 t (by
    show Steps p.tables e below (T16.setTop (mkF m 19 #[.val (.ref a1), .val (.long v), .second, .val (.int (48 : Int32))] [(.ref a1), (.ref a1), (.ref bb)])) _
    refine st18 _ ?_
    refine XS.dupX1 X18.here hx rfl (hb hby d14_22) rfl rfl rfl ?_
    refine XS.iconst X18.here hx rfl (hb hby d14_23) ?_
    show Steps p.tables e below (T18.setTop (mkF m 24 #[.val (.ref a1), .val (.long v), .second, .val (.int (48 : Int32))] [(.int (1 : Int32)), (.int (Int32.ofNat (len + 1))), (.ref a1), (.int (Int32.ofNat (len + 1))), (.ref bb)])) _
    refine XS.iadd X18.here hx rfl (hb hby d14_24) rfl ?_
    exact kt)
  have hv20 : ((Int32.ofNat (len + 1)) + (1 : Int32)) = (Int32.ofNat (len + 2)) := (inc_ofNat (len + 1)).symm
  rw [hv20] at pre19
  obtain ⟨T21, h21, X21, e21, W21, st21⟩ := putF X18 hx hZ hown (host := "") (Or.inl (hw _ (List.mem_of_getElem? (i := 17) rfl))) Via.refl e18 FL_12 E_12 (Or.inl (hw _ (List.mem_of_getElem? (i := 18) rfl))) (hw _ (List.mem_of_getElem? (i := 2) rfl)) (ty := .int) (by decide) rfl rfl (g := (mkF m 25 #[.val (.ref a1), .val (.long v), .second, .val (.int (48 : Int32))] [(.int (Int32.ofNat (len + 2))), (.ref a1), (.int (Int32.ofNat (len + 1))), (.ref bb)])) rfl rfl (hb hby d14_25)
  have Fw21 := FL_12.same W21
  have N21 := Fr.snoc X21 N12 g1
  have Zs21 : n0 ≤ h21.size := Nat.le_trans Zs12 (Nat.le_of_eq W21.size.symm)
  have Kp21 : Keep h0 h21 [a1, bb] := Kp12.wr W21 (Or.inl (List.mem_of_getElem? (i := 0) rfl))
  have E_21 := E_12.wr W21
  have FB_21 := (FB_12.other W21 (Or.inr (slot_ne (Or.inl (hw _ (List.mem_of_getElem? (i := 11) rfl))) (Or.inl (hw _ (List.mem_of_getElem? (i := 18) rfl))) (by decide) (t := (.array .byte)) (t' := .int) (by decide) (by decide))))
  have B_21 := own_B_other B_12 W21 ne2
  have pre23 : ∀ t, Steps p.tables e below (T21.setTop (mkF m 33 #[.val (.ref a1), .val (.long v), .second, .val (.int (48 : Int32))] [(.int ((((v.toUInt64 >>> ((48 : Int32) &&& 0x3f).toInt64.toUInt64).toInt64).toInt32).toInt8.toInt32)), (.int (Int32.ofNat (len + 1))), (.ref bb)])) t → Steps p.tables e below _ t := fun t kt => pre19 t (by
    show Steps p.tables e below (T18.setTop (mkF m 25 #[.val (.ref a1), .val (.long v), .second, .val (.int (48 : Int32))] [(.int (Int32.ofNat (len + 2))), (.ref a1), (.int (Int32.ofNat (len + 1))), (.ref bb)])) _
    refine st21 _ ?_
    refine XS.lloadN X21.here hx rfl (hb hby d14_28) rfl ?_
    refine XS.iloadN X21.here hx rfl (hb hby d14_29) rfl ?_
    show Steps p.tables e below (T21.setTop (mkF m 30 #[.val (.ref a1), .val (.long v), .second, .val (.int (48 : Int32))] [(.int (48 : Int32)), (.long v), (.int (Int32.ofNat (len + 1))), (.ref bb)])) _
    refine XS.lushr X21.here hx rfl (hb hby d14_30) rfl ?_
    refine XS.l2i X21.here hx rfl (hb hby d14_31) rfl ?_
    refine XS.i2b X21.here hx rfl (hb hby d14_32) rfl ?_
    exact kt)
  obtain ⟨cl_22, Ar_22, Sz_22, Hf_22, Gf_22, Xf_22⟩ := id B_21
  obtain ⟨T24, h24, X24, e24, W24, st24⟩ := stB X21 hx hZ e21 Ar_22 (j := (Int32.ofNat (len + 1))) (within (c := (len + 1)) rfl (by omega) (by omega)) (g := (mkF m 33 #[.val (.ref a1), .val (.long v), .second, .val (.int (48 : Int32))] [(.int ((((v.toUInt64 >>> ((48 : Int32) &&& 0x3f).toInt64.toUInt64).toInt64).toInt32).toInt8.toInt32)), (.int (Int32.ofNat (len + 1))), (.ref bb)])) rfl rfl (hb hby d14_33)
  have N24 := Fr.snoc X24 N21 g2
  have Zs24 : n0 ≤ h24.size := Nat.le_trans Zs21 (Nat.le_of_eq W24.size.symm)
  have Kp24 : Keep h0 h24 [a1, bb] := Kp21.wr W24 (Or.inl (List.mem_of_getElem? (i := 1) rfl))
  have V24 : Wr h21 h24 bb (len + 1) (.int (own_byL v 48)) := by have z := W24; rw [clamp_of (c := (len + 1)) rfl (by omega), own_byte2] at z; exact z
  have B_24 := own_B_set B_21 V24 (own_fits8 _)
  have E_24 := E_21.wr W24
  have FB_24 := FB_21.other W24 (Or.inl ne1)
  have FL_24 := Fw21.other W24 (Or.inl ne1)
  have pre25 : ∀ t, Steps p.tables e below (T24.setTop (mkF m 9 #[.val (.ref a1), .val (.long v), .second, .val (.int ((48 : Int32) + (-8 : Int32)))] [])) t → Steps p.tables e below _ t := fun t kt => pre23 t (by
    show Steps p.tables e below (T21.setTop (mkF m 33 #[.val (.ref a1), .val (.long v), .second, .val (.int (48 : Int32))] [(.int ((((v.toUInt64 >>> ((48 : Int32) &&& 0x3f).toInt64.toUInt64).toInt64).toInt32).toInt8.toInt32)), (.int (Int32.ofNat (len + 1))), (.ref bb)])) _
    refine st24 _ ?_
    refine XS.iinc X24.here hx rfl (hb hby d14_34) rfl (l' := #[.val (.ref a1), .val (.long v), .second, .val (.int ((48 : Int32) + (-8 : Int32)))]) rfl ?_
    refine XS.goto X24.here hx rfl (pc0 := 37) (pc' := 9) rfl (hb hby d14_37) (by decide) (by decide) ?_
    exact kt)
  have hv26 : ((48 : Int32) + (-8 : Int32)) = (40 : Int32) := by decide
  rw [hv26] at pre25
  have pre27 : ∀ t, Steps p.tables e below (T24.setTop (mkF m 14 #[.val (.ref a1), .val (.long v), .second, .val (.int (40 : Int32))] [(.ref a1)])) t → Steps p.tables e below _ t := fun t kt => pre25 t (by
    show Steps p.tables e below (T24.setTop (mkF m 9 #[.val (.ref a1), .val (.long v), .second, .val (.int (40 : Int32))] [])) _
    refine XS.iloadN X24.here hx rfl (hb hby d14_9) rfl ?_
    have hc10 : ¬ ((40 : Int32) < (0 : Int32)) := by decide
    refine XS.ifNo X24.here hx rfl (hb hby d14_10) rfl ((if0 _ _).trans (flt hc10).1) ?_
    refine XS.aloadN X24.here hx rfl (hb hby d14_13) rfl rfl ?_
    exact kt)
  obtain ⟨T28, X28, e28, st28⟩ := getF X24 hx hZ hown (host := "") (Or.inl (hw _ (List.mem_of_getElem? (i := 10) rfl))) Via.refl e24 FB_24 (g := (mkF m 14 #[.val (.ref a1), .val (.long v), .second, .val (.int (40 : Int32))] [(.ref a1)])) rfl rfl (hb hby d14_14)
  have pre29 : ∀ t, Steps p.tables e below (T28.setTop (mkF m 19 #[.val (.ref a1), .val (.long v), .second, .val (.int (40 : Int32))] [(.ref a1), (.ref a1), (.ref bb)])) t → Steps p.tables e below _ t := fun t kt => pre27 t (by
    show Steps p.tables e below (T24.setTop (mkF m 14 #[.val (.ref a1), .val (.long v), .second, .val (.int (40 : Int32))] [(.ref a1)])) _
    refine st28 _ ?_
    refine XS.aloadN X28.here hx rfl (hb hby d14_17) rfl rfl ?_
    refine XS.dup X28.here hx rfl (hb hby d14_18) rfl rfl ?_
    exact kt)
  obtain ⟨T30, X30, e30, st30⟩ := getF X28 hx hZ hown (host := "") (Or.inl (hw _ (List.mem_of_getElem? (i := 17) rfl))) Via.refl e28 FL_24 (g := (mkF m 19 #[.val (.ref a1), .val (.long v), .second, .val (.int (40 : Int32))] [(.ref a1), (.ref a1), (.ref bb)])) rfl rfl (hb hby d14_19)
  have pre31 : ∀ t, Steps p.tables e below (T30.setTop (mkF m 25 #[.val (.ref a1), .val (.long v), .second, .val (.int (40 : Int32))] [(.int ((Int32.ofNat (len + 2)) + (1 : Int32))), (.ref a1), (.int (Int32.ofNat (len + 2))), (.ref bb)])) t → Steps p.tables e below _ t := fun t kt => pre29 t (by
    show Steps p.tables e below (T28.setTop (mkF m 19 #[.val (.ref a1), .val (.long v), .second, .val (.int (40 : Int32))] [(.ref a1), (.ref a1), (.ref bb)])) _
    refine st30 _ ?_
    refine XS.dupX1 X30.here hx rfl (hb hby d14_22) rfl rfl rfl ?_
    refine XS.iconst X30.here hx rfl (hb hby d14_23) ?_
    show Steps p.tables e below (T30.setTop (mkF m 24 #[.val (.ref a1), .val (.long v), .second, .val (.int (40 : Int32))] [(.int (1 : Int32)), (.int (Int32.ofNat (len + 2))), (.ref a1), (.int (Int32.ofNat (len + 2))), (.ref bb)])) _
    refine XS.iadd X30.here hx rfl (hb hby d14_24) rfl ?_
    exact kt)
  have hv32 : ((Int32.ofNat (len + 2)) + (1 : Int32)) = (Int32.ofNat (len + 3)) := (inc_ofNat (len + 2)).symm
  rw [hv32] at pre31
  obtain ⟨T33, h33, X33, e33, W33, st33⟩ := putF X30 hx hZ hown (host := "") (Or.inl (hw _ (List.mem_of_getElem? (i := 17) rfl))) Via.refl e30 FL_24 E_24 (Or.inl (hw _ (List.mem_of_getElem? (i := 18) rfl))) (hw _ (List.mem_of_getElem? (i := 2) rfl)) (ty := .int) (by decide) rfl rfl (g := (mkF m 25 #[.val (.ref a1), .val (.long v), .second, .val (.int (40 : Int32))] [(.int (Int32.ofNat (len + 3))), (.ref a1), (.int (Int32.ofNat (len + 2))), (.ref bb)])) rfl rfl (hb hby d14_25)
  have Fw33 := FL_24.same W33
  have N33 := Fr.snoc X33 N24 g1
  have Zs33 : n0 ≤ h33.size := Nat.le_trans Zs24 (Nat.le_of_eq W33.size.symm)
  have Kp33 : Keep h0 h33 [a1, bb] := Kp24.wr W33 (Or.inl (List.mem_of_getElem? (i := 0) rfl))
  have E_33 := E_24.wr W33
  have FB_33 := (FB_24.other W33 (Or.inr (slot_ne (Or.inl (hw _ (List.mem_of_getElem? (i := 11) rfl))) (Or.inl (hw _ (List.mem_of_getElem? (i := 18) rfl))) (by decide) (t := (.array .byte)) (t' := .int) (by decide) (by decide))))
  have B_33 := own_B_other B_24 W33 ne2
  have pre35 : ∀ t, Steps p.tables e below (T33.setTop (mkF m 33 #[.val (.ref a1), .val (.long v), .second, .val (.int (40 : Int32))] [(.int ((((v.toUInt64 >>> ((40 : Int32) &&& 0x3f).toInt64.toUInt64).toInt64).toInt32).toInt8.toInt32)), (.int (Int32.ofNat (len + 2))), (.ref bb)])) t → Steps p.tables e below _ t := fun t kt => pre31 t (by
    show Steps p.tables e below (T30.setTop (mkF m 25 #[.val (.ref a1), .val (.long v), .second, .val (.int (40 : Int32))] [(.int (Int32.ofNat (len + 3))), (.ref a1), (.int (Int32.ofNat (len + 2))), (.ref bb)])) _
    refine st33 _ ?_
    refine XS.lloadN X33.here hx rfl (hb hby d14_28) rfl ?_
    refine XS.iloadN X33.here hx rfl (hb hby d14_29) rfl ?_
    show Steps p.tables e below (T33.setTop (mkF m 30 #[.val (.ref a1), .val (.long v), .second, .val (.int (40 : Int32))] [(.int (40 : Int32)), (.long v), (.int (Int32.ofNat (len + 2))), (.ref bb)])) _
    refine XS.lushr X33.here hx rfl (hb hby d14_30) rfl ?_
    refine XS.l2i X33.here hx rfl (hb hby d14_31) rfl ?_
    refine XS.i2b X33.here hx rfl (hb hby d14_32) rfl ?_
    exact kt)
  obtain ⟨cl_34, Ar_34, Sz_34, Hf_34, Gf_34, Xf_34⟩ := id B_33
  obtain ⟨T36, h36, X36, e36, W36, st36⟩ := stB X33 hx hZ e33 Ar_34 (j := (Int32.ofNat (len + 2))) (within (c := (len + 2)) rfl (by omega) (by omega)) (g := (mkF m 33 #[.val (.ref a1), .val (.long v), .second, .val (.int (40 : Int32))] [(.int ((((v.toUInt64 >>> ((40 : Int32) &&& 0x3f).toInt64.toUInt64).toInt64).toInt32).toInt8.toInt32)), (.int (Int32.ofNat (len + 2))), (.ref bb)])) rfl rfl (hb hby d14_33)
  have N36 := Fr.snoc X36 N33 g2
  have Zs36 : n0 ≤ h36.size := Nat.le_trans Zs33 (Nat.le_of_eq W36.size.symm)
  have Kp36 : Keep h0 h36 [a1, bb] := Kp33.wr W36 (Or.inl (List.mem_of_getElem? (i := 1) rfl))
  have V36 : Wr h33 h36 bb (len + 2) (.int (own_byL v 40)) := by have z := W36; rw [clamp_of (c := (len + 2)) rfl (by omega), own_byte2] at z; exact z
  have B_36 := own_B_set B_33 V36 (own_fits8 _)
  have E_36 := E_33.wr W36
  have FB_36 := FB_33.other W36 (Or.inl ne1)
  have FL_36 := Fw33.other W36 (Or.inl ne1)
  have pre37 : ∀ t, Steps p.tables e below (T36.setTop (mkF m 9 #[.val (.ref a1), .val (.long v), .second, .val (.int ((40 : Int32) + (-8 : Int32)))] [])) t → Steps p.tables e below _ t := fun t kt => pre35 t (by
    show Steps p.tables e below (T33.setTop (mkF m 33 #[.val (.ref a1), .val (.long v), .second, .val (.int (40 : Int32))] [(.int ((((v.toUInt64 >>> ((40 : Int32) &&& 0x3f).toInt64.toUInt64).toInt64).toInt32).toInt8.toInt32)), (.int (Int32.ofNat (len + 2))), (.ref bb)])) _
    refine st36 _ ?_
    refine XS.iinc X36.here hx rfl (hb hby d14_34) rfl (l' := #[.val (.ref a1), .val (.long v), .second, .val (.int ((40 : Int32) + (-8 : Int32)))]) rfl ?_
    refine XS.goto X36.here hx rfl (pc0 := 37) (pc' := 9) rfl (hb hby d14_37) (by decide) (by decide) ?_
    exact kt)
  have hv38 : ((40 : Int32) + (-8 : Int32)) = (32 : Int32) := by decide
  rw [hv38] at pre37
  have pre39 : ∀ t, Steps p.tables e below (T36.setTop (mkF m 14 #[.val (.ref a1), .val (.long v), .second, .val (.int (32 : Int32))] [(.ref a1)])) t → Steps p.tables e below _ t := fun t kt => pre37 t (by
    show Steps p.tables e below (T36.setTop (mkF m 9 #[.val (.ref a1), .val (.long v), .second, .val (.int (32 : Int32))] [])) _
    refine XS.iloadN X36.here hx rfl (hb hby d14_9) rfl ?_
    have hc10 : ¬ ((32 : Int32) < (0 : Int32)) := by decide
    refine XS.ifNo X36.here hx rfl (hb hby d14_10) rfl ((if0 _ _).trans (flt hc10).1) ?_
    refine XS.aloadN X36.here hx rfl (hb hby d14_13) rfl rfl ?_
    exact kt)
  obtain ⟨T40, X40, e40, st40⟩ := getF X36 hx hZ hown (host := "") (Or.inl (hw _ (List.mem_of_getElem? (i := 10) rfl))) Via.refl e36 FB_36 (g := (mkF m 14 #[.val (.ref a1), .val (.long v), .second, .val (.int (32 : Int32))] [(.ref a1)])) rfl rfl (hb hby d14_14)
  have pre41 : ∀ t, Steps p.tables e below (T40.setTop (mkF m 19 #[.val (.ref a1), .val (.long v), .second, .val (.int (32 : Int32))] [(.ref a1), (.ref a1), (.ref bb)])) t → Steps p.tables e below _ t := fun t kt => pre39 t (by
    show Steps p.tables e below (T36.setTop (mkF m 14 #[.val (.ref a1), .val (.long v), .second, .val (.int (32 : Int32))] [(.ref a1)])) _
    refine st40 _ ?_
    refine XS.aloadN X40.here hx rfl (hb hby d14_17) rfl rfl ?_
    refine XS.dup X40.here hx rfl (hb hby d14_18) rfl rfl ?_
    exact kt)
  obtain ⟨T42, X42, e42, st42⟩ := getF X40 hx hZ hown (host := "") (Or.inl (hw _ (List.mem_of_getElem? (i := 17) rfl))) Via.refl e40 FL_36 (g := (mkF m 19 #[.val (.ref a1), .val (.long v), .second, .val (.int (32 : Int32))] [(.ref a1), (.ref a1), (.ref bb)])) rfl rfl (hb hby d14_19)
  have pre43 : ∀ t, Steps p.tables e below (T42.setTop (mkF m 25 #[.val (.ref a1), .val (.long v), .second, .val (.int (32 : Int32))] [(.int ((Int32.ofNat (len + 3)) + (1 : Int32))), (.ref a1), (.int (Int32.ofNat (len + 3))), (.ref bb)])) t → Steps p.tables e below _ t := fun t kt => pre41 t (by
    show Steps p.tables e below (T40.setTop (mkF m 19 #[.val (.ref a1), .val (.long v), .second, .val (.int (32 : Int32))] [(.ref a1), (.ref a1), (.ref bb)])) _
    refine st42 _ ?_
    refine XS.dupX1 X42.here hx rfl (hb hby d14_22) rfl rfl rfl ?_
    refine XS.iconst X42.here hx rfl (hb hby d14_23) ?_
    show Steps p.tables e below (T42.setTop (mkF m 24 #[.val (.ref a1), .val (.long v), .second, .val (.int (32 : Int32))] [(.int (1 : Int32)), (.int (Int32.ofNat (len + 3))), (.ref a1), (.int (Int32.ofNat (len + 3))), (.ref bb)])) _
    refine XS.iadd X42.here hx rfl (hb hby d14_24) rfl ?_
    exact kt)
  have hv44 : ((Int32.ofNat (len + 3)) + (1 : Int32)) = (Int32.ofNat (len + 4)) := (inc_ofNat (len + 3)).symm
  rw [hv44] at pre43
  obtain ⟨T45, h45, X45, e45, W45, st45⟩ := putF X42 hx hZ hown (host := "") (Or.inl (hw _ (List.mem_of_getElem? (i := 17) rfl))) Via.refl e42 FL_36 E_36 (Or.inl (hw _ (List.mem_of_getElem? (i := 18) rfl))) (hw _ (List.mem_of_getElem? (i := 2) rfl)) (ty := .int) (by decide) rfl rfl (g := (mkF m 25 #[.val (.ref a1), .val (.long v), .second, .val (.int (32 : Int32))] [(.int (Int32.ofNat (len + 4))), (.ref a1), (.int (Int32.ofNat (len + 3))), (.ref bb)])) rfl rfl (hb hby d14_25)
  have Fw45 := FL_36.same W45
  have N45 := Fr.snoc X45 N36 g1
  have Zs45 : n0 ≤ h45.size := Nat.le_trans Zs36 (Nat.le_of_eq W45.size.symm)
  have Kp45 : Keep h0 h45 [a1, bb] := Kp36.wr W45 (Or.inl (List.mem_of_getElem? (i := 0) rfl))
  have E_45 := E_36.wr W45
  have FB_45 := (FB_36.other W45 (Or.inr (slot_ne (Or.inl (hw _ (List.mem_of_getElem? (i := 11) rfl))) (Or.inl (hw _ (List.mem_of_getElem? (i := 18) rfl))) (by decide) (t := (.array .byte)) (t' := .int) (by decide) (by decide))))
  have B_45 := own_B_other B_36 W45 ne2
  have pre47 : ∀ t, Steps p.tables e below (T45.setTop (mkF m 33 #[.val (.ref a1), .val (.long v), .second, .val (.int (32 : Int32))] [(.int ((((v.toUInt64 >>> ((32 : Int32) &&& 0x3f).toInt64.toUInt64).toInt64).toInt32).toInt8.toInt32)), (.int (Int32.ofNat (len + 3))), (.ref bb)])) t → Steps p.tables e below _ t := fun t kt => pre43 t (by
    show Steps p.tables e below (T42.setTop (mkF m 25 #[.val (.ref a1), .val (.long v), .second, .val (.int (32 : Int32))] [(.int (Int32.ofNat (len + 4))), (.ref a1), (.int (Int32.ofNat (len + 3))), (.ref bb)])) _
    refine st45 _ ?_
    refine XS.lloadN X45.here hx rfl (hb hby d14_28) rfl ?_
    refine XS.iloadN X45.here hx rfl (hb hby d14_29) rfl ?_
    show Steps p.tables e below (T45.setTop (mkF m 30 #[.val (.ref a1), .val (.long v), .second, .val (.int (32 : Int32))] [(.int (32 : Int32)), (.long v), (.int (Int32.ofNat (len + 3))), (.ref bb)])) _
    refine XS.lushr X45.here hx rfl (hb hby d14_30) rfl ?_
    refine XS.l2i X45.here hx rfl (hb hby d14_31) rfl ?_
    refine XS.i2b X45.here hx rfl (hb hby d14_32) rfl ?_
    exact kt)
  obtain ⟨cl_46, Ar_46, Sz_46, Hf_46, Gf_46, Xf_46⟩ := id B_45
  obtain ⟨T48, h48, X48, e48, W48, st48⟩ := stB X45 hx hZ e45 Ar_46 (j := (Int32.ofNat (len + 3))) (within (c := (len + 3)) rfl (by omega) (by omega)) (g := (mkF m 33 #[.val (.ref a1), .val (.long v), .second, .val (.int (32 : Int32))] [(.int ((((v.toUInt64 >>> ((32 : Int32) &&& 0x3f).toInt64.toUInt64).toInt64).toInt32).toInt8.toInt32)), (.int (Int32.ofNat (len + 3))), (.ref bb)])) rfl rfl (hb hby d14_33)
  have N48 := Fr.snoc X48 N45 g2
  have Zs48 : n0 ≤ h48.size := Nat.le_trans Zs45 (Nat.le_of_eq W48.size.symm)
  have Kp48 : Keep h0 h48 [a1, bb] := Kp45.wr W48 (Or.inl (List.mem_of_getElem? (i := 1) rfl))
  have V48 : Wr h45 h48 bb (len + 3) (.int (own_byL v 32)) := by have z := W48; rw [clamp_of (c := (len + 3)) rfl (by omega), own_byte2] at z; exact z
  have B_48 := own_B_set B_45 V48 (own_fits8 _)
  have E_48 := E_45.wr W48
  have FB_48 := FB_45.other W48 (Or.inl ne1)
  have FL_48 := Fw45.other W48 (Or.inl ne1)
  have pre49 : ∀ t, Steps p.tables e below (T48.setTop (mkF m 9 #[.val (.ref a1), .val (.long v), .second, .val (.int ((32 : Int32) + (-8 : Int32)))] [])) t → Steps p.tables e below _ t := fun t kt => pre47 t (by
    show Steps p.tables e below (T45.setTop (mkF m 33 #[.val (.ref a1), .val (.long v), .second, .val (.int (32 : Int32))] [(.int ((((v.toUInt64 >>> ((32 : Int32) &&& 0x3f).toInt64.toUInt64).toInt64).toInt32).toInt8.toInt32)), (.int (Int32.ofNat (len + 3))), (.ref bb)])) _
    refine st48 _ ?_
    refine XS.iinc X48.here hx rfl (hb hby d14_34) rfl (l' := #[.val (.ref a1), .val (.long v), .second, .val (.int ((32 : Int32) + (-8 : Int32)))]) rfl ?_
    refine XS.goto X48.here hx rfl (pc0 := 37) (pc' := 9) rfl (hb hby d14_37) (by decide) (by decide) ?_
    exact kt)
  have hv50 : ((32 : Int32) + (-8 : Int32)) = (24 : Int32) := by decide
  rw [hv50] at pre49
  have pre51 : ∀ t, Steps p.tables e below (T48.setTop (mkF m 14 #[.val (.ref a1), .val (.long v), .second, .val (.int (24 : Int32))] [(.ref a1)])) t → Steps p.tables e below _ t := fun t kt => pre49 t (by
    show Steps p.tables e below (T48.setTop (mkF m 9 #[.val (.ref a1), .val (.long v), .second, .val (.int (24 : Int32))] [])) _
    refine XS.iloadN X48.here hx rfl (hb hby d14_9) rfl ?_
    have hc10 : ¬ ((24 : Int32) < (0 : Int32)) := by decide
    refine XS.ifNo X48.here hx rfl (hb hby d14_10) rfl ((if0 _ _).trans (flt hc10).1) ?_
    refine XS.aloadN X48.here hx rfl (hb hby d14_13) rfl rfl ?_
    exact kt)
  obtain ⟨T52, X52, e52, st52⟩ := getF X48 hx hZ hown (host := "") (Or.inl (hw _ (List.mem_of_getElem? (i := 10) rfl))) Via.refl e48 FB_48 (g := (mkF m 14 #[.val (.ref a1), .val (.long v), .second, .val (.int (24 : Int32))] [(.ref a1)])) rfl rfl (hb hby d14_14)
  have pre53 : ∀ t, Steps p.tables e below (T52.setTop (mkF m 19 #[.val (.ref a1), .val (.long v), .second, .val (.int (24 : Int32))] [(.ref a1), (.ref a1), (.ref bb)])) t → Steps p.tables e below _ t := fun t kt => pre51 t (by
    show Steps p.tables e below (T48.setTop (mkF m 14 #[.val (.ref a1), .val (.long v), .second, .val (.int (24 : Int32))] [(.ref a1)])) _
    refine st52 _ ?_
    refine XS.aloadN X52.here hx rfl (hb hby d14_17) rfl rfl ?_
    refine XS.dup X52.here hx rfl (hb hby d14_18) rfl rfl ?_
    exact kt)
  obtain ⟨T54, X54, e54, st54⟩ := getF X52 hx hZ hown (host := "") (Or.inl (hw _ (List.mem_of_getElem? (i := 17) rfl))) Via.refl e52 FL_48 (g := (mkF m 19 #[.val (.ref a1), .val (.long v), .second, .val (.int (24 : Int32))] [(.ref a1), (.ref a1), (.ref bb)])) rfl rfl (hb hby d14_19)
  have pre55 : ∀ t, Steps p.tables e below (T54.setTop (mkF m 25 #[.val (.ref a1), .val (.long v), .second, .val (.int (24 : Int32))] [(.int ((Int32.ofNat (len + 4)) + (1 : Int32))), (.ref a1), (.int (Int32.ofNat (len + 4))), (.ref bb)])) t → Steps p.tables e below _ t := fun t kt => pre53 t (by
    show Steps p.tables e below (T52.setTop (mkF m 19 #[.val (.ref a1), .val (.long v), .second, .val (.int (24 : Int32))] [(.ref a1), (.ref a1), (.ref bb)])) _
    refine st54 _ ?_
    refine XS.dupX1 X54.here hx rfl (hb hby d14_22) rfl rfl rfl ?_
    refine XS.iconst X54.here hx rfl (hb hby d14_23) ?_
    show Steps p.tables e below (T54.setTop (mkF m 24 #[.val (.ref a1), .val (.long v), .second, .val (.int (24 : Int32))] [(.int (1 : Int32)), (.int (Int32.ofNat (len + 4))), (.ref a1), (.int (Int32.ofNat (len + 4))), (.ref bb)])) _
    refine XS.iadd X54.here hx rfl (hb hby d14_24) rfl ?_
    exact kt)
  have hv56 : ((Int32.ofNat (len + 4)) + (1 : Int32)) = (Int32.ofNat (len + 5)) := (inc_ofNat (len + 4)).symm
  rw [hv56] at pre55
  obtain ⟨T57, h57, X57, e57, W57, st57⟩ := putF X54 hx hZ hown (host := "") (Or.inl (hw _ (List.mem_of_getElem? (i := 17) rfl))) Via.refl e54 FL_48 E_48 (Or.inl (hw _ (List.mem_of_getElem? (i := 18) rfl))) (hw _ (List.mem_of_getElem? (i := 2) rfl)) (ty := .int) (by decide) rfl rfl (g := (mkF m 25 #[.val (.ref a1), .val (.long v), .second, .val (.int (24 : Int32))] [(.int (Int32.ofNat (len + 5))), (.ref a1), (.int (Int32.ofNat (len + 4))), (.ref bb)])) rfl rfl (hb hby d14_25)
  have Fw57 := FL_48.same W57
  have N57 := Fr.snoc X57 N48 g1
  have Zs57 : n0 ≤ h57.size := Nat.le_trans Zs48 (Nat.le_of_eq W57.size.symm)
  have Kp57 : Keep h0 h57 [a1, bb] := Kp48.wr W57 (Or.inl (List.mem_of_getElem? (i := 0) rfl))
  have E_57 := E_48.wr W57
  have FB_57 := (FB_48.other W57 (Or.inr (slot_ne (Or.inl (hw _ (List.mem_of_getElem? (i := 11) rfl))) (Or.inl (hw _ (List.mem_of_getElem? (i := 18) rfl))) (by decide) (t := (.array .byte)) (t' := .int) (by decide) (by decide))))
  have B_57 := own_B_other B_48 W57 ne2
  have pre59 : ∀ t, Steps p.tables e below (T57.setTop (mkF m 33 #[.val (.ref a1), .val (.long v), .second, .val (.int (24 : Int32))] [(.int ((((v.toUInt64 >>> ((24 : Int32) &&& 0x3f).toInt64.toUInt64).toInt64).toInt32).toInt8.toInt32)), (.int (Int32.ofNat (len + 4))), (.ref bb)])) t → Steps p.tables e below _ t := fun t kt => pre55 t (by
    show Steps p.tables e below (T54.setTop (mkF m 25 #[.val (.ref a1), .val (.long v), .second, .val (.int (24 : Int32))] [(.int (Int32.ofNat (len + 5))), (.ref a1), (.int (Int32.ofNat (len + 4))), (.ref bb)])) _
    refine st57 _ ?_
    refine XS.lloadN X57.here hx rfl (hb hby d14_28) rfl ?_
    refine XS.iloadN X57.here hx rfl (hb hby d14_29) rfl ?_
    show Steps p.tables e below (T57.setTop (mkF m 30 #[.val (.ref a1), .val (.long v), .second, .val (.int (24 : Int32))] [(.int (24 : Int32)), (.long v), (.int (Int32.ofNat (len + 4))), (.ref bb)])) _
    refine XS.lushr X57.here hx rfl (hb hby d14_30) rfl ?_
    refine XS.l2i X57.here hx rfl (hb hby d14_31) rfl ?_
    refine XS.i2b X57.here hx rfl (hb hby d14_32) rfl ?_
    exact kt)
  obtain ⟨cl_58, Ar_58, Sz_58, Hf_58, Gf_58, Xf_58⟩ := id B_57
  obtain ⟨T60, h60, X60, e60, W60, st60⟩ := stB X57 hx hZ e57 Ar_58 (j := (Int32.ofNat (len + 4))) (within (c := (len + 4)) rfl (by omega) (by omega)) (g := (mkF m 33 #[.val (.ref a1), .val (.long v), .second, .val (.int (24 : Int32))] [(.int ((((v.toUInt64 >>> ((24 : Int32) &&& 0x3f).toInt64.toUInt64).toInt64).toInt32).toInt8.toInt32)), (.int (Int32.ofNat (len + 4))), (.ref bb)])) rfl rfl (hb hby d14_33)
  have N60 := Fr.snoc X60 N57 g2
  have Zs60 : n0 ≤ h60.size := Nat.le_trans Zs57 (Nat.le_of_eq W60.size.symm)
  have Kp60 : Keep h0 h60 [a1, bb] := Kp57.wr W60 (Or.inl (List.mem_of_getElem? (i := 1) rfl))
  have V60 : Wr h57 h60 bb (len + 4) (.int (own_byL v 24)) := by have z := W60; rw [clamp_of (c := (len + 4)) rfl (by omega), own_byte2] at z; exact z
  have B_60 := own_B_set B_57 V60 (own_fits8 _)
  have E_60 := E_57.wr W60
  have FB_60 := FB_57.other W60 (Or.inl ne1)
  have FL_60 := Fw57.other W60 (Or.inl ne1)
  have pre61 : ∀ t, Steps p.tables e below (T60.setTop (mkF m 9 #[.val (.ref a1), .val (.long v), .second, .val (.int ((24 : Int32) + (-8 : Int32)))] [])) t → Steps p.tables e below _ t := fun t kt => pre59 t (by
    show Steps p.tables e below (T57.setTop (mkF m 33 #[.val (.ref a1), .val (.long v), .second, .val (.int (24 : Int32))] [(.int ((((v.toUInt64 >>> ((24 : Int32) &&& 0x3f).toInt64.toUInt64).toInt64).toInt32).toInt8.toInt32)), (.int (Int32.ofNat (len + 4))), (.ref bb)])) _
    refine st60 _ ?_
    refine XS.iinc X60.here hx rfl (hb hby d14_34) rfl (l' := #[.val (.ref a1), .val (.long v), .second, .val (.int ((24 : Int32) + (-8 : Int32)))]) rfl ?_
    refine XS.goto X60.here hx rfl (pc0 := 37) (pc' := 9) rfl (hb hby d14_37) (by decide) (by decide) ?_
    exact kt)
  have hv62 : ((24 : Int32) + (-8 : Int32)) = (16 : Int32) := by decide
  rw [hv62] at pre61
  have pre63 : ∀ t, Steps p.tables e below (T60.setTop (mkF m 14 #[.val (.ref a1), .val (.long v), .second, .val (.int (16 : Int32))] [(.ref a1)])) t → Steps p.tables e below _ t := fun t kt => pre61 t (by
    show Steps p.tables e below (T60.setTop (mkF m 9 #[.val (.ref a1), .val (.long v), .second, .val (.int (16 : Int32))] [])) _
    refine XS.iloadN X60.here hx rfl (hb hby d14_9) rfl ?_
    have hc10 : ¬ ((16 : Int32) < (0 : Int32)) := by decide
    refine XS.ifNo X60.here hx rfl (hb hby d14_10) rfl ((if0 _ _).trans (flt hc10).1) ?_
    refine XS.aloadN X60.here hx rfl (hb hby d14_13) rfl rfl ?_
    exact kt)
  obtain ⟨T64, X64, e64, st64⟩ := getF X60 hx hZ hown (host := "") (Or.inl (hw _ (List.mem_of_getElem? (i := 10) rfl))) Via.refl e60 FB_60 (g := (mkF m 14 #[.val (.ref a1), .val (.long v), .second, .val (.int (16 : Int32))] [(.ref a1)])) rfl rfl (hb hby d14_14)
  have pre65 : ∀ t, Steps p.tables e below (T64.setTop (mkF m 19 #[.val (.ref a1), .val (.long v), .second, .val (.int (16 : Int32))] [(.ref a1), (.ref a1), (.ref bb)])) t → Steps p.tables e below _ t := fun t kt => pre63 t (by
    show Steps p.tables e below (T60.setTop (mkF m 14 #[.val (.ref a1), .val (.long v), .second, .val (.int (16 : Int32))] [(.ref a1)])) _
    refine st64 _ ?_
    refine XS.aloadN X64.here hx rfl (hb hby d14_17) rfl rfl ?_
    refine XS.dup X64.here hx rfl (hb hby d14_18) rfl rfl ?_
    exact kt)
  obtain ⟨T66, X66, e66, st66⟩ := getF X64 hx hZ hown (host := "") (Or.inl (hw _ (List.mem_of_getElem? (i := 17) rfl))) Via.refl e64 FL_60 (g := (mkF m 19 #[.val (.ref a1), .val (.long v), .second, .val (.int (16 : Int32))] [(.ref a1), (.ref a1), (.ref bb)])) rfl rfl (hb hby d14_19)
  have pre67 : ∀ t, Steps p.tables e below (T66.setTop (mkF m 25 #[.val (.ref a1), .val (.long v), .second, .val (.int (16 : Int32))] [(.int ((Int32.ofNat (len + 5)) + (1 : Int32))), (.ref a1), (.int (Int32.ofNat (len + 5))), (.ref bb)])) t → Steps p.tables e below _ t := fun t kt => pre65 t (by
    show Steps p.tables e below (T64.setTop (mkF m 19 #[.val (.ref a1), .val (.long v), .second, .val (.int (16 : Int32))] [(.ref a1), (.ref a1), (.ref bb)])) _
    refine st66 _ ?_
    refine XS.dupX1 X66.here hx rfl (hb hby d14_22) rfl rfl rfl ?_
    refine XS.iconst X66.here hx rfl (hb hby d14_23) ?_
    show Steps p.tables e below (T66.setTop (mkF m 24 #[.val (.ref a1), .val (.long v), .second, .val (.int (16 : Int32))] [(.int (1 : Int32)), (.int (Int32.ofNat (len + 5))), (.ref a1), (.int (Int32.ofNat (len + 5))), (.ref bb)])) _
    refine XS.iadd X66.here hx rfl (hb hby d14_24) rfl ?_
    exact kt)
  have hv68 : ((Int32.ofNat (len + 5)) + (1 : Int32)) = (Int32.ofNat (len + 6)) := (inc_ofNat (len + 5)).symm
  rw [hv68] at pre67
  obtain ⟨T69, h69, X69, e69, W69, st69⟩ := putF X66 hx hZ hown (host := "") (Or.inl (hw _ (List.mem_of_getElem? (i := 17) rfl))) Via.refl e66 FL_60 E_60 (Or.inl (hw _ (List.mem_of_getElem? (i := 18) rfl))) (hw _ (List.mem_of_getElem? (i := 2) rfl)) (ty := .int) (by decide) rfl rfl (g := (mkF m 25 #[.val (.ref a1), .val (.long v), .second, .val (.int (16 : Int32))] [(.int (Int32.ofNat (len + 6))), (.ref a1), (.int (Int32.ofNat (len + 5))), (.ref bb)])) rfl rfl (hb hby d14_25)
  have Fw69 := FL_60.same W69
  have N69 := Fr.snoc X69 N60 g1
  have Zs69 : n0 ≤ h69.size := Nat.le_trans Zs60 (Nat.le_of_eq W69.size.symm)
  have Kp69 : Keep h0 h69 [a1, bb] := Kp60.wr W69 (Or.inl (List.mem_of_getElem? (i := 0) rfl))
  have E_69 := E_60.wr W69
  have FB_69 := (FB_60.other W69 (Or.inr (slot_ne (Or.inl (hw _ (List.mem_of_getElem? (i := 11) rfl))) (Or.inl (hw _ (List.mem_of_getElem? (i := 18) rfl))) (by decide) (t := (.array .byte)) (t' := .int) (by decide) (by decide))))
  have B_69 := own_B_other B_60 W69 ne2
  have pre71 : ∀ t, Steps p.tables e below (T69.setTop (mkF m 33 #[.val (.ref a1), .val (.long v), .second, .val (.int (16 : Int32))] [(.int ((((v.toUInt64 >>> ((16 : Int32) &&& 0x3f).toInt64.toUInt64).toInt64).toInt32).toInt8.toInt32)), (.int (Int32.ofNat (len + 5))), (.ref bb)])) t → Steps p.tables e below _ t := fun t kt => pre67 t (by
    show Steps p.tables e below (T66.setTop (mkF m 25 #[.val (.ref a1), .val (.long v), .second, .val (.int (16 : Int32))] [(.int (Int32.ofNat (len + 6))), (.ref a1), (.int (Int32.ofNat (len + 5))), (.ref bb)])) _
    refine st69 _ ?_
    refine XS.lloadN X69.here hx rfl (hb hby d14_28) rfl ?_
    refine XS.iloadN X69.here hx rfl (hb hby d14_29) rfl ?_
    show Steps p.tables e below (T69.setTop (mkF m 30 #[.val (.ref a1), .val (.long v), .second, .val (.int (16 : Int32))] [(.int (16 : Int32)), (.long v), (.int (Int32.ofNat (len + 5))), (.ref bb)])) _
    refine XS.lushr X69.here hx rfl (hb hby d14_30) rfl ?_
    refine XS.l2i X69.here hx rfl (hb hby d14_31) rfl ?_
    refine XS.i2b X69.here hx rfl (hb hby d14_32) rfl ?_
    exact kt)
  obtain ⟨cl_70, Ar_70, Sz_70, Hf_70, Gf_70, Xf_70⟩ := id B_69
  obtain ⟨T72, h72, X72, e72, W72, st72⟩ := stB X69 hx hZ e69 Ar_70 (j := (Int32.ofNat (len + 5))) (within (c := (len + 5)) rfl (by omega) (by omega)) (g := (mkF m 33 #[.val (.ref a1), .val (.long v), .second, .val (.int (16 : Int32))] [(.int ((((v.toUInt64 >>> ((16 : Int32) &&& 0x3f).toInt64.toUInt64).toInt64).toInt32).toInt8.toInt32)), (.int (Int32.ofNat (len + 5))), (.ref bb)])) rfl rfl (hb hby d14_33)
  have N72 := Fr.snoc X72 N69 g2
  have Zs72 : n0 ≤ h72.size := Nat.le_trans Zs69 (Nat.le_of_eq W72.size.symm)
  have Kp72 : Keep h0 h72 [a1, bb] := Kp69.wr W72 (Or.inl (List.mem_of_getElem? (i := 1) rfl))
  have V72 : Wr h69 h72 bb (len + 5) (.int (own_byL v 16)) := by have z := W72; rw [clamp_of (c := (len + 5)) rfl (by omega), own_byte2] at z; exact z
  have B_72 := own_B_set B_69 V72 (own_fits8 _)
  have E_72 := E_69.wr W72
  have FB_72 := FB_69.other W72 (Or.inl ne1)
  have FL_72 := Fw69.other W72 (Or.inl ne1)
  have pre73 : ∀ t, Steps p.tables e below (T72.setTop (mkF m 9 #[.val (.ref a1), .val (.long v), .second, .val (.int ((16 : Int32) + (-8 : Int32)))] [])) t → Steps p.tables e below _ t := fun t kt => pre71 t (by
    show Steps p.tables e below (T69.setTop (mkF m 33 #[.val (.ref a1), .val (.long v), .second, .val (.int (16 : Int32))] [(.int ((((v.toUInt64 >>> ((16 : Int32) &&& 0x3f).toInt64.toUInt64).toInt64).toInt32).toInt8.toInt32)), (.int (Int32.ofNat (len + 5))), (.ref bb)])) _
    refine st72 _ ?_
    refine XS.iinc X72.here hx rfl (hb hby d14_34) rfl (l' := #[.val (.ref a1), .val (.long v), .second, .val (.int ((16 : Int32) + (-8 : Int32)))]) rfl ?_
    refine XS.goto X72.here hx rfl (pc0 := 37) (pc' := 9) rfl (hb hby d14_37) (by decide) (by decide) ?_
    exact kt)
  have hv74 : ((16 : Int32) + (-8 : Int32)) = (8 : Int32) := by decide
  rw [hv74] at pre73
  have pre75 : ∀ t, Steps p.tables e below (T72.setTop (mkF m 14 #[.val (.ref a1), .val (.long v), .second, .val (.int (8 : Int32))] [(.ref a1)])) t → Steps p.tables e below _ t := fun t kt => pre73 t (by
    show Steps p.tables e below (T72.setTop (mkF m 9 #[.val (.ref a1), .val (.long v), .second, .val (.int (8 : Int32))] [])) _
    refine XS.iloadN X72.here hx rfl (hb hby d14_9) rfl ?_
    have hc10 : ¬ ((8 : Int32) < (0 : Int32)) := by decide
    refine XS.ifNo X72.here hx rfl (hb hby d14_10) rfl ((if0 _ _).trans (flt hc10).1) ?_
    refine XS.aloadN X72.here hx rfl (hb hby d14_13) rfl rfl ?_
    exact kt)
  obtain ⟨T76, X76, e76, st76⟩ := getF X72 hx hZ hown (host := "") (Or.inl (hw _ (List.mem_of_getElem? (i := 10) rfl))) Via.refl e72 FB_72 (g := (mkF m 14 #[.val (.ref a1), .val (.long v), .second, .val (.int (8 : Int32))] [(.ref a1)])) rfl rfl (hb hby d14_14)
  have pre77 : ∀ t, Steps p.tables e below (T76.setTop (mkF m 19 #[.val (.ref a1), .val (.long v), .second, .val (.int (8 : Int32))] [(.ref a1), (.ref a1), (.ref bb)])) t → Steps p.tables e below _ t := fun t kt => pre75 t (by
    show Steps p.tables e below (T72.setTop (mkF m 14 #[.val (.ref a1), .val (.long v), .second, .val (.int (8 : Int32))] [(.ref a1)])) _
    refine st76 _ ?_
    refine XS.aloadN X76.here hx rfl (hb hby d14_17) rfl rfl ?_
    refine XS.dup X76.here hx rfl (hb hby d14_18) rfl rfl ?_
    exact kt)
  obtain ⟨T78, X78, e78, st78⟩ := getF X76 hx hZ hown (host := "") (Or.inl (hw _ (List.mem_of_getElem? (i := 17) rfl))) Via.refl e76 FL_72 (g := (mkF m 19 #[.val (.ref a1), .val (.long v), .second, .val (.int (8 : Int32))] [(.ref a1), (.ref a1), (.ref bb)])) rfl rfl (hb hby d14_19)
  have pre79 : ∀ t, Steps p.tables e below (T78.setTop (mkF m 25 #[.val (.ref a1), .val (.long v), .second, .val (.int (8 : Int32))] [(.int ((Int32.ofNat (len + 6)) + (1 : Int32))), (.ref a1), (.int (Int32.ofNat (len + 6))), (.ref bb)])) t → Steps p.tables e below _ t := fun t kt => pre77 t (by
    show Steps p.tables e below (T76.setTop (mkF m 19 #[.val (.ref a1), .val (.long v), .second, .val (.int (8 : Int32))] [(.ref a1), (.ref a1), (.ref bb)])) _
    refine st78 _ ?_
    refine XS.dupX1 X78.here hx rfl (hb hby d14_22) rfl rfl rfl ?_
    refine XS.iconst X78.here hx rfl (hb hby d14_23) ?_
    show Steps p.tables e below (T78.setTop (mkF m 24 #[.val (.ref a1), .val (.long v), .second, .val (.int (8 : Int32))] [(.int (1 : Int32)), (.int (Int32.ofNat (len + 6))), (.ref a1), (.int (Int32.ofNat (len + 6))), (.ref bb)])) _
    refine XS.iadd X78.here hx rfl (hb hby d14_24) rfl ?_
    exact kt)
  have hv80 : ((Int32.ofNat (len + 6)) + (1 : Int32)) = (Int32.ofNat (len + 7)) := (inc_ofNat (len + 6)).symm
  rw [hv80] at pre79
  obtain ⟨T81, h81, X81, e81, W81, st81⟩ := putF X78 hx hZ hown (host := "") (Or.inl (hw _ (List.mem_of_getElem? (i := 17) rfl))) Via.refl e78 FL_72 E_72 (Or.inl (hw _ (List.mem_of_getElem? (i := 18) rfl))) (hw _ (List.mem_of_getElem? (i := 2) rfl)) (ty := .int) (by decide) rfl rfl (g := (mkF m 25 #[.val (.ref a1), .val (.long v), .second, .val (.int (8 : Int32))] [(.int (Int32.ofNat (len + 7))), (.ref a1), (.int (Int32.ofNat (len + 6))), (.ref bb)])) rfl rfl (hb hby d14_25)
  have Fw81 := FL_72.same W81
  have N81 := Fr.snoc X81 N72 g1
  have Zs81 : n0 ≤ h81.size := Nat.le_trans Zs72 (Nat.le_of_eq W81.size.symm)
  have Kp81 : Keep h0 h81 [a1, bb] := Kp72.wr W81 (Or.inl (List.mem_of_getElem? (i := 0) rfl))
  have E_81 := E_72.wr W81
  have FB_81 := (FB_72.other W81 (Or.inr (slot_ne (Or.inl (hw _ (List.mem_of_getElem? (i := 11) rfl))) (Or.inl (hw _ (List.mem_of_getElem? (i := 18) rfl))) (by decide) (t := (.array .byte)) (t' := .int) (by decide) (by decide))))
  have B_81 := own_B_other B_72 W81 ne2
  have pre83 : ∀ t, Steps p.tables e below (T81.setTop (mkF m 33 #[.val (.ref a1), .val (.long v), .second, .val (.int (8 : Int32))] [(.int ((((v.toUInt64 >>> ((8 : Int32) &&& 0x3f).toInt64.toUInt64).toInt64).toInt32).toInt8.toInt32)), (.int (Int32.ofNat (len + 6))), (.ref bb)])) t → Steps p.tables e below _ t := fun t kt => pre79 t (by
    show Steps p.tables e below (T78.setTop (mkF m 25 #[.val (.ref a1), .val (.long v), .second, .val (.int (8 : Int32))] [(.int (Int32.ofNat (len + 7))), (.ref a1), (.int (Int32.ofNat (len + 6))), (.ref bb)])) _
    refine st81 _ ?_
    refine XS.lloadN X81.here hx rfl (hb hby d14_28) rfl ?_
    refine XS.iloadN X81.here hx rfl (hb hby d14_29) rfl ?_
    show Steps p.tables e below (T81.setTop (mkF m 30 #[.val (.ref a1), .val (.long v), .second, .val (.int (8 : Int32))] [(.int (8 : Int32)), (.long v), (.int (Int32.ofNat (len + 6))), (.ref bb)])) _
    refine XS.lushr X81.here hx rfl (hb hby d14_30) rfl ?_
    refine XS.l2i X81.here hx rfl (hb hby d14_31) rfl ?_
    refine XS.i2b X81.here hx rfl (hb hby d14_32) rfl ?_
    exact kt)
  obtain ⟨cl_82, Ar_82, Sz_82, Hf_82, Gf_82, Xf_82⟩ := id B_81
  obtain ⟨T84, h84, X84, e84, W84, st84⟩ := stB X81 hx hZ e81 Ar_82 (j := (Int32.ofNat (len + 6))) (within (c := (len + 6)) rfl (by omega) (by omega)) (g := (mkF m 33 #[.val (.ref a1), .val (.long v), .second, .val (.int (8 : Int32))] [(.int ((((v.toUInt64 >>> ((8 : Int32) &&& 0x3f).toInt64.toUInt64).toInt64).toInt32).toInt8.toInt32)), (.int (Int32.ofNat (len + 6))), (.ref bb)])) rfl rfl (hb hby d14_33)
  have N84 := Fr.snoc X84 N81 g2
  have Zs84 : n0 ≤ h84.size := Nat.le_trans Zs81 (Nat.le_of_eq W84.size.symm)
  have Kp84 : Keep h0 h84 [a1, bb] := Kp81.wr W84 (Or.inl (List.mem_of_getElem? (i := 1) rfl))
  have V84 : Wr h81 h84 bb (len + 6) (.int (own_byL v 8)) := by have z := W84; rw [clamp_of (c := (len + 6)) rfl (by omega), own_byte2] at z; exact z
  have B_84 := own_B_set B_81 V84 (own_fits8 _)
  have E_84 := E_81.wr W84
  have FB_84 := FB_81.other W84 (Or.inl ne1)
  have FL_84 := Fw81.other W84 (Or.inl ne1)
  have pre85 : ∀ t, Steps p.tables e below (T84.setTop (mkF m 9 #[.val (.ref a1), .val (.long v), .second, .val (.int ((8 : Int32) + (-8 : Int32)))] [])) t → Steps p.tables e below _ t := fun t kt => pre83 t (by
    show Steps p.tables e below (T81.setTop (mkF m 33 #[.val (.ref a1), .val (.long v), .second, .val (.int (8 : Int32))] [(.int ((((v.toUInt64 >>> ((8 : Int32) &&& 0x3f).toInt64.toUInt64).toInt64).toInt32).toInt8.toInt32)), (.int (Int32.ofNat (len + 6))), (.ref bb)])) _
    refine st84 _ ?_
    refine XS.iinc X84.here hx rfl (hb hby d14_34) rfl (l' := #[.val (.ref a1), .val (.long v), .second, .val (.int ((8 : Int32) + (-8 : Int32)))]) rfl ?_
    refine XS.goto X84.here hx rfl (pc0 := 37) (pc' := 9) rfl (hb hby d14_37) (by decide) (by decide) ?_
    exact kt)
  have hv86 : ((8 : Int32) + (-8 : Int32)) = (0 : Int32) := by decide
  rw [hv86] at pre85
  have pre87 : ∀ t, Steps p.tables e below (T84.setTop (mkF m 14 #[.val (.ref a1), .val (.long v), .second, .val (.int (0 : Int32))] [(.ref a1)])) t → Steps p.tables e below _ t := fun t kt => pre85 t (by
    show Steps p.tables e below (T84.setTop (mkF m 9 #[.val (.ref a1), .val (.long v), .second, .val (.int (0 : Int32))] [])) _
    refine XS.iloadN X84.here hx rfl (hb hby d14_9) rfl ?_
    have hc10 : ¬ ((0 : Int32) < (0 : Int32)) := by decide
    refine XS.ifNo X84.here hx rfl (hb hby d14_10) rfl ((if0 _ _).trans (flt hc10).1) ?_
    refine XS.aloadN X84.here hx rfl (hb hby d14_13) rfl rfl ?_
    exact kt)
  obtain ⟨T88, X88, e88, st88⟩ := getF X84 hx hZ hown (host := "") (Or.inl (hw _ (List.mem_of_getElem? (i := 10) rfl))) Via.refl e84 FB_84 (g := (mkF m 14 #[.val (.ref a1), .val (.long v), .second, .val (.int (0 : Int32))] [(.ref a1)])) rfl rfl (hb hby d14_14)
  have pre89 : ∀ t, Steps p.tables e below (T88.setTop (mkF m 19 #[.val (.ref a1), .val (.long v), .second, .val (.int (0 : Int32))] [(.ref a1), (.ref a1), (.ref bb)])) t → Steps p.tables e below _ t := fun t kt => pre87 t (by
    show Steps p.tables e below (T84.setTop (mkF m 14 #[.val (.ref a1), .val (.long v), .second, .val (.int (0 : Int32))] [(.ref a1)])) _
    refine st88 _ ?_
    refine XS.aloadN X88.here hx rfl (hb hby d14_17) rfl rfl ?_
    refine XS.dup X88.here hx rfl (hb hby d14_18) rfl rfl ?_
    exact kt)
  obtain ⟨T90, X90, e90, st90⟩ := getF X88 hx hZ hown (host := "") (Or.inl (hw _ (List.mem_of_getElem? (i := 17) rfl))) Via.refl e88 FL_84 (g := (mkF m 19 #[.val (.ref a1), .val (.long v), .second, .val (.int (0 : Int32))] [(.ref a1), (.ref a1), (.ref bb)])) rfl rfl (hb hby d14_19)
  have pre91 : ∀ t, Steps p.tables e below (T90.setTop (mkF m 25 #[.val (.ref a1), .val (.long v), .second, .val (.int (0 : Int32))] [(.int ((Int32.ofNat (len + 7)) + (1 : Int32))), (.ref a1), (.int (Int32.ofNat (len + 7))), (.ref bb)])) t → Steps p.tables e below _ t := fun t kt => pre89 t (by
    show Steps p.tables e below (T88.setTop (mkF m 19 #[.val (.ref a1), .val (.long v), .second, .val (.int (0 : Int32))] [(.ref a1), (.ref a1), (.ref bb)])) _
    refine st90 _ ?_
    refine XS.dupX1 X90.here hx rfl (hb hby d14_22) rfl rfl rfl ?_
    refine XS.iconst X90.here hx rfl (hb hby d14_23) ?_
    show Steps p.tables e below (T90.setTop (mkF m 24 #[.val (.ref a1), .val (.long v), .second, .val (.int (0 : Int32))] [(.int (1 : Int32)), (.int (Int32.ofNat (len + 7))), (.ref a1), (.int (Int32.ofNat (len + 7))), (.ref bb)])) _
    refine XS.iadd X90.here hx rfl (hb hby d14_24) rfl ?_
    exact kt)
  have hv92 : ((Int32.ofNat (len + 7)) + (1 : Int32)) = (Int32.ofNat (len + 8)) := (inc_ofNat (len + 7)).symm
  rw [hv92] at pre91
  obtain ⟨T93, h93, X93, e93, W93, st93⟩ := putF X90 hx hZ hown (host := "") (Or.inl (hw _ (List.mem_of_getElem? (i := 17) rfl))) Via.refl e90 FL_84 E_84 (Or.inl (hw _ (List.mem_of_getElem? (i := 18) rfl))) (hw _ (List.mem_of_getElem? (i := 2) rfl)) (ty := .int) (by decide) rfl rfl (g := (mkF m 25 #[.val (.ref a1), .val (.long v), .second, .val (.int (0 : Int32))] [(.int (Int32.ofNat (len + 8))), (.ref a1), (.int (Int32.ofNat (len + 7))), (.ref bb)])) rfl rfl (hb hby d14_25)
  have Fw93 := FL_84.same W93
  have N93 := Fr.snoc X93 N84 g1
  have Zs93 : n0 ≤ h93.size := Nat.le_trans Zs84 (Nat.le_of_eq W93.size.symm)
  have Kp93 : Keep h0 h93 [a1, bb] := Kp84.wr W93 (Or.inl (List.mem_of_getElem? (i := 0) rfl))
  have E_93 := E_84.wr W93
  have FB_93 := (FB_84.other W93 (Or.inr (slot_ne (Or.inl (hw _ (List.mem_of_getElem? (i := 11) rfl))) (Or.inl (hw _ (List.mem_of_getElem? (i := 18) rfl))) (by decide) (t := (.array .byte)) (t' := .int) (by decide) (by decide))))
  have B_93 := own_B_other B_84 W93 ne2
  have pre95 : ∀ t, Steps p.tables e below (T93.setTop (mkF m 33 #[.val (.ref a1), .val (.long v), .second, .val (.int (0 : Int32))] [(.int ((((v.toUInt64 >>> ((0 : Int32) &&& 0x3f).toInt64.toUInt64).toInt64).toInt32).toInt8.toInt32)), (.int (Int32.ofNat (len + 7))), (.ref bb)])) t → Steps p.tables e below _ t := fun t kt => pre91 t (by
    show Steps p.tables e below (T90.setTop (mkF m 25 #[.val (.ref a1), .val (.long v), .second, .val (.int (0 : Int32))] [(.int (Int32.ofNat (len + 8))), (.ref a1), (.int (Int32.ofNat (len + 7))), (.ref bb)])) _
    refine st93 _ ?_
    refine XS.lloadN X93.here hx rfl (hb hby d14_28) rfl ?_
    refine XS.iloadN X93.here hx rfl (hb hby d14_29) rfl ?_
    show Steps p.tables e below (T93.setTop (mkF m 30 #[.val (.ref a1), .val (.long v), .second, .val (.int (0 : Int32))] [(.int (0 : Int32)), (.long v), (.int (Int32.ofNat (len + 7))), (.ref bb)])) _
    refine XS.lushr X93.here hx rfl (hb hby d14_30) rfl ?_
    refine XS.l2i X93.here hx rfl (hb hby d14_31) rfl ?_
    refine XS.i2b X93.here hx rfl (hb hby d14_32) rfl ?_
    exact kt)
  obtain ⟨cl_94, Ar_94, Sz_94, Hf_94, Gf_94, Xf_94⟩ := id B_93
  obtain ⟨T96, h96, X96, e96, W96, st96⟩ := stB X93 hx hZ e93 Ar_94 (j := (Int32.ofNat (len + 7))) (within (c := (len + 7)) rfl (by omega) (by omega)) (g := (mkF m 33 #[.val (.ref a1), .val (.long v), .second, .val (.int (0 : Int32))] [(.int ((((v.toUInt64 >>> ((0 : Int32) &&& 0x3f).toInt64.toUInt64).toInt64).toInt32).toInt8.toInt32)), (.int (Int32.ofNat (len + 7))), (.ref bb)])) rfl rfl (hb hby d14_33)
  have N96 := Fr.snoc X96 N93 g2
  have Zs96 : n0 ≤ h96.size := Nat.le_trans Zs93 (Nat.le_of_eq W96.size.symm)
  have Kp96 : Keep h0 h96 [a1, bb] := Kp93.wr W96 (Or.inl (List.mem_of_getElem? (i := 1) rfl))
  have V96 : Wr h93 h96 bb (len + 7) (.int (own_byL v 0)) := by have z := W96; rw [clamp_of (c := (len + 7)) rfl (by omega), own_byte2] at z; exact z
  have B_96 := own_B_set B_93 V96 (own_fits8 _)
  have E_96 := E_93.wr W96
  have FB_96 := FB_93.other W96 (Or.inl ne1)
  have FL_96 := Fw93.other W96 (Or.inl ne1)
  have pre97 : ∀ t, Steps p.tables e below (T96.setTop (mkF m 9 #[.val (.ref a1), .val (.long v), .second, .val (.int ((0 : Int32) + (-8 : Int32)))] [])) t → Steps p.tables e below _ t := fun t kt => pre95 t (by
    show Steps p.tables e below (T93.setTop (mkF m 33 #[.val (.ref a1), .val (.long v), .second, .val (.int (0 : Int32))] [(.int ((((v.toUInt64 >>> ((0 : Int32) &&& 0x3f).toInt64.toUInt64).toInt64).toInt32).toInt8.toInt32)), (.int (Int32.ofNat (len + 7))), (.ref bb)])) _
    refine st96 _ ?_
    refine XS.iinc X96.here hx rfl (hb hby d14_34) rfl (l' := #[.val (.ref a1), .val (.long v), .second, .val (.int ((0 : Int32) + (-8 : Int32)))]) rfl ?_
    refine XS.goto X96.here hx rfl (pc0 := 37) (pc' := 9) rfl (hb hby d14_37) (by decide) (by decide) ?_
    exact kt)
  have hv98 : ((0 : Int32) + (-8 : Int32)) = (-8 : Int32) := by decide
  rw [hv98] at pre97
  obtain ⟨fs, hr, hrun, hended, hW, hsame⟩ := X96.leave (v := some (.ref a1)) (fun h => by rw [Bd.returns] at h; cases h)
  refine ⟨_, _, pre97 _ ?_, hrun, hended, _, _, rfl, ?_, ⟨_, rfl⟩, hW, hsame.mono (by decide) (by decide)⟩
  · show Steps p.tables e below (T96.setTop (mkF m 9 #[.val (.ref a1), .val (.long v), .second, .val (.int (-8 : Int32))] [])) _
    refine XS.iloadN X96.here hx rfl (hb hby d14_9) rfl ?_
    have hc10 : (-8 : Int32) < (0 : Int32) := by decide
    refine XS.ifYes X96.here hx rfl (pc0 := 10) (pc' := 40) rfl (hb hby d14_10) rfl ((if0 _ _).trans (tlt hc10).1) (by decide) (by decide) ?_
    refine XS.aloadN X96.here hx rfl (hb hby d14_40) rfl rfl ?_
    show Steps p.tables e below (T96.setTop (mkF m 41 #[.val (.ref a1), .val (.long v), .second, .val (.int (-8 : Int32))] [(.ref a1)])) _
    jvm_step X96.here [X96.here.top, hx, (hb hby d14_41), X96.method', Bd.returns, Value.isRef, FieldType.isReference]
    first | (intro acts; rw [hr _ acts rfl rfl rfl]) | rw [hr _ _ rfl rfl rfl]
    exact Steps.refl _
  · show Q14 Z a1 bb cap len f v h0 n0 _ T96.heap _
    rw [e96]
    exact ⟨rfl, N96, Kp96, E_96, FB_96, FL_96, B_96⟩
theorem pn_10 : plainName "com/example/haulway/haulway/io/RecordOutput" = true := by first | (simp [plainName, overriddenIn]; done) | decide +kernel
theorem ef_10 (m : MethodId) (x0 : Addr) (x1 : Int32) : entryFrame m #[(.ref x0), (.int x1)] 2 = mkF m 0 #[.val (.ref x0), .val (.int x1)] [] := by first | (simp [entryFrame, mkF, argsToLocals, Value.category]; done) | rfl
theorem d10_0 : decode prog_72_method_5_code 0 = .ok (.aload_n 0, 1) := by decide +kernel
theorem d10_1 : decode prog_72_method_5_code 1 = .ok (.iconst 1, 1) := by decide +kernel
theorem d10_2 : decode prog_72_method_5_code 2 = .ok (.invokevirtual 24, 3) := by decide +kernel
theorem d10_5 : decode prog_72_method_5_code 5 = .ok (.aload_n 0, 1) := by decide +kernel
theorem d10_6 : decode prog_72_method_5_code 6 = .ok (.getfield 7, 3) := by decide +kernel
theorem d10_9 : decode prog_72_method_5_code 9 = .ok (.aload_n 0, 1) := by decide +kernel
theorem d10_10 : decode prog_72_method_5_code 10 = .ok (.dup, 1) := by decide +kernel
theorem d10_11 : decode prog_72_method_5_code 11 = .ok (.getfield 30, 3) := by decide +kernel
theorem d10_14 : decode prog_72_method_5_code 14 = .ok (.dup_x1, 1) := by decide +kernel
theorem d10_15 : decode prog_72_method_5_code 15 = .ok (.iconst 1, 1) := by decide +kernel
theorem d10_16 : decode prog_72_method_5_code 16 = .ok (.iadd, 1) := by decide +kernel
theorem d10_17 : decode prog_72_method_5_code 17 = .ok (.putfield 30, 3) := by decide +kernel
theorem d10_20 : decode prog_72_method_5_code 20 = .ok (.iload_n 1, 1) := by decide +kernel
theorem d10_21 : decode prog_72_method_5_code 21 = .ok (.ifCond .eq 7, 3) := by decide +kernel
theorem d10_28 : decode prog_72_method_5_code 28 = .ok (.iconst 0, 1) := by decide +kernel
theorem d10_24 : decode prog_72_method_5_code 24 = .ok (.iconst 1, 1) := by decide +kernel
theorem d10_25 : decode prog_72_method_5_code 25 = .ok (.goto 4, 3) := by decide +kernel
theorem d10_29 : decode prog_72_method_5_code 29 = .ok (.i2b, 1) := by decide +kernel
theorem d10_30 : decode prog_72_method_5_code 30 = .ok (.bastore, 1) := by decide +kernel
theorem d10_31 : decode prog_72_method_5_code 31 = .ok (.aload_n 0, 1) := by decide +kernel
theorem d10_32 : decode prog_72_method_5_code 32 = .ok (.areturn, 1) := by decide +kernel
def Q10 (Z : State) (a1 bb : Addr) (cap len : Nat) (f : Nat → Int32) (v : Int32) (h0 : Heap) (n0 : Nat) (r : Option Value) (h : Heap) (L : List Loc) : Prop := r = some (.ref a1) ∧ Fr n0 L ∧ Keep h0 h [a1, bb] ∧ Exa Z h a1 "com/example/haulway/haulway/io/RecordOutput" ∧ Fld Z h a1 "com/example/haulway/haulway/io/RecordOutput" "bytes" "[B" (.ref bb) ∧ Fld Z h a1 "com/example/haulway/haulway/io/RecordOutput" "length" "I" (.int (Int32.ofNat (len + 1))) ∧ own_B Z h bb cap (upd f len (own_bit v))
set_option maxRecDepth 65536 in
set_option maxHeartbeats 40000000 in
theorem rm10 (l : Launch) (Z : State) (a0 : Array Value) (hw : ∀ d ∈ tables_1, d.before a0 Z = true) (ws : List Jvm.Cond) (a1 : Addr) (bb : Addr) (cap : Nat) (len : Nat) (f : Nat → Int32) (v : Int32) (h0 : Heap) (n0 : Nat) (Z0 : n0 ≤ h0.size) (E1 : Exa Z h0 a1 "com/example/haulway/haulway/io/RecordOutput") (F1 : Fld Z h0 a1 "com/example/haulway/haulway/io/RecordOutput" "bytes" "[B" (.ref bb)) (F2 : Fld Z h0 a1 "com/example/haulway/haulway/io/RecordOutput" "length" "I" (.int (Int32.ofNat len))) (B1 : own_B Z h0 bb cap f) (hcap : cap ≤ 128) (hl : len + 1 ≤ cap) (ne1 : a1 ≠ bb) (g1 : n0 ≤ a1) (g2 : n0 ≤ bb) :
    MetFree l (⟨"com/example/haulway/haulway/io/RecordOutput", "putBoolean", "(Z)Lcom/example/haulway/haulway/io/RecordOutput;"⟩ : MethodName) (head1 (Jvm.Cond.code (⟨"com/example/haulway/haulway/io/RecordOutput", "putBoolean", "(Z)Lcom/example/haulway/haulway/io/RecordOutput;"⟩ : MethodName) prog_72_method_5_code 2 (some (.object "com/example/haulway/haulway/io/RecordOutput")) :: ws) ({ frames := 1, cells := 0, slots := 0, locals := 13 } : Room)) (fun aa_ U => aa_ = #[(.ref a1), (.int v)] ∧ Z.Warmed39 U.vm ∧ U.heap = h0) (fun _ _ _ _ _ => True) (fun _ U o U' => ∃ v_ L_, o = .returned v_ ∧ Q10 Z a1 bb cap len f v h0 n0 v_ U'.heap L_ ∧ FrameEnd U o U' L_ ({ frames := 1, cells := 0, slots := 0, locals := 13 } : Room).cells ({ frames := 1, cells := 0, slots := 0, locals := 13 } : Room).slots) := by
  refine MetFree.of_bodySF (plainFor_of_name pn_10) hisR ?_
  intro p e s m args below meth c s₁ Bd hml0 hP hK
  obtain ⟨rfl, hZ, hh⟩ := hP
  have hx := Bd.exec
  have hby := Bd.bytes
  have hml : c.maxLocals = 2 := hml0
  have hown : s.vm.findClass "com/example/haulway/haulway/io/RecordOutput" = some m.cls := findClass_of_methodNamed Bd.named
  have hnm := (name_of_methodNamed Bd.named Bd.method).1
  have X0 : Stand p l e ({ frames := 1, cells := 0, slots := 0, locals := 13 } : Room) s m #[(.ref a1), (.int v)] below meth c s₁ [] 0 0 := Stand.of_body Bd
  have e0 : s₁.heap = h0 := by rw [← hh, Bd.state]; rfl
  have N0 := Fr.nil n0
  have pre0 : ∀ t, Steps p.tables e below (s₁.setTop (mkF m 0 #[.val (.ref a1), .val (.int v)] [])) t → Steps p.tables e below (s₁.setTop (entryFrame m #[(.ref a1), (.int v)] 2)) t := fun t k_ => castTop (ef_10 m a1 v) k_
  have ne2 : bb ≠ a1 := Ne.symm ne1
  have pre1 : ∀ t, Steps p.tables e below (s₁.setTop (mkF m 2 #[.val (.ref a1), .val (.int v)] [(.int (1 : Int32)), (.ref a1)])) t → Steps p.tables e below _ t := fun t kt => pre0 t (by
    show Steps p.tables e below (s₁.setTop (mkF m 0 #[.val (.ref a1), .val (.int v)] [])) _
    refine XS.aloadN X0.here hx rfl (hb hby d10_0) rfl rfl ?_
    refine XS.iconst X0.here hx rfl (hb hby d10_1) ?_
    exact kt)
  obtain ⟨cq2, q2, q2'⟩ := E1.cell
  obtain ⟨_, _, ⟨T2, L2, k2, n2⟩, -, X2, ⟨Lc2, hQ2, l2, y2, z2⟩, st2⟩ := X0.privateBack hx (y := (⟨"com/example/haulway/haulway/io/RecordOutput", "room", "(I)V"⟩ : MethodName)) hown (mvT hZ (hw _ (List.mem_of_getElem? (i := 43) rfl))) (mvT hZ (hw _ (List.mem_of_getElem? (i := 44) rfl))) (mvT hZ (own_sel (y := (⟨"com/example/haulway/haulway/io/RecordOutput", "room", "(I)V"⟩ : MethodName)) (by decide) (hw _ (List.mem_of_getElem? (i := 2) rfl)) (hw _ (List.mem_of_getElem? (i := 45) rfl)) (hw _ (List.mem_of_getElem? (i := 44) rfl)))) (Cond.privateMethod_at (mvP hZ (hw _ (List.mem_of_getElem? (i := 45) rfl)) (args := #[]))) (mvT hZ (hw _ (List.mem_of_getElem? (i := 46) rfl))) (by decide) (backOf (W := 0) (rm9 l Z a0 hw [] a1 bb cap len f 1 h0 n0 Z0 E1 F1 F2 B1 hcap (by omega)) hZ (hw _ (List.mem_of_getElem? (i := 46) rfl)) (hw _ (List.mem_of_getElem? (i := 3) rfl)) (by decide) (by decide)) (g := (mkF m 2 #[.val (.ref a1), .val (.int v)] [(.int (1 : Int32)), (.ref a1)])) rfl (by rw [hml]; rfl) (Steps.refl _) (a := a1) (by rw [e0]; exact q2) q2' (argsL := [(.int (1 : Int32))]) (rest := []) (lenOf pd_2 rfl) rfl (by show 2 * 0 + _ ≤ _; exact Nat.le_of_eq rfl) (hb hby d10_2) (fun _ _ => ⟨rfl, e0, (by decide : 0 + 0 ≤ _), (by decide : 0 + 0 ≤ _)⟩)
  dsimp only [Pt.U, Pt.locs, Pt.cells, Pt.slots] at X2 l2 y2 z2 st2 hQ2
  subst l2 y2 z2
  obtain ⟨rfl, N2q, e2⟩ := hQ2
  have N2 := Fr.app N0 N2q
  have pre3 : ∀ t, Steps p.tables e below (T2.setTop (mkF m 6 #[.val (.ref a1), .val (.int v)] [(.ref a1)])) t → Steps p.tables e below _ t := fun t kt => pre1 t (by
    show Steps p.tables e below (s₁.setTop (mkF m 2 #[.val (.ref a1), .val (.int v)] [(.int (1 : Int32)), (.ref a1)])) _
    refine st2.trans ?_
    refine XS.aloadN X2.here hx rfl (hb hby d10_5) rfl rfl ?_
    exact kt)
  obtain ⟨T4, X4, e4, st4⟩ := getF X2 hx hZ hown (host := "") (Or.inl (hw _ (List.mem_of_getElem? (i := 10) rfl))) Via.refl e2 F1 (g := (mkF m 6 #[.val (.ref a1), .val (.int v)] [(.ref a1)])) rfl rfl (hb hby d10_6)
  have pre5 : ∀ t, Steps p.tables e below (T4.setTop (mkF m 11 #[.val (.ref a1), .val (.int v)] [(.ref a1), (.ref a1), (.ref bb)])) t → Steps p.tables e below _ t := fun t kt => pre3 t (by
    show Steps p.tables e below (T2.setTop (mkF m 6 #[.val (.ref a1), .val (.int v)] [(.ref a1)])) _
    refine st4 _ ?_
    refine XS.aloadN X4.here hx rfl (hb hby d10_9) rfl rfl ?_
    refine XS.dup X4.here hx rfl (hb hby d10_10) rfl rfl ?_
    exact kt)
  obtain ⟨T6, X6, e6, st6⟩ := getF X4 hx hZ hown (host := "") (Or.inl (hw _ (List.mem_of_getElem? (i := 17) rfl))) Via.refl e4 F2 (g := (mkF m 11 #[.val (.ref a1), .val (.int v)] [(.ref a1), (.ref a1), (.ref bb)])) rfl rfl (hb hby d10_11)
  have pre7 : ∀ t, Steps p.tables e below (T6.setTop (mkF m 17 #[.val (.ref a1), .val (.int v)] [(.int ((Int32.ofNat len) + (1 : Int32))), (.ref a1), (.int (Int32.ofNat len)), (.ref bb)])) t → Steps p.tables e below _ t := fun t kt => pre5 t (by
    show Steps p.tables e below (T4.setTop (mkF m 11 #[.val (.ref a1), .val (.int v)] [(.ref a1), (.ref a1), (.ref bb)])) _
    refine st6 _ ?_
    refine XS.dupX1 X6.here hx rfl (hb hby d10_14) rfl rfl rfl ?_
    refine XS.iconst X6.here hx rfl (hb hby d10_15) ?_
    show Steps p.tables e below (T6.setTop (mkF m 16 #[.val (.ref a1), .val (.int v)] [(.int (1 : Int32)), (.int (Int32.ofNat len)), (.ref a1), (.int (Int32.ofNat len)), (.ref bb)])) _
    refine XS.iadd X6.here hx rfl (hb hby d10_16) rfl ?_
    exact kt)
  have hv8 : ((Int32.ofNat len) + (1 : Int32)) = (Int32.ofNat (len + 1)) := (inc_ofNat len).symm
  rw [hv8] at pre7
  obtain ⟨T9, h9, X9, e9, W9, st9⟩ := putF X6 hx hZ hown (host := "") (Or.inl (hw _ (List.mem_of_getElem? (i := 17) rfl))) Via.refl e6 F2 E1 (Or.inl (hw _ (List.mem_of_getElem? (i := 18) rfl))) (hw _ (List.mem_of_getElem? (i := 2) rfl)) (ty := .int) (by decide) rfl rfl (g := (mkF m 17 #[.val (.ref a1), .val (.int v)] [(.int (Int32.ofNat (len + 1))), (.ref a1), (.int (Int32.ofNat len)), (.ref bb)])) rfl rfl (hb hby d10_17)
  have Fw9 := F2.same W9
  have N9 := Fr.snoc X9 N2 g1
  have Zs9 : n0 ≤ h9.size := Nat.le_trans Z0 (Nat.le_of_eq W9.size.symm)
  have Kp9 : Keep h0 h9 [a1, bb] := (Keep.refl h0 [a1, bb]).wr W9 (Or.inl (List.mem_of_getElem? (i := 0) rfl))
  have E_9 := E1.wr W9
  have FB_9 := (F1.other W9 (Or.inr (slot_ne (Or.inl (hw _ (List.mem_of_getElem? (i := 11) rfl))) (Or.inl (hw _ (List.mem_of_getElem? (i := 18) rfl))) (by decide) (t := (.array .byte)) (t' := .int) (by decide) (by decide))))
  have B_9 := own_B_other B1 W9 ne2
  have pre10 : ∀ t, Steps p.tables e below (T9.setTop (mkF m 21 #[.val (.ref a1), .val (.int v)] [(.int v), (.int (Int32.ofNat len)), (.ref bb)])) t → Steps p.tables e below _ t := fun t kt => pre7 t (by
    show Steps p.tables e below (T6.setTop (mkF m 17 #[.val (.ref a1), .val (.int v)] [(.int (Int32.ofNat (len + 1))), (.ref a1), (.int (Int32.ofNat len)), (.ref bb)])) _
    refine st9 _ ?_
    refine XS.iloadN X9.here hx rfl (hb hby d10_20) rfl ?_
    exact kt)
  have pre11 : ∀ t, Steps p.tables e below (T9.setTop (mkF m 29 #[.val (.ref a1), .val (.int v)] [(.int (if v = (0 : Int32) then (0 : Int32) else (1 : Int32))), (.int (Int32.ofNat len)), (.ref bb)])) t → Steps p.tables e below (s₁.setTop (entryFrame m #[(.ref a1), (.int v)] 2)) t := fun t kt => by
    refine pre10 t ?_
    by_cases hd21 : v = (0 : Int32)
    · simp only [if_pos hd21] at kt
      show Steps p.tables e below (T9.setTop (mkF m 21 #[.val (.ref a1), .val (.int v)] [(.int v), (.int (Int32.ofNat len)), (.ref bb)])) _
      refine XS.ifYes X9.here hx rfl (pc0 := 21) (pc' := 28) rfl (hb hby d10_21) rfl ((if0 _ _).trans (teq hd21).1) (by decide) (by decide) ?_
      show Steps p.tables e below (T9.setTop (mkF m 28 #[.val (.ref a1), .val (.int v)] [(.int (Int32.ofNat len)), (.ref bb)])) _
      refine XS.iconst X9.here hx rfl (hb hby d10_28) ?_
      exact kt
    · simp only [if_neg hd21] at kt
      show Steps p.tables e below (T9.setTop (mkF m 21 #[.val (.ref a1), .val (.int v)] [(.int v), (.int (Int32.ofNat len)), (.ref bb)])) _
      refine XS.ifNo X9.here hx rfl (hb hby d10_21) rfl ((if0 _ _).trans (feq hd21).1) ?_
      show Steps p.tables e below (T9.setTop (mkF m 24 #[.val (.ref a1), .val (.int v)] [(.int (Int32.ofNat len)), (.ref bb)])) _
      refine XS.iconst X9.here hx rfl (hb hby d10_24) ?_
      show Steps p.tables e below (T9.setTop (mkF m 25 #[.val (.ref a1), .val (.int v)] [(.int (1 : Int32)), (.int (Int32.ofNat len)), (.ref bb)])) _
      refine XS.goto X9.here hx rfl (pc0 := 25) (pc' := 29) rfl (hb hby d10_25) (by decide) (by decide) ?_
      exact kt
  have pre13 : ∀ t, Steps p.tables e below (T9.setTop (mkF m 30 #[.val (.ref a1), .val (.int v)] [(.int ((if v = (0 : Int32) then (0 : Int32) else (1 : Int32)).toInt8.toInt32)), (.int (Int32.ofNat len)), (.ref bb)])) t → Steps p.tables e below _ t := fun t kt => pre11 t (by
    show Steps p.tables e below (T9.setTop (mkF m 29 #[.val (.ref a1), .val (.int v)] [(.int (if v = (0 : Int32) then (0 : Int32) else (1 : Int32))), (.int (Int32.ofNat len)), (.ref bb)])) _
    refine XS.i2b X9.here hx rfl (hb hby d10_29) rfl ?_
    exact kt)
  obtain ⟨cl_12, Ar_12, Sz_12, Hf_12, Gf_12, Xf_12⟩ := id B_9
  obtain ⟨T14, h14, X14, e14, W14, st14⟩ := stB X9 hx hZ e9 Ar_12 (j := (Int32.ofNat len)) (within (c := len) rfl (by omega) (by omega)) (g := (mkF m 30 #[.val (.ref a1), .val (.int v)] [(.int ((if v = (0 : Int32) then (0 : Int32) else (1 : Int32)).toInt8.toInt32)), (.int (Int32.ofNat len)), (.ref bb)])) rfl rfl (hb hby d10_30)
  have N14 := Fr.snoc X14 N9 g2
  have Zs14 : n0 ≤ h14.size := Nat.le_trans Zs9 (Nat.le_of_eq W14.size.symm)
  have Kp14 : Keep h0 h14 [a1, bb] := Kp9.wr W14 (Or.inl (List.mem_of_getElem? (i := 1) rfl))
  have V14 : Wr h9 h14 bb len (.int (own_bit v)) := by have z := W14; rw [clamp_of (c := len) rfl (by omega), own_byte2] at z; exact z
  have B_14 := own_B_set B_9 V14 (own_fits8 _)
  have E_14 := E_9.wr W14
  have FB_14 := FB_9.other W14 (Or.inl ne1)
  have FL_14 := Fw9.other W14 (Or.inl ne1)
  obtain ⟨fs, hr, hrun, hended, hW, hsame⟩ := X14.leave (v := some (.ref a1)) (fun h => by rw [Bd.returns] at h; cases h)
  refine ⟨_, _, pre13 _ ?_, hrun, hended, _, _, rfl, ?_, ⟨_, rfl⟩, hW, hsame.mono (by decide) (by decide)⟩
  · show Steps p.tables e below (T9.setTop (mkF m 30 #[.val (.ref a1), .val (.int v)] [(.int ((if v = (0 : Int32) then (0 : Int32) else (1 : Int32)).toInt8.toInt32)), (.int (Int32.ofNat len)), (.ref bb)])) _
    refine st14 _ ?_
    refine XS.aloadN X14.here hx rfl (hb hby d10_31) rfl rfl ?_
    show Steps p.tables e below (T14.setTop (mkF m 32 #[.val (.ref a1), .val (.int v)] [(.ref a1)])) _
    jvm_step X14.here [X14.here.top, hx, (hb hby d10_32), X14.method', Bd.returns, Value.isRef, FieldType.isReference]
    first | (intro acts; rw [hr _ acts rfl rfl rfl]) | rw [hr _ _ rfl rfl rfl]
    exact Steps.refl _
  · show Q10 Z a1 bb cap len f v h0 n0 _ T14.heap _
    rw [e14]
    exact ⟨rfl, N14, Kp14, E_14, FB_14, FL_14, B_14⟩
theorem pn_11 : plainName "com/example/haulway/haulway/io/RecordOutputToBytesPinLaw" = true := by first | (simp [plainName, overriddenIn]; done) | decide +kernel
theorem ef_11 (m : MethodId) (x0 : Addr) (x1 : Int32) (x2 : Int32) : entryFrame m #[(.ref x0), (.int x1), (.int x2)] 3 = mkF m 0 #[.val (.ref x0), .val (.int x1), .val (.int x2)] [] := by first | (simp [entryFrame, mkF, argsToLocals, Value.category]; done) | rfl
theorem d11_0 : decode method_3_code 0 = .ok (.aload_n 0, 1) := by decide +kernel
theorem d11_1 : decode method_3_code 1 = .ok (.iload_n 1, 1) := by decide +kernel
theorem d11_2 : decode method_3_code 2 = .ok (.iload_n 2, 1) := by decide +kernel
theorem d11_3 : decode method_3_code 3 = .ok (.bipush 24, 2) := by decide +kernel
theorem d11_5 : decode method_3_code 5 = .ok (.iushr, 1) := by decide +kernel
theorem d11_6 : decode method_3_code 6 = .ok (.i2b, 1) := by decide +kernel
theorem d11_7 : decode method_3_code 7 = .ok (.bastore, 1) := by decide +kernel
theorem d11_8 : decode method_3_code 8 = .ok (.aload_n 0, 1) := by decide +kernel
theorem d11_9 : decode method_3_code 9 = .ok (.iload_n 1, 1) := by decide +kernel
theorem d11_10 : decode method_3_code 10 = .ok (.iconst 1, 1) := by decide +kernel
theorem d11_11 : decode method_3_code 11 = .ok (.iadd, 1) := by decide +kernel
theorem d11_12 : decode method_3_code 12 = .ok (.iload_n 2, 1) := by decide +kernel
theorem d11_13 : decode method_3_code 13 = .ok (.bipush 16, 2) := by decide +kernel
theorem d11_15 : decode method_3_code 15 = .ok (.iushr, 1) := by decide +kernel
theorem d11_16 : decode method_3_code 16 = .ok (.i2b, 1) := by decide +kernel
theorem d11_17 : decode method_3_code 17 = .ok (.bastore, 1) := by decide +kernel
theorem d11_18 : decode method_3_code 18 = .ok (.aload_n 0, 1) := by decide +kernel
theorem d11_19 : decode method_3_code 19 = .ok (.iload_n 1, 1) := by decide +kernel
theorem d11_20 : decode method_3_code 20 = .ok (.iconst 2, 1) := by decide +kernel
theorem d11_21 : decode method_3_code 21 = .ok (.iadd, 1) := by decide +kernel
theorem d11_22 : decode method_3_code 22 = .ok (.iload_n 2, 1) := by decide +kernel
theorem d11_23 : decode method_3_code 23 = .ok (.bipush 8, 2) := by decide +kernel
theorem d11_25 : decode method_3_code 25 = .ok (.iushr, 1) := by decide +kernel
theorem d11_26 : decode method_3_code 26 = .ok (.i2b, 1) := by decide +kernel
theorem d11_27 : decode method_3_code 27 = .ok (.bastore, 1) := by decide +kernel
theorem d11_28 : decode method_3_code 28 = .ok (.aload_n 0, 1) := by decide +kernel
theorem d11_29 : decode method_3_code 29 = .ok (.iload_n 1, 1) := by decide +kernel
theorem d11_30 : decode method_3_code 30 = .ok (.iconst 3, 1) := by decide +kernel
theorem d11_31 : decode method_3_code 31 = .ok (.iadd, 1) := by decide +kernel
theorem d11_32 : decode method_3_code 32 = .ok (.iload_n 2, 1) := by decide +kernel
theorem d11_33 : decode method_3_code 33 = .ok (.i2b, 1) := by decide +kernel
theorem d11_34 : decode method_3_code 34 = .ok (.bastore, 1) := by decide +kernel
theorem d11_35 : decode method_3_code 35 = .ok (.return_, 1) := by decide +kernel
def Q11 (Z : State) (a1 : Addr) (n q : Nat) (f : Nat → Int32) (v : Int32) (h0 : Heap) (n0 : Nat) (r : Option Value) (h : Heap) (L : List Loc) : Prop := r = none ∧ Fr n0 L ∧ Keep h0 h [a1] ∧ own_B Z h a1 n (own_p4 f q v)
set_option maxRecDepth 65536 in
set_option maxHeartbeats 40000000 in
theorem rm11 (l : Launch) (Z : State) (a0 : Array Value) (hw : ∀ d ∈ tables_1, d.before a0 Z = true) (ws : List Jvm.Cond) (a1 : Addr) (n : Nat) (q : Nat) (f : Nat → Int32) (v : Int32) (h0 : Heap) (n0 : Nat) (Z0 : n0 ≤ h0.size) (B1 : own_B Z h0 a1 n f) (hn : n ≤ 128) (hq : q + 4 ≤ n) (g1 : n0 ≤ a1) :
    MetFree l (⟨"com/example/haulway/haulway/io/RecordOutputToBytesPinLaw", "put4", "([BII)V"⟩ : MethodName) (head1 (Jvm.Cond.code (⟨"com/example/haulway/haulway/io/RecordOutputToBytesPinLaw", "put4", "([BII)V"⟩ : MethodName) method_3_code 3 none :: ws) ({ frames := 0, cells := 0, slots := 0, locals := 0 } : Room)) (fun aa_ U => aa_ = #[(.ref a1), (.int (Int32.ofNat q)), (.int v)] ∧ Z.Warmed39 U.vm ∧ U.heap = h0) (fun _ _ _ _ _ => True) (fun _ U o U' => ∃ v_ L_, o = .returned v_ ∧ Q11 Z a1 n q f v h0 n0 v_ U'.heap L_ ∧ FrameEnd U o U' L_ ({ frames := 0, cells := 0, slots := 0, locals := 0 } : Room).cells ({ frames := 0, cells := 0, slots := 0, locals := 0 } : Room).slots) := by
  refine MetFree.of_bodySF (plainFor_of_name pn_11) hisR ?_
  intro p e s m args below meth c s₁ Bd hml0 hP hK
  obtain ⟨rfl, hZ, hh⟩ := hP
  have hx := Bd.exec
  have hby := Bd.bytes
  have hml : c.maxLocals = 3 := hml0
  have hown : s.vm.findClass "com/example/haulway/haulway/io/RecordOutputToBytesPinLaw" = some m.cls := findClass_of_methodNamed Bd.named
  have hnm := (name_of_methodNamed Bd.named Bd.method).1
  have X0 : Stand p l e ({ frames := 0, cells := 0, slots := 0, locals := 0 } : Room) s m #[(.ref a1), (.int (Int32.ofNat q)), (.int v)] below meth c s₁ [] 0 0 := Stand.of_body Bd
  have e0 : s₁.heap = h0 := by rw [← hh, Bd.state]; rfl
  have N0 := Fr.nil n0
  have pre0 : ∀ t, Steps p.tables e below (s₁.setTop (mkF m 0 #[.val (.ref a1), .val (.int (Int32.ofNat q)), .val (.int v)] [])) t → Steps p.tables e below (s₁.setTop (entryFrame m #[(.ref a1), (.int (Int32.ofNat q)), (.int v)] 3)) t := fun t k_ => castTop (ef_11 m a1 (Int32.ofNat q) v) k_
  have pre1 : ∀ t, Steps p.tables e below (s₁.setTop (mkF m 7 #[.val (.ref a1), .val (.int (Int32.ofNat q)), .val (.int v)] [(.int (((v.toUInt32 >>> ((24 : Int32) &&& 31).toUInt32).toInt32).toInt8.toInt32)), (.int (Int32.ofNat q)), (.ref a1)])) t → Steps p.tables e below _ t := fun t kt => pre0 t (by
    show Steps p.tables e below (s₁.setTop (mkF m 0 #[.val (.ref a1), .val (.int (Int32.ofNat q)), .val (.int v)] [])) _
    refine XS.aloadN X0.here hx rfl (hb hby d11_0) rfl rfl ?_
    refine XS.iloadN X0.here hx rfl (hb hby d11_1) rfl ?_
    refine XS.iloadN X0.here hx rfl (hb hby d11_2) rfl ?_
    show Steps p.tables e below (s₁.setTop (mkF m 3 #[.val (.ref a1), .val (.int (Int32.ofNat q)), .val (.int v)] [(.int v), (.int (Int32.ofNat q)), (.ref a1)])) _
    refine XS.bipush X0.here hx rfl (hb hby d11_3) ?_
    refine XS.iushr X0.here hx rfl (hb hby d11_5) rfl ?_
    refine XS.i2b X0.here hx rfl (hb hby d11_6) rfl ?_
    exact kt)
  obtain ⟨cl_0, Ar_0, Sz_0, Hf_0, Gf_0, Xf_0⟩ := id B1
  obtain ⟨T2, h2, X2, e2, W2, st2⟩ := stB X0 hx hZ e0 Ar_0 (j := (Int32.ofNat q)) (within (c := q) rfl (by omega) (by omega)) (g := (mkF m 7 #[.val (.ref a1), .val (.int (Int32.ofNat q)), .val (.int v)] [(.int (((v.toUInt32 >>> ((24 : Int32) &&& 31).toUInt32).toInt32).toInt8.toInt32)), (.int (Int32.ofNat q)), (.ref a1)])) rfl rfl (hb hby d11_7)
  have N2 := Fr.snoc X2 N0 g1
  have Zs2 : n0 ≤ h2.size := Nat.le_trans Z0 (Nat.le_of_eq W2.size.symm)
  have Kp2 : Keep h0 h2 [a1] := (Keep.refl h0 [a1]).wr W2 (Or.inl (List.mem_of_getElem? (i := 0) rfl))
  have V2 : Wr h0 h2 a1 q (.int (own_by v 24)) := by have z := W2; rw [clamp_of (c := q) rfl (by omega), own_byte2] at z; exact z
  have B_2 := own_B_set B1 V2 (own_fits8 _)
  have pre3 : ∀ t, Steps p.tables e below (T2.setTop (mkF m 17 #[.val (.ref a1), .val (.int (Int32.ofNat q)), .val (.int v)] [(.int (((v.toUInt32 >>> ((16 : Int32) &&& 31).toUInt32).toInt32).toInt8.toInt32)), (.int ((Int32.ofNat q) + (1 : Int32))), (.ref a1)])) t → Steps p.tables e below _ t := fun t kt => pre1 t (by
    show Steps p.tables e below (s₁.setTop (mkF m 7 #[.val (.ref a1), .val (.int (Int32.ofNat q)), .val (.int v)] [(.int (((v.toUInt32 >>> ((24 : Int32) &&& 31).toUInt32).toInt32).toInt8.toInt32)), (.int (Int32.ofNat q)), (.ref a1)])) _
    refine st2 _ ?_
    refine XS.aloadN X2.here hx rfl (hb hby d11_8) rfl rfl ?_
    refine XS.iloadN X2.here hx rfl (hb hby d11_9) rfl ?_
    show Steps p.tables e below (T2.setTop (mkF m 10 #[.val (.ref a1), .val (.int (Int32.ofNat q)), .val (.int v)] [(.int (Int32.ofNat q)), (.ref a1)])) _
    refine XS.iconst X2.here hx rfl (hb hby d11_10) ?_
    refine XS.iadd X2.here hx rfl (hb hby d11_11) rfl ?_
    refine XS.iloadN X2.here hx rfl (hb hby d11_12) rfl ?_
    show Steps p.tables e below (T2.setTop (mkF m 13 #[.val (.ref a1), .val (.int (Int32.ofNat q)), .val (.int v)] [(.int v), (.int ((Int32.ofNat q) + (1 : Int32))), (.ref a1)])) _
    refine XS.bipush X2.here hx rfl (hb hby d11_13) ?_
    refine XS.iushr X2.here hx rfl (hb hby d11_15) rfl ?_
    refine XS.i2b X2.here hx rfl (hb hby d11_16) rfl ?_
    exact kt)
  have hv4 : ((Int32.ofNat q) + (1 : Int32)) = (Int32.ofNat (q + 1)) := own_add q 1
  rw [hv4] at pre3
  obtain ⟨cl_1, Ar_1, Sz_1, Hf_1, Gf_1, Xf_1⟩ := id B_2
  obtain ⟨T5, h5, X5, e5, W5, st5⟩ := stB X2 hx hZ e2 Ar_1 (j := (Int32.ofNat (q + 1))) (within (c := (q + 1)) rfl (by omega) (by omega)) (g := (mkF m 17 #[.val (.ref a1), .val (.int (Int32.ofNat q)), .val (.int v)] [(.int (((v.toUInt32 >>> ((16 : Int32) &&& 31).toUInt32).toInt32).toInt8.toInt32)), (.int (Int32.ofNat (q + 1))), (.ref a1)])) rfl rfl (hb hby d11_17)
  have N5 := Fr.snoc X5 N2 g1
  have Zs5 : n0 ≤ h5.size := Nat.le_trans Zs2 (Nat.le_of_eq W5.size.symm)
  have Kp5 : Keep h0 h5 [a1] := Kp2.wr W5 (Or.inl (List.mem_of_getElem? (i := 0) rfl))
  have V5 : Wr h2 h5 a1 (q + 1) (.int (own_by v 16)) := by have z := W5; rw [clamp_of (c := (q + 1)) rfl (by omega), own_byte2] at z; exact z
  have B_5 := own_B_set B_2 V5 (own_fits8 _)
  have pre6 : ∀ t, Steps p.tables e below (T5.setTop (mkF m 27 #[.val (.ref a1), .val (.int (Int32.ofNat q)), .val (.int v)] [(.int (((v.toUInt32 >>> ((8 : Int32) &&& 31).toUInt32).toInt32).toInt8.toInt32)), (.int ((Int32.ofNat q) + (2 : Int32))), (.ref a1)])) t → Steps p.tables e below _ t := fun t kt => pre3 t (by
    show Steps p.tables e below (T2.setTop (mkF m 17 #[.val (.ref a1), .val (.int (Int32.ofNat q)), .val (.int v)] [(.int (((v.toUInt32 >>> ((16 : Int32) &&& 31).toUInt32).toInt32).toInt8.toInt32)), (.int (Int32.ofNat (q + 1))), (.ref a1)])) _
    refine st5 _ ?_
    refine XS.aloadN X5.here hx rfl (hb hby d11_18) rfl rfl ?_
    refine XS.iloadN X5.here hx rfl (hb hby d11_19) rfl ?_
    show Steps p.tables e below (T5.setTop (mkF m 20 #[.val (.ref a1), .val (.int (Int32.ofNat q)), .val (.int v)] [(.int (Int32.ofNat q)), (.ref a1)])) _
    refine XS.iconst X5.here hx rfl (hb hby d11_20) ?_
    refine XS.iadd X5.here hx rfl (hb hby d11_21) rfl ?_
    refine XS.iloadN X5.here hx rfl (hb hby d11_22) rfl ?_
    show Steps p.tables e below (T5.setTop (mkF m 23 #[.val (.ref a1), .val (.int (Int32.ofNat q)), .val (.int v)] [(.int v), (.int ((Int32.ofNat q) + (2 : Int32))), (.ref a1)])) _
    refine XS.bipush X5.here hx rfl (hb hby d11_23) ?_
    refine XS.iushr X5.here hx rfl (hb hby d11_25) rfl ?_
    refine XS.i2b X5.here hx rfl (hb hby d11_26) rfl ?_
    exact kt)
  have hv7 : ((Int32.ofNat q) + (2 : Int32)) = (Int32.ofNat (q + 2)) := own_add q 2
  rw [hv7] at pre6
  obtain ⟨cl_2, Ar_2, Sz_2, Hf_2, Gf_2, Xf_2⟩ := id B_5
  obtain ⟨T8, h8, X8, e8, W8, st8⟩ := stB X5 hx hZ e5 Ar_2 (j := (Int32.ofNat (q + 2))) (within (c := (q + 2)) rfl (by omega) (by omega)) (g := (mkF m 27 #[.val (.ref a1), .val (.int (Int32.ofNat q)), .val (.int v)] [(.int (((v.toUInt32 >>> ((8 : Int32) &&& 31).toUInt32).toInt32).toInt8.toInt32)), (.int (Int32.ofNat (q + 2))), (.ref a1)])) rfl rfl (hb hby d11_27)
  have N8 := Fr.snoc X8 N5 g1
  have Zs8 : n0 ≤ h8.size := Nat.le_trans Zs5 (Nat.le_of_eq W8.size.symm)
  have Kp8 : Keep h0 h8 [a1] := Kp5.wr W8 (Or.inl (List.mem_of_getElem? (i := 0) rfl))
  have V8 : Wr h5 h8 a1 (q + 2) (.int (own_by v 8)) := by have z := W8; rw [clamp_of (c := (q + 2)) rfl (by omega), own_byte2] at z; exact z
  have B_8 := own_B_set B_5 V8 (own_fits8 _)
  have pre9 : ∀ t, Steps p.tables e below (T8.setTop (mkF m 34 #[.val (.ref a1), .val (.int (Int32.ofNat q)), .val (.int v)] [(.int (v.toInt8.toInt32)), (.int ((Int32.ofNat q) + (3 : Int32))), (.ref a1)])) t → Steps p.tables e below _ t := fun t kt => pre6 t (by
    show Steps p.tables e below (T5.setTop (mkF m 27 #[.val (.ref a1), .val (.int (Int32.ofNat q)), .val (.int v)] [(.int (((v.toUInt32 >>> ((8 : Int32) &&& 31).toUInt32).toInt32).toInt8.toInt32)), (.int (Int32.ofNat (q + 2))), (.ref a1)])) _
    refine st8 _ ?_
    refine XS.aloadN X8.here hx rfl (hb hby d11_28) rfl rfl ?_
    refine XS.iloadN X8.here hx rfl (hb hby d11_29) rfl ?_
    show Steps p.tables e below (T8.setTop (mkF m 30 #[.val (.ref a1), .val (.int (Int32.ofNat q)), .val (.int v)] [(.int (Int32.ofNat q)), (.ref a1)])) _
    refine XS.iconst X8.here hx rfl (hb hby d11_30) ?_
    refine XS.iadd X8.here hx rfl (hb hby d11_31) rfl ?_
    refine XS.iloadN X8.here hx rfl (hb hby d11_32) rfl ?_
    show Steps p.tables e below (T8.setTop (mkF m 33 #[.val (.ref a1), .val (.int (Int32.ofNat q)), .val (.int v)] [(.int v), (.int ((Int32.ofNat q) + (3 : Int32))), (.ref a1)])) _
    refine XS.i2b X8.here hx rfl (hb hby d11_33) rfl ?_
    exact kt)
  have hv10 : ((Int32.ofNat q) + (3 : Int32)) = (Int32.ofNat (q + 3)) := own_add q 3
  rw [hv10] at pre9
  obtain ⟨cl_3, Ar_3, Sz_3, Hf_3, Gf_3, Xf_3⟩ := id B_8
  obtain ⟨T11, h11, X11, e11, W11, st11⟩ := stB X8 hx hZ e8 Ar_3 (j := (Int32.ofNat (q + 3))) (within (c := (q + 3)) rfl (by omega) (by omega)) (g := (mkF m 34 #[.val (.ref a1), .val (.int (Int32.ofNat q)), .val (.int v)] [(.int (v.toInt8.toInt32)), (.int (Int32.ofNat (q + 3))), (.ref a1)])) rfl rfl (hb hby d11_34)
  have N11 := Fr.snoc X11 N8 g1
  have Zs11 : n0 ≤ h11.size := Nat.le_trans Zs8 (Nat.le_of_eq W11.size.symm)
  have Kp11 : Keep h0 h11 [a1] := Kp8.wr W11 (Or.inl (List.mem_of_getElem? (i := 0) rfl))
  have V11 : Wr h8 h11 a1 (q + 3) (.int (own_by v 0)) := by have z := W11; rw [clamp_of (c := (q + 3)) rfl (by omega), own_byte2] at z; rw [own_by0]; exact z
  have B_11 := own_B_set B_8 V11 (own_fits8 _)
  obtain ⟨fs, hr, hrun, hended, hW, hsame⟩ := X11.leave (v := none) (fun _ => rfl)
  refine ⟨_, _, pre9 _ ?_, hrun, hended, _, _, rfl, ?_, ⟨_, rfl⟩, hW, hsame.mono (by decide) (by decide)⟩
  · show Steps p.tables e below (T8.setTop (mkF m 34 #[.val (.ref a1), .val (.int (Int32.ofNat q)), .val (.int v)] [(.int (v.toInt8.toInt32)), (.int (Int32.ofNat (q + 3))), (.ref a1)])) _
    refine st11 _ ?_
    show Steps p.tables e below (T11.setTop (mkF m 35 #[.val (.ref a1), .val (.int (Int32.ofNat q)), .val (.int v)] [])) _
    exact X11.returnOut hx Bd.returns (hb hby d11_35) hr
  · show Q11 Z a1 n q f v h0 n0 _ T11.heap _
    rw [e11]
    exact ⟨rfl, N11, Kp11, B_11⟩
theorem pn_7 : plainName "com/example/haulway/haulway/io/RecordOutputToBytesPinLaw" = true := by first | (simp [plainName, overriddenIn]; done) | decide +kernel
theorem ef_7 (m : MethodId) (x0 : Addr) (x1 : Addr) (x2 : Int32) (x3 : Int32) : entryFrame m #[(.ref x0), (.ref x1), (.int x2), (.int x3)] 4 = mkF m 0 #[.val (.ref x0), .val (.ref x1), .val (.int x2), .val (.int x3)] [] := by first | (simp [entryFrame, mkF, argsToLocals, Value.category]; done) | rfl
theorem d7_0 : decode method_4_code 0 = .ok (.iload_n 2, 1) := by decide +kernel
theorem d7_1 : decode method_4_code 1 = .ok (.iload_n 3, 1) := by decide +kernel
theorem d7_2 : decode method_4_code 2 = .ok (.if_icmp .ge 12, 3) := by decide +kernel
theorem d7_5 : decode method_4_code 5 = .ok (.aload_n 0, 1) := by decide +kernel
theorem d7_6 : decode method_4_code 6 = .ok (.iload_n 2, 1) := by decide +kernel
theorem d7_7 : decode method_4_code 7 = .ok (.baload, 1) := by decide +kernel
theorem d7_8 : decode method_4_code 8 = .ok (.aload_n 1, 1) := by decide +kernel
theorem d7_9 : decode method_4_code 9 = .ok (.iload_n 2, 1) := by decide +kernel
theorem d7_10 : decode method_4_code 10 = .ok (.baload, 1) := by decide +kernel
theorem d7_11 : decode method_4_code 11 = .ok (.if_icmp .ne 7, 3) := by decide +kernel
theorem d7_14 : decode method_4_code 14 = .ok (.iconst 1, 1) := by decide +kernel
theorem d7_15 : decode method_4_code 15 = .ok (.goto 4, 3) := by decide +kernel
theorem d7_19 : decode method_4_code 19 = .ok (.ireturn, 1) := by decide +kernel
def Q7 (Z : State) (h0 : Heap) (n0 : Nat) (v : Option Value) (h : Heap) (L : List Loc) : Prop := v = some (.int (1 : Int32)) ∧ Fr n0 L ∧ h = h0
set_option maxRecDepth 65536 in
set_option maxHeartbeats 40000000 in
theorem rm7 (l : Launch) (Z : State) (a0 : Array Value) (hw : ∀ d ∈ tables_1, d.before a0 Z = true) (ws : List Jvm.Cond) (a1 : Addr) (a2 : Addr) (n : Nat) (m_ : Nat) (i : Nat) (sm : Nat) (f : Nat → Int32) (e_ : Nat → Int32) (h0 : Heap) (n0 : Nat) (Z0 : n0 ≤ h0.size) (B1 : own_B Z h0 a1 n f) (B2 : own_B Z h0 a2 m_ e_) (hn : n ≤ 128) (hm : m_ ≤ 128) (hi : i < 2 ^ 31) (hs : sm < 2 ^ 31) (hok : i < sm → i < n ∧ i < m_ ∧ f i = e_ i) :
    MetFree l (⟨"com/example/haulway/haulway/io/RecordOutputToBytesPinLaw", "at", "([B[BII)Z"⟩ : MethodName) (head1 (Jvm.Cond.code (⟨"com/example/haulway/haulway/io/RecordOutputToBytesPinLaw", "at", "([B[BII)Z"⟩ : MethodName) method_4_code 4 (some .boolean) :: ws) ({ frames := 0, cells := 0, slots := 0, locals := 0 } : Room)) (fun aa_ U => aa_ = #[(.ref a1), (.ref a2), (.int (Int32.ofNat i)), (.int (Int32.ofNat sm))] ∧ Z.Warmed39 U.vm ∧ U.heap = h0) (fun _ _ _ _ _ => True) (fun _ U o U' => ∃ v_ L_, o = .returned v_ ∧ Q7 Z  h0 n0 v_ U'.heap L_ ∧ FrameEnd U o U' L_ ({ frames := 0, cells := 0, slots := 0, locals := 0 } : Room).cells ({ frames := 0, cells := 0, slots := 0, locals := 0 } : Room).slots) := by
  refine MetFree.of_bodySF (plainFor_of_name pn_7) hisR ?_
  intro p e s m args below meth c s₁ Bd hml0 hP hK
  obtain ⟨rfl, hZ, hh⟩ := hP
  have hx := Bd.exec
  have hby := Bd.bytes
  have hml : c.maxLocals = 4 := hml0
  have hown : s.vm.findClass "com/example/haulway/haulway/io/RecordOutputToBytesPinLaw" = some m.cls := findClass_of_methodNamed Bd.named
  have hnm := (name_of_methodNamed Bd.named Bd.method).1
  have X0 : Stand p l e ({ frames := 0, cells := 0, slots := 0, locals := 0 } : Room) s m #[(.ref a1), (.ref a2), (.int (Int32.ofNat i)), (.int (Int32.ofNat sm))] below meth c s₁ [] 0 0 := Stand.of_body Bd
  have e0 : s₁.heap = h0 := by rw [← hh, Bd.state]; rfl
  have N0 := Fr.nil n0
  have pre0 : ∀ t, Steps p.tables e below (s₁.setTop (mkF m 0 #[.val (.ref a1), .val (.ref a2), .val (.int (Int32.ofNat i)), .val (.int (Int32.ofNat sm))] [])) t → Steps p.tables e below (s₁.setTop (entryFrame m #[(.ref a1), (.ref a2), (.int (Int32.ofNat i)), (.int (Int32.ofNat sm))] 4)) t := fun t k_ => castTop (ef_7 m a1 a2 (Int32.ofNat i) (Int32.ofNat sm)) k_
  obtain ⟨cl, Ar, Sz, Hf, Gf, Xf⟩ := id B1
  obtain ⟨cm, Am, Sm, Hm, Gm, Xm⟩ := B2
  have pre1 : ∀ t, Steps p.tables e below (s₁.setTop (mkF m 2 #[.val (.ref a1), .val (.ref a2), .val (.int (Int32.ofNat i)), .val (.int (Int32.ofNat sm))] [(.int (Int32.ofNat sm)), (.int (Int32.ofNat i))])) t → Steps p.tables e below _ t := fun t kt => pre0 t (by
    show Steps p.tables e below (s₁.setTop (mkF m 0 #[.val (.ref a1), .val (.ref a2), .val (.int (Int32.ofNat i)), .val (.int (Int32.ofNat sm))] [])) _
    refine XS.iloadN X0.here hx rfl (hb hby d7_0) rfl ?_
    refine XS.iloadN X0.here hx rfl (hb hby d7_1) rfl ?_
    exact kt)
  by_cases hc2 : (Int32.ofNat i) < (Int32.ofNat sm)
  · have pre2 : ∀ t, Steps p.tables e below (s₁.setTop (mkF m 5 #[.val (.ref a1), .val (.ref a2), .val (.int (Int32.ofNat i)), .val (.int (Int32.ofNat sm))] [])) t → Steps p.tables e below _ t := fun t kt => pre1 t (by
      show Steps p.tables e below (s₁.setTop (mkF m 2 #[.val (.ref a1), .val (.ref a2), .val (.int (Int32.ofNat i)), .val (.int (Int32.ofNat sm))] [(.int (Int32.ofNat sm)), (.int (Int32.ofNat i))])) _
      refine XS.icmpNo X0.here hx rfl (hb hby d7_2) rfl (tlt hc2).2.1 ?_
      exact kt)
    have his : i < sm := Decidable.byContradiction fun q => own_nlt (Nat.le_of_not_lt q) (by omega) hc2
    have own_incl : i < n := (hok his).1
    have own_incm : i < m_ := (hok his).2.1
    obtain ⟨fs, hr, hrun, hended, hW, hsame⟩ := X0.leave (v := some (.int (1 : Int32))) (fun h => by rw [Bd.returns] at h; cases h)
    refine ⟨_, _, pre2 _ ?_, hrun, hended, _, _, rfl, ?_, ⟨_, rfl⟩, hW, hsame.mono (by decide) (by decide)⟩
    · show Steps p.tables e below (s₁.setTop (mkF m 5 #[.val (.ref a1), .val (.ref a2), .val (.int (Int32.ofNat i)), .val (.int (Int32.ofNat sm))] [])) _
      refine XS.aloadN X0.here hx rfl (hb hby d7_5) rfl rfl ?_
      refine XS.iloadN X0.here hx rfl (hb hby d7_6) rfl ?_
      refine X0.baloadBytes hx (j := (Int32.ofNat i)) (v := (.int (f i))) (by rw [e0]; exact Ar.1) (State.isArrayOf_alike hZ.alike Ar.2.1) Ar.2.2 (within (c := i) rfl (by rw [Sz]; exact own_incl) (by omega)) (by rw [clamp_of (c := i) rfl (by omega)]; exact Hf _ own_incl) (g := (mkF m 7 #[.val (.ref a1), .val (.ref a2), .val (.int (Int32.ofNat i)), .val (.int (Int32.ofNat sm))] [(.int (Int32.ofNat i)), (.ref a1)])) rfl rfl (hb hby d7_7) _ ?_
      show Steps p.tables e below (s₁.setTop (mkF m 8 #[.val (.ref a1), .val (.ref a2), .val (.int (Int32.ofNat i)), .val (.int (Int32.ofNat sm))] [(.int (f i))])) _
      refine XS.aloadN X0.here hx rfl (hb hby d7_8) rfl rfl ?_
      refine XS.iloadN X0.here hx rfl (hb hby d7_9) rfl ?_
      refine X0.baloadBytes hx (j := (Int32.ofNat i)) (v := (.int (e_ i))) (by rw [e0]; exact Am.1) (State.isArrayOf_alike hZ.alike Am.2.1) Am.2.2 (within (c := i) rfl (by rw [Sm]; exact own_incm) (by omega)) (by rw [clamp_of (c := i) rfl (by omega)]; exact Hm _ own_incm) (g := (mkF m 10 #[.val (.ref a1), .val (.ref a2), .val (.int (Int32.ofNat i)), .val (.int (Int32.ofNat sm))] [(.int (Int32.ofNat i)), (.ref a2), (.int (f i))])) rfl rfl (hb hby d7_10) _ ?_
      have hc11 : (f i) = (e_ i) := (hok his).2.2
      show Steps p.tables e below (s₁.setTop (mkF m 11 #[.val (.ref a1), .val (.ref a2), .val (.int (Int32.ofNat i)), .val (.int (Int32.ofNat sm))] [(.int (e_ i)), (.int (f i))])) _
      refine XS.icmpNo X0.here hx rfl (hb hby d7_11) rfl (teq hc11).2 ?_
      refine XS.iconst X0.here hx rfl (hb hby d7_14) ?_
      refine XS.goto X0.here hx rfl (pc0 := 15) (pc' := 19) rfl (hb hby d7_15) (by decide) (by decide) ?_
      show Steps p.tables e below (s₁.setTop (mkF m 19 #[.val (.ref a1), .val (.ref a2), .val (.int (Int32.ofNat i)), .val (.int (Int32.ofNat sm))] [(.int (1 : Int32))])) _
      exact retN X0 hx (t := .boolean) Bd.returns (by simp) (hb hby d7_19) hr
    · show Q7 Z  h0 n0 _ s₁.heap _
      rw [e0]
      exact ⟨rfl, N0, rfl⟩
  · obtain ⟨fs, hr, hrun, hended, hW, hsame⟩ := X0.leave (v := some (.int (1 : Int32))) (fun h => by rw [Bd.returns] at h; cases h)
    refine ⟨_, _, pre1 _ ?_, hrun, hended, _, _, rfl, ?_, ⟨_, rfl⟩, hW, hsame.mono (by decide) (by decide)⟩
    · show Steps p.tables e below (s₁.setTop (mkF m 2 #[.val (.ref a1), .val (.ref a2), .val (.int (Int32.ofNat i)), .val (.int (Int32.ofNat sm))] [(.int (Int32.ofNat sm)), (.int (Int32.ofNat i))])) _
      refine XS.icmpYes X0.here hx rfl (pc0 := 2) (pc' := 14) rfl (hb hby d7_2) rfl (flt hc2).2.1 (by decide) (by decide) ?_
      refine XS.iconst X0.here hx rfl (hb hby d7_14) ?_
      refine XS.goto X0.here hx rfl (pc0 := 15) (pc' := 19) rfl (hb hby d7_15) (by decide) (by decide) ?_
      show Steps p.tables e below (s₁.setTop (mkF m 19 #[.val (.ref a1), .val (.ref a2), .val (.int (Int32.ofNat i)), .val (.int (Int32.ofNat sm))] [(.int (1 : Int32))])) _
      exact retN X0 hx (t := .boolean) Bd.returns (by simp) (hb hby d7_19) hr
    · show Q7 Z  h0 n0 _ s₁.heap _
      rw [e0]
      exact ⟨rfl, N0, rfl⟩
theorem pn_6 : plainName "com/example/haulway/haulway/io/RecordOutputToBytesPinLaw" = true := by first | (simp [plainName, overriddenIn]; done) | decide +kernel
theorem ef_6 (m : MethodId) (x0 : Addr) (x1 : Addr) (x2 : Int32) (x3 : Int32) (x4 : Int32) : entryFrame m #[(.ref x0), (.ref x1), (.int x2), (.int x3), (.int x4)] 5 = mkF m 0 #[.val (.ref x0), .val (.ref x1), .val (.int x2), .val (.int x3), .val (.int x4)] [] := by first | (simp [entryFrame, mkF, argsToLocals, Value.category]; done) | rfl
theorem d6_0 : decode method_5_code 0 = .ok (.aload_n 0, 1) := by decide +kernel
theorem d6_1 : decode method_5_code 1 = .ok (.aload_n 1, 1) := by decide +kernel
theorem d6_2 : decode method_5_code 2 = .ok (.iconst 0, 1) := by decide +kernel
theorem d6_3 : decode method_5_code 3 = .ok (.iload_n 2, 1) := by decide +kernel
theorem pd_3 : parseMethodDescriptor "([B[BII)Z" = some ⟨[(.array .byte), (.array .byte), .int, .int], some .boolean⟩ := by decide +kernel
theorem d6_4 : decode method_5_code 4 = .ok (.invokestatic 40, 3) := by decide +kernel
theorem d6_7 : decode method_5_code 7 = .ok (.ifCond .eq 130, 3) := by decide +kernel
theorem d6_10 : decode method_5_code 10 = .ok (.aload_n 0, 1) := by decide +kernel
theorem d6_11 : decode method_5_code 11 = .ok (.aload_n 1, 1) := by decide +kernel
theorem d6_12 : decode method_5_code 12 = .ok (.iconst 1, 1) := by decide +kernel
theorem d6_13 : decode method_5_code 13 = .ok (.iload_n 2, 1) := by decide +kernel
theorem d6_14 : decode method_5_code 14 = .ok (.invokestatic 40, 3) := by decide +kernel
theorem d6_17 : decode method_5_code 17 = .ok (.ifCond .eq 120, 3) := by decide +kernel
theorem d6_20 : decode method_5_code 20 = .ok (.aload_n 0, 1) := by decide +kernel
theorem d6_21 : decode method_5_code 21 = .ok (.aload_n 1, 1) := by decide +kernel
theorem d6_22 : decode method_5_code 22 = .ok (.iconst 2, 1) := by decide +kernel
theorem d6_23 : decode method_5_code 23 = .ok (.iload_n 2, 1) := by decide +kernel
theorem d6_24 : decode method_5_code 24 = .ok (.invokestatic 40, 3) := by decide +kernel
theorem d6_27 : decode method_5_code 27 = .ok (.ifCond .eq 110, 3) := by decide +kernel
theorem d6_30 : decode method_5_code 30 = .ok (.aload_n 0, 1) := by decide +kernel
theorem d6_31 : decode method_5_code 31 = .ok (.aload_n 1, 1) := by decide +kernel
theorem d6_32 : decode method_5_code 32 = .ok (.iconst 3, 1) := by decide +kernel
theorem d6_33 : decode method_5_code 33 = .ok (.iload_n 2, 1) := by decide +kernel
theorem d6_34 : decode method_5_code 34 = .ok (.invokestatic 40, 3) := by decide +kernel
theorem d6_37 : decode method_5_code 37 = .ok (.ifCond .eq 100, 3) := by decide +kernel
theorem d6_40 : decode method_5_code 40 = .ok (.aload_n 0, 1) := by decide +kernel
theorem d6_41 : decode method_5_code 41 = .ok (.aload_n 1, 1) := by decide +kernel
theorem d6_42 : decode method_5_code 42 = .ok (.iconst 4, 1) := by decide +kernel
theorem d6_43 : decode method_5_code 43 = .ok (.iload_n 2, 1) := by decide +kernel
theorem d6_44 : decode method_5_code 44 = .ok (.invokestatic 40, 3) := by decide +kernel
theorem d6_47 : decode method_5_code 47 = .ok (.ifCond .eq 90, 3) := by decide +kernel
theorem d6_50 : decode method_5_code 50 = .ok (.aload_n 0, 1) := by decide +kernel
theorem d6_51 : decode method_5_code 51 = .ok (.aload_n 1, 1) := by decide +kernel
theorem d6_52 : decode method_5_code 52 = .ok (.iconst 5, 1) := by decide +kernel
theorem d6_53 : decode method_5_code 53 = .ok (.iload_n 2, 1) := by decide +kernel
theorem d6_54 : decode method_5_code 54 = .ok (.invokestatic 40, 3) := by decide +kernel
theorem d6_57 : decode method_5_code 57 = .ok (.ifCond .eq 80, 3) := by decide +kernel
theorem d6_60 : decode method_5_code 60 = .ok (.aload_n 0, 1) := by decide +kernel
theorem d6_61 : decode method_5_code 61 = .ok (.aload_n 1, 1) := by decide +kernel
theorem d6_62 : decode method_5_code 62 = .ok (.bipush 6, 2) := by decide +kernel
theorem d6_64 : decode method_5_code 64 = .ok (.iload_n 2, 1) := by decide +kernel
theorem d6_65 : decode method_5_code 65 = .ok (.invokestatic 40, 3) := by decide +kernel
theorem d6_68 : decode method_5_code 68 = .ok (.ifCond .eq 69, 3) := by decide +kernel
theorem d6_71 : decode method_5_code 71 = .ok (.aload_n 0, 1) := by decide +kernel
theorem d6_72 : decode method_5_code 72 = .ok (.aload_n 1, 1) := by decide +kernel
theorem d6_73 : decode method_5_code 73 = .ok (.bipush 7, 2) := by decide +kernel
theorem d6_75 : decode method_5_code 75 = .ok (.iload_n 2, 1) := by decide +kernel
theorem d6_76 : decode method_5_code 76 = .ok (.invokestatic 40, 3) := by decide +kernel
theorem d6_79 : decode method_5_code 79 = .ok (.ifCond .eq 58, 3) := by decide +kernel
theorem d6_82 : decode method_5_code 82 = .ok (.aload_n 0, 1) := by decide +kernel
theorem d6_83 : decode method_5_code 83 = .ok (.aload_n 1, 1) := by decide +kernel
theorem d6_84 : decode method_5_code 84 = .ok (.bipush 8, 2) := by decide +kernel
theorem d6_86 : decode method_5_code 86 = .ok (.iload_n 2, 1) := by decide +kernel
theorem d6_87 : decode method_5_code 87 = .ok (.invokestatic 40, 3) := by decide +kernel
theorem d6_90 : decode method_5_code 90 = .ok (.ifCond .eq 47, 3) := by decide +kernel
theorem d6_93 : decode method_5_code 93 = .ok (.aload_n 0, 1) := by decide +kernel
theorem d6_94 : decode method_5_code 94 = .ok (.aload_n 1, 1) := by decide +kernel
theorem d6_95 : decode method_5_code 95 = .ok (.bipush 9, 2) := by decide +kernel
theorem d6_97 : decode method_5_code 97 = .ok (.iload_n 2, 1) := by decide +kernel
theorem d6_98 : decode method_5_code 98 = .ok (.invokestatic 40, 3) := by decide +kernel
theorem d6_101 : decode method_5_code 101 = .ok (.ifCond .eq 36, 3) := by decide +kernel
theorem d6_104 : decode method_5_code 104 = .ok (.aload_n 0, 1) := by decide +kernel
theorem d6_105 : decode method_5_code 105 = .ok (.aload_n 1, 1) := by decide +kernel
theorem d6_106 : decode method_5_code 106 = .ok (.bipush 10, 2) := by decide +kernel
theorem d6_108 : decode method_5_code 108 = .ok (.iload_n 2, 1) := by decide +kernel
theorem d6_109 : decode method_5_code 109 = .ok (.invokestatic 40, 3) := by decide +kernel
theorem d6_112 : decode method_5_code 112 = .ok (.ifCond .eq 25, 3) := by decide +kernel
theorem d6_115 : decode method_5_code 115 = .ok (.aload_n 0, 1) := by decide +kernel
theorem d6_116 : decode method_5_code 116 = .ok (.aload_n 1, 1) := by decide +kernel
theorem d6_117 : decode method_5_code 117 = .ok (.bipush 11, 2) := by decide +kernel
theorem d6_119 : decode method_5_code 119 = .ok (.iload_n 2, 1) := by decide +kernel
theorem d6_120 : decode method_5_code 120 = .ok (.invokestatic 40, 3) := by decide +kernel
theorem d6_123 : decode method_5_code 123 = .ok (.ifCond .eq 14, 3) := by decide +kernel
theorem d6_126 : decode method_5_code 126 = .ok (.aload_n 0, 1) := by decide +kernel
theorem d6_127 : decode method_5_code 127 = .ok (.aload_n 1, 1) := by decide +kernel
theorem d6_128 : decode method_5_code 128 = .ok (.bipush 12, 2) := by decide +kernel
theorem d6_130 : decode method_5_code 130 = .ok (.iload_n 2, 1) := by decide +kernel
theorem d6_131 : decode method_5_code 131 = .ok (.invokestatic 40, 3) := by decide +kernel
theorem d6_134 : decode method_5_code 134 = .ok (.ifCond .ne 5, 3) := by decide +kernel
theorem d6_139 : decode method_5_code 139 = .ok (.iload_n 3, 1) := by decide +kernel
theorem d6_140 : decode method_5_code 140 = .ok (.ifCond .eq 99, 3) := by decide +kernel
theorem d6_239 : decode method_5_code 239 = .ok (.iconst 1, 1) := by decide +kernel
theorem d6_240 : decode method_5_code 240 = .ok (.ireturn, 1) := by decide +kernel
theorem d6_143 : decode method_5_code 143 = .ok (.aload_n 0, 1) := by decide +kernel
theorem d6_144 : decode method_5_code 144 = .ok (.iload_n 2, 1) := by decide +kernel
theorem d6_145 : decode method_5_code 145 = .ok (.baload, 1) := by decide +kernel
theorem d6_146 : decode method_5_code 146 = .ok (.ifCond .ne 91, 3) := by decide +kernel
theorem d6_149 : decode method_5_code 149 = .ok (.aload_n 0, 1) := by decide +kernel
theorem d6_150 : decode method_5_code 150 = .ok (.iload_n 2, 1) := by decide +kernel
theorem d6_151 : decode method_5_code 151 = .ok (.iconst 1, 1) := by decide +kernel
theorem d6_152 : decode method_5_code 152 = .ok (.iadd, 1) := by decide +kernel
theorem d6_153 : decode method_5_code 153 = .ok (.baload, 1) := by decide +kernel
theorem d6_154 : decode method_5_code 154 = .ok (.ifCond .ne 83, 3) := by decide +kernel
theorem d6_157 : decode method_5_code 157 = .ok (.aload_n 0, 1) := by decide +kernel
theorem d6_158 : decode method_5_code 158 = .ok (.iload_n 2, 1) := by decide +kernel
theorem d6_159 : decode method_5_code 159 = .ok (.iconst 2, 1) := by decide +kernel
theorem d6_160 : decode method_5_code 160 = .ok (.iadd, 1) := by decide +kernel
theorem d6_161 : decode method_5_code 161 = .ok (.baload, 1) := by decide +kernel
theorem d6_162 : decode method_5_code 162 = .ok (.ifCond .ne 75, 3) := by decide +kernel
theorem d6_165 : decode method_5_code 165 = .ok (.aload_n 0, 1) := by decide +kernel
theorem d6_166 : decode method_5_code 166 = .ok (.iload_n 2, 1) := by decide +kernel
theorem d6_167 : decode method_5_code 167 = .ok (.iconst 3, 1) := by decide +kernel
theorem d6_168 : decode method_5_code 168 = .ok (.iadd, 1) := by decide +kernel
theorem d6_169 : decode method_5_code 169 = .ok (.baload, 1) := by decide +kernel
theorem d6_170 : decode method_5_code 170 = .ok (.bipush 60, 2) := by decide +kernel
theorem d6_172 : decode method_5_code 172 = .ok (.if_icmp .ne 65, 3) := by decide +kernel
theorem d6_175 : decode method_5_code 175 = .ok (.aload_n 0, 1) := by decide +kernel
theorem d6_176 : decode method_5_code 176 = .ok (.iload_n 2, 1) := by decide +kernel
theorem d6_177 : decode method_5_code 177 = .ok (.iconst 4, 1) := by decide +kernel
theorem d6_178 : decode method_5_code 178 = .ok (.iadd, 1) := by decide +kernel
theorem d6_179 : decode method_5_code 179 = .ok (.baload, 1) := by decide +kernel
theorem d6_180 : decode method_5_code 180 = .ok (.iload 4, 2) := by decide +kernel
theorem d6_182 : decode method_5_code 182 = .ok (.i2b, 1) := by decide +kernel
theorem d6_183 : decode method_5_code 183 = .ok (.if_icmp .ne 54, 3) := by decide +kernel
theorem d6_186 : decode method_5_code 186 = .ok (.aload_n 0, 1) := by decide +kernel
theorem d6_187 : decode method_5_code 187 = .ok (.iload_n 2, 1) := by decide +kernel
theorem d6_188 : decode method_5_code 188 = .ok (.iconst 5, 1) := by decide +kernel
theorem d6_189 : decode method_5_code 189 = .ok (.iadd, 1) := by decide +kernel
theorem d6_190 : decode method_5_code 190 = .ok (.baload, 1) := by decide +kernel
theorem d6_191 : decode method_5_code 191 = .ok (.ifCond .ne 46, 3) := by decide +kernel
theorem d6_194 : decode method_5_code 194 = .ok (.aload_n 0, 1) := by decide +kernel
theorem d6_195 : decode method_5_code 195 = .ok (.iload_n 2, 1) := by decide +kernel
theorem d6_196 : decode method_5_code 196 = .ok (.bipush 34, 2) := by decide +kernel
theorem d6_198 : decode method_5_code 198 = .ok (.iadd, 1) := by decide +kernel
theorem d6_199 : decode method_5_code 199 = .ok (.baload, 1) := by decide +kernel
theorem d6_200 : decode method_5_code 200 = .ok (.iload 4, 2) := by decide +kernel
theorem d6_202 : decode method_5_code 202 = .ok (.bipush 16, 2) := by decide +kernel
theorem d6_204 : decode method_5_code 204 = .ok (.iushr, 1) := by decide +kernel
theorem d6_205 : decode method_5_code 205 = .ok (.i2b, 1) := by decide +kernel
theorem d6_206 : decode method_5_code 206 = .ok (.if_icmp .ne 31, 3) := by decide +kernel
theorem d6_209 : decode method_5_code 209 = .ok (.aload_n 0, 1) := by decide +kernel
theorem d6_210 : decode method_5_code 210 = .ok (.iload_n 2, 1) := by decide +kernel
theorem d6_211 : decode method_5_code 211 = .ok (.bipush 62, 2) := by decide +kernel
theorem d6_213 : decode method_5_code 213 = .ok (.iadd, 1) := by decide +kernel
theorem d6_214 : decode method_5_code 214 = .ok (.baload, 1) := by decide +kernel
theorem d6_215 : decode method_5_code 215 = .ok (.ifCond .ne 22, 3) := by decide +kernel
theorem d6_218 : decode method_5_code 218 = .ok (.aload_n 0, 1) := by decide +kernel
theorem d6_219 : decode method_5_code 219 = .ok (.iload_n 2, 1) := by decide +kernel
theorem d6_220 : decode method_5_code 220 = .ok (.bipush 63, 2) := by decide +kernel
theorem d6_222 : decode method_5_code 222 = .ok (.iadd, 1) := by decide +kernel
theorem d6_223 : decode method_5_code 223 = .ok (.baload, 1) := by decide +kernel
theorem d6_224 : decode method_5_code 224 = .ok (.iload 4, 2) := by decide +kernel
theorem d6_226 : decode method_5_code 226 = .ok (.bipush 8, 2) := by decide +kernel
theorem d6_228 : decode method_5_code 228 = .ok (.iushr, 1) := by decide +kernel
theorem d6_229 : decode method_5_code 229 = .ok (.i2b, 1) := by decide +kernel
theorem d6_230 : decode method_5_code 230 = .ok (.if_icmp .ne 7, 3) := by decide +kernel
theorem d6_233 : decode method_5_code 233 = .ok (.iconst 1, 1) := by decide +kernel
theorem d6_234 : decode method_5_code 234 = .ok (.goto 4, 3) := by decide +kernel
theorem d6_238 : decode method_5_code 238 = .ok (.ireturn, 1) := by decide +kernel
def Q6 (Z : State) (h0 : Heap) (n0 : Nat) (v : Option Value) (h : Heap) (L : List Loc) : Prop := v = some (.int (1 : Int32)) ∧ Fr n0 L ∧ h = h0
set_option maxRecDepth 65536 in
set_option maxHeartbeats 40000000 in
theorem rm6 (l : Launch) (Z : State) (a0 : Array Value) (hw : ∀ d ∈ tables_1, d.before a0 Z = true) (ws : List Jvm.Cond) (a1 : Addr) (a2 : Addr) (n : Nat) (sm : Nat) (bg : Int32) (z : Int32) (f : Nat → Int32) (e_ : Nat → Int32) (h0 : Heap) (n0 : Nat) (Z0 : n0 ≤ h0.size) (B1 : own_B Z h0 a1 n f) (B2 : own_B Z h0 a2 13 e_) (hn : n ≤ 128) (hs : sm ≤ 13) (hsn : sm ≤ n) (hok : ∀ i, i < sm → f i = e_ i) (hbig : ¬ (bg = (0 : Int32)) → sm + 64 ≤ n ∧ f sm = (0 : Int32) ∧ f (sm + 1) = (0 : Int32) ∧ f (sm + 2) = (0 : Int32) ∧ f (sm + 3) = (60 : Int32) ∧ f (sm + 4) = (z.toInt8.toInt32) ∧ f (sm + 5) = (0 : Int32) ∧ f (sm + 34) = (((z.toUInt32 >>> ((16 : Int32) &&& 31).toUInt32).toInt32).toInt8.toInt32) ∧ f (sm + 62) = (0 : Int32) ∧ f (sm + 63) = (((z.toUInt32 >>> ((8 : Int32) &&& 31).toUInt32).toInt32).toInt8.toInt32)) :
    MetFree l (⟨"com/example/haulway/haulway/io/RecordOutputToBytesPinLaw", "check", "([B[BIZI)Z"⟩ : MethodName) (head1 (Jvm.Cond.code (⟨"com/example/haulway/haulway/io/RecordOutputToBytesPinLaw", "check", "([B[BIZI)Z"⟩ : MethodName) method_5_code 5 (some .boolean) :: ws) ({ frames := 1, cells := 0, slots := 0, locals := 15 } : Room)) (fun aa_ U => aa_ = #[(.ref a1), (.ref a2), (.int (Int32.ofNat sm)), (.int bg), (.int z)] ∧ Z.Warmed39 U.vm ∧ U.heap = h0) (fun _ _ _ _ _ => True) (fun _ U o U' => ∃ v_ L_, o = .returned v_ ∧ Q6 Z  h0 n0 v_ U'.heap L_ ∧ FrameEnd U o U' L_ ({ frames := 1, cells := 0, slots := 0, locals := 15 } : Room).cells ({ frames := 1, cells := 0, slots := 0, locals := 15 } : Room).slots) := by
  refine MetFree.of_bodySF (plainFor_of_name pn_6) hisR ?_
  intro p e s m args below meth c s₁ Bd hml0 hP hK
  obtain ⟨rfl, hZ, hh⟩ := hP
  have hx := Bd.exec
  have hby := Bd.bytes
  have hml : c.maxLocals = 5 := hml0
  have hown : s.vm.findClass "com/example/haulway/haulway/io/RecordOutputToBytesPinLaw" = some m.cls := findClass_of_methodNamed Bd.named
  have hnm := (name_of_methodNamed Bd.named Bd.method).1
  have X0 : Stand p l e ({ frames := 1, cells := 0, slots := 0, locals := 15 } : Room) s m #[(.ref a1), (.ref a2), (.int (Int32.ofNat sm)), (.int bg), (.int z)] below meth c s₁ [] 0 0 := Stand.of_body Bd
  have e0 : s₁.heap = h0 := by rw [← hh, Bd.state]; rfl
  have N0 := Fr.nil n0
  have pre0 : ∀ t, Steps p.tables e below (s₁.setTop (mkF m 0 #[.val (.ref a1), .val (.ref a2), .val (.int (Int32.ofNat sm)), .val (.int bg), .val (.int z)] [])) t → Steps p.tables e below (s₁.setTop (entryFrame m #[(.ref a1), (.ref a2), (.int (Int32.ofNat sm)), (.int bg), (.int z)] 5)) t := fun t k_ => castTop (ef_6 m a1 a2 (Int32.ofNat sm) bg z) k_
  have pre1 : ∀ t, Steps p.tables e below (s₁.setTop (mkF m 4 #[.val (.ref a1), .val (.ref a2), .val (.int (Int32.ofNat sm)), .val (.int bg), .val (.int z)] [(.int (Int32.ofNat sm)), (.int (0 : Int32)), (.ref a2), (.ref a1)])) t → Steps p.tables e below _ t := fun t kt => pre0 t (by
    show Steps p.tables e below (s₁.setTop (mkF m 0 #[.val (.ref a1), .val (.ref a2), .val (.int (Int32.ofNat sm)), .val (.int bg), .val (.int z)] [])) _
    refine XS.aloadN X0.here hx rfl (hb hby d6_0) rfl rfl ?_
    refine XS.aloadN X0.here hx rfl (hb hby d6_1) rfl rfl ?_
    refine XS.iconst X0.here hx rfl (hb hby d6_2) ?_
    show Steps p.tables e below (s₁.setTop (mkF m 3 #[.val (.ref a1), .val (.ref a2), .val (.int (Int32.ofNat sm)), .val (.int bg), .val (.int z)] [(.int (0 : Int32)), (.ref a2), (.ref a1)])) _
    refine XS.iloadN X0.here hx rfl (hb hby d6_3) rfl ?_
    exact kt)
  obtain ⟨_, _, ⟨T2, L2, k2, n2⟩, -, X2, ⟨Lc2, hQ2, l2, y2, z2⟩, st2⟩ := Jvm.LawKit.callS X0 hx (y := (⟨"com/example/haulway/haulway/io/RecordOutputToBytesPinLaw", "at", "([B[BII)Z"⟩ : MethodName)) hown (mvT hZ (hw _ (List.mem_of_getElem? (i := 35) rfl))) (mvT hZ (hw _ (List.mem_of_getElem? (i := 36) rfl))) (mvT hZ (hw _ (List.mem_of_getElem? (i := 33) rfl))) (mvT hZ (hw _ (List.mem_of_getElem? (i := 37) rfl))) (by decide) (backOf (W := 0) (rm7 l Z a0 hw [] a1 a2 n 13 0 sm f e_ h0 n0 Z0 B1 B2 hn (by decide) (by decide) (by omega) (fun q => ⟨by omega, by decide, hok 0 q⟩)) hZ (hw _ (List.mem_of_getElem? (i := 37) rfl)) (hw _ (List.mem_of_getElem? (i := 33) rfl)) (by decide) (by decide)) (g := (mkF m 4 #[.val (.ref a1), .val (.ref a2), .val (.int (Int32.ofNat sm)), .val (.int bg), .val (.int z)] [(.int (Int32.ofNat sm)), (.int (0 : Int32)), (.ref a2), (.ref a1)])) rfl (by rw [hml]; rfl) (argsL := [(.ref a1), (.ref a2), (.int (0 : Int32)), (.int (Int32.ofNat sm))]) (rest := []) (lenOf pd_3 rfl) rfl (by show 2 * 0 + _ ≤ _; exact Nat.le_of_eq rfl) (hb hby d6_4) (fun _ _ => ⟨rfl, e0, (by decide : 0 + 0 ≤ _), (by decide : 0 + 0 ≤ _)⟩)
  dsimp only [Pt.U, Pt.locs, Pt.cells, Pt.slots] at X2 l2 y2 z2 st2 hQ2
  subst l2 y2 z2
  obtain ⟨rfl, N2q, e2⟩ := hQ2
  have N2 := Fr.app N0 N2q
  have pre3 : ∀ t, Steps p.tables e below (T2.setTop (mkF m 14 #[.val (.ref a1), .val (.ref a2), .val (.int (Int32.ofNat sm)), .val (.int bg), .val (.int z)] [(.int (Int32.ofNat sm)), (.int (1 : Int32)), (.ref a2), (.ref a1)])) t → Steps p.tables e below _ t := fun t kt => pre1 t (by
    show Steps p.tables e below (s₁.setTop (mkF m 4 #[.val (.ref a1), .val (.ref a2), .val (.int (Int32.ofNat sm)), .val (.int bg), .val (.int z)] [(.int (Int32.ofNat sm)), (.int (0 : Int32)), (.ref a2), (.ref a1)])) _
    refine st2 _ ?_
    have hc7 : ¬ ((1 : Int32) = (0 : Int32)) := by decide
    refine XS.ifNo X2.here hx rfl (hb hby d6_7) rfl ((if0 _ _).trans (feq hc7).1) ?_
    refine XS.aloadN X2.here hx rfl (hb hby d6_10) rfl rfl ?_
    show Steps p.tables e below (T2.setTop (mkF m 11 #[.val (.ref a1), .val (.ref a2), .val (.int (Int32.ofNat sm)), .val (.int bg), .val (.int z)] [(.ref a1)])) _
    refine XS.aloadN X2.here hx rfl (hb hby d6_11) rfl rfl ?_
    refine XS.iconst X2.here hx rfl (hb hby d6_12) ?_
    refine XS.iloadN X2.here hx rfl (hb hby d6_13) rfl ?_
    exact kt)
  obtain ⟨_, _, ⟨T4, L4, k4, n4⟩, -, X4, ⟨Lc4, hQ4, l4, y4, z4⟩, st4⟩ := Jvm.LawKit.callS X2 hx (y := (⟨"com/example/haulway/haulway/io/RecordOutputToBytesPinLaw", "at", "([B[BII)Z"⟩ : MethodName)) hown (mvT hZ (hw _ (List.mem_of_getElem? (i := 35) rfl))) (mvT hZ (hw _ (List.mem_of_getElem? (i := 36) rfl))) (mvT hZ (hw _ (List.mem_of_getElem? (i := 33) rfl))) (mvT hZ (hw _ (List.mem_of_getElem? (i := 37) rfl))) (by decide) (backOf (W := 0) (rm7 l Z a0 hw [] a1 a2 n 13 1 sm f e_ h0 n0 Z0 B1 B2 hn (by decide) (by decide) (by omega) (fun q => ⟨by omega, by decide, hok 1 q⟩)) hZ (hw _ (List.mem_of_getElem? (i := 37) rfl)) (hw _ (List.mem_of_getElem? (i := 33) rfl)) (by decide) (by decide)) (g := (mkF m 14 #[.val (.ref a1), .val (.ref a2), .val (.int (Int32.ofNat sm)), .val (.int bg), .val (.int z)] [(.int (Int32.ofNat sm)), (.int (1 : Int32)), (.ref a2), (.ref a1)])) rfl (by rw [hml]; rfl) (argsL := [(.ref a1), (.ref a2), (.int (1 : Int32)), (.int (Int32.ofNat sm))]) (rest := []) (lenOf pd_3 rfl) rfl (by show 2 * 0 + _ ≤ _; exact Nat.le_of_eq rfl) (hb hby d6_14) (fun _ _ => ⟨rfl, e2, (by decide : 0 + 0 ≤ _), (by decide : 0 + 0 ≤ _)⟩)
  dsimp only [Pt.U, Pt.locs, Pt.cells, Pt.slots] at X4 l4 y4 z4 st4 hQ4
  subst l4 y4 z4
  obtain ⟨rfl, N4q, e4⟩ := hQ4
  have N4 := Fr.app N2 N4q
  have pre5 : ∀ t, Steps p.tables e below (T4.setTop (mkF m 24 #[.val (.ref a1), .val (.ref a2), .val (.int (Int32.ofNat sm)), .val (.int bg), .val (.int z)] [(.int (Int32.ofNat sm)), (.int (2 : Int32)), (.ref a2), (.ref a1)])) t → Steps p.tables e below _ t := fun t kt => pre3 t (by
    show Steps p.tables e below (T2.setTop (mkF m 14 #[.val (.ref a1), .val (.ref a2), .val (.int (Int32.ofNat sm)), .val (.int bg), .val (.int z)] [(.int (Int32.ofNat sm)), (.int (1 : Int32)), (.ref a2), (.ref a1)])) _
    refine st4 _ ?_
    have hc17 : ¬ ((1 : Int32) = (0 : Int32)) := by decide
    refine XS.ifNo X4.here hx rfl (hb hby d6_17) rfl ((if0 _ _).trans (feq hc17).1) ?_
    refine XS.aloadN X4.here hx rfl (hb hby d6_20) rfl rfl ?_
    show Steps p.tables e below (T4.setTop (mkF m 21 #[.val (.ref a1), .val (.ref a2), .val (.int (Int32.ofNat sm)), .val (.int bg), .val (.int z)] [(.ref a1)])) _
    refine XS.aloadN X4.here hx rfl (hb hby d6_21) rfl rfl ?_
    refine XS.iconst X4.here hx rfl (hb hby d6_22) ?_
    refine XS.iloadN X4.here hx rfl (hb hby d6_23) rfl ?_
    exact kt)
  obtain ⟨_, _, ⟨T6, L6, k6, n6⟩, -, X6, ⟨Lc6, hQ6, l6, y6, z6⟩, st6⟩ := Jvm.LawKit.callS X4 hx (y := (⟨"com/example/haulway/haulway/io/RecordOutputToBytesPinLaw", "at", "([B[BII)Z"⟩ : MethodName)) hown (mvT hZ (hw _ (List.mem_of_getElem? (i := 35) rfl))) (mvT hZ (hw _ (List.mem_of_getElem? (i := 36) rfl))) (mvT hZ (hw _ (List.mem_of_getElem? (i := 33) rfl))) (mvT hZ (hw _ (List.mem_of_getElem? (i := 37) rfl))) (by decide) (backOf (W := 0) (rm7 l Z a0 hw [] a1 a2 n 13 2 sm f e_ h0 n0 Z0 B1 B2 hn (by decide) (by decide) (by omega) (fun q => ⟨by omega, by decide, hok 2 q⟩)) hZ (hw _ (List.mem_of_getElem? (i := 37) rfl)) (hw _ (List.mem_of_getElem? (i := 33) rfl)) (by decide) (by decide)) (g := (mkF m 24 #[.val (.ref a1), .val (.ref a2), .val (.int (Int32.ofNat sm)), .val (.int bg), .val (.int z)] [(.int (Int32.ofNat sm)), (.int (2 : Int32)), (.ref a2), (.ref a1)])) rfl (by rw [hml]; rfl) (argsL := [(.ref a1), (.ref a2), (.int (2 : Int32)), (.int (Int32.ofNat sm))]) (rest := []) (lenOf pd_3 rfl) rfl (by show 2 * 0 + _ ≤ _; exact Nat.le_of_eq rfl) (hb hby d6_24) (fun _ _ => ⟨rfl, e4, (by decide : 0 + 0 ≤ _), (by decide : 0 + 0 ≤ _)⟩)
  dsimp only [Pt.U, Pt.locs, Pt.cells, Pt.slots] at X6 l6 y6 z6 st6 hQ6
  subst l6 y6 z6
  obtain ⟨rfl, N6q, e6⟩ := hQ6
  have N6 := Fr.app N4 N6q
  have pre7 : ∀ t, Steps p.tables e below (T6.setTop (mkF m 34 #[.val (.ref a1), .val (.ref a2), .val (.int (Int32.ofNat sm)), .val (.int bg), .val (.int z)] [(.int (Int32.ofNat sm)), (.int (3 : Int32)), (.ref a2), (.ref a1)])) t → Steps p.tables e below _ t := fun t kt => pre5 t (by
    show Steps p.tables e below (T4.setTop (mkF m 24 #[.val (.ref a1), .val (.ref a2), .val (.int (Int32.ofNat sm)), .val (.int bg), .val (.int z)] [(.int (Int32.ofNat sm)), (.int (2 : Int32)), (.ref a2), (.ref a1)])) _
    refine st6 _ ?_
    have hc27 : ¬ ((1 : Int32) = (0 : Int32)) := by decide
    refine XS.ifNo X6.here hx rfl (hb hby d6_27) rfl ((if0 _ _).trans (feq hc27).1) ?_
    refine XS.aloadN X6.here hx rfl (hb hby d6_30) rfl rfl ?_
    show Steps p.tables e below (T6.setTop (mkF m 31 #[.val (.ref a1), .val (.ref a2), .val (.int (Int32.ofNat sm)), .val (.int bg), .val (.int z)] [(.ref a1)])) _
    refine XS.aloadN X6.here hx rfl (hb hby d6_31) rfl rfl ?_
    refine XS.iconst X6.here hx rfl (hb hby d6_32) ?_
    refine XS.iloadN X6.here hx rfl (hb hby d6_33) rfl ?_
    exact kt)
  obtain ⟨_, _, ⟨T8, L8, k8, n8⟩, -, X8, ⟨Lc8, hQ8, l8, y8, z8⟩, st8⟩ := Jvm.LawKit.callS X6 hx (y := (⟨"com/example/haulway/haulway/io/RecordOutputToBytesPinLaw", "at", "([B[BII)Z"⟩ : MethodName)) hown (mvT hZ (hw _ (List.mem_of_getElem? (i := 35) rfl))) (mvT hZ (hw _ (List.mem_of_getElem? (i := 36) rfl))) (mvT hZ (hw _ (List.mem_of_getElem? (i := 33) rfl))) (mvT hZ (hw _ (List.mem_of_getElem? (i := 37) rfl))) (by decide) (backOf (W := 0) (rm7 l Z a0 hw [] a1 a2 n 13 3 sm f e_ h0 n0 Z0 B1 B2 hn (by decide) (by decide) (by omega) (fun q => ⟨by omega, by decide, hok 3 q⟩)) hZ (hw _ (List.mem_of_getElem? (i := 37) rfl)) (hw _ (List.mem_of_getElem? (i := 33) rfl)) (by decide) (by decide)) (g := (mkF m 34 #[.val (.ref a1), .val (.ref a2), .val (.int (Int32.ofNat sm)), .val (.int bg), .val (.int z)] [(.int (Int32.ofNat sm)), (.int (3 : Int32)), (.ref a2), (.ref a1)])) rfl (by rw [hml]; rfl) (argsL := [(.ref a1), (.ref a2), (.int (3 : Int32)), (.int (Int32.ofNat sm))]) (rest := []) (lenOf pd_3 rfl) rfl (by show 2 * 0 + _ ≤ _; exact Nat.le_of_eq rfl) (hb hby d6_34) (fun _ _ => ⟨rfl, e6, (by decide : 0 + 0 ≤ _), (by decide : 0 + 0 ≤ _)⟩)
  dsimp only [Pt.U, Pt.locs, Pt.cells, Pt.slots] at X8 l8 y8 z8 st8 hQ8
  subst l8 y8 z8
  obtain ⟨rfl, N8q, e8⟩ := hQ8
  have N8 := Fr.app N6 N8q
  have pre9 : ∀ t, Steps p.tables e below (T8.setTop (mkF m 44 #[.val (.ref a1), .val (.ref a2), .val (.int (Int32.ofNat sm)), .val (.int bg), .val (.int z)] [(.int (Int32.ofNat sm)), (.int (4 : Int32)), (.ref a2), (.ref a1)])) t → Steps p.tables e below _ t := fun t kt => pre7 t (by
    show Steps p.tables e below (T6.setTop (mkF m 34 #[.val (.ref a1), .val (.ref a2), .val (.int (Int32.ofNat sm)), .val (.int bg), .val (.int z)] [(.int (Int32.ofNat sm)), (.int (3 : Int32)), (.ref a2), (.ref a1)])) _
    refine st8 _ ?_
    have hc37 : ¬ ((1 : Int32) = (0 : Int32)) := by decide
    refine XS.ifNo X8.here hx rfl (hb hby d6_37) rfl ((if0 _ _).trans (feq hc37).1) ?_
    refine XS.aloadN X8.here hx rfl (hb hby d6_40) rfl rfl ?_
    show Steps p.tables e below (T8.setTop (mkF m 41 #[.val (.ref a1), .val (.ref a2), .val (.int (Int32.ofNat sm)), .val (.int bg), .val (.int z)] [(.ref a1)])) _
    refine XS.aloadN X8.here hx rfl (hb hby d6_41) rfl rfl ?_
    refine XS.iconst X8.here hx rfl (hb hby d6_42) ?_
    refine XS.iloadN X8.here hx rfl (hb hby d6_43) rfl ?_
    exact kt)
  obtain ⟨_, _, ⟨T10, L10, k10, n10⟩, -, X10, ⟨Lc10, hQ10, l10, y10, z10⟩, st10⟩ := Jvm.LawKit.callS X8 hx (y := (⟨"com/example/haulway/haulway/io/RecordOutputToBytesPinLaw", "at", "([B[BII)Z"⟩ : MethodName)) hown (mvT hZ (hw _ (List.mem_of_getElem? (i := 35) rfl))) (mvT hZ (hw _ (List.mem_of_getElem? (i := 36) rfl))) (mvT hZ (hw _ (List.mem_of_getElem? (i := 33) rfl))) (mvT hZ (hw _ (List.mem_of_getElem? (i := 37) rfl))) (by decide) (backOf (W := 0) (rm7 l Z a0 hw [] a1 a2 n 13 4 sm f e_ h0 n0 Z0 B1 B2 hn (by decide) (by decide) (by omega) (fun q => ⟨by omega, by decide, hok 4 q⟩)) hZ (hw _ (List.mem_of_getElem? (i := 37) rfl)) (hw _ (List.mem_of_getElem? (i := 33) rfl)) (by decide) (by decide)) (g := (mkF m 44 #[.val (.ref a1), .val (.ref a2), .val (.int (Int32.ofNat sm)), .val (.int bg), .val (.int z)] [(.int (Int32.ofNat sm)), (.int (4 : Int32)), (.ref a2), (.ref a1)])) rfl (by rw [hml]; rfl) (argsL := [(.ref a1), (.ref a2), (.int (4 : Int32)), (.int (Int32.ofNat sm))]) (rest := []) (lenOf pd_3 rfl) rfl (by show 2 * 0 + _ ≤ _; exact Nat.le_of_eq rfl) (hb hby d6_44) (fun _ _ => ⟨rfl, e8, (by decide : 0 + 0 ≤ _), (by decide : 0 + 0 ≤ _)⟩)
  dsimp only [Pt.U, Pt.locs, Pt.cells, Pt.slots] at X10 l10 y10 z10 st10 hQ10
  subst l10 y10 z10
  obtain ⟨rfl, N10q, e10⟩ := hQ10
  have N10 := Fr.app N8 N10q
  have pre11 : ∀ t, Steps p.tables e below (T10.setTop (mkF m 54 #[.val (.ref a1), .val (.ref a2), .val (.int (Int32.ofNat sm)), .val (.int bg), .val (.int z)] [(.int (Int32.ofNat sm)), (.int (5 : Int32)), (.ref a2), (.ref a1)])) t → Steps p.tables e below _ t := fun t kt => pre9 t (by
    show Steps p.tables e below (T8.setTop (mkF m 44 #[.val (.ref a1), .val (.ref a2), .val (.int (Int32.ofNat sm)), .val (.int bg), .val (.int z)] [(.int (Int32.ofNat sm)), (.int (4 : Int32)), (.ref a2), (.ref a1)])) _
    refine st10 _ ?_
    have hc47 : ¬ ((1 : Int32) = (0 : Int32)) := by decide
    refine XS.ifNo X10.here hx rfl (hb hby d6_47) rfl ((if0 _ _).trans (feq hc47).1) ?_
    refine XS.aloadN X10.here hx rfl (hb hby d6_50) rfl rfl ?_
    show Steps p.tables e below (T10.setTop (mkF m 51 #[.val (.ref a1), .val (.ref a2), .val (.int (Int32.ofNat sm)), .val (.int bg), .val (.int z)] [(.ref a1)])) _
    refine XS.aloadN X10.here hx rfl (hb hby d6_51) rfl rfl ?_
    refine XS.iconst X10.here hx rfl (hb hby d6_52) ?_
    refine XS.iloadN X10.here hx rfl (hb hby d6_53) rfl ?_
    exact kt)
  obtain ⟨_, _, ⟨T12, L12, k12, n12⟩, -, X12, ⟨Lc12, hQ12, l12, y12, z12⟩, st12⟩ := Jvm.LawKit.callS X10 hx (y := (⟨"com/example/haulway/haulway/io/RecordOutputToBytesPinLaw", "at", "([B[BII)Z"⟩ : MethodName)) hown (mvT hZ (hw _ (List.mem_of_getElem? (i := 35) rfl))) (mvT hZ (hw _ (List.mem_of_getElem? (i := 36) rfl))) (mvT hZ (hw _ (List.mem_of_getElem? (i := 33) rfl))) (mvT hZ (hw _ (List.mem_of_getElem? (i := 37) rfl))) (by decide) (backOf (W := 0) (rm7 l Z a0 hw [] a1 a2 n 13 5 sm f e_ h0 n0 Z0 B1 B2 hn (by decide) (by decide) (by omega) (fun q => ⟨by omega, by decide, hok 5 q⟩)) hZ (hw _ (List.mem_of_getElem? (i := 37) rfl)) (hw _ (List.mem_of_getElem? (i := 33) rfl)) (by decide) (by decide)) (g := (mkF m 54 #[.val (.ref a1), .val (.ref a2), .val (.int (Int32.ofNat sm)), .val (.int bg), .val (.int z)] [(.int (Int32.ofNat sm)), (.int (5 : Int32)), (.ref a2), (.ref a1)])) rfl (by rw [hml]; rfl) (argsL := [(.ref a1), (.ref a2), (.int (5 : Int32)), (.int (Int32.ofNat sm))]) (rest := []) (lenOf pd_3 rfl) rfl (by show 2 * 0 + _ ≤ _; exact Nat.le_of_eq rfl) (hb hby d6_54) (fun _ _ => ⟨rfl, e10, (by decide : 0 + 0 ≤ _), (by decide : 0 + 0 ≤ _)⟩)
  dsimp only [Pt.U, Pt.locs, Pt.cells, Pt.slots] at X12 l12 y12 z12 st12 hQ12
  subst l12 y12 z12
  obtain ⟨rfl, N12q, e12⟩ := hQ12
  have N12 := Fr.app N10 N12q
  have pre13 : ∀ t, Steps p.tables e below (T12.setTop (mkF m 65 #[.val (.ref a1), .val (.ref a2), .val (.int (Int32.ofNat sm)), .val (.int bg), .val (.int z)] [(.int (Int32.ofNat sm)), (.int (6 : Int32)), (.ref a2), (.ref a1)])) t → Steps p.tables e below _ t := fun t kt => pre11 t (by
    show Steps p.tables e below (T10.setTop (mkF m 54 #[.val (.ref a1), .val (.ref a2), .val (.int (Int32.ofNat sm)), .val (.int bg), .val (.int z)] [(.int (Int32.ofNat sm)), (.int (5 : Int32)), (.ref a2), (.ref a1)])) _
    refine st12 _ ?_
    have hc57 : ¬ ((1 : Int32) = (0 : Int32)) := by decide
    refine XS.ifNo X12.here hx rfl (hb hby d6_57) rfl ((if0 _ _).trans (feq hc57).1) ?_
    refine XS.aloadN X12.here hx rfl (hb hby d6_60) rfl rfl ?_
    show Steps p.tables e below (T12.setTop (mkF m 61 #[.val (.ref a1), .val (.ref a2), .val (.int (Int32.ofNat sm)), .val (.int bg), .val (.int z)] [(.ref a1)])) _
    refine XS.aloadN X12.here hx rfl (hb hby d6_61) rfl rfl ?_
    refine XS.bipush X12.here hx rfl (hb hby d6_62) ?_
    refine XS.iloadN X12.here hx rfl (hb hby d6_64) rfl ?_
    exact kt)
  obtain ⟨_, _, ⟨T14, L14, k14, n14⟩, -, X14, ⟨Lc14, hQ14, l14, y14, z14⟩, st14⟩ := Jvm.LawKit.callS X12 hx (y := (⟨"com/example/haulway/haulway/io/RecordOutputToBytesPinLaw", "at", "([B[BII)Z"⟩ : MethodName)) hown (mvT hZ (hw _ (List.mem_of_getElem? (i := 35) rfl))) (mvT hZ (hw _ (List.mem_of_getElem? (i := 36) rfl))) (mvT hZ (hw _ (List.mem_of_getElem? (i := 33) rfl))) (mvT hZ (hw _ (List.mem_of_getElem? (i := 37) rfl))) (by decide) (backOf (W := 0) (rm7 l Z a0 hw [] a1 a2 n 13 6 sm f e_ h0 n0 Z0 B1 B2 hn (by decide) (by decide) (by omega) (fun q => ⟨by omega, by decide, hok 6 q⟩)) hZ (hw _ (List.mem_of_getElem? (i := 37) rfl)) (hw _ (List.mem_of_getElem? (i := 33) rfl)) (by decide) (by decide)) (g := (mkF m 65 #[.val (.ref a1), .val (.ref a2), .val (.int (Int32.ofNat sm)), .val (.int bg), .val (.int z)] [(.int (Int32.ofNat sm)), (.int (6 : Int32)), (.ref a2), (.ref a1)])) rfl (by rw [hml]; rfl) (argsL := [(.ref a1), (.ref a2), (.int (6 : Int32)), (.int (Int32.ofNat sm))]) (rest := []) (lenOf pd_3 rfl) rfl (by show 2 * 0 + _ ≤ _; exact Nat.le_of_eq rfl) (hb hby d6_65) (fun _ _ => ⟨rfl, e12, (by decide : 0 + 0 ≤ _), (by decide : 0 + 0 ≤ _)⟩)
  dsimp only [Pt.U, Pt.locs, Pt.cells, Pt.slots] at X14 l14 y14 z14 st14 hQ14
  subst l14 y14 z14
  obtain ⟨rfl, N14q, e14⟩ := hQ14
  have N14 := Fr.app N12 N14q
  have pre15 : ∀ t, Steps p.tables e below (T14.setTop (mkF m 76 #[.val (.ref a1), .val (.ref a2), .val (.int (Int32.ofNat sm)), .val (.int bg), .val (.int z)] [(.int (Int32.ofNat sm)), (.int (7 : Int32)), (.ref a2), (.ref a1)])) t → Steps p.tables e below _ t := fun t kt => pre13 t (by
    show Steps p.tables e below (T12.setTop (mkF m 65 #[.val (.ref a1), .val (.ref a2), .val (.int (Int32.ofNat sm)), .val (.int bg), .val (.int z)] [(.int (Int32.ofNat sm)), (.int (6 : Int32)), (.ref a2), (.ref a1)])) _
    refine st14 _ ?_
    have hc68 : ¬ ((1 : Int32) = (0 : Int32)) := by decide
    refine XS.ifNo X14.here hx rfl (hb hby d6_68) rfl ((if0 _ _).trans (feq hc68).1) ?_
    refine XS.aloadN X14.here hx rfl (hb hby d6_71) rfl rfl ?_
    show Steps p.tables e below (T14.setTop (mkF m 72 #[.val (.ref a1), .val (.ref a2), .val (.int (Int32.ofNat sm)), .val (.int bg), .val (.int z)] [(.ref a1)])) _
    refine XS.aloadN X14.here hx rfl (hb hby d6_72) rfl rfl ?_
    refine XS.bipush X14.here hx rfl (hb hby d6_73) ?_
    refine XS.iloadN X14.here hx rfl (hb hby d6_75) rfl ?_
    exact kt)
  obtain ⟨_, _, ⟨T16, L16, k16, n16⟩, -, X16, ⟨Lc16, hQ16, l16, y16, z16⟩, st16⟩ := Jvm.LawKit.callS X14 hx (y := (⟨"com/example/haulway/haulway/io/RecordOutputToBytesPinLaw", "at", "([B[BII)Z"⟩ : MethodName)) hown (mvT hZ (hw _ (List.mem_of_getElem? (i := 35) rfl))) (mvT hZ (hw _ (List.mem_of_getElem? (i := 36) rfl))) (mvT hZ (hw _ (List.mem_of_getElem? (i := 33) rfl))) (mvT hZ (hw _ (List.mem_of_getElem? (i := 37) rfl))) (by decide) (backOf (W := 0) (rm7 l Z a0 hw [] a1 a2 n 13 7 sm f e_ h0 n0 Z0 B1 B2 hn (by decide) (by decide) (by omega) (fun q => ⟨by omega, by decide, hok 7 q⟩)) hZ (hw _ (List.mem_of_getElem? (i := 37) rfl)) (hw _ (List.mem_of_getElem? (i := 33) rfl)) (by decide) (by decide)) (g := (mkF m 76 #[.val (.ref a1), .val (.ref a2), .val (.int (Int32.ofNat sm)), .val (.int bg), .val (.int z)] [(.int (Int32.ofNat sm)), (.int (7 : Int32)), (.ref a2), (.ref a1)])) rfl (by rw [hml]; rfl) (argsL := [(.ref a1), (.ref a2), (.int (7 : Int32)), (.int (Int32.ofNat sm))]) (rest := []) (lenOf pd_3 rfl) rfl (by show 2 * 0 + _ ≤ _; exact Nat.le_of_eq rfl) (hb hby d6_76) (fun _ _ => ⟨rfl, e14, (by decide : 0 + 0 ≤ _), (by decide : 0 + 0 ≤ _)⟩)
  dsimp only [Pt.U, Pt.locs, Pt.cells, Pt.slots] at X16 l16 y16 z16 st16 hQ16
  subst l16 y16 z16
  obtain ⟨rfl, N16q, e16⟩ := hQ16
  have N16 := Fr.app N14 N16q
  have pre17 : ∀ t, Steps p.tables e below (T16.setTop (mkF m 87 #[.val (.ref a1), .val (.ref a2), .val (.int (Int32.ofNat sm)), .val (.int bg), .val (.int z)] [(.int (Int32.ofNat sm)), (.int (8 : Int32)), (.ref a2), (.ref a1)])) t → Steps p.tables e below _ t := fun t kt => pre15 t (by
    show Steps p.tables e below (T14.setTop (mkF m 76 #[.val (.ref a1), .val (.ref a2), .val (.int (Int32.ofNat sm)), .val (.int bg), .val (.int z)] [(.int (Int32.ofNat sm)), (.int (7 : Int32)), (.ref a2), (.ref a1)])) _
    refine st16 _ ?_
    have hc79 : ¬ ((1 : Int32) = (0 : Int32)) := by decide
    refine XS.ifNo X16.here hx rfl (hb hby d6_79) rfl ((if0 _ _).trans (feq hc79).1) ?_
    refine XS.aloadN X16.here hx rfl (hb hby d6_82) rfl rfl ?_
    show Steps p.tables e below (T16.setTop (mkF m 83 #[.val (.ref a1), .val (.ref a2), .val (.int (Int32.ofNat sm)), .val (.int bg), .val (.int z)] [(.ref a1)])) _
    refine XS.aloadN X16.here hx rfl (hb hby d6_83) rfl rfl ?_
    refine XS.bipush X16.here hx rfl (hb hby d6_84) ?_
    refine XS.iloadN X16.here hx rfl (hb hby d6_86) rfl ?_
    exact kt)
  obtain ⟨_, _, ⟨T18, L18, k18, n18⟩, -, X18, ⟨Lc18, hQ18, l18, y18, z18⟩, st18⟩ := Jvm.LawKit.callS X16 hx (y := (⟨"com/example/haulway/haulway/io/RecordOutputToBytesPinLaw", "at", "([B[BII)Z"⟩ : MethodName)) hown (mvT hZ (hw _ (List.mem_of_getElem? (i := 35) rfl))) (mvT hZ (hw _ (List.mem_of_getElem? (i := 36) rfl))) (mvT hZ (hw _ (List.mem_of_getElem? (i := 33) rfl))) (mvT hZ (hw _ (List.mem_of_getElem? (i := 37) rfl))) (by decide) (backOf (W := 0) (rm7 l Z a0 hw [] a1 a2 n 13 8 sm f e_ h0 n0 Z0 B1 B2 hn (by decide) (by decide) (by omega) (fun q => ⟨by omega, by decide, hok 8 q⟩)) hZ (hw _ (List.mem_of_getElem? (i := 37) rfl)) (hw _ (List.mem_of_getElem? (i := 33) rfl)) (by decide) (by decide)) (g := (mkF m 87 #[.val (.ref a1), .val (.ref a2), .val (.int (Int32.ofNat sm)), .val (.int bg), .val (.int z)] [(.int (Int32.ofNat sm)), (.int (8 : Int32)), (.ref a2), (.ref a1)])) rfl (by rw [hml]; rfl) (argsL := [(.ref a1), (.ref a2), (.int (8 : Int32)), (.int (Int32.ofNat sm))]) (rest := []) (lenOf pd_3 rfl) rfl (by show 2 * 0 + _ ≤ _; exact Nat.le_of_eq rfl) (hb hby d6_87) (fun _ _ => ⟨rfl, e16, (by decide : 0 + 0 ≤ _), (by decide : 0 + 0 ≤ _)⟩)
  dsimp only [Pt.U, Pt.locs, Pt.cells, Pt.slots] at X18 l18 y18 z18 st18 hQ18
  subst l18 y18 z18
  obtain ⟨rfl, N18q, e18⟩ := hQ18
  have N18 := Fr.app N16 N18q
  have pre19 : ∀ t, Steps p.tables e below (T18.setTop (mkF m 98 #[.val (.ref a1), .val (.ref a2), .val (.int (Int32.ofNat sm)), .val (.int bg), .val (.int z)] [(.int (Int32.ofNat sm)), (.int (9 : Int32)), (.ref a2), (.ref a1)])) t → Steps p.tables e below _ t := fun t kt => pre17 t (by
    show Steps p.tables e below (T16.setTop (mkF m 87 #[.val (.ref a1), .val (.ref a2), .val (.int (Int32.ofNat sm)), .val (.int bg), .val (.int z)] [(.int (Int32.ofNat sm)), (.int (8 : Int32)), (.ref a2), (.ref a1)])) _
    refine st18 _ ?_
    have hc90 : ¬ ((1 : Int32) = (0 : Int32)) := by decide
    refine XS.ifNo X18.here hx rfl (hb hby d6_90) rfl ((if0 _ _).trans (feq hc90).1) ?_
    refine XS.aloadN X18.here hx rfl (hb hby d6_93) rfl rfl ?_
    show Steps p.tables e below (T18.setTop (mkF m 94 #[.val (.ref a1), .val (.ref a2), .val (.int (Int32.ofNat sm)), .val (.int bg), .val (.int z)] [(.ref a1)])) _
    refine XS.aloadN X18.here hx rfl (hb hby d6_94) rfl rfl ?_
    refine XS.bipush X18.here hx rfl (hb hby d6_95) ?_
    refine XS.iloadN X18.here hx rfl (hb hby d6_97) rfl ?_
    exact kt)
  obtain ⟨_, _, ⟨T20, L20, k20, n20⟩, -, X20, ⟨Lc20, hQ20, l20, y20, z20⟩, st20⟩ := Jvm.LawKit.callS X18 hx (y := (⟨"com/example/haulway/haulway/io/RecordOutputToBytesPinLaw", "at", "([B[BII)Z"⟩ : MethodName)) hown (mvT hZ (hw _ (List.mem_of_getElem? (i := 35) rfl))) (mvT hZ (hw _ (List.mem_of_getElem? (i := 36) rfl))) (mvT hZ (hw _ (List.mem_of_getElem? (i := 33) rfl))) (mvT hZ (hw _ (List.mem_of_getElem? (i := 37) rfl))) (by decide) (backOf (W := 0) (rm7 l Z a0 hw [] a1 a2 n 13 9 sm f e_ h0 n0 Z0 B1 B2 hn (by decide) (by decide) (by omega) (fun q => ⟨by omega, by decide, hok 9 q⟩)) hZ (hw _ (List.mem_of_getElem? (i := 37) rfl)) (hw _ (List.mem_of_getElem? (i := 33) rfl)) (by decide) (by decide)) (g := (mkF m 98 #[.val (.ref a1), .val (.ref a2), .val (.int (Int32.ofNat sm)), .val (.int bg), .val (.int z)] [(.int (Int32.ofNat sm)), (.int (9 : Int32)), (.ref a2), (.ref a1)])) rfl (by rw [hml]; rfl) (argsL := [(.ref a1), (.ref a2), (.int (9 : Int32)), (.int (Int32.ofNat sm))]) (rest := []) (lenOf pd_3 rfl) rfl (by show 2 * 0 + _ ≤ _; exact Nat.le_of_eq rfl) (hb hby d6_98) (fun _ _ => ⟨rfl, e18, (by decide : 0 + 0 ≤ _), (by decide : 0 + 0 ≤ _)⟩)
  dsimp only [Pt.U, Pt.locs, Pt.cells, Pt.slots] at X20 l20 y20 z20 st20 hQ20
  subst l20 y20 z20
  obtain ⟨rfl, N20q, e20⟩ := hQ20
  have N20 := Fr.app N18 N20q
  have pre21 : ∀ t, Steps p.tables e below (T20.setTop (mkF m 109 #[.val (.ref a1), .val (.ref a2), .val (.int (Int32.ofNat sm)), .val (.int bg), .val (.int z)] [(.int (Int32.ofNat sm)), (.int (10 : Int32)), (.ref a2), (.ref a1)])) t → Steps p.tables e below _ t := fun t kt => pre19 t (by
    show Steps p.tables e below (T18.setTop (mkF m 98 #[.val (.ref a1), .val (.ref a2), .val (.int (Int32.ofNat sm)), .val (.int bg), .val (.int z)] [(.int (Int32.ofNat sm)), (.int (9 : Int32)), (.ref a2), (.ref a1)])) _
    refine st20 _ ?_
    have hc101 : ¬ ((1 : Int32) = (0 : Int32)) := by decide
    refine XS.ifNo X20.here hx rfl (hb hby d6_101) rfl ((if0 _ _).trans (feq hc101).1) ?_
    refine XS.aloadN X20.here hx rfl (hb hby d6_104) rfl rfl ?_
    show Steps p.tables e below (T20.setTop (mkF m 105 #[.val (.ref a1), .val (.ref a2), .val (.int (Int32.ofNat sm)), .val (.int bg), .val (.int z)] [(.ref a1)])) _
    refine XS.aloadN X20.here hx rfl (hb hby d6_105) rfl rfl ?_
    refine XS.bipush X20.here hx rfl (hb hby d6_106) ?_
    refine XS.iloadN X20.here hx rfl (hb hby d6_108) rfl ?_
    exact kt)
  obtain ⟨_, _, ⟨T22, L22, k22, n22⟩, -, X22, ⟨Lc22, hQ22, l22, y22, z22⟩, st22⟩ := Jvm.LawKit.callS X20 hx (y := (⟨"com/example/haulway/haulway/io/RecordOutputToBytesPinLaw", "at", "([B[BII)Z"⟩ : MethodName)) hown (mvT hZ (hw _ (List.mem_of_getElem? (i := 35) rfl))) (mvT hZ (hw _ (List.mem_of_getElem? (i := 36) rfl))) (mvT hZ (hw _ (List.mem_of_getElem? (i := 33) rfl))) (mvT hZ (hw _ (List.mem_of_getElem? (i := 37) rfl))) (by decide) (backOf (W := 0) (rm7 l Z a0 hw [] a1 a2 n 13 10 sm f e_ h0 n0 Z0 B1 B2 hn (by decide) (by decide) (by omega) (fun q => ⟨by omega, by decide, hok 10 q⟩)) hZ (hw _ (List.mem_of_getElem? (i := 37) rfl)) (hw _ (List.mem_of_getElem? (i := 33) rfl)) (by decide) (by decide)) (g := (mkF m 109 #[.val (.ref a1), .val (.ref a2), .val (.int (Int32.ofNat sm)), .val (.int bg), .val (.int z)] [(.int (Int32.ofNat sm)), (.int (10 : Int32)), (.ref a2), (.ref a1)])) rfl (by rw [hml]; rfl) (argsL := [(.ref a1), (.ref a2), (.int (10 : Int32)), (.int (Int32.ofNat sm))]) (rest := []) (lenOf pd_3 rfl) rfl (by show 2 * 0 + _ ≤ _; exact Nat.le_of_eq rfl) (hb hby d6_109) (fun _ _ => ⟨rfl, e20, (by decide : 0 + 0 ≤ _), (by decide : 0 + 0 ≤ _)⟩)
  dsimp only [Pt.U, Pt.locs, Pt.cells, Pt.slots] at X22 l22 y22 z22 st22 hQ22
  subst l22 y22 z22
  obtain ⟨rfl, N22q, e22⟩ := hQ22
  have N22 := Fr.app N20 N22q
  have pre23 : ∀ t, Steps p.tables e below (T22.setTop (mkF m 120 #[.val (.ref a1), .val (.ref a2), .val (.int (Int32.ofNat sm)), .val (.int bg), .val (.int z)] [(.int (Int32.ofNat sm)), (.int (11 : Int32)), (.ref a2), (.ref a1)])) t → Steps p.tables e below _ t := fun t kt => pre21 t (by
    show Steps p.tables e below (T20.setTop (mkF m 109 #[.val (.ref a1), .val (.ref a2), .val (.int (Int32.ofNat sm)), .val (.int bg), .val (.int z)] [(.int (Int32.ofNat sm)), (.int (10 : Int32)), (.ref a2), (.ref a1)])) _
    refine st22 _ ?_
    have hc112 : ¬ ((1 : Int32) = (0 : Int32)) := by decide
    refine XS.ifNo X22.here hx rfl (hb hby d6_112) rfl ((if0 _ _).trans (feq hc112).1) ?_
    refine XS.aloadN X22.here hx rfl (hb hby d6_115) rfl rfl ?_
    show Steps p.tables e below (T22.setTop (mkF m 116 #[.val (.ref a1), .val (.ref a2), .val (.int (Int32.ofNat sm)), .val (.int bg), .val (.int z)] [(.ref a1)])) _
    refine XS.aloadN X22.here hx rfl (hb hby d6_116) rfl rfl ?_
    refine XS.bipush X22.here hx rfl (hb hby d6_117) ?_
    refine XS.iloadN X22.here hx rfl (hb hby d6_119) rfl ?_
    exact kt)
  obtain ⟨_, _, ⟨T24, L24, k24, n24⟩, -, X24, ⟨Lc24, hQ24, l24, y24, z24⟩, st24⟩ := Jvm.LawKit.callS X22 hx (y := (⟨"com/example/haulway/haulway/io/RecordOutputToBytesPinLaw", "at", "([B[BII)Z"⟩ : MethodName)) hown (mvT hZ (hw _ (List.mem_of_getElem? (i := 35) rfl))) (mvT hZ (hw _ (List.mem_of_getElem? (i := 36) rfl))) (mvT hZ (hw _ (List.mem_of_getElem? (i := 33) rfl))) (mvT hZ (hw _ (List.mem_of_getElem? (i := 37) rfl))) (by decide) (backOf (W := 0) (rm7 l Z a0 hw [] a1 a2 n 13 11 sm f e_ h0 n0 Z0 B1 B2 hn (by decide) (by decide) (by omega) (fun q => ⟨by omega, by decide, hok 11 q⟩)) hZ (hw _ (List.mem_of_getElem? (i := 37) rfl)) (hw _ (List.mem_of_getElem? (i := 33) rfl)) (by decide) (by decide)) (g := (mkF m 120 #[.val (.ref a1), .val (.ref a2), .val (.int (Int32.ofNat sm)), .val (.int bg), .val (.int z)] [(.int (Int32.ofNat sm)), (.int (11 : Int32)), (.ref a2), (.ref a1)])) rfl (by rw [hml]; rfl) (argsL := [(.ref a1), (.ref a2), (.int (11 : Int32)), (.int (Int32.ofNat sm))]) (rest := []) (lenOf pd_3 rfl) rfl (by show 2 * 0 + _ ≤ _; exact Nat.le_of_eq rfl) (hb hby d6_120) (fun _ _ => ⟨rfl, e22, (by decide : 0 + 0 ≤ _), (by decide : 0 + 0 ≤ _)⟩)
  dsimp only [Pt.U, Pt.locs, Pt.cells, Pt.slots] at X24 l24 y24 z24 st24 hQ24
  subst l24 y24 z24
  obtain ⟨rfl, N24q, e24⟩ := hQ24
  have N24 := Fr.app N22 N24q
  have pre25 : ∀ t, Steps p.tables e below (T24.setTop (mkF m 131 #[.val (.ref a1), .val (.ref a2), .val (.int (Int32.ofNat sm)), .val (.int bg), .val (.int z)] [(.int (Int32.ofNat sm)), (.int (12 : Int32)), (.ref a2), (.ref a1)])) t → Steps p.tables e below _ t := fun t kt => pre23 t (by
    show Steps p.tables e below (T22.setTop (mkF m 120 #[.val (.ref a1), .val (.ref a2), .val (.int (Int32.ofNat sm)), .val (.int bg), .val (.int z)] [(.int (Int32.ofNat sm)), (.int (11 : Int32)), (.ref a2), (.ref a1)])) _
    refine st24 _ ?_
    have hc123 : ¬ ((1 : Int32) = (0 : Int32)) := by decide
    refine XS.ifNo X24.here hx rfl (hb hby d6_123) rfl ((if0 _ _).trans (feq hc123).1) ?_
    refine XS.aloadN X24.here hx rfl (hb hby d6_126) rfl rfl ?_
    show Steps p.tables e below (T24.setTop (mkF m 127 #[.val (.ref a1), .val (.ref a2), .val (.int (Int32.ofNat sm)), .val (.int bg), .val (.int z)] [(.ref a1)])) _
    refine XS.aloadN X24.here hx rfl (hb hby d6_127) rfl rfl ?_
    refine XS.bipush X24.here hx rfl (hb hby d6_128) ?_
    refine XS.iloadN X24.here hx rfl (hb hby d6_130) rfl ?_
    exact kt)
  obtain ⟨_, _, ⟨T26, L26, k26, n26⟩, -, X26, ⟨Lc26, hQ26, l26, y26, z26⟩, st26⟩ := Jvm.LawKit.callS X24 hx (y := (⟨"com/example/haulway/haulway/io/RecordOutputToBytesPinLaw", "at", "([B[BII)Z"⟩ : MethodName)) hown (mvT hZ (hw _ (List.mem_of_getElem? (i := 35) rfl))) (mvT hZ (hw _ (List.mem_of_getElem? (i := 36) rfl))) (mvT hZ (hw _ (List.mem_of_getElem? (i := 33) rfl))) (mvT hZ (hw _ (List.mem_of_getElem? (i := 37) rfl))) (by decide) (backOf (W := 0) (rm7 l Z a0 hw [] a1 a2 n 13 12 sm f e_ h0 n0 Z0 B1 B2 hn (by decide) (by decide) (by omega) (fun q => ⟨by omega, by decide, hok 12 q⟩)) hZ (hw _ (List.mem_of_getElem? (i := 37) rfl)) (hw _ (List.mem_of_getElem? (i := 33) rfl)) (by decide) (by decide)) (g := (mkF m 131 #[.val (.ref a1), .val (.ref a2), .val (.int (Int32.ofNat sm)), .val (.int bg), .val (.int z)] [(.int (Int32.ofNat sm)), (.int (12 : Int32)), (.ref a2), (.ref a1)])) rfl (by rw [hml]; rfl) (argsL := [(.ref a1), (.ref a2), (.int (12 : Int32)), (.int (Int32.ofNat sm))]) (rest := []) (lenOf pd_3 rfl) rfl (by show 2 * 0 + _ ≤ _; exact Nat.le_of_eq rfl) (hb hby d6_131) (fun _ _ => ⟨rfl, e24, (by decide : 0 + 0 ≤ _), (by decide : 0 + 0 ≤ _)⟩)
  dsimp only [Pt.U, Pt.locs, Pt.cells, Pt.slots] at X26 l26 y26 z26 st26 hQ26
  subst l26 y26 z26
  obtain ⟨rfl, N26q, e26⟩ := hQ26
  have N26 := Fr.app N24 N26q
  have pre27 : ∀ t, Steps p.tables e below (T26.setTop (mkF m 140 #[.val (.ref a1), .val (.ref a2), .val (.int (Int32.ofNat sm)), .val (.int bg), .val (.int z)] [(.int bg)])) t → Steps p.tables e below _ t := fun t kt => pre25 t (by
    show Steps p.tables e below (T24.setTop (mkF m 131 #[.val (.ref a1), .val (.ref a2), .val (.int (Int32.ofNat sm)), .val (.int bg), .val (.int z)] [(.int (Int32.ofNat sm)), (.int (12 : Int32)), (.ref a2), (.ref a1)])) _
    refine st26 _ ?_
    have hc134 : ¬ ((1 : Int32) = (0 : Int32)) := by decide
    refine XS.ifYes X26.here hx rfl (pc0 := 134) (pc' := 139) rfl (hb hby d6_134) rfl ((if0 _ _).trans (feq hc134).2) (by decide) (by decide) ?_
    refine XS.iloadN X26.here hx rfl (hb hby d6_139) rfl ?_
    exact kt)
  by_cases hc140 : bg = (0 : Int32)
  · obtain ⟨fs, hr, hrun, hended, hW, hsame⟩ := X26.leave (v := some (.int (1 : Int32))) (fun h => by rw [Bd.returns] at h; cases h)
    refine ⟨_, _, pre27 _ ?_, hrun, hended, _, _, rfl, ?_, ⟨_, rfl⟩, hW, hsame.mono (by decide) (by decide)⟩
    · show Steps p.tables e below (T26.setTop (mkF m 140 #[.val (.ref a1), .val (.ref a2), .val (.int (Int32.ofNat sm)), .val (.int bg), .val (.int z)] [(.int bg)])) _
      refine XS.ifYes X26.here hx rfl (pc0 := 140) (pc' := 239) rfl (hb hby d6_140) rfl ((if0 _ _).trans (teq hc140).1) (by decide) (by decide) ?_
      refine XS.iconst X26.here hx rfl (hb hby d6_239) ?_
      show Steps p.tables e below (T26.setTop (mkF m 240 #[.val (.ref a1), .val (.ref a2), .val (.int (Int32.ofNat sm)), .val (.int bg), .val (.int z)] [(.int (1 : Int32))])) _
      exact retN X26 hx (t := .boolean) Bd.returns (by simp) (hb hby d6_240) hr
    · show Q6 Z  h0 n0 _ T26.heap _
      rw [e26]
      exact ⟨rfl, N26, rfl⟩
  · have pre28 : ∀ t, Steps p.tables e below (T26.setTop (mkF m 143 #[.val (.ref a1), .val (.ref a2), .val (.int (Int32.ofNat sm)), .val (.int bg), .val (.int z)] [])) t → Steps p.tables e below _ t := fun t kt => pre27 t (by
      show Steps p.tables e below (T26.setTop (mkF m 140 #[.val (.ref a1), .val (.ref a2), .val (.int (Int32.ofNat sm)), .val (.int bg), .val (.int z)] [(.int bg)])) _
      refine XS.ifNo X26.here hx rfl (hb hby d6_140) rfl ((if0 _ _).trans (feq hc140).1) ?_
      exact kt)
    obtain ⟨hnn, q0, q1, q2, q3, q4, q5, q34, q62, q63⟩ := hbig hc140
    obtain ⟨cl, Ar, Sz, Hf, Gf, Xf⟩ := id B1
    have pre29 : ∀ t, Steps p.tables e below (T26.setTop (mkF m 153 #[.val (.ref a1), .val (.ref a2), .val (.int (Int32.ofNat sm)), .val (.int bg), .val (.int z)] [(.int ((Int32.ofNat sm) + (1 : Int32))), (.ref a1)])) t → Steps p.tables e below _ t := fun t kt => pre28 t (by
      show Steps p.tables e below (T26.setTop (mkF m 143 #[.val (.ref a1), .val (.ref a2), .val (.int (Int32.ofNat sm)), .val (.int bg), .val (.int z)] [])) _
      refine XS.aloadN X26.here hx rfl (hb hby d6_143) rfl rfl ?_
      refine XS.iloadN X26.here hx rfl (hb hby d6_144) rfl ?_
      refine X26.baloadBytes hx (j := (Int32.ofNat sm)) (v := (.int (f sm))) (by rw [e26]; exact Ar.1) (State.isArrayOf_alike hZ.alike Ar.2.1) Ar.2.2 (within (c := sm) rfl (by omega) (by omega)) (by rw [clamp_of (c := sm) rfl (by omega)]; exact Hf _ (by omega)) (g := (mkF m 145 #[.val (.ref a1), .val (.ref a2), .val (.int (Int32.ofNat sm)), .val (.int bg), .val (.int z)] [(.int (Int32.ofNat sm)), (.ref a1)])) rfl rfl (hb hby d6_145) _ ?_
      have hc146 : (f sm) = (0 : Int32) := q0
      show Steps p.tables e below (T26.setTop (mkF m 146 #[.val (.ref a1), .val (.ref a2), .val (.int (Int32.ofNat sm)), .val (.int bg), .val (.int z)] [(.int (f sm))])) _
      refine XS.ifNo X26.here hx rfl (hb hby d6_146) rfl ((if0 _ _).trans (teq hc146).2) ?_
      refine XS.aloadN X26.here hx rfl (hb hby d6_149) rfl rfl ?_
      refine XS.iloadN X26.here hx rfl (hb hby d6_150) rfl ?_
      show Steps p.tables e below (T26.setTop (mkF m 151 #[.val (.ref a1), .val (.ref a2), .val (.int (Int32.ofNat sm)), .val (.int bg), .val (.int z)] [(.int (Int32.ofNat sm)), (.ref a1)])) _
      refine XS.iconst X26.here hx rfl (hb hby d6_151) ?_
      refine XS.iadd X26.here hx rfl (hb hby d6_152) rfl ?_
      exact kt)
    have hv30 : ((Int32.ofNat sm) + (1 : Int32)) = (Int32.ofNat (sm + 1)) := own_add sm 1
    rw [hv30] at pre29
    have pre31 : ∀ t, Steps p.tables e below (T26.setTop (mkF m 161 #[.val (.ref a1), .val (.ref a2), .val (.int (Int32.ofNat sm)), .val (.int bg), .val (.int z)] [(.int ((Int32.ofNat sm) + (2 : Int32))), (.ref a1)])) t → Steps p.tables e below _ t := fun t kt => pre29 t (by
      show Steps p.tables e below (T26.setTop (mkF m 153 #[.val (.ref a1), .val (.ref a2), .val (.int (Int32.ofNat sm)), .val (.int bg), .val (.int z)] [(.int (Int32.ofNat (sm + 1))), (.ref a1)])) _
      refine X26.baloadBytes hx (j := (Int32.ofNat (sm + 1))) (v := (.int (f (sm + 1)))) (by rw [e26]; exact Ar.1) (State.isArrayOf_alike hZ.alike Ar.2.1) Ar.2.2 (within (c := (sm + 1)) rfl (by omega) (by omega)) (by rw [clamp_of (c := (sm + 1)) rfl (by omega)]; exact Hf _ (by omega)) (g := (mkF m 153 #[.val (.ref a1), .val (.ref a2), .val (.int (Int32.ofNat sm)), .val (.int bg), .val (.int z)] [(.int (Int32.ofNat (sm + 1))), (.ref a1)])) rfl rfl (hb hby d6_153) _ ?_
      have hc154 : (f (sm + 1)) = (0 : Int32) := q1
      refine XS.ifNo X26.here hx rfl (hb hby d6_154) rfl ((if0 _ _).trans (teq hc154).2) ?_
      refine XS.aloadN X26.here hx rfl (hb hby d6_157) rfl rfl ?_
      show Steps p.tables e below (T26.setTop (mkF m 158 #[.val (.ref a1), .val (.ref a2), .val (.int (Int32.ofNat sm)), .val (.int bg), .val (.int z)] [(.ref a1)])) _
      refine XS.iloadN X26.here hx rfl (hb hby d6_158) rfl ?_
      refine XS.iconst X26.here hx rfl (hb hby d6_159) ?_
      refine XS.iadd X26.here hx rfl (hb hby d6_160) rfl ?_
      exact kt)
    have hv32 : ((Int32.ofNat sm) + (2 : Int32)) = (Int32.ofNat (sm + 2)) := own_add sm 2
    rw [hv32] at pre31
    have pre33 : ∀ t, Steps p.tables e below (T26.setTop (mkF m 169 #[.val (.ref a1), .val (.ref a2), .val (.int (Int32.ofNat sm)), .val (.int bg), .val (.int z)] [(.int ((Int32.ofNat sm) + (3 : Int32))), (.ref a1)])) t → Steps p.tables e below _ t := fun t kt => pre31 t (by
      show Steps p.tables e below (T26.setTop (mkF m 161 #[.val (.ref a1), .val (.ref a2), .val (.int (Int32.ofNat sm)), .val (.int bg), .val (.int z)] [(.int (Int32.ofNat (sm + 2))), (.ref a1)])) _
      refine X26.baloadBytes hx (j := (Int32.ofNat (sm + 2))) (v := (.int (f (sm + 2)))) (by rw [e26]; exact Ar.1) (State.isArrayOf_alike hZ.alike Ar.2.1) Ar.2.2 (within (c := (sm + 2)) rfl (by omega) (by omega)) (by rw [clamp_of (c := (sm + 2)) rfl (by omega)]; exact Hf _ (by omega)) (g := (mkF m 161 #[.val (.ref a1), .val (.ref a2), .val (.int (Int32.ofNat sm)), .val (.int bg), .val (.int z)] [(.int (Int32.ofNat (sm + 2))), (.ref a1)])) rfl rfl (hb hby d6_161) _ ?_
      have hc162 : (f (sm + 2)) = (0 : Int32) := q2
      refine XS.ifNo X26.here hx rfl (hb hby d6_162) rfl ((if0 _ _).trans (teq hc162).2) ?_
      refine XS.aloadN X26.here hx rfl (hb hby d6_165) rfl rfl ?_
      show Steps p.tables e below (T26.setTop (mkF m 166 #[.val (.ref a1), .val (.ref a2), .val (.int (Int32.ofNat sm)), .val (.int bg), .val (.int z)] [(.ref a1)])) _
      refine XS.iloadN X26.here hx rfl (hb hby d6_166) rfl ?_
      refine XS.iconst X26.here hx rfl (hb hby d6_167) ?_
      refine XS.iadd X26.here hx rfl (hb hby d6_168) rfl ?_
      exact kt)
    have hv34 : ((Int32.ofNat sm) + (3 : Int32)) = (Int32.ofNat (sm + 3)) := own_add sm 3
    rw [hv34] at pre33
    have pre35 : ∀ t, Steps p.tables e below (T26.setTop (mkF m 179 #[.val (.ref a1), .val (.ref a2), .val (.int (Int32.ofNat sm)), .val (.int bg), .val (.int z)] [(.int ((Int32.ofNat sm) + (4 : Int32))), (.ref a1)])) t → Steps p.tables e below _ t := fun t kt => pre33 t (by
      show Steps p.tables e below (T26.setTop (mkF m 169 #[.val (.ref a1), .val (.ref a2), .val (.int (Int32.ofNat sm)), .val (.int bg), .val (.int z)] [(.int (Int32.ofNat (sm + 3))), (.ref a1)])) _
      refine X26.baloadBytes hx (j := (Int32.ofNat (sm + 3))) (v := (.int (f (sm + 3)))) (by rw [e26]; exact Ar.1) (State.isArrayOf_alike hZ.alike Ar.2.1) Ar.2.2 (within (c := (sm + 3)) rfl (by omega) (by omega)) (by rw [clamp_of (c := (sm + 3)) rfl (by omega)]; exact Hf _ (by omega)) (g := (mkF m 169 #[.val (.ref a1), .val (.ref a2), .val (.int (Int32.ofNat sm)), .val (.int bg), .val (.int z)] [(.int (Int32.ofNat (sm + 3))), (.ref a1)])) rfl rfl (hb hby d6_169) _ ?_
      refine XS.bipush X26.here hx rfl (hb hby d6_170) ?_
      have hc172 : (f (sm + 3)) = (60 : Int32) := q3
      refine XS.icmpNo X26.here hx rfl (hb hby d6_172) rfl (teq hc172).2 ?_
      show Steps p.tables e below (T26.setTop (mkF m 175 #[.val (.ref a1), .val (.ref a2), .val (.int (Int32.ofNat sm)), .val (.int bg), .val (.int z)] [])) _
      refine XS.aloadN X26.here hx rfl (hb hby d6_175) rfl rfl ?_
      refine XS.iloadN X26.here hx rfl (hb hby d6_176) rfl ?_
      refine XS.iconst X26.here hx rfl (hb hby d6_177) ?_
      show Steps p.tables e below (T26.setTop (mkF m 178 #[.val (.ref a1), .val (.ref a2), .val (.int (Int32.ofNat sm)), .val (.int bg), .val (.int z)] [(.int (4 : Int32)), (.int (Int32.ofNat sm)), (.ref a1)])) _
      refine XS.iadd X26.here hx rfl (hb hby d6_178) rfl ?_
      exact kt)
    have hv36 : ((Int32.ofNat sm) + (4 : Int32)) = (Int32.ofNat (sm + 4)) := own_add sm 4
    rw [hv36] at pre35
    have pre37 : ∀ t, Steps p.tables e below (T26.setTop (mkF m 190 #[.val (.ref a1), .val (.ref a2), .val (.int (Int32.ofNat sm)), .val (.int bg), .val (.int z)] [(.int ((Int32.ofNat sm) + (5 : Int32))), (.ref a1)])) t → Steps p.tables e below _ t := fun t kt => pre35 t (by
      show Steps p.tables e below (T26.setTop (mkF m 179 #[.val (.ref a1), .val (.ref a2), .val (.int (Int32.ofNat sm)), .val (.int bg), .val (.int z)] [(.int (Int32.ofNat (sm + 4))), (.ref a1)])) _
      refine X26.baloadBytes hx (j := (Int32.ofNat (sm + 4))) (v := (.int (f (sm + 4)))) (by rw [e26]; exact Ar.1) (State.isArrayOf_alike hZ.alike Ar.2.1) Ar.2.2 (within (c := (sm + 4)) rfl (by omega) (by omega)) (by rw [clamp_of (c := (sm + 4)) rfl (by omega)]; exact Hf _ (by omega)) (g := (mkF m 179 #[.val (.ref a1), .val (.ref a2), .val (.int (Int32.ofNat sm)), .val (.int bg), .val (.int z)] [(.int (Int32.ofNat (sm + 4))), (.ref a1)])) rfl rfl (hb hby d6_179) _ ?_
      refine XS.iload X26.here hx rfl (hb hby d6_180) rfl ?_
      refine XS.i2b X26.here hx rfl (hb hby d6_182) rfl ?_
      have hc183 : (f (sm + 4)) = (z.toInt8.toInt32) := q4
      show Steps p.tables e below (T26.setTop (mkF m 183 #[.val (.ref a1), .val (.ref a2), .val (.int (Int32.ofNat sm)), .val (.int bg), .val (.int z)] [(.int (z.toInt8.toInt32)), (.int (f (sm + 4)))])) _
      refine XS.icmpNo X26.here hx rfl (hb hby d6_183) rfl (teq hc183).2 ?_
      refine XS.aloadN X26.here hx rfl (hb hby d6_186) rfl rfl ?_
      refine XS.iloadN X26.here hx rfl (hb hby d6_187) rfl ?_
      show Steps p.tables e below (T26.setTop (mkF m 188 #[.val (.ref a1), .val (.ref a2), .val (.int (Int32.ofNat sm)), .val (.int bg), .val (.int z)] [(.int (Int32.ofNat sm)), (.ref a1)])) _
      refine XS.iconst X26.here hx rfl (hb hby d6_188) ?_
      refine XS.iadd X26.here hx rfl (hb hby d6_189) rfl ?_
      exact kt)
    have hv38 : ((Int32.ofNat sm) + (5 : Int32)) = (Int32.ofNat (sm + 5)) := own_add sm 5
    rw [hv38] at pre37
    have pre39 : ∀ t, Steps p.tables e below (T26.setTop (mkF m 199 #[.val (.ref a1), .val (.ref a2), .val (.int (Int32.ofNat sm)), .val (.int bg), .val (.int z)] [(.int ((Int32.ofNat sm) + (34 : Int32))), (.ref a1)])) t → Steps p.tables e below _ t := fun t kt => pre37 t (by
      show Steps p.tables e below (T26.setTop (mkF m 190 #[.val (.ref a1), .val (.ref a2), .val (.int (Int32.ofNat sm)), .val (.int bg), .val (.int z)] [(.int (Int32.ofNat (sm + 5))), (.ref a1)])) _
      refine X26.baloadBytes hx (j := (Int32.ofNat (sm + 5))) (v := (.int (f (sm + 5)))) (by rw [e26]; exact Ar.1) (State.isArrayOf_alike hZ.alike Ar.2.1) Ar.2.2 (within (c := (sm + 5)) rfl (by omega) (by omega)) (by rw [clamp_of (c := (sm + 5)) rfl (by omega)]; exact Hf _ (by omega)) (g := (mkF m 190 #[.val (.ref a1), .val (.ref a2), .val (.int (Int32.ofNat sm)), .val (.int bg), .val (.int z)] [(.int (Int32.ofNat (sm + 5))), (.ref a1)])) rfl rfl (hb hby d6_190) _ ?_
      have hc191 : (f (sm + 5)) = (0 : Int32) := q5
      refine XS.ifNo X26.here hx rfl (hb hby d6_191) rfl ((if0 _ _).trans (teq hc191).2) ?_
      refine XS.aloadN X26.here hx rfl (hb hby d6_194) rfl rfl ?_
      show Steps p.tables e below (T26.setTop (mkF m 195 #[.val (.ref a1), .val (.ref a2), .val (.int (Int32.ofNat sm)), .val (.int bg), .val (.int z)] [(.ref a1)])) _
      refine XS.iloadN X26.here hx rfl (hb hby d6_195) rfl ?_
      refine XS.bipush X26.here hx rfl (hb hby d6_196) ?_
      refine XS.iadd X26.here hx rfl (hb hby d6_198) rfl ?_
      exact kt)
    have hv40 : ((Int32.ofNat sm) + (34 : Int32)) = (Int32.ofNat (sm + 34)) := own_add sm 34
    rw [hv40] at pre39
    have pre41 : ∀ t, Steps p.tables e below (T26.setTop (mkF m 214 #[.val (.ref a1), .val (.ref a2), .val (.int (Int32.ofNat sm)), .val (.int bg), .val (.int z)] [(.int ((Int32.ofNat sm) + (62 : Int32))), (.ref a1)])) t → Steps p.tables e below _ t := fun t kt => pre39 t (by
      show Steps p.tables e below (T26.setTop (mkF m 199 #[.val (.ref a1), .val (.ref a2), .val (.int (Int32.ofNat sm)), .val (.int bg), .val (.int z)] [(.int (Int32.ofNat (sm + 34))), (.ref a1)])) _
      refine X26.baloadBytes hx (j := (Int32.ofNat (sm + 34))) (v := (.int (f (sm + 34)))) (by rw [e26]; exact Ar.1) (State.isArrayOf_alike hZ.alike Ar.2.1) Ar.2.2 (within (c := (sm + 34)) rfl (by omega) (by omega)) (by rw [clamp_of (c := (sm + 34)) rfl (by omega)]; exact Hf _ (by omega)) (g := (mkF m 199 #[.val (.ref a1), .val (.ref a2), .val (.int (Int32.ofNat sm)), .val (.int bg), .val (.int z)] [(.int (Int32.ofNat (sm + 34))), (.ref a1)])) rfl rfl (hb hby d6_199) _ ?_
      refine XS.iload X26.here hx rfl (hb hby d6_200) rfl ?_
      refine XS.bipush X26.here hx rfl (hb hby d6_202) ?_
      show Steps p.tables e below (T26.setTop (mkF m 204 #[.val (.ref a1), .val (.ref a2), .val (.int (Int32.ofNat sm)), .val (.int bg), .val (.int z)] [(.int (16 : Int32)), (.int z), (.int (f (sm + 34)))])) _
      refine XS.iushr X26.here hx rfl (hb hby d6_204) rfl ?_
      refine XS.i2b X26.here hx rfl (hb hby d6_205) rfl ?_
      have hc206 : (f (sm + 34)) = (((z.toUInt32 >>> ((16 : Int32) &&& 31).toUInt32).toInt32).toInt8.toInt32) := q34
      refine XS.icmpNo X26.here hx rfl (hb hby d6_206) rfl (teq hc206).2 ?_
      show Steps p.tables e below (T26.setTop (mkF m 209 #[.val (.ref a1), .val (.ref a2), .val (.int (Int32.ofNat sm)), .val (.int bg), .val (.int z)] [])) _
      refine XS.aloadN X26.here hx rfl (hb hby d6_209) rfl rfl ?_
      refine XS.iloadN X26.here hx rfl (hb hby d6_210) rfl ?_
      refine XS.bipush X26.here hx rfl (hb hby d6_211) ?_
      show Steps p.tables e below (T26.setTop (mkF m 213 #[.val (.ref a1), .val (.ref a2), .val (.int (Int32.ofNat sm)), .val (.int bg), .val (.int z)] [(.int (62 : Int32)), (.int (Int32.ofNat sm)), (.ref a1)])) _
      refine XS.iadd X26.here hx rfl (hb hby d6_213) rfl ?_
      exact kt)
    have hv42 : ((Int32.ofNat sm) + (62 : Int32)) = (Int32.ofNat (sm + 62)) := own_add sm 62
    rw [hv42] at pre41
    have pre43 : ∀ t, Steps p.tables e below (T26.setTop (mkF m 223 #[.val (.ref a1), .val (.ref a2), .val (.int (Int32.ofNat sm)), .val (.int bg), .val (.int z)] [(.int ((Int32.ofNat sm) + (63 : Int32))), (.ref a1)])) t → Steps p.tables e below _ t := fun t kt => pre41 t (by
      show Steps p.tables e below (T26.setTop (mkF m 214 #[.val (.ref a1), .val (.ref a2), .val (.int (Int32.ofNat sm)), .val (.int bg), .val (.int z)] [(.int (Int32.ofNat (sm + 62))), (.ref a1)])) _
      refine X26.baloadBytes hx (j := (Int32.ofNat (sm + 62))) (v := (.int (f (sm + 62)))) (by rw [e26]; exact Ar.1) (State.isArrayOf_alike hZ.alike Ar.2.1) Ar.2.2 (within (c := (sm + 62)) rfl (by omega) (by omega)) (by rw [clamp_of (c := (sm + 62)) rfl (by omega)]; exact Hf _ (by omega)) (g := (mkF m 214 #[.val (.ref a1), .val (.ref a2), .val (.int (Int32.ofNat sm)), .val (.int bg), .val (.int z)] [(.int (Int32.ofNat (sm + 62))), (.ref a1)])) rfl rfl (hb hby d6_214) _ ?_
      have hc215 : (f (sm + 62)) = (0 : Int32) := q62
      refine XS.ifNo X26.here hx rfl (hb hby d6_215) rfl ((if0 _ _).trans (teq hc215).2) ?_
      refine XS.aloadN X26.here hx rfl (hb hby d6_218) rfl rfl ?_
      show Steps p.tables e below (T26.setTop (mkF m 219 #[.val (.ref a1), .val (.ref a2), .val (.int (Int32.ofNat sm)), .val (.int bg), .val (.int z)] [(.ref a1)])) _
      refine XS.iloadN X26.here hx rfl (hb hby d6_219) rfl ?_
      refine XS.bipush X26.here hx rfl (hb hby d6_220) ?_
      refine XS.iadd X26.here hx rfl (hb hby d6_222) rfl ?_
      exact kt)
    have hv44 : ((Int32.ofNat sm) + (63 : Int32)) = (Int32.ofNat (sm + 63)) := own_add sm 63
    rw [hv44] at pre43
    obtain ⟨fs, hr, hrun, hended, hW, hsame⟩ := X26.leave (v := some (.int (1 : Int32))) (fun h => by rw [Bd.returns] at h; cases h)
    refine ⟨_, _, pre43 _ ?_, hrun, hended, _, _, rfl, ?_, ⟨_, rfl⟩, hW, hsame.mono (by decide) (by decide)⟩
    · show Steps p.tables e below (T26.setTop (mkF m 223 #[.val (.ref a1), .val (.ref a2), .val (.int (Int32.ofNat sm)), .val (.int bg), .val (.int z)] [(.int (Int32.ofNat (sm + 63))), (.ref a1)])) _
      refine X26.baloadBytes hx (j := (Int32.ofNat (sm + 63))) (v := (.int (f (sm + 63)))) (by rw [e26]; exact Ar.1) (State.isArrayOf_alike hZ.alike Ar.2.1) Ar.2.2 (within (c := (sm + 63)) rfl (by omega) (by omega)) (by rw [clamp_of (c := (sm + 63)) rfl (by omega)]; exact Hf _ (by omega)) (g := (mkF m 223 #[.val (.ref a1), .val (.ref a2), .val (.int (Int32.ofNat sm)), .val (.int bg), .val (.int z)] [(.int (Int32.ofNat (sm + 63))), (.ref a1)])) rfl rfl (hb hby d6_223) _ ?_
      refine XS.iload X26.here hx rfl (hb hby d6_224) rfl ?_
      refine XS.bipush X26.here hx rfl (hb hby d6_226) ?_
      show Steps p.tables e below (T26.setTop (mkF m 228 #[.val (.ref a1), .val (.ref a2), .val (.int (Int32.ofNat sm)), .val (.int bg), .val (.int z)] [(.int (8 : Int32)), (.int z), (.int (f (sm + 63)))])) _
      refine XS.iushr X26.here hx rfl (hb hby d6_228) rfl ?_
      refine XS.i2b X26.here hx rfl (hb hby d6_229) rfl ?_
      have hc230 : (f (sm + 63)) = (((z.toUInt32 >>> ((8 : Int32) &&& 31).toUInt32).toInt32).toInt8.toInt32) := q63
      refine XS.icmpNo X26.here hx rfl (hb hby d6_230) rfl (teq hc230).2 ?_
      show Steps p.tables e below (T26.setTop (mkF m 233 #[.val (.ref a1), .val (.ref a2), .val (.int (Int32.ofNat sm)), .val (.int bg), .val (.int z)] [])) _
      refine XS.iconst X26.here hx rfl (hb hby d6_233) ?_
      refine XS.goto X26.here hx rfl (pc0 := 234) (pc' := 238) rfl (hb hby d6_234) (by decide) (by decide) ?_
      show Steps p.tables e below (T26.setTop (mkF m 238 #[.val (.ref a1), .val (.ref a2), .val (.int (Int32.ofNat sm)), .val (.int bg), .val (.int z)] [(.int (1 : Int32))])) _
      exact retN X26 hx (t := .boolean) Bd.returns (by simp) (hb hby d6_238) hr
    · show Q6 Z  h0 n0 _ T26.heap _
      rw [e26]
      exact ⟨rfl, N26, rfl⟩
theorem pn_12 : plainName "com/example/haulway/haulway/io/RecordOutput" = true := by first | (simp [plainName, overriddenIn]; done) | decide +kernel
theorem ef_12 (m : MethodId) (x0 : Addr) (x1 : Addr) : entryFrame m #[(.ref x0), (.ref x1)] 2 = mkF m 0 #[.val (.ref x0), .val (.ref x1)] [] := by first | (simp [entryFrame, mkF, argsToLocals, Value.category]; done) | rfl
theorem d12_0 : decode prog_72_method_6_code 0 = .ok (.aload_n 0, 1) := by decide +kernel
theorem d12_1 : decode prog_72_method_6_code 1 = .ok (.aload_n 1, 1) := by decide +kernel
theorem d12_2 : decode prog_72_method_6_code 2 = .ok (.arraylength, 1) := by decide +kernel
theorem pd_4 : parseMethodDescriptor "(I)Lcom/example/haulway/haulway/io/RecordOutput;" = some ⟨[.int], some (.object "com/example/haulway/haulway/io/RecordOutput")⟩ := by decide +kernel
theorem d12_3 : decode prog_72_method_6_code 3 = .ok (.invokevirtual 36, 3) := by decide +kernel
theorem d12_6 : decode prog_72_method_6_code 6 = .ok (.pop, 1) := by decide +kernel
theorem d12_7 : decode prog_72_method_6_code 7 = .ok (.aload_n 0, 1) := by decide +kernel
theorem d12_8 : decode prog_72_method_6_code 8 = .ok (.aload_n 1, 1) := by decide +kernel
theorem d12_9 : decode prog_72_method_6_code 9 = .ok (.arraylength, 1) := by decide +kernel
theorem d12_10 : decode prog_72_method_6_code 10 = .ok (.invokevirtual 24, 3) := by decide +kernel
theorem d12_13 : decode prog_72_method_6_code 13 = .ok (.aload_n 1, 1) := by decide +kernel
theorem d12_14 : decode prog_72_method_6_code 14 = .ok (.iconst 0, 1) := by decide +kernel
theorem d12_15 : decode prog_72_method_6_code 15 = .ok (.aload_n 0, 1) := by decide +kernel
theorem d12_16 : decode prog_72_method_6_code 16 = .ok (.getfield 7, 3) := by decide +kernel
theorem d12_19 : decode prog_72_method_6_code 19 = .ok (.aload_n 0, 1) := by decide +kernel
theorem d12_20 : decode prog_72_method_6_code 20 = .ok (.getfield 30, 3) := by decide +kernel
theorem d12_23 : decode prog_72_method_6_code 23 = .ok (.aload_n 1, 1) := by decide +kernel
theorem d12_24 : decode prog_72_method_6_code 24 = .ok (.arraylength, 1) := by decide +kernel
theorem d12_25 : decode prog_72_method_6_code 25 = .ok (.invokestatic 40, 3) := by decide +kernel
theorem d12_28 : decode prog_72_method_6_code 28 = .ok (.aload_n 0, 1) := by decide +kernel
theorem d12_29 : decode prog_72_method_6_code 29 = .ok (.dup, 1) := by decide +kernel
theorem d12_30 : decode prog_72_method_6_code 30 = .ok (.getfield 30, 3) := by decide +kernel
theorem d12_33 : decode prog_72_method_6_code 33 = .ok (.aload_n 1, 1) := by decide +kernel
theorem d12_34 : decode prog_72_method_6_code 34 = .ok (.arraylength, 1) := by decide +kernel
theorem d12_35 : decode prog_72_method_6_code 35 = .ok (.iadd, 1) := by decide +kernel
theorem d12_36 : decode prog_72_method_6_code 36 = .ok (.putfield 30, 3) := by decide +kernel
theorem d12_39 : decode prog_72_method_6_code 39 = .ok (.aload_n 0, 1) := by decide +kernel
theorem d12_40 : decode prog_72_method_6_code 40 = .ok (.areturn, 1) := by decide +kernel
def Q12 (Z : State) (a1 bb : Addr) (cap len : Nat) (f g : Nat → Int32) (h0 : Heap) (n0 : Nat) (r : Option Value) (h : Heap) (L : List Loc) : Prop := r = some (.ref a1) ∧ Fr n0 L ∧ Keep h0 h [a1, bb] ∧ Exa Z h a1 "com/example/haulway/haulway/io/RecordOutput" ∧ Fld Z h a1 "com/example/haulway/haulway/io/RecordOutput" "bytes" "[B" (.ref bb) ∧ Fld Z h a1 "com/example/haulway/haulway/io/RecordOutput" "length" "I" (.int (Int32.ofNat (len + 64))) ∧ own_B Z h bb cap (own_cpf g (own_p4 f len 60) (len + 4) 60)
set_option maxRecDepth 65536 in
set_option maxHeartbeats 40000000 in
theorem rm12 (l : Launch) (Z : State) (a0 : Array Value) (hw : ∀ d ∈ tables_1, d.before a0 Z = true) (ws : List Jvm.Cond) (a1 : Addr) (a2 : Addr) (bb : Addr) (cap : Nat) (len : Nat) (f : Nat → Int32) (g : Nat → Int32) (h0 : Heap) (n0 : Nat) (Z0 : n0 ≤ h0.size) (E1 : Exa Z h0 a1 "com/example/haulway/haulway/io/RecordOutput") (F1 : Fld Z h0 a1 "com/example/haulway/haulway/io/RecordOutput" "bytes" "[B" (.ref bb)) (F2 : Fld Z h0 a1 "com/example/haulway/haulway/io/RecordOutput" "length" "I" (.int (Int32.ofNat len))) (B1 : own_B Z h0 bb cap f) (B2 : own_B Z h0 a2 60 g) (ne1 : a1 ≠ bb) (n21 : a2 ≠ a1) (n2b : a2 ≠ bb) (g1 : n0 ≤ a1) (g2 : n0 ≤ bb) (hcap : cap ≤ 128) (hl : len + 64 ≤ cap) :
    MetFree l (⟨"com/example/haulway/haulway/io/RecordOutput", "putBytes", "([B)Lcom/example/haulway/haulway/io/RecordOutput;"⟩ : MethodName) (head1 (Jvm.Cond.code (⟨"com/example/haulway/haulway/io/RecordOutput", "putBytes", "([B)Lcom/example/haulway/haulway/io/RecordOutput;"⟩ : MethodName) prog_72_method_6_code 2 (some (.object "com/example/haulway/haulway/io/RecordOutput")) :: ws) ({ frames := 2, cells := 0, slots := 0, locals := 40 } : Room)) (fun aa_ U => aa_ = #[(.ref a1), (.ref a2)] ∧ Z.Warmed39 U.vm ∧ U.heap = h0) (fun _ _ _ _ _ => True) (fun _ U o U' => ∃ v_ L_, o = .returned v_ ∧ Q12 Z a1 bb cap len f g h0 n0 v_ U'.heap L_ ∧ FrameEnd U o U' L_ ({ frames := 2, cells := 0, slots := 0, locals := 40 } : Room).cells ({ frames := 2, cells := 0, slots := 0, locals := 40 } : Room).slots) := by
  refine MetFree.of_bodySF (plainFor_of_name pn_12) hisR ?_
  intro p e s m args below meth c s₁ Bd hml0 hP hK
  obtain ⟨rfl, hZ, hh⟩ := hP
  have hx := Bd.exec
  have hby := Bd.bytes
  have hml : c.maxLocals = 2 := hml0
  have hown : s.vm.findClass "com/example/haulway/haulway/io/RecordOutput" = some m.cls := findClass_of_methodNamed Bd.named
  have hnm := (name_of_methodNamed Bd.named Bd.method).1
  have X0 : Stand p l e ({ frames := 2, cells := 0, slots := 0, locals := 40 } : Room) s m #[(.ref a1), (.ref a2)] below meth c s₁ [] 0 0 := Stand.of_body Bd
  have e0 : s₁.heap = h0 := by rw [← hh, Bd.state]; rfl
  have N0 := Fr.nil n0
  have pre0 : ∀ t, Steps p.tables e below (s₁.setTop (mkF m 0 #[.val (.ref a1), .val (.ref a2)] [])) t → Steps p.tables e below (s₁.setTop (entryFrame m #[(.ref a1), (.ref a2)] 2)) t := fun t k_ => castTop (ef_12 m a1 a2) k_
  obtain ⟨cl, Ar, Sz, Hf, Gf, Xf⟩ := id B2
  have B2 : own_B Z h0 a2 60 g := ⟨cl, Ar, Sz, Hf, Gf, Xf⟩
  have i1 : a2 ∉ [a1, bb] := ninS n21 (ninS n2b nin0)
  have i2 : a2 ∉ [a1] := ninS n21 nin0
  have pre1 : ∀ t, Steps p.tables e below (s₁.setTop (mkF m 3 #[.val (.ref a1), .val (.ref a2)] [(.int (60 : Int32)), (.ref a1)])) t → Steps p.tables e below _ t := fun t kt => pre0 t (by
    show Steps p.tables e below (s₁.setTop (mkF m 0 #[.val (.ref a1), .val (.ref a2)] [])) _
    refine XS.aloadN X0.here hx rfl (hb hby d12_0) rfl rfl ?_
    refine XS.aloadN X0.here hx rfl (hb hby d12_1) rfl rfl ?_
    refine X0.arraylength hx (by rw [e0]; exact Ar.1) (State.isArrayOf_alike hZ.alike Ar.2.1) (g := (mkF m 2 #[.val (.ref a1), .val (.ref a2)] [(.ref a2), (.ref a1)])) rfl rfl (hb hby d12_2) _ ?_
    rw [len_of (by rw [Sz]; rfl : cl.slots.size = (60 : Int32).toNatClampNeg) (by decide)]
    exact kt)
  obtain ⟨cq2, kq2, q2a, q2b, q2c⟩ := isOf hZ e0 E1
  obtain ⟨_, _, ⟨T2, L2, k2, n2⟩, -, X2, ⟨Lc2, hQ2, l2, y2, z2⟩, st2⟩ := X0.virtualBack hx (y := (⟨"com/example/haulway/haulway/io/RecordOutput", "putInt", "(I)Lcom/example/haulway/haulway/io/RecordOutput;"⟩ : MethodName)) (z := (⟨"com/example/haulway/haulway/io/RecordOutput", "putInt", "(I)Lcom/example/haulway/haulway/io/RecordOutput;"⟩ : MethodName)) hown (mvT hZ (hw _ (List.mem_of_getElem? (i := 60) rfl))) (mvT hZ (hw _ (List.mem_of_getElem? (i := 39) rfl))) (notFace_of_selects (args := #[]) (mvT hZ (hw _ (List.mem_of_getElem? (i := 41) rfl)))) (mvT hZ (hw _ (List.mem_of_getElem? (i := 41) rfl))) (mvT hZ (hw _ (List.mem_of_getElem? (i := 40) rfl))) (by decide) (backOf (W := 0) (rm8 l Z a0 hw [] a1 bb cap len f (60 : Int32) h0 n0 Z0 E1 F1 F2 B1 (by omega) (by omega) ne1 g1 g2) hZ (hw _ (List.mem_of_getElem? (i := 42) rfl)) (hw _ (List.mem_of_getElem? (i := 3) rfl)) (by decide) (by decide)) q2a q2c (g := (mkF m 3 #[.val (.ref a1), .val (.ref a2)] [(.int (60 : Int32)), (.ref a1)])) rfl (by rw [hml]; rfl) (Steps.refl _) (argsL := [(.int (60 : Int32))]) (rest := []) (lenOf pd_4 rfl) rfl (by show 2 * 0 + _ ≤ _; exact Nat.le_of_eq rfl) (hb hby d12_3) (fun _ _ => ⟨rfl, e0, (by decide : 0 + 0 ≤ _), (by decide : 0 + 0 ≤ _)⟩)
  dsimp only [Pt.U, Pt.locs, Pt.cells, Pt.slots] at X2 l2 y2 z2 st2 hQ2
  subst l2 y2 z2
  obtain ⟨rfl, N2q, Ka, Ea, Fa1, Fa2, Ba⟩ := hQ2
  have N2 := Fr.app N0 N2q
  have Za : n0 ≤ T2.heap.size := Nat.le_trans Z0 Ka.1
  have ArA : Arr Z T2.heap a2 cl .byte := ⟨Ka.2.1 a2 cl Ar.1 i1, Ar.2⟩
  have B2a := own_B_keep B2 Ka i1
  have pre3 : ∀ t, Steps p.tables e below (T2.setTop (mkF m 10 #[.val (.ref a1), .val (.ref a2)] [(.int (60 : Int32)), (.ref a1)])) t → Steps p.tables e below _ t := fun t kt => pre1 t (by
    show Steps p.tables e below (s₁.setTop (mkF m 3 #[.val (.ref a1), .val (.ref a2)] [(.int (60 : Int32)), (.ref a1)])) _
    refine st2.trans ?_
    refine XS.pop X2.here hx rfl (hb hby d12_6) rfl rfl ?_
    refine XS.aloadN X2.here hx rfl (hb hby d12_7) rfl rfl ?_
    show Steps p.tables e below (T2.setTop (mkF m 8 #[.val (.ref a1), .val (.ref a2)] [(.ref a1)])) _
    refine XS.aloadN X2.here hx rfl (hb hby d12_8) rfl rfl ?_
    refine X2.arraylength hx ArA.1 (State.isArrayOf_alike hZ.alike ArA.2.1) (g := (mkF m 9 #[.val (.ref a1), .val (.ref a2)] [(.ref a2), (.ref a1)])) rfl rfl (hb hby d12_9) _ ?_
    rw [len_of (by rw [Sz]; rfl : cl.slots.size = (60 : Int32).toNatClampNeg) (by decide)]
    exact kt)
  obtain ⟨cq4, q4, q4'⟩ := Ea.cell
  obtain ⟨_, _, ⟨T4, L4, k4, n4⟩, -, X4, ⟨Lc4, hQ4, l4, y4, z4⟩, st4⟩ := X2.privateBack hx (y := (⟨"com/example/haulway/haulway/io/RecordOutput", "room", "(I)V"⟩ : MethodName)) hown (mvT hZ (hw _ (List.mem_of_getElem? (i := 43) rfl))) (mvT hZ (hw _ (List.mem_of_getElem? (i := 44) rfl))) (mvT hZ (own_sel (y := (⟨"com/example/haulway/haulway/io/RecordOutput", "room", "(I)V"⟩ : MethodName)) (by decide) (hw _ (List.mem_of_getElem? (i := 2) rfl)) (hw _ (List.mem_of_getElem? (i := 45) rfl)) (hw _ (List.mem_of_getElem? (i := 44) rfl)))) (Cond.privateMethod_at (mvP hZ (hw _ (List.mem_of_getElem? (i := 45) rfl)) (args := #[]))) (mvT hZ (hw _ (List.mem_of_getElem? (i := 46) rfl))) (by decide) (backOf (W := 0) (rm9 l Z a0 hw [] a1 bb cap (len + 4) (own_p4 f len 60) 60 T2.heap n0 Za Ea Fa1 Fa2 Ba (by omega) (by omega)) hZ (hw _ (List.mem_of_getElem? (i := 46) rfl)) (hw _ (List.mem_of_getElem? (i := 3) rfl)) (by decide) (by decide)) (g := (mkF m 10 #[.val (.ref a1), .val (.ref a2)] [(.int (60 : Int32)), (.ref a1)])) rfl (by rw [hml]; rfl) (Steps.refl _) (a := a1) q4 q4' (argsL := [(.int (60 : Int32))]) (rest := []) (lenOf pd_2 rfl) rfl (by show 2 * 0 + _ ≤ _; exact Nat.le_of_eq rfl) (hb hby d12_10) (fun _ _ => ⟨rfl, rfl, (by decide : 0 + 0 ≤ _), (by decide : 0 + 0 ≤ _)⟩)
  dsimp only [Pt.U, Pt.locs, Pt.cells, Pt.slots] at X4 l4 y4 z4 st4 hQ4
  subst l4 y4 z4
  obtain ⟨rfl, N4q, e4⟩ := hQ4
  have N4 := Fr.app N2 N4q
  have ArB := ArA
  have ne1' := ne1
  have pre5 : ∀ t, Steps p.tables e below (T4.setTop (mkF m 16 #[.val (.ref a1), .val (.ref a2)] [(.ref a1), (.int (0 : Int32)), (.ref a2)])) t → Steps p.tables e below _ t := fun t kt => pre3 t (by
    show Steps p.tables e below (T2.setTop (mkF m 10 #[.val (.ref a1), .val (.ref a2)] [(.int (60 : Int32)), (.ref a1)])) _
    refine st4.trans ?_
    refine XS.aloadN X4.here hx rfl (hb hby d12_13) rfl rfl ?_
    refine XS.iconst X4.here hx rfl (hb hby d12_14) ?_
    show Steps p.tables e below (T4.setTop (mkF m 15 #[.val (.ref a1), .val (.ref a2)] [(.int (0 : Int32)), (.ref a2)])) _
    refine XS.aloadN X4.here hx rfl (hb hby d12_15) rfl rfl ?_
    exact kt)
  obtain ⟨T6, X6, e6, st6⟩ := getF X4 hx hZ hown (host := "") (Or.inl (hw _ (List.mem_of_getElem? (i := 10) rfl))) Via.refl e4 Fa1 (g := (mkF m 16 #[.val (.ref a1), .val (.ref a2)] [(.ref a1), (.int (0 : Int32)), (.ref a2)])) rfl rfl (hb hby d12_16)
  have pre7 : ∀ t, Steps p.tables e below (T6.setTop (mkF m 20 #[.val (.ref a1), .val (.ref a2)] [(.ref a1), (.ref bb), (.int (0 : Int32)), (.ref a2)])) t → Steps p.tables e below _ t := fun t kt => pre5 t (by
    show Steps p.tables e below (T4.setTop (mkF m 16 #[.val (.ref a1), .val (.ref a2)] [(.ref a1), (.int (0 : Int32)), (.ref a2)])) _
    refine st6 _ ?_
    refine XS.aloadN X6.here hx rfl (hb hby d12_19) rfl rfl ?_
    exact kt)
  obtain ⟨T8, X8, e8, st8⟩ := getF X6 hx hZ hown (host := "") (Or.inl (hw _ (List.mem_of_getElem? (i := 17) rfl))) Via.refl e6 Fa2 (g := (mkF m 20 #[.val (.ref a1), .val (.ref a2)] [(.ref a1), (.ref bb), (.int (0 : Int32)), (.ref a2)])) rfl rfl (hb hby d12_20)
  have pre9 : ∀ t, Steps p.tables e below (T8.setTop (mkF m 25 #[.val (.ref a1), .val (.ref a2)] [(.int (60 : Int32)), (.int (Int32.ofNat (len + 4))), (.ref bb), (.int (0 : Int32)), (.ref a2)])) t → Steps p.tables e below _ t := fun t kt => pre7 t (by
    show Steps p.tables e below (T6.setTop (mkF m 20 #[.val (.ref a1), .val (.ref a2)] [(.ref a1), (.ref bb), (.int (0 : Int32)), (.ref a2)])) _
    refine st8 _ ?_
    refine XS.aloadN X8.here hx rfl (hb hby d12_23) rfl rfl ?_
    refine X8.arraylength hx (by rw [e8]; exact ArB.1) (State.isArrayOf_alike hZ.alike ArB.2.1) (g := (mkF m 24 #[.val (.ref a1), .val (.ref a2)] [(.ref a2), (.int (Int32.ofNat (len + 4))), (.ref bb), (.int (0 : Int32)), (.ref a2)])) rfl rfl (hb hby d12_24) _ ?_
    rw [len_of (by rw [Sz]; rfl : cl.slots.size = (60 : Int32).toNatClampNeg) (by decide)]
    exact kt)
  obtain ⟨T10, h10, L10, X10, e10, N10, Kc, Bc, st10⟩ := own_cp X8 hx hZ hown (hw _ (List.mem_of_getElem? (i := 64) rfl)) (hw _ (List.mem_of_getElem? (i := 30) rfl)) (hw _ (List.mem_of_getElem? (i := 28) rfl)) (hw _ (List.mem_of_getElem? (i := 29) rfl)) e8 B2a Ba (sp := 0) (dp := len + 4) (nn := 60) (by decide) (by omega) (by decide) (by omega) N4 g2 (g := (mkF m 25 #[.val (.ref a1), .val (.ref a2)] [(.int (60 : Int32)), (.int (Int32.ofNat (len + 4))), (.ref bb), (.int (0 : Int32)), (.ref a2)])) rfl (by rw [hml]; rfl) rfl (hb hby d12_25) (by decide) (W := 0) (by show 2 * 0 + _ ≤ _; exact Nat.le_of_eq rfl) (by decide)
  have Kd : Keep h0 h10 [a1, bb] := Ka.trans Kc (allS (Or.inl (List.mem_of_getElem? (i := 1) rfl)) all0)
  have Zc : n0 ≤ h10.size := Nat.le_trans Za Kc.1
  have Ec := Ea.keep Kc
  have Fc1 := Fa1.keep Kc (ninS ne1' nin0)
  have Fc2 := Fa2.keep Kc (ninS ne1' nin0)
  have n2x : a2 ≠ bb := n2b
  have ArC : Arr Z h10 a2 cl .byte := ⟨Kc.2.1 a2 cl ArB.1 (ninS n2x nin0), ArB.2⟩
  have pre11 : ∀ t, Steps p.tables e below (T10.setTop (mkF m 30 #[.val (.ref a1), .val (.ref a2)] [(.ref a1), (.ref a1)])) t → Steps p.tables e below _ t := fun t kt => pre9 t (by
    show Steps p.tables e below (T8.setTop (mkF m 25 #[.val (.ref a1), .val (.ref a2)] [(.int (60 : Int32)), (.int (Int32.ofNat (len + 4))), (.ref bb), (.int (0 : Int32)), (.ref a2)])) _
    refine st10 _ ?_
    refine XS.aloadN X10.here hx rfl (hb hby d12_28) rfl rfl ?_
    refine XS.dup X10.here hx rfl (hb hby d12_29) rfl rfl ?_
    exact kt)
  obtain ⟨T12, X12, e12, st12⟩ := getF X10 hx hZ hown (host := "") (Or.inl (hw _ (List.mem_of_getElem? (i := 17) rfl))) Via.refl e10 Fc2 (g := (mkF m 30 #[.val (.ref a1), .val (.ref a2)] [(.ref a1), (.ref a1)])) rfl rfl (hb hby d12_30)
  have pre13 : ∀ t, Steps p.tables e below (T12.setTop (mkF m 36 #[.val (.ref a1), .val (.ref a2)] [(.int ((Int32.ofNat (len + 4)) + (60 : Int32))), (.ref a1)])) t → Steps p.tables e below _ t := fun t kt => pre11 t (by
    show Steps p.tables e below (T10.setTop (mkF m 30 #[.val (.ref a1), .val (.ref a2)] [(.ref a1), (.ref a1)])) _
    refine st12 _ ?_
    refine XS.aloadN X12.here hx rfl (hb hby d12_33) rfl rfl ?_
    refine X12.arraylength hx (by rw [e12]; exact ArC.1) (State.isArrayOf_alike hZ.alike ArC.2.1) (g := (mkF m 34 #[.val (.ref a1), .val (.ref a2)] [(.ref a2), (.int (Int32.ofNat (len + 4))), (.ref a1)])) rfl rfl (hb hby d12_34) _ ?_
    rw [len_of (by rw [Sz]; rfl : cl.slots.size = (60 : Int32).toNatClampNeg) (by decide)]
    show Steps p.tables e below (T12.setTop (mkF m 35 #[.val (.ref a1), .val (.ref a2)] [(.int (60 : Int32)), (.int (Int32.ofNat (len + 4))), (.ref a1)])) _
    refine XS.iadd X12.here hx rfl (hb hby d12_35) rfl ?_
    exact kt)
  have hv14 : ((Int32.ofNat (len + 4)) + (60 : Int32)) = (Int32.ofNat (len + 64)) := own_add (len + 4) 60
  rw [hv14] at pre13
  obtain ⟨T15, h15, X15, e15, W15, st15⟩ := putF X12 hx hZ hown (host := "") (Or.inl (hw _ (List.mem_of_getElem? (i := 17) rfl))) Via.refl e12 Fc2 Ec (Or.inl (hw _ (List.mem_of_getElem? (i := 18) rfl))) (hw _ (List.mem_of_getElem? (i := 2) rfl)) (ty := .int) (by decide) rfl rfl (g := (mkF m 36 #[.val (.ref a1), .val (.ref a2)] [(.int (Int32.ofNat (len + 64))), (.ref a1)])) rfl rfl (hb hby d12_36)
  have Fw15 := Fc2.same W15
  have N15 := Fr.snoc X15 N10 g1
  have Zs15 : n0 ≤ h15.size := Nat.le_trans Zc (Nat.le_of_eq W15.size.symm)
  have Kp15 : Keep h0 h15 [a1, bb] := Kd.wr W15 (Or.inl (List.mem_of_getElem? (i := 0) rfl))
  have Ed := Ec.wr W15
  have Fd1 := (Fc1.other W15 (Or.inr (slot_ne (Or.inl (hw _ (List.mem_of_getElem? (i := 11) rfl))) (Or.inl (hw _ (List.mem_of_getElem? (i := 18) rfl))) (by decide) (t := (.array .byte)) (t' := .int) (by decide) (by decide))))
  have Be := own_B_other Bc W15 (Ne.symm ne1')
  obtain ⟨fs, hr, hrun, hended, hW, hsame⟩ := X15.leave (v := some (.ref a1)) (fun h => by rw [Bd.returns] at h; cases h)
  refine ⟨_, _, pre13 _ ?_, hrun, hended, _, _, rfl, ?_, ⟨_, rfl⟩, hW, hsame.mono (by decide) (by decide)⟩
  · show Steps p.tables e below (T12.setTop (mkF m 36 #[.val (.ref a1), .val (.ref a2)] [(.int (Int32.ofNat (len + 64))), (.ref a1)])) _
    refine st15 _ ?_
    refine XS.aloadN X15.here hx rfl (hb hby d12_39) rfl rfl ?_
    show Steps p.tables e below (T15.setTop (mkF m 40 #[.val (.ref a1), .val (.ref a2)] [(.ref a1)])) _
    jvm_step X15.here [X15.here.top, hx, (hb hby d12_40), X15.method', Bd.returns, Value.isRef, FieldType.isReference]
    first | (intro acts; rw [hr _ acts rfl rfl rfl]) | rw [hr _ _ rfl rfl rfl]
    exact Steps.refl _
  · show Q12 Z a1 bb cap len f g h0 n0 _ T15.heap _
    rw [e15]
    exact ⟨rfl, N15, Kp15, Ed, Fd1, Fw15, Be⟩
theorem ef_12g (m : MethodId) (x0 : Addr) (x1 : Addr) : entryFrame m #[(.ref x0), (.ref x1)] 2 = mkF m 0 #[.val (.ref x0), .val (.ref x1)] [] := by first | (simp [entryFrame, mkF, argsToLocals, Value.category]; done) | rfl
def Q12g (Z : State) (a1 bb : Addr) (cap len : Nat) (f g : Nat → Int32) (h0 : Heap) (n0 : Nat) (r : Option Value) (h : Heap) (L : List Loc) : Prop := ∃ b, r = some (.ref a1) ∧ Fr n0 L ∧ Keep h0 h [a1, bb] ∧ h0.size ≤ b ∧ Exa Z h a1 "com/example/haulway/haulway/io/RecordOutput" ∧ Fld Z h a1 "com/example/haulway/haulway/io/RecordOutput" "bytes" "[B" (.ref b) ∧ Fld Z h a1 "com/example/haulway/haulway/io/RecordOutput" "length" "I" (.int (Int32.ofNat (len + 64))) ∧ own_B Z h b 128 (own_cpf g (own_cut (own_p4 f len 60) cap) (len + 4) 60)
set_option maxRecDepth 65536 in
set_option maxHeartbeats 40000000 in
theorem rm12g (l : Launch) (Z : State) (a0 : Array Value) (hw : ∀ d ∈ tables_1, d.before a0 Z = true) (ws : List Jvm.Cond) (a1 : Addr) (a2 : Addr) (bb : Addr) (cap : Nat) (len : Nat) (f : Nat → Int32) (g : Nat → Int32) (h0 : Heap) (n0 : Nat) (Z0 : n0 ≤ h0.size) (E1 : Exa Z h0 a1 "com/example/haulway/haulway/io/RecordOutput") (F1 : Fld Z h0 a1 "com/example/haulway/haulway/io/RecordOutput" "bytes" "[B" (.ref bb)) (F2 : Fld Z h0 a1 "com/example/haulway/haulway/io/RecordOutput" "length" "I" (.int (Int32.ofNat len))) (B1 : own_B Z h0 bb cap f) (B2 : own_B Z h0 a2 60 g) (ne1 : a1 ≠ bb) (n21 : a2 ≠ a1) (n2b : a2 ≠ bb) (g1 : n0 ≤ a1) (g2 : n0 ≤ bb) (hc64 : cap = 64) (hl : cap < len + 64) (hl1 : len ≤ 13) :
    MetFree l (⟨"com/example/haulway/haulway/io/RecordOutput", "putBytes", "([B)Lcom/example/haulway/haulway/io/RecordOutput;"⟩ : MethodName) (head1 (Jvm.Cond.code (⟨"com/example/haulway/haulway/io/RecordOutput", "putBytes", "([B)Lcom/example/haulway/haulway/io/RecordOutput;"⟩ : MethodName) prog_72_method_6_code 2 (some (.object "com/example/haulway/haulway/io/RecordOutput")) :: ws) ({ frames := 3, cells := 1, slots := 128, locals := 68 } : Room)) (fun aa_ U => aa_ = #[(.ref a1), (.ref a2)] ∧ Z.Warmed39 U.vm ∧ U.heap = h0) (fun _ _ _ _ _ => True) (fun _ U o U' => ∃ v_ L_, o = .returned v_ ∧ Q12g Z a1 bb cap len f g h0 n0 v_ U'.heap L_ ∧ FrameEnd U o U' L_ ({ frames := 3, cells := 1, slots := 128, locals := 68 } : Room).cells ({ frames := 3, cells := 1, slots := 128, locals := 68 } : Room).slots) := by
  refine MetFree.of_bodySF (plainFor_of_name pn_12) hisR ?_
  intro p e s m args below meth c s₁ Bd hml0 hP hK
  obtain ⟨rfl, hZ, hh⟩ := hP
  have hx := Bd.exec
  have hby := Bd.bytes
  have hml : c.maxLocals = 2 := hml0
  have hown : s.vm.findClass "com/example/haulway/haulway/io/RecordOutput" = some m.cls := findClass_of_methodNamed Bd.named
  have hnm := (name_of_methodNamed Bd.named Bd.method).1
  have X0 : Stand p l e ({ frames := 3, cells := 1, slots := 128, locals := 68 } : Room) s m #[(.ref a1), (.ref a2)] below meth c s₁ [] 0 0 := Stand.of_body Bd
  have e0 : s₁.heap = h0 := by rw [← hh, Bd.state]; rfl
  have N0 := Fr.nil n0
  have pre0 : ∀ t, Steps p.tables e below (s₁.setTop (mkF m 0 #[.val (.ref a1), .val (.ref a2)] [])) t → Steps p.tables e below (s₁.setTop (entryFrame m #[(.ref a1), (.ref a2)] 2)) t := fun t k_ => castTop (ef_12g m a1 a2) k_
  obtain ⟨cl, Ar, Sz, Hf, Gf, Xf⟩ := id B2
  have B2 : own_B Z h0 a2 60 g := ⟨cl, Ar, Sz, Hf, Gf, Xf⟩
  have i1 : a2 ∉ [a1, bb] := ninS n21 (ninS n2b nin0)
  have i2 : a2 ∉ [a1] := ninS n21 nin0
  have pre1 : ∀ t, Steps p.tables e below (s₁.setTop (mkF m 3 #[.val (.ref a1), .val (.ref a2)] [(.int (60 : Int32)), (.ref a1)])) t → Steps p.tables e below _ t := fun t kt => pre0 t (by
    show Steps p.tables e below (s₁.setTop (mkF m 0 #[.val (.ref a1), .val (.ref a2)] [])) _
    refine XS.aloadN X0.here hx rfl (hb hby d12_0) rfl rfl ?_
    refine XS.aloadN X0.here hx rfl (hb hby d12_1) rfl rfl ?_
    refine X0.arraylength hx (by rw [e0]; exact Ar.1) (State.isArrayOf_alike hZ.alike Ar.2.1) (g := (mkF m 2 #[.val (.ref a1), .val (.ref a2)] [(.ref a2), (.ref a1)])) rfl rfl (hb hby d12_2) _ ?_
    rw [len_of (by rw [Sz]; rfl : cl.slots.size = (60 : Int32).toNatClampNeg) (by decide)]
    exact kt)
  obtain ⟨cq2, kq2, q2a, q2b, q2c⟩ := isOf hZ e0 E1
  obtain ⟨_, _, ⟨T2, L2, k2, n2⟩, -, X2, ⟨Lc2, hQ2, l2, y2, z2⟩, st2⟩ := X0.virtualBack hx (y := (⟨"com/example/haulway/haulway/io/RecordOutput", "putInt", "(I)Lcom/example/haulway/haulway/io/RecordOutput;"⟩ : MethodName)) (z := (⟨"com/example/haulway/haulway/io/RecordOutput", "putInt", "(I)Lcom/example/haulway/haulway/io/RecordOutput;"⟩ : MethodName)) hown (mvT hZ (hw _ (List.mem_of_getElem? (i := 60) rfl))) (mvT hZ (hw _ (List.mem_of_getElem? (i := 39) rfl))) (notFace_of_selects (args := #[]) (mvT hZ (hw _ (List.mem_of_getElem? (i := 41) rfl)))) (mvT hZ (hw _ (List.mem_of_getElem? (i := 41) rfl))) (mvT hZ (hw _ (List.mem_of_getElem? (i := 40) rfl))) (by decide) (backOf (W := 0) (rm8 l Z a0 hw [] a1 bb cap len f (60 : Int32) h0 n0 Z0 E1 F1 F2 B1 (by omega) (by omega) ne1 g1 g2) hZ (hw _ (List.mem_of_getElem? (i := 42) rfl)) (hw _ (List.mem_of_getElem? (i := 3) rfl)) (by decide) (by decide)) q2a q2c (g := (mkF m 3 #[.val (.ref a1), .val (.ref a2)] [(.int (60 : Int32)), (.ref a1)])) rfl (by rw [hml]; rfl) (Steps.refl _) (argsL := [(.int (60 : Int32))]) (rest := []) (lenOf pd_4 rfl) rfl (by show 2 * 0 + _ ≤ _; exact Nat.le_of_eq rfl) (hb hby d12_3) (fun _ _ => ⟨rfl, e0, (by decide : 0 + 0 ≤ _), (by decide : 0 + 0 ≤ _)⟩)
  dsimp only [Pt.U, Pt.locs, Pt.cells, Pt.slots] at X2 l2 y2 z2 st2 hQ2
  subst l2 y2 z2
  obtain ⟨rfl, N2q, Ka, Ea, Fa1, Fa2, Ba⟩ := hQ2
  have N2 := Fr.app N0 N2q
  have Za : n0 ≤ T2.heap.size := Nat.le_trans Z0 Ka.1
  have ArA : Arr Z T2.heap a2 cl .byte := ⟨Ka.2.1 a2 cl Ar.1 i1, Ar.2⟩
  have B2a := own_B_keep B2 Ka i1
  have pre3 : ∀ t, Steps p.tables e below (T2.setTop (mkF m 10 #[.val (.ref a1), .val (.ref a2)] [(.int (60 : Int32)), (.ref a1)])) t → Steps p.tables e below _ t := fun t kt => pre1 t (by
    show Steps p.tables e below (s₁.setTop (mkF m 3 #[.val (.ref a1), .val (.ref a2)] [(.int (60 : Int32)), (.ref a1)])) _
    refine st2.trans ?_
    refine XS.pop X2.here hx rfl (hb hby d12_6) rfl rfl ?_
    refine XS.aloadN X2.here hx rfl (hb hby d12_7) rfl rfl ?_
    show Steps p.tables e below (T2.setTop (mkF m 8 #[.val (.ref a1), .val (.ref a2)] [(.ref a1)])) _
    refine XS.aloadN X2.here hx rfl (hb hby d12_8) rfl rfl ?_
    refine X2.arraylength hx ArA.1 (State.isArrayOf_alike hZ.alike ArA.2.1) (g := (mkF m 9 #[.val (.ref a1), .val (.ref a2)] [(.ref a2), (.ref a1)])) rfl rfl (hb hby d12_9) _ ?_
    rw [len_of (by rw [Sz]; rfl : cl.slots.size = (60 : Int32).toNatClampNeg) (by decide)]
    exact kt)
  obtain ⟨cq4, q4, q4'⟩ := Ea.cell
  obtain ⟨_, _, ⟨T4, L4, k4, n4⟩, -, X4, ⟨Lc4, hQ4, l4, y4, z4⟩, st4⟩ := X2.privateBack hx (y := (⟨"com/example/haulway/haulway/io/RecordOutput", "room", "(I)V"⟩ : MethodName)) hown (mvT hZ (hw _ (List.mem_of_getElem? (i := 43) rfl))) (mvT hZ (hw _ (List.mem_of_getElem? (i := 44) rfl))) (mvT hZ (own_sel (y := (⟨"com/example/haulway/haulway/io/RecordOutput", "room", "(I)V"⟩ : MethodName)) (by decide) (hw _ (List.mem_of_getElem? (i := 2) rfl)) (hw _ (List.mem_of_getElem? (i := 45) rfl)) (hw _ (List.mem_of_getElem? (i := 44) rfl)))) (Cond.privateMethod_at (mvP hZ (hw _ (List.mem_of_getElem? (i := 45) rfl)) (args := #[]))) (mvT hZ (hw _ (List.mem_of_getElem? (i := 46) rfl))) (by decide) (backOf (W := 0) (rm9g l Z a0 hw [] a1 bb cap (len + 4) (own_p4 f len 60) 60 T2.heap n0 Za Ea Fa1 Fa2 Ba hc64 (by omega) (by omega) (by omega) g1) hZ (hw _ (List.mem_of_getElem? (i := 46) rfl)) (hw _ (List.mem_of_getElem? (i := 3) rfl)) (by decide) (by decide)) (g := (mkF m 10 #[.val (.ref a1), .val (.ref a2)] [(.int (60 : Int32)), (.ref a1)])) rfl (by rw [hml]; rfl) (Steps.refl _) (a := a1) q4 q4' (argsL := [(.int (60 : Int32))]) (rest := []) (lenOf pd_2 rfl) rfl (by show 2 * 0 + _ ≤ _; exact Nat.le_of_eq rfl) (hb hby d12_10) (fun _ _ => ⟨rfl, rfl, (by decide : 0 + 1 ≤ _), (by decide : 0 + 128 ≤ _)⟩)
  dsimp only [Pt.U, Pt.locs, Pt.cells, Pt.slots] at X4 l4 y4 z4 st4 hQ4
  subst l4 y4 z4
  obtain ⟨bn, rfl, N4q, Kr, Sr, Er, Fr1, Fr2, Br⟩ := hQ4
  have N4 := Fr.app N2 N4q
  have Zr : n0 ≤ T4.heap.size := Nat.le_trans Za Kr.1
  have sz_bn : h0.size ≤ bn := Nat.le_trans Ka.1 Sr
  have Kb : Keep h0 T4.heap [a1, bb] := Ka.trans Kr (allS (Or.inl (List.mem_of_getElem? (i := 0) rfl)) all0)
  have ArB : Arr Z T4.heap a2 cl .byte := ⟨Kr.2.1 a2 cl ArA.1 i2, ArA.2⟩
  have B2b := own_B_keep B2a Kr i2
  have g3 : n0 ≤ bn := Nat.le_trans Z0 sz_bn
  have ne1' : a1 ≠ bn := Nat.ne_of_lt (Nat.lt_of_lt_of_le E1.lt sz_bn)
  have pre5 : ∀ t, Steps p.tables e below (T4.setTop (mkF m 16 #[.val (.ref a1), .val (.ref a2)] [(.ref a1), (.int (0 : Int32)), (.ref a2)])) t → Steps p.tables e below _ t := fun t kt => pre3 t (by
    show Steps p.tables e below (T2.setTop (mkF m 10 #[.val (.ref a1), .val (.ref a2)] [(.int (60 : Int32)), (.ref a1)])) _
    refine st4.trans ?_
    refine XS.aloadN X4.here hx rfl (hb hby d12_13) rfl rfl ?_
    refine XS.iconst X4.here hx rfl (hb hby d12_14) ?_
    show Steps p.tables e below (T4.setTop (mkF m 15 #[.val (.ref a1), .val (.ref a2)] [(.int (0 : Int32)), (.ref a2)])) _
    refine XS.aloadN X4.here hx rfl (hb hby d12_15) rfl rfl ?_
    exact kt)
  obtain ⟨T6, X6, e6, st6⟩ := getF X4 hx hZ hown (host := "") (Or.inl (hw _ (List.mem_of_getElem? (i := 10) rfl))) Via.refl rfl Fr1 (g := (mkF m 16 #[.val (.ref a1), .val (.ref a2)] [(.ref a1), (.int (0 : Int32)), (.ref a2)])) rfl rfl (hb hby d12_16)
  have pre7 : ∀ t, Steps p.tables e below (T6.setTop (mkF m 20 #[.val (.ref a1), .val (.ref a2)] [(.ref a1), (.ref bn), (.int (0 : Int32)), (.ref a2)])) t → Steps p.tables e below _ t := fun t kt => pre5 t (by
    show Steps p.tables e below (T4.setTop (mkF m 16 #[.val (.ref a1), .val (.ref a2)] [(.ref a1), (.int (0 : Int32)), (.ref a2)])) _
    refine st6 _ ?_
    refine XS.aloadN X6.here hx rfl (hb hby d12_19) rfl rfl ?_
    exact kt)
  obtain ⟨T8, X8, e8, st8⟩ := getF X6 hx hZ hown (host := "") (Or.inl (hw _ (List.mem_of_getElem? (i := 17) rfl))) Via.refl e6 Fr2 (g := (mkF m 20 #[.val (.ref a1), .val (.ref a2)] [(.ref a1), (.ref bn), (.int (0 : Int32)), (.ref a2)])) rfl rfl (hb hby d12_20)
  have pre9 : ∀ t, Steps p.tables e below (T8.setTop (mkF m 25 #[.val (.ref a1), .val (.ref a2)] [(.int (60 : Int32)), (.int (Int32.ofNat (len + 4))), (.ref bn), (.int (0 : Int32)), (.ref a2)])) t → Steps p.tables e below _ t := fun t kt => pre7 t (by
    show Steps p.tables e below (T6.setTop (mkF m 20 #[.val (.ref a1), .val (.ref a2)] [(.ref a1), (.ref bn), (.int (0 : Int32)), (.ref a2)])) _
    refine st8 _ ?_
    refine XS.aloadN X8.here hx rfl (hb hby d12_23) rfl rfl ?_
    refine X8.arraylength hx (by rw [e8]; exact ArB.1) (State.isArrayOf_alike hZ.alike ArB.2.1) (g := (mkF m 24 #[.val (.ref a1), .val (.ref a2)] [(.ref a2), (.int (Int32.ofNat (len + 4))), (.ref bn), (.int (0 : Int32)), (.ref a2)])) rfl rfl (hb hby d12_24) _ ?_
    rw [len_of (by rw [Sz]; rfl : cl.slots.size = (60 : Int32).toNatClampNeg) (by decide)]
    exact kt)
  obtain ⟨T10, h10, L10, X10, e10, N10, Kc, Bc, st10⟩ := own_cp X8 hx hZ hown (hw _ (List.mem_of_getElem? (i := 64) rfl)) (hw _ (List.mem_of_getElem? (i := 30) rfl)) (hw _ (List.mem_of_getElem? (i := 28) rfl)) (hw _ (List.mem_of_getElem? (i := 29) rfl)) e8 B2b Br (sp := 0) (dp := len + 4) (nn := 60) (by decide) (by omega) (by decide) (by omega) N4 g3 (g := (mkF m 25 #[.val (.ref a1), .val (.ref a2)] [(.int (60 : Int32)), (.int (Int32.ofNat (len + 4))), (.ref bn), (.int (0 : Int32)), (.ref a2)])) rfl (by rw [hml]; rfl) rfl (hb hby d12_25) (by decide) (W := 0) (by show 2 * 0 + _ ≤ _; exact Nat.le_of_eq rfl) (by decide)
  have Kd : Keep h0 h10 [a1, bb] := Kb.trans Kc (allS (Or.inr sz_bn) all0)
  have Zc : n0 ≤ h10.size := Nat.le_trans Zr Kc.1
  have Ec := Er.keep Kc
  have Fc1 := Fr1.keep Kc (ninS ne1' nin0)
  have Fc2 := Fr2.keep Kc (ninS ne1' nin0)
  have n2x : a2 ≠ bn := Nat.ne_of_lt (Nat.lt_of_lt_of_le Ar.lt sz_bn)
  have ArC : Arr Z h10 a2 cl .byte := ⟨Kc.2.1 a2 cl ArB.1 (ninS n2x nin0), ArB.2⟩
  have pre11 : ∀ t, Steps p.tables e below (T10.setTop (mkF m 30 #[.val (.ref a1), .val (.ref a2)] [(.ref a1), (.ref a1)])) t → Steps p.tables e below _ t := fun t kt => pre9 t (by
    show Steps p.tables e below (T8.setTop (mkF m 25 #[.val (.ref a1), .val (.ref a2)] [(.int (60 : Int32)), (.int (Int32.ofNat (len + 4))), (.ref bn), (.int (0 : Int32)), (.ref a2)])) _
    refine st10 _ ?_
    refine XS.aloadN X10.here hx rfl (hb hby d12_28) rfl rfl ?_
    refine XS.dup X10.here hx rfl (hb hby d12_29) rfl rfl ?_
    exact kt)
  obtain ⟨T12, X12, e12, st12⟩ := getF X10 hx hZ hown (host := "") (Or.inl (hw _ (List.mem_of_getElem? (i := 17) rfl))) Via.refl e10 Fc2 (g := (mkF m 30 #[.val (.ref a1), .val (.ref a2)] [(.ref a1), (.ref a1)])) rfl rfl (hb hby d12_30)
  have pre13 : ∀ t, Steps p.tables e below (T12.setTop (mkF m 36 #[.val (.ref a1), .val (.ref a2)] [(.int ((Int32.ofNat (len + 4)) + (60 : Int32))), (.ref a1)])) t → Steps p.tables e below _ t := fun t kt => pre11 t (by
    show Steps p.tables e below (T10.setTop (mkF m 30 #[.val (.ref a1), .val (.ref a2)] [(.ref a1), (.ref a1)])) _
    refine st12 _ ?_
    refine XS.aloadN X12.here hx rfl (hb hby d12_33) rfl rfl ?_
    refine X12.arraylength hx (by rw [e12]; exact ArC.1) (State.isArrayOf_alike hZ.alike ArC.2.1) (g := (mkF m 34 #[.val (.ref a1), .val (.ref a2)] [(.ref a2), (.int (Int32.ofNat (len + 4))), (.ref a1)])) rfl rfl (hb hby d12_34) _ ?_
    rw [len_of (by rw [Sz]; rfl : cl.slots.size = (60 : Int32).toNatClampNeg) (by decide)]
    show Steps p.tables e below (T12.setTop (mkF m 35 #[.val (.ref a1), .val (.ref a2)] [(.int (60 : Int32)), (.int (Int32.ofNat (len + 4))), (.ref a1)])) _
    refine XS.iadd X12.here hx rfl (hb hby d12_35) rfl ?_
    exact kt)
  have hv14 : ((Int32.ofNat (len + 4)) + (60 : Int32)) = (Int32.ofNat (len + 64)) := own_add (len + 4) 60
  rw [hv14] at pre13
  obtain ⟨T15, h15, X15, e15, W15, st15⟩ := putF X12 hx hZ hown (host := "") (Or.inl (hw _ (List.mem_of_getElem? (i := 17) rfl))) Via.refl e12 Fc2 Ec (Or.inl (hw _ (List.mem_of_getElem? (i := 18) rfl))) (hw _ (List.mem_of_getElem? (i := 2) rfl)) (ty := .int) (by decide) rfl rfl (g := (mkF m 36 #[.val (.ref a1), .val (.ref a2)] [(.int (Int32.ofNat (len + 64))), (.ref a1)])) rfl rfl (hb hby d12_36)
  have Fw15 := Fc2.same W15
  have N15 := Fr.snoc X15 N10 g1
  have Zs15 : n0 ≤ h15.size := Nat.le_trans Zc (Nat.le_of_eq W15.size.symm)
  have Kp15 : Keep h0 h15 [a1, bb] := Kd.wr W15 (Or.inl (List.mem_of_getElem? (i := 0) rfl))
  have Ed := Ec.wr W15
  have Fd1 := (Fc1.other W15 (Or.inr (slot_ne (Or.inl (hw _ (List.mem_of_getElem? (i := 11) rfl))) (Or.inl (hw _ (List.mem_of_getElem? (i := 18) rfl))) (by decide) (t := (.array .byte)) (t' := .int) (by decide) (by decide))))
  have Be := own_B_other Bc W15 (Ne.symm ne1')
  obtain ⟨fs, hr, hrun, hended, hW, hsame⟩ := X15.leave (v := some (.ref a1)) (fun h => by rw [Bd.returns] at h; cases h)
  refine ⟨_, _, pre13 _ ?_, hrun, hended, _, _, rfl, ?_, ⟨_, rfl⟩, hW, hsame.mono (by decide) (by decide)⟩
  · show Steps p.tables e below (T12.setTop (mkF m 36 #[.val (.ref a1), .val (.ref a2)] [(.int (Int32.ofNat (len + 64))), (.ref a1)])) _
    refine st15 _ ?_
    refine XS.aloadN X15.here hx rfl (hb hby d12_39) rfl rfl ?_
    show Steps p.tables e below (T15.setTop (mkF m 40 #[.val (.ref a1), .val (.ref a2)] [(.ref a1)])) _
    jvm_step X15.here [X15.here.top, hx, (hb hby d12_40), X15.method', Bd.returns, Value.isRef, FieldType.isReference]
    first | (intro acts; rw [hr _ acts rfl rfl rfl]) | rw [hr _ _ rfl rfl rfl]
    exact Steps.refl _
  · show Q12g Z a1 bb cap len f g h0 n0 _ T15.heap _
    rw [e15]
    exact ⟨bn, rfl, N15, Kp15, sz_bn, Ed, Fd1, Fw15, Be⟩

theorem own_p4_lt (f : Nat → Int32) (q : Nat) (v : Int32) {j : Nat} (h : j < q) : own_p4 f q v j = f j := by
  unfold own_p4
  rw [own_upd_ne _ _ (by omega), own_upd_ne _ _ (by omega), own_upd_ne _ _ (by omega), own_upd_ne _ _ (by omega)]
theorem own_p4_at (f : Nat → Int32) (q : Nat) (v : Int32) : own_p4 f q v q = own_by v 24 ∧ own_p4 f q v (q + 1) = own_by v 16 ∧ own_p4 f q v (q + 2) = own_by v 8 ∧ own_p4 f q v (q + 3) = own_by v 0 := by
  unfold own_p4
  refine ⟨?_, ?_, ?_, ?_⟩
  · rw [own_upd_ne _ _ (by omega), own_upd_ne _ _ (by omega), own_upd_ne _ _ (by omega), own_upd_same]
  · rw [own_upd_ne _ _ (by omega), own_upd_ne _ _ (by omega), own_upd_same]
  · rw [own_upd_ne _ _ (by omega), own_upd_same]
  · rw [own_upd_same]
theorem own_agree4 {f e : Nat → Int32} {n : Nat} (v : Int32) (h : ∀ j, j < n → f j = e j) : ∀ j, j < n + 4 → own_p4 f n v j = own_p4 e n v j := by
  intro j hj
  obtain ⟨a1, a2, a3, a4⟩ := own_p4_at f n v
  obtain ⟨b1, b2, b3, b4⟩ := own_p4_at e n v
  by_cases q : j < n
  · rw [own_p4_lt _ _ _ q, own_p4_lt _ _ _ q, h j q]
  · have hj' : j = n ∨ j = n + 1 ∨ j = n + 2 ∨ j = n + 3 := by omega
    rcases hj' with rfl | rfl | rfl | rfl
    · rw [a1, b1]
    · rw [a2, b2]
    · rw [a3, b3]
    · rw [a4, b4]
theorem own_L (v : Int64) (k : Int32) {n : Nat} (hn : (k &&& 0x3f).toInt64.toUInt64.toNat = n) (h : n < 64) : (((v.toUInt64 >>> (k &&& 0x3f).toInt64.toUInt64).toInt64).toInt32).toBitVec = (v.toBitVec >>> n).setWidth 32 := by
  have e : (v.toUInt64 >>> (k &&& 0x3f).toInt64.toUInt64).toBitVec = v.toBitVec >>> n := by
    rw [UInt64.toBitVec_shiftRight]
    apply BitVec.eq_of_toNat_eq
    have e2 : ((k &&& 0x3f).toInt64.toUInt64.toBitVec % 64#64).toNat = n := by
      rw [BitVec.toNat_umod]
      show (k &&& 0x3f).toInt64.toUInt64.toNat % 64 = n
      rw [hn]; exact Nat.mod_eq_of_lt h
    show (v.toUInt64.toBitVec >>> ((k &&& 0x3f).toInt64.toUInt64.toBitVec % 64#64)).toNat = _
    rw [BitVec.ushiftRight_eq', e2]
    rfl
  have e3 : (((v.toUInt64 >>> (k &&& 0x3f).toInt64.toUInt64).toInt64).toInt32).toBitVec = ((v.toUInt64 >>> (k &&& 0x3f).toInt64.toUInt64).toBitVec).signExtend 32 := rfl
  rw [e3, e, BitVec.signExtend_eq_setWidth_of_le _ (by decide)]
theorem own_B8 (w : Int32) : w.toInt8.toBitVec = w.toBitVec.setWidth 8 := by
  show w.toBitVec.signExtend 8 = _
  exact BitVec.signExtend_eq_setWidth_of_le _ (by decide)
theorem own_S (v : Int32) (k : Int32) {n : Nat} (hn : (k &&& 31).toUInt32.toNat = n) (h : n < 32) : ((v.toUInt32 >>> (k &&& 31).toUInt32).toInt32).toBitVec = v.toBitVec >>> n := by
  show (v.toUInt32 >>> (k &&& 31).toUInt32).toBitVec = _
  rw [UInt32.toBitVec_shiftRight]
  have e2 : ((k &&& 31).toUInt32.toBitVec % 32#32).toNat = n := by
    rw [BitVec.toNat_umod]
    show (k &&& 31).toUInt32.toNat % 32 = n
    rw [hn]; exact Nat.mod_eq_of_lt h
  show v.toUInt32.toBitVec >>> ((k &&& 31).toUInt32.toBitVec % 32#32) = _
  rw [BitVec.ushiftRight_eq', e2]
  rfl
theorem own_eqL (v : Int64) (k k' : Int32) {n n' m : Nat} {w : Int32} (hw : w.toBitVec = (v.toBitVec >>> m).setWidth 32) (hn : (k &&& 0x3f).toInt64.toUInt64.toNat = n) (h : n < 64) (hn' : (k' &&& 31).toUInt32.toNat = n') (h' : n' + 8 ≤ 32) (e : n = m + n') : own_byL v k = own_by w k' := by
  unfold own_byL own_by
  congr 1
  apply Int8.toBitVec_inj.mp
  rw [own_B8, own_B8, own_L v k hn h, own_S w k' hn' (by omega), hw, e]
  apply BitVec.eq_of_getLsbD_eq
  intro i hi
  simp [hi]
  have a1 : i < 32 := by omega
  have a2 : n' + i < 32 := by omega
  simp [a1, a2, Nat.add_assoc]
theorem own_split8 (v : Int64) : own_byL v 56 = own_by ((v.toUInt64 >>> ((32 : Int32) &&& 0x3f).toInt64.toUInt64).toInt64.toInt32) 24 ∧ own_byL v 48 = own_by ((v.toUInt64 >>> ((32 : Int32) &&& 0x3f).toInt64.toUInt64).toInt64.toInt32) 16 ∧ own_byL v 40 = own_by ((v.toUInt64 >>> ((32 : Int32) &&& 0x3f).toInt64.toUInt64).toInt64.toInt32) 8 ∧ own_byL v 32 = own_by ((v.toUInt64 >>> ((32 : Int32) &&& 0x3f).toInt64.toUInt64).toInt64.toInt32) 0 ∧
    own_byL v 24 = own_by v.toInt32 24 ∧ own_byL v 16 = own_by v.toInt32 16 ∧ own_byL v 8 = own_by v.toInt32 8 ∧ own_byL v 0 = own_by v.toInt32 0 := by
  have h1 := own_L v 32 (n := 32) (by decide) (by decide)
  have h2 : v.toInt32.toBitVec = (v.toBitVec >>> 0).setWidth 32 := by
    show v.toBitVec.signExtend 32 = _
    rw [BitVec.signExtend_eq_setWidth_of_le _ (by decide)]; simp
  exact ⟨own_eqL v 56 24 (n := 56) (n' := 24) h1 (by decide) (by decide) (by decide) (by decide) rfl, own_eqL v 48 16 (n := 48) (n' := 16) h1 (by decide) (by decide) (by decide) (by decide) rfl, own_eqL v 40 8 (n := 40) (n' := 8) h1 (by decide) (by decide) (by decide) (by decide) rfl, own_eqL v 32 0 (n := 32) (n' := 0) h1 (by decide) (by decide) (by decide) (by decide) rfl,
    own_eqL v 24 24 (n := 24) (n' := 24) h2 (by decide) (by decide) (by decide) (by decide) rfl, own_eqL v 16 16 (n := 16) (n' := 16) h2 (by decide) (by decide) (by decide) (by decide) rfl, own_eqL v 8 8 (n := 8) (n' := 8) h2 (by decide) (by decide) (by decide) (by decide) rfl, own_eqL v 0 0 (n := 0) (n' := 0) h2 (by decide) (by decide) (by decide) (by decide) rfl⟩
theorem own_agree8 {f e : Nat → Int32} {n : Nat} (v : Int64) (h : ∀ j, j < n → f j = e j) : ∀ j, j < n + 8 → own_p8 f n v j = own_p4 (own_p4 e n ((v.toUInt64 >>> ((32 : Int32) &&& 0x3f).toInt64.toUInt64).toInt64.toInt32)) (n + 4) v.toInt32 j := by
  obtain ⟨s1, s2, s3, s4, s5, s6, s7, s8⟩ := own_split8 v
  have e8 : own_p8 f n v = own_p4 (own_p4 f n ((v.toUInt64 >>> ((32 : Int32) &&& 0x3f).toInt64.toUInt64).toInt64.toInt32)) (n + 4) v.toInt32 := by
    unfold own_p8 own_p4
    rw [s1, s2, s3, s4, s5, s6, s7, s8]
  rw [e8]
  exact own_agree4 v.toInt32 (own_agree4 _ h)
theorem pd_5 : parseMethodDescriptor "([BII)V" = some ⟨[(.array .byte), .int, .int], none⟩ := by decide +kernel
set_option maxRecDepth 65536 in
set_option maxHeartbeats 40000000 in
theorem own_blk1 {p : Program} {l : Launch} {e : Env} {s : State} {m : MethodId} {args : Array Value} {below : List Frame} {meth : Method} {c : Code} {T0 : State} {locs : List Loc} {Z : State} {a0 : Array Value} {h0 : Heap} {n0 : Nat} (p1 p2 : Int32) (q3 : Int64) (p4 p5 dI dL dB bv dG : Int32) (bg ex ro b0 bb : Addr) (n : Nat) (f e_ g : Nat → Int32)
    (X0 : Stand p l e room_1 s m args below meth c T0 locs 5 267) (hx : p.tables.exec = Jvm.exec) (hZ : Z.Warmed39 s.vm) (hw : ∀ d ∈ tables_1, d.before a0 Z = true) (hby : c.code = code) (hml : c.maxLocals = 21) (hown : s.vm.findClass "com/example/haulway/haulway/io/RecordOutputToBytesPinLaw" = some m.cls) (e0 : T0.heap = h0) (N0 : Fr n0 locs) (Z0 : n0 ≤ h0.size) (hF : Exa Z h0 ro "com/example/haulway/haulway/io/RecordOutput" ∧ Fld Z h0 ro "com/example/haulway/haulway/io/RecordOutput" "bytes" "[B" (.ref bb) ∧ Fld Z h0 ro "com/example/haulway/haulway/io/RecordOutput" "length" "I" (.int (Int32.ofNat n)) ∧ own_B Z h0 bb 64 f ∧ own_B Z h0 ex 13 e_ ∧ own_B Z h0 bg 60 g) (hag : ∀ j, j < n → f j = e_ j) (hn : n ≤ 0) (nrb : ro ≠ bb) (nrx : ro ≠ ex) (nbx : bb ≠ ex) (ngr : bg ≠ ro) (ngb : bg ≠ bb) (ngx : bg ≠ ex) (gr : n0 ≤ ro) (gbb : n0 ≤ bb) (gx : n0 ≤ ex) (gg : n0 ≤ bg) :
    ∃ (T' : State) (h' : Heap) (locs' : List Loc) (n' : Nat) (f' e' : Nat → Int32), Stand p l e room_1 s m args below meth c T' locs' 5 267 ∧ T'.heap = h' ∧ Fr n0 locs' ∧ n0 ≤ h'.size ∧ (Exa Z h' ro "com/example/haulway/haulway/io/RecordOutput" ∧ Fld Z h' ro "com/example/haulway/haulway/io/RecordOutput" "bytes" "[B" (.ref bb) ∧ Fld Z h' ro "com/example/haulway/haulway/io/RecordOutput" "length" "I" (.int (Int32.ofNat n')) ∧ own_B Z h' bb 64 f' ∧ own_B Z h' ex 13 e' ∧ own_B Z h' bg 60 g) ∧ (∀ j, j < n' → f' j = e' j) ∧ n' ≤ 4 ∧
      ∀ t, Steps p.tables e below (T'.setTop (mkF m 158 #[.val (.int p1), .val (.int p2), .val (.long q3), .second, .val (.int p4), .val (.int p5), .val (.int dI), .val (.int dL), .val (.int dB), .val (.int bv), .val (.int dG), .val (.ref bg), .val (.ref ex), .val (.int (Int32.ofNat n')), .val (.ref ro), .val (.ref b0), .unset, .unset, .unset, .unset, .unset] [])) t → Steps p.tables e below (T0.setTop (mkF m 135 #[.val (.int p1), .val (.int p2), .val (.long q3), .second, .val (.int p4), .val (.int p5), .val (.int dI), .val (.int dL), .val (.int dB), .val (.int bv), .val (.int dG), .val (.ref bg), .val (.ref ex), .val (.int (Int32.ofNat n)), .val (.ref ro), .val (.ref b0), .unset, .unset, .unset, .unset, .unset] [])) t := by
  obtain ⟨E1, F1, F2, B1, BX, BG⟩ := hF
  have pre0 : ∀ t, Steps p.tables e below (T0.setTop (mkF m 135 #[.val (.int p1), .val (.int p2), .val (.long q3), .second, .val (.int p4), .val (.int p5), .val (.int dI), .val (.int dL), .val (.int dB), .val (.int bv), .val (.int dG), .val (.ref bg), .val (.ref ex), .val (.int (Int32.ofNat n)), .val (.ref ro), .val (.ref b0), .unset, .unset, .unset, .unset, .unset] [])) t → Steps p.tables e below (T0.setTop (mkF m 135 #[.val (.int p1), .val (.int p2), .val (.long q3), .second, .val (.int p4), .val (.int p5), .val (.int dI), .val (.int dL), .val (.int dB), .val (.int bv), .val (.int dG), .val (.ref bg), .val (.ref ex), .val (.int (Int32.ofNat n)), .val (.ref ro), .val (.ref b0), .unset, .unset, .unset, .unset, .unset] [])) t := fun t k => k
  have pre1 : ∀ t, Steps p.tables e below (T0.setTop (mkF m 137 #[.val (.int p1), .val (.int p2), .val (.long q3), .second, .val (.int p4), .val (.int p5), .val (.int dI), .val (.int dL), .val (.int dB), .val (.int bv), .val (.int dG), .val (.ref bg), .val (.ref ex), .val (.int (Int32.ofNat n)), .val (.ref ro), .val (.ref b0), .unset, .unset, .unset, .unset, .unset] [(.int dI)])) t → Steps p.tables e below _ t := fun t kt => pre0 t (by
    show Steps p.tables e below (T0.setTop (mkF m 135 #[.val (.int p1), .val (.int p2), .val (.long q3), .second, .val (.int p4), .val (.int p5), .val (.int dI), .val (.int dL), .val (.int dB), .val (.int bv), .val (.int dG), .val (.ref bg), .val (.ref ex), .val (.int (Int32.ofNat n)), .val (.ref ro), .val (.ref b0), .unset, .unset, .unset, .unset, .unset] [])) _
    refine XS.iload X0.here hx rfl (hb hby at_135) rfl ?_
    exact kt)
  by_cases hc137 : dI = (0 : Int32)
  · have pre2 : ∀ t, Steps p.tables e below (T0.setTop (mkF m 158 #[.val (.int p1), .val (.int p2), .val (.long q3), .second, .val (.int p4), .val (.int p5), .val (.int dI), .val (.int dL), .val (.int dB), .val (.int bv), .val (.int dG), .val (.ref bg), .val (.ref ex), .val (.int (Int32.ofNat n)), .val (.ref ro), .val (.ref b0), .unset, .unset, .unset, .unset, .unset] [])) t → Steps p.tables e below _ t := fun t kt => pre1 t (by
      show Steps p.tables e below (T0.setTop (mkF m 137 #[.val (.int p1), .val (.int p2), .val (.long q3), .second, .val (.int p4), .val (.int p5), .val (.int dI), .val (.int dL), .val (.int dB), .val (.int bv), .val (.int dG), .val (.ref bg), .val (.ref ex), .val (.int (Int32.ofNat n)), .val (.ref ro), .val (.ref b0), .unset, .unset, .unset, .unset, .unset] [(.int dI)])) _
      refine XS.ifYes X0.here hx rfl (pc0 := 137) (pc' := 158) rfl (hb hby at_137) rfl ((if0 _ _).trans (teq hc137).1) (by decide) (by decide) ?_
      exact kt)
    exact ⟨T0, h0, _, n, f, e_, X0, e0, N0, Z0, ⟨E1, F1, F2, B1, BX, BG⟩, hag, by omega, pre2⟩
  · have pre3 : ∀ t, Steps p.tables e below (T0.setTop (mkF m 143 #[.val (.int p1), .val (.int p2), .val (.long q3), .second, .val (.int p4), .val (.int p5), .val (.int dI), .val (.int dL), .val (.int dB), .val (.int bv), .val (.int dG), .val (.ref bg), .val (.ref ex), .val (.int (Int32.ofNat n)), .val (.ref ro), .val (.ref b0), .unset, .unset, .unset, .unset, .unset] [(.int p2), (.ref ro)])) t → Steps p.tables e below _ t := fun t kt => pre1 t (by
      show Steps p.tables e below (T0.setTop (mkF m 137 #[.val (.int p1), .val (.int p2), .val (.long q3), .second, .val (.int p4), .val (.int p5), .val (.int dI), .val (.int dL), .val (.int dB), .val (.int bv), .val (.int dG), .val (.ref bg), .val (.ref ex), .val (.int (Int32.ofNat n)), .val (.ref ro), .val (.ref b0), .unset, .unset, .unset, .unset, .unset] [(.int dI)])) _
      refine XS.ifNo X0.here hx rfl (hb hby at_137) rfl ((if0 _ _).trans (feq hc137).1) ?_
      refine XS.aload X0.here hx rfl (hb hby at_140) rfl rfl ?_
      refine XS.iloadN X0.here hx rfl (hb hby at_142) rfl ?_
      exact kt)
    obtain ⟨cq4, kq4, q4a, q4b, q4c⟩ := isOf hZ e0 E1
    obtain ⟨_, _, ⟨T4, L4, k4, n4⟩, -, X4, ⟨Lc4, hQ4, l4, y4, z4⟩, st4⟩ := X0.virtualBack hx (y := (⟨"com/example/haulway/haulway/io/RecordOutput", "putInt", "(I)Lcom/example/haulway/haulway/io/RecordOutput;"⟩ : MethodName)) (z := (⟨"com/example/haulway/haulway/io/RecordOutput", "putInt", "(I)Lcom/example/haulway/haulway/io/RecordOutput;"⟩ : MethodName)) hown (mvT hZ (hw _ (List.mem_of_getElem? (i := 38) rfl))) (mvT hZ (hw _ (List.mem_of_getElem? (i := 39) rfl))) (notFace_of_selects (args := #[]) (mvT hZ (hw _ (List.mem_of_getElem? (i := 41) rfl)))) (mvT hZ (hw _ (List.mem_of_getElem? (i := 41) rfl))) (mvT hZ (hw _ (List.mem_of_getElem? (i := 40) rfl))) (by decide) (backOf (W := 0) (rm8 l Z a0 hw [] ro bb 64 n f p2 h0 n0 Z0 E1 F1 F2 B1 (by decide) (by omega) nrb gr gbb) hZ (hw _ (List.mem_of_getElem? (i := 42) rfl)) (hw _ (List.mem_of_getElem? (i := 3) rfl)) (by decide) (by decide)) q4a q4c (g := (mkF m 143 #[.val (.int p1), .val (.int p2), .val (.long q3), .second, .val (.int p4), .val (.int p5), .val (.int dI), .val (.int dL), .val (.int dB), .val (.int bv), .val (.int dG), .val (.ref bg), .val (.ref ex), .val (.int (Int32.ofNat n)), .val (.ref ro), .val (.ref b0), .unset, .unset, .unset, .unset, .unset] [(.int p2), (.ref ro)])) rfl (by rw [hml]; rfl) (Steps.refl _) (argsL := [(.int p2)]) (rest := []) (lenOf pd_4 rfl) rfl (by show 2 * 0 + _ ≤ _; exact Nat.le_of_eq rfl) (hb hby at_143) (fun _ _ => ⟨rfl, e0, (by decide : 5 + 0 ≤ _), (by decide : 267 + 0 ≤ _)⟩)
    dsimp only [Pt.U, Pt.locs, Pt.cells, Pt.slots] at X4 l4 y4 z4 st4 hQ4
    subst l4 y4 z4
    obtain ⟨rfl, N4q, Kp_4, Ep_4, Fp1_4, Fp2_4, Bp_4⟩ := hQ4
    have N4 := Fr.app N0 N4q
    have Zp4 : n0 ≤ T4.heap.size := Nat.le_trans Z0 Kp_4.1
    have BXp4 := own_B_keep BX Kp_4 (ninS (Ne.symm nrx) (ninS (Ne.symm nbx) nin0))
    have BGp4 := own_B_keep BG Kp_4 (ninS ngr (ninS ngb nin0))
    have pre5 : ∀ t, Steps p.tables e below (T4.setTop (mkF m 152 #[.val (.int p1), .val (.int p2), .val (.long q3), .second, .val (.int p4), .val (.int p5), .val (.int dI), .val (.int dL), .val (.int dB), .val (.int bv), .val (.int dG), .val (.ref bg), .val (.ref ex), .val (.int (Int32.ofNat n)), .val (.ref ro), .val (.ref b0), .unset, .unset, .unset, .unset, .unset] [(.int p2), (.int (Int32.ofNat n)), (.ref ex)])) t → Steps p.tables e below _ t := fun t kt => pre3 t (by
      show Steps p.tables e below (T0.setTop (mkF m 143 #[.val (.int p1), .val (.int p2), .val (.long q3), .second, .val (.int p4), .val (.int p5), .val (.int dI), .val (.int dL), .val (.int dB), .val (.int bv), .val (.int dG), .val (.ref bg), .val (.ref ex), .val (.int (Int32.ofNat n)), .val (.ref ro), .val (.ref b0), .unset, .unset, .unset, .unset, .unset] [(.int p2), (.ref ro)])) _
      refine st4.trans ?_
      refine XS.pop X4.here hx rfl (hb hby at_146) rfl rfl ?_
      refine XS.aload X4.here hx rfl (hb hby at_147) rfl rfl ?_
      show Steps p.tables e below (T4.setTop (mkF m 149 #[.val (.int p1), .val (.int p2), .val (.long q3), .second, .val (.int p4), .val (.int p5), .val (.int dI), .val (.int dL), .val (.int dB), .val (.int bv), .val (.int dG), .val (.ref bg), .val (.ref ex), .val (.int (Int32.ofNat n)), .val (.ref ro), .val (.ref b0), .unset, .unset, .unset, .unset, .unset] [(.ref ex)])) _
      refine XS.iload X4.here hx rfl (hb hby at_149) rfl ?_
      refine XS.iloadN X4.here hx rfl (hb hby at_151) rfl ?_
      exact kt)
    obtain ⟨_, _, ⟨T6, L6, k6, n6⟩, -, X6, ⟨Lc6, hQ6, l6, y6, z6⟩, st6⟩ := Jvm.LawKit.callS X4 hx (y := (⟨"com/example/haulway/haulway/io/RecordOutputToBytesPinLaw", "put4", "([BII)V"⟩ : MethodName)) hown (mvT hZ (hw _ (List.mem_of_getElem? (i := 52) rfl))) (mvT hZ (hw _ (List.mem_of_getElem? (i := 53) rfl))) (mvT hZ (hw _ (List.mem_of_getElem? (i := 33) rfl))) (mvT hZ (hw _ (List.mem_of_getElem? (i := 54) rfl))) (by decide) (backOf (W := 0) (rm11 l Z a0 hw [] ex 13 n e_ p2 T4.heap n0 Zp4 BXp4 (by decide) (by omega) gx) hZ (hw _ (List.mem_of_getElem? (i := 54) rfl)) (hw _ (List.mem_of_getElem? (i := 33) rfl)) (by decide) (by decide)) (g := (mkF m 152 #[.val (.int p1), .val (.int p2), .val (.long q3), .second, .val (.int p4), .val (.int p5), .val (.int dI), .val (.int dL), .val (.int dB), .val (.int bv), .val (.int dG), .val (.ref bg), .val (.ref ex), .val (.int (Int32.ofNat n)), .val (.ref ro), .val (.ref b0), .unset, .unset, .unset, .unset, .unset] [(.int p2), (.int (Int32.ofNat n)), (.ref ex)])) rfl (by rw [hml]; rfl) (argsL := [(.ref ex), (.int (Int32.ofNat n)), (.int p2)]) (rest := []) (lenOf pd_5 rfl) rfl (by show 2 * 0 + _ ≤ _; exact Nat.le_of_eq rfl) (hb hby at_152) (fun _ _ => ⟨rfl, rfl, (by decide : 5 + 0 ≤ _), (by decide : 267 + 0 ≤ _)⟩)
    dsimp only [Pt.U, Pt.locs, Pt.cells, Pt.slots] at X6 l6 y6 z6 st6 hQ6
    subst l6 y6 z6
    obtain ⟨rfl, N6q, Kx_6, Bx_6⟩ := hQ6
    have N6 := Fr.app N4 N6q
    have Zx6 : n0 ≤ T6.heap.size := Nat.le_trans Zp4 Kx_6.1
    have Ex6 := Ep_4.keep Kx_6
    have Fx16 := Fp1_4.keep Kx_6 (ninS nrx nin0)
    have Fx26 := Fp2_4.keep Kx_6 (ninS nrx nin0)
    have By6 := own_B_keep Bp_4 Kx_6 (ninS nbx nin0)
    have Bg6 := own_B_keep BGp4 Kx_6 (ninS ngx nin0)
    have pre7 : ∀ t, Steps p.tables e below (T6.setTop (mkF m 158 #[.val (.int p1), .val (.int p2), .val (.long q3), .second, .val (.int p4), .val (.int p5), .val (.int dI), .val (.int dL), .val (.int dB), .val (.int bv), .val (.int dG), .val (.ref bg), .val (.ref ex), .val (.int ((Int32.ofNat n) + (4 : Int32))), .val (.ref ro), .val (.ref b0), .unset, .unset, .unset, .unset, .unset] [])) t → Steps p.tables e below _ t := fun t kt => pre5 t (by
      show Steps p.tables e below (T4.setTop (mkF m 152 #[.val (.int p1), .val (.int p2), .val (.long q3), .second, .val (.int p4), .val (.int p5), .val (.int dI), .val (.int dL), .val (.int dB), .val (.int bv), .val (.int dG), .val (.ref bg), .val (.ref ex), .val (.int (Int32.ofNat n)), .val (.ref ro), .val (.ref b0), .unset, .unset, .unset, .unset, .unset] [(.int p2), (.int (Int32.ofNat n)), (.ref ex)])) _
      refine st6 _ ?_
      refine XS.iinc X6.here hx rfl (hb hby at_155) rfl (l' := #[.val (.int p1), .val (.int p2), .val (.long q3), .second, .val (.int p4), .val (.int p5), .val (.int dI), .val (.int dL), .val (.int dB), .val (.int bv), .val (.int dG), .val (.ref bg), .val (.ref ex), .val (.int ((Int32.ofNat n) + (4 : Int32))), .val (.ref ro), .val (.ref b0), .unset, .unset, .unset, .unset, .unset]) rfl ?_
      exact kt)
    have hv8 : ((Int32.ofNat n) + (4 : Int32)) = (Int32.ofNat (n + 4)) := own_add n 4
    rw [hv8] at pre7
    have ag' := own_agree4 p2 hag
    exact ⟨T6, T6.heap, _, (n + 4), (own_p4 f n p2), (own_p4 e_ n p2), X6, rfl, N6, Zx6, ⟨Ex6, Fx16, Fx26, By6, Bx_6, Bg6⟩, ag', by omega, pre7⟩
theorem pd_6 : parseMethodDescriptor "(J)Lcom/example/haulway/haulway/io/RecordOutput;" = some ⟨[.long], some (.object "com/example/haulway/haulway/io/RecordOutput")⟩ := by decide +kernel
set_option maxRecDepth 65536 in
set_option maxHeartbeats 40000000 in
theorem own_blk2 {p : Program} {l : Launch} {e : Env} {s : State} {m : MethodId} {args : Array Value} {below : List Frame} {meth : Method} {c : Code} {T0 : State} {locs : List Loc} {Z : State} {a0 : Array Value} {h0 : Heap} {n0 : Nat} (p1 p2 : Int32) (q3 : Int64) (p4 p5 dI dL dB bv dG : Int32) (bg ex ro b0 bb : Addr) (n : Nat) (f e_ g : Nat → Int32)
    (X0 : Stand p l e room_1 s m args below meth c T0 locs 5 267) (hx : p.tables.exec = Jvm.exec) (hZ : Z.Warmed39 s.vm) (hw : ∀ d ∈ tables_1, d.before a0 Z = true) (hby : c.code = code) (hml : c.maxLocals = 21) (hown : s.vm.findClass "com/example/haulway/haulway/io/RecordOutputToBytesPinLaw" = some m.cls) (e0 : T0.heap = h0) (N0 : Fr n0 locs) (Z0 : n0 ≤ h0.size) (hF : Exa Z h0 ro "com/example/haulway/haulway/io/RecordOutput" ∧ Fld Z h0 ro "com/example/haulway/haulway/io/RecordOutput" "bytes" "[B" (.ref bb) ∧ Fld Z h0 ro "com/example/haulway/haulway/io/RecordOutput" "length" "I" (.int (Int32.ofNat n)) ∧ own_B Z h0 bb 64 f ∧ own_B Z h0 ex 13 e_ ∧ own_B Z h0 bg 60 g) (hag : ∀ j, j < n → f j = e_ j) (hn : n ≤ 4) (nrb : ro ≠ bb) (nrx : ro ≠ ex) (nbx : bb ≠ ex) (ngr : bg ≠ ro) (ngb : bg ≠ bb) (ngx : bg ≠ ex) (gr : n0 ≤ ro) (gbb : n0 ≤ bb) (gx : n0 ≤ ex) (gg : n0 ≤ bg) :
    ∃ (T' : State) (h' : Heap) (locs' : List Loc) (n' : Nat) (f' e' : Nat → Int32), Stand p l e room_1 s m args below meth c T' locs' 5 267 ∧ T'.heap = h' ∧ Fr n0 locs' ∧ n0 ≤ h'.size ∧ (Exa Z h' ro "com/example/haulway/haulway/io/RecordOutput" ∧ Fld Z h' ro "com/example/haulway/haulway/io/RecordOutput" "bytes" "[B" (.ref bb) ∧ Fld Z h' ro "com/example/haulway/haulway/io/RecordOutput" "length" "I" (.int (Int32.ofNat n')) ∧ own_B Z h' bb 64 f' ∧ own_B Z h' ex 13 e' ∧ own_B Z h' bg 60 g) ∧ (∀ j, j < n' → f' j = e' j) ∧ n' ≤ 12 ∧
      ∀ t, Steps p.tables e below (T'.setTop (mkF m 196 #[.val (.int p1), .val (.int p2), .val (.long q3), .second, .val (.int p4), .val (.int p5), .val (.int dI), .val (.int dL), .val (.int dB), .val (.int bv), .val (.int dG), .val (.ref bg), .val (.ref ex), .val (.int (Int32.ofNat n')), .val (.ref ro), .val (.ref b0), .unset, .unset, .unset, .unset, .unset] [])) t → Steps p.tables e below (T0.setTop (mkF m 158 #[.val (.int p1), .val (.int p2), .val (.long q3), .second, .val (.int p4), .val (.int p5), .val (.int dI), .val (.int dL), .val (.int dB), .val (.int bv), .val (.int dG), .val (.ref bg), .val (.ref ex), .val (.int (Int32.ofNat n)), .val (.ref ro), .val (.ref b0), .unset, .unset, .unset, .unset, .unset] [])) t := by
  obtain ⟨E1, F1, F2, B1, BX, BG⟩ := hF
  have pre0 : ∀ t, Steps p.tables e below (T0.setTop (mkF m 158 #[.val (.int p1), .val (.int p2), .val (.long q3), .second, .val (.int p4), .val (.int p5), .val (.int dI), .val (.int dL), .val (.int dB), .val (.int bv), .val (.int dG), .val (.ref bg), .val (.ref ex), .val (.int (Int32.ofNat n)), .val (.ref ro), .val (.ref b0), .unset, .unset, .unset, .unset, .unset] [])) t → Steps p.tables e below (T0.setTop (mkF m 158 #[.val (.int p1), .val (.int p2), .val (.long q3), .second, .val (.int p4), .val (.int p5), .val (.int dI), .val (.int dL), .val (.int dB), .val (.int bv), .val (.int dG), .val (.ref bg), .val (.ref ex), .val (.int (Int32.ofNat n)), .val (.ref ro), .val (.ref b0), .unset, .unset, .unset, .unset, .unset] [])) t := fun t k => k
  have pre1 : ∀ t, Steps p.tables e below (T0.setTop (mkF m 160 #[.val (.int p1), .val (.int p2), .val (.long q3), .second, .val (.int p4), .val (.int p5), .val (.int dI), .val (.int dL), .val (.int dB), .val (.int bv), .val (.int dG), .val (.ref bg), .val (.ref ex), .val (.int (Int32.ofNat n)), .val (.ref ro), .val (.ref b0), .unset, .unset, .unset, .unset, .unset] [(.int dL)])) t → Steps p.tables e below _ t := fun t kt => pre0 t (by
    show Steps p.tables e below (T0.setTop (mkF m 158 #[.val (.int p1), .val (.int p2), .val (.long q3), .second, .val (.int p4), .val (.int p5), .val (.int dI), .val (.int dL), .val (.int dB), .val (.int bv), .val (.int dG), .val (.ref bg), .val (.ref ex), .val (.int (Int32.ofNat n)), .val (.ref ro), .val (.ref b0), .unset, .unset, .unset, .unset, .unset] [])) _
    refine XS.iload X0.here hx rfl (hb hby at_158) rfl ?_
    exact kt)
  by_cases hc160 : dL = (0 : Int32)
  · have pre2 : ∀ t, Steps p.tables e below (T0.setTop (mkF m 196 #[.val (.int p1), .val (.int p2), .val (.long q3), .second, .val (.int p4), .val (.int p5), .val (.int dI), .val (.int dL), .val (.int dB), .val (.int bv), .val (.int dG), .val (.ref bg), .val (.ref ex), .val (.int (Int32.ofNat n)), .val (.ref ro), .val (.ref b0), .unset, .unset, .unset, .unset, .unset] [])) t → Steps p.tables e below _ t := fun t kt => pre1 t (by
      show Steps p.tables e below (T0.setTop (mkF m 160 #[.val (.int p1), .val (.int p2), .val (.long q3), .second, .val (.int p4), .val (.int p5), .val (.int dI), .val (.int dL), .val (.int dB), .val (.int bv), .val (.int dG), .val (.ref bg), .val (.ref ex), .val (.int (Int32.ofNat n)), .val (.ref ro), .val (.ref b0), .unset, .unset, .unset, .unset, .unset] [(.int dL)])) _
      refine XS.ifYes X0.here hx rfl (pc0 := 160) (pc' := 196) rfl (hb hby at_160) rfl ((if0 _ _).trans (teq hc160).1) (by decide) (by decide) ?_
      exact kt)
    exact ⟨T0, h0, _, n, f, e_, X0, e0, N0, Z0, ⟨E1, F1, F2, B1, BX, BG⟩, hag, by omega, pre2⟩
  · have pre3 : ∀ t, Steps p.tables e below (T0.setTop (mkF m 166 #[.val (.int p1), .val (.int p2), .val (.long q3), .second, .val (.int p4), .val (.int p5), .val (.int dI), .val (.int dL), .val (.int dB), .val (.int bv), .val (.int dG), .val (.ref bg), .val (.ref ex), .val (.int (Int32.ofNat n)), .val (.ref ro), .val (.ref b0), .unset, .unset, .unset, .unset, .unset] [(.long q3), (.ref ro)])) t → Steps p.tables e below _ t := fun t kt => pre1 t (by
      show Steps p.tables e below (T0.setTop (mkF m 160 #[.val (.int p1), .val (.int p2), .val (.long q3), .second, .val (.int p4), .val (.int p5), .val (.int dI), .val (.int dL), .val (.int dB), .val (.int bv), .val (.int dG), .val (.ref bg), .val (.ref ex), .val (.int (Int32.ofNat n)), .val (.ref ro), .val (.ref b0), .unset, .unset, .unset, .unset, .unset] [(.int dL)])) _
      refine XS.ifNo X0.here hx rfl (hb hby at_160) rfl ((if0 _ _).trans (feq hc160).1) ?_
      refine XS.aload X0.here hx rfl (hb hby at_163) rfl rfl ?_
      refine XS.lloadN X0.here hx rfl (hb hby at_165) rfl ?_
      exact kt)
    obtain ⟨cq4, kq4, q4a, q4b, q4c⟩ := isOf hZ e0 E1
    obtain ⟨_, _, ⟨T4, L4, k4, n4⟩, -, X4, ⟨Lc4, hQ4, l4, y4, z4⟩, st4⟩ := X0.virtualBack hx (y := (⟨"com/example/haulway/haulway/io/RecordOutput", "putLong", "(J)Lcom/example/haulway/haulway/io/RecordOutput;"⟩ : MethodName)) (z := (⟨"com/example/haulway/haulway/io/RecordOutput", "putLong", "(J)Lcom/example/haulway/haulway/io/RecordOutput;"⟩ : MethodName)) hown (mvT hZ (hw _ (List.mem_of_getElem? (i := 65) rfl))) (mvT hZ (hw _ (List.mem_of_getElem? (i := 66) rfl))) (notFace_of_selects (args := #[]) (mvT hZ (hw _ (List.mem_of_getElem? (i := 68) rfl)))) (mvT hZ (hw _ (List.mem_of_getElem? (i := 68) rfl))) (mvT hZ (hw _ (List.mem_of_getElem? (i := 67) rfl))) (by decide) (backOf (W := 0) (rm14 l Z a0 hw [] ro bb 64 n f q3 h0 n0 Z0 E1 F1 F2 B1 (by decide) (by omega) nrb gr gbb) hZ (hw _ (List.mem_of_getElem? (i := 69) rfl)) (hw _ (List.mem_of_getElem? (i := 3) rfl)) (by decide) (by decide)) q4a q4c (g := (mkF m 166 #[.val (.int p1), .val (.int p2), .val (.long q3), .second, .val (.int p4), .val (.int p5), .val (.int dI), .val (.int dL), .val (.int dB), .val (.int bv), .val (.int dG), .val (.ref bg), .val (.ref ex), .val (.int (Int32.ofNat n)), .val (.ref ro), .val (.ref b0), .unset, .unset, .unset, .unset, .unset] [(.long q3), (.ref ro)])) rfl (by rw [hml]; rfl) (Steps.refl _) (argsL := [(.long q3)]) (rest := []) (lenOf pd_6 rfl) rfl (by show 2 * 0 + _ ≤ _; exact Nat.le_of_eq rfl) (hb hby at_166) (fun _ _ => ⟨rfl, e0, (by decide : 5 + 0 ≤ _), (by decide : 267 + 0 ≤ _)⟩)
    dsimp only [Pt.U, Pt.locs, Pt.cells, Pt.slots] at X4 l4 y4 z4 st4 hQ4
    subst l4 y4 z4
    obtain ⟨rfl, N4q, Kp_4, Ep_4, Fp1_4, Fp2_4, Bp_4⟩ := hQ4
    have N4 := Fr.app N0 N4q
    have Zp4 : n0 ≤ T4.heap.size := Nat.le_trans Z0 Kp_4.1
    have BXp4 := own_B_keep BX Kp_4 (ninS (Ne.symm nrx) (ninS (Ne.symm nbx) nin0))
    have BGp4 := own_B_keep BG Kp_4 (ninS ngr (ninS ngb nin0))
    have pre5 : ∀ t, Steps p.tables e below (T4.setTop (mkF m 179 #[.val (.int p1), .val (.int p2), .val (.long q3), .second, .val (.int p4), .val (.int p5), .val (.int dI), .val (.int dL), .val (.int dB), .val (.int bv), .val (.int dG), .val (.ref bg), .val (.ref ex), .val (.int (Int32.ofNat n)), .val (.ref ro), .val (.ref b0), .unset, .unset, .unset, .unset, .unset] [(.int (((q3.toUInt64 >>> ((32 : Int32) &&& 0x3f).toInt64.toUInt64).toInt64).toInt32)), (.int (Int32.ofNat n)), (.ref ex)])) t → Steps p.tables e below _ t := fun t kt => pre3 t (by
      show Steps p.tables e below (T0.setTop (mkF m 166 #[.val (.int p1), .val (.int p2), .val (.long q3), .second, .val (.int p4), .val (.int p5), .val (.int dI), .val (.int dL), .val (.int dB), .val (.int bv), .val (.int dG), .val (.ref bg), .val (.ref ex), .val (.int (Int32.ofNat n)), .val (.ref ro), .val (.ref b0), .unset, .unset, .unset, .unset, .unset] [(.long q3), (.ref ro)])) _
      refine st4.trans ?_
      refine XS.pop X4.here hx rfl (hb hby at_169) rfl rfl ?_
      refine XS.aload X4.here hx rfl (hb hby at_170) rfl rfl ?_
      show Steps p.tables e below (T4.setTop (mkF m 172 #[.val (.int p1), .val (.int p2), .val (.long q3), .second, .val (.int p4), .val (.int p5), .val (.int dI), .val (.int dL), .val (.int dB), .val (.int bv), .val (.int dG), .val (.ref bg), .val (.ref ex), .val (.int (Int32.ofNat n)), .val (.ref ro), .val (.ref b0), .unset, .unset, .unset, .unset, .unset] [(.ref ex)])) _
      refine XS.iload X4.here hx rfl (hb hby at_172) rfl ?_
      refine XS.lloadN X4.here hx rfl (hb hby at_174) rfl ?_
      refine XS.bipush X4.here hx rfl (hb hby at_175) ?_
      show Steps p.tables e below (T4.setTop (mkF m 177 #[.val (.int p1), .val (.int p2), .val (.long q3), .second, .val (.int p4), .val (.int p5), .val (.int dI), .val (.int dL), .val (.int dB), .val (.int bv), .val (.int dG), .val (.ref bg), .val (.ref ex), .val (.int (Int32.ofNat n)), .val (.ref ro), .val (.ref b0), .unset, .unset, .unset, .unset, .unset] [(.int (32 : Int32)), (.long q3), (.int (Int32.ofNat n)), (.ref ex)])) _
      refine XS.lushr X4.here hx rfl (hb hby at_177) rfl ?_
      refine XS.l2i X4.here hx rfl (hb hby at_178) rfl ?_
      exact kt)
    obtain ⟨_, _, ⟨T6, L6, k6, n6⟩, -, X6, ⟨Lc6, hQ6, l6, y6, z6⟩, st6⟩ := Jvm.LawKit.callS X4 hx (y := (⟨"com/example/haulway/haulway/io/RecordOutputToBytesPinLaw", "put4", "([BII)V"⟩ : MethodName)) hown (mvT hZ (hw _ (List.mem_of_getElem? (i := 52) rfl))) (mvT hZ (hw _ (List.mem_of_getElem? (i := 53) rfl))) (mvT hZ (hw _ (List.mem_of_getElem? (i := 33) rfl))) (mvT hZ (hw _ (List.mem_of_getElem? (i := 54) rfl))) (by decide) (backOf (W := 0) (rm11 l Z a0 hw [] ex 13 n e_ (((q3.toUInt64 >>> ((32 : Int32) &&& 0x3f).toInt64.toUInt64).toInt64).toInt32) T4.heap n0 Zp4 BXp4 (by decide) (by omega) gx) hZ (hw _ (List.mem_of_getElem? (i := 54) rfl)) (hw _ (List.mem_of_getElem? (i := 33) rfl)) (by decide) (by decide)) (g := (mkF m 179 #[.val (.int p1), .val (.int p2), .val (.long q3), .second, .val (.int p4), .val (.int p5), .val (.int dI), .val (.int dL), .val (.int dB), .val (.int bv), .val (.int dG), .val (.ref bg), .val (.ref ex), .val (.int (Int32.ofNat n)), .val (.ref ro), .val (.ref b0), .unset, .unset, .unset, .unset, .unset] [(.int (((q3.toUInt64 >>> ((32 : Int32) &&& 0x3f).toInt64.toUInt64).toInt64).toInt32)), (.int (Int32.ofNat n)), (.ref ex)])) rfl (by rw [hml]; rfl) (argsL := [(.ref ex), (.int (Int32.ofNat n)), (.int (((q3.toUInt64 >>> ((32 : Int32) &&& 0x3f).toInt64.toUInt64).toInt64).toInt32))]) (rest := []) (lenOf pd_5 rfl) rfl (by show 2 * 0 + _ ≤ _; exact Nat.le_of_eq rfl) (hb hby at_179) (fun _ _ => ⟨rfl, rfl, (by decide : 5 + 0 ≤ _), (by decide : 267 + 0 ≤ _)⟩)
    dsimp only [Pt.U, Pt.locs, Pt.cells, Pt.slots] at X6 l6 y6 z6 st6 hQ6
    subst l6 y6 z6
    obtain ⟨rfl, N6q, Kx_6, Bx_6⟩ := hQ6
    have N6 := Fr.app N4 N6q
    have Zx6 : n0 ≤ T6.heap.size := Nat.le_trans Zp4 Kx_6.1
    have Ex6 := Ep_4.keep Kx_6
    have Fx16 := Fp1_4.keep Kx_6 (ninS nrx nin0)
    have Fx26 := Fp2_4.keep Kx_6 (ninS nrx nin0)
    have By6 := own_B_keep Bp_4 Kx_6 (ninS nbx nin0)
    have Bg6 := own_B_keep BGp4 Kx_6 (ninS ngx nin0)
    have pre7 : ∀ t, Steps p.tables e below (T6.setTop (mkF m 190 #[.val (.int p1), .val (.int p2), .val (.long q3), .second, .val (.int p4), .val (.int p5), .val (.int dI), .val (.int dL), .val (.int dB), .val (.int bv), .val (.int dG), .val (.ref bg), .val (.ref ex), .val (.int (Int32.ofNat n)), .val (.ref ro), .val (.ref b0), .unset, .unset, .unset, .unset, .unset] [(.int (q3.toInt32)), (.int ((Int32.ofNat n) + (4 : Int32))), (.ref ex)])) t → Steps p.tables e below _ t := fun t kt => pre5 t (by
      show Steps p.tables e below (T4.setTop (mkF m 179 #[.val (.int p1), .val (.int p2), .val (.long q3), .second, .val (.int p4), .val (.int p5), .val (.int dI), .val (.int dL), .val (.int dB), .val (.int bv), .val (.int dG), .val (.ref bg), .val (.ref ex), .val (.int (Int32.ofNat n)), .val (.ref ro), .val (.ref b0), .unset, .unset, .unset, .unset, .unset] [(.int (((q3.toUInt64 >>> ((32 : Int32) &&& 0x3f).toInt64.toUInt64).toInt64).toInt32)), (.int (Int32.ofNat n)), (.ref ex)])) _
      refine st6 _ ?_
      refine XS.aload X6.here hx rfl (hb hby at_182) rfl rfl ?_
      refine XS.iload X6.here hx rfl (hb hby at_184) rfl ?_
      show Steps p.tables e below (T6.setTop (mkF m 186 #[.val (.int p1), .val (.int p2), .val (.long q3), .second, .val (.int p4), .val (.int p5), .val (.int dI), .val (.int dL), .val (.int dB), .val (.int bv), .val (.int dG), .val (.ref bg), .val (.ref ex), .val (.int (Int32.ofNat n)), .val (.ref ro), .val (.ref b0), .unset, .unset, .unset, .unset, .unset] [(.int (Int32.ofNat n)), (.ref ex)])) _
      refine XS.iconst X6.here hx rfl (hb hby at_186) ?_
      refine XS.iadd X6.here hx rfl (hb hby at_187) rfl ?_
      refine XS.lloadN X6.here hx rfl (hb hby at_188) rfl ?_
      show Steps p.tables e below (T6.setTop (mkF m 189 #[.val (.int p1), .val (.int p2), .val (.long q3), .second, .val (.int p4), .val (.int p5), .val (.int dI), .val (.int dL), .val (.int dB), .val (.int bv), .val (.int dG), .val (.ref bg), .val (.ref ex), .val (.int (Int32.ofNat n)), .val (.ref ro), .val (.ref b0), .unset, .unset, .unset, .unset, .unset] [(.long q3), (.int ((Int32.ofNat n) + (4 : Int32))), (.ref ex)])) _
      refine XS.l2i X6.here hx rfl (hb hby at_189) rfl ?_
      exact kt)
    have hv8 : ((Int32.ofNat n) + (4 : Int32)) = (Int32.ofNat (n + 4)) := own_add n 4
    rw [hv8] at pre7
    obtain ⟨_, _, ⟨T9, L9, k9, n9⟩, -, X9, ⟨Lc9, hQ9, l9, y9, z9⟩, st9⟩ := Jvm.LawKit.callS X6 hx (y := (⟨"com/example/haulway/haulway/io/RecordOutputToBytesPinLaw", "put4", "([BII)V"⟩ : MethodName)) hown (mvT hZ (hw _ (List.mem_of_getElem? (i := 52) rfl))) (mvT hZ (hw _ (List.mem_of_getElem? (i := 53) rfl))) (mvT hZ (hw _ (List.mem_of_getElem? (i := 33) rfl))) (mvT hZ (hw _ (List.mem_of_getElem? (i := 54) rfl))) (by decide) (backOf (W := 0) (rm11 l Z a0 hw [] ex 13 (n + 4) (own_p4 e_ n (((q3.toUInt64 >>> ((32 : Int32) &&& 0x3f).toInt64.toUInt64).toInt64).toInt32)) (q3.toInt32) T6.heap n0 Zx6 Bx_6 (by decide) (by omega) gx) hZ (hw _ (List.mem_of_getElem? (i := 54) rfl)) (hw _ (List.mem_of_getElem? (i := 33) rfl)) (by decide) (by decide)) (g := (mkF m 190 #[.val (.int p1), .val (.int p2), .val (.long q3), .second, .val (.int p4), .val (.int p5), .val (.int dI), .val (.int dL), .val (.int dB), .val (.int bv), .val (.int dG), .val (.ref bg), .val (.ref ex), .val (.int (Int32.ofNat n)), .val (.ref ro), .val (.ref b0), .unset, .unset, .unset, .unset, .unset] [(.int (q3.toInt32)), (.int (Int32.ofNat (n + 4))), (.ref ex)])) rfl (by rw [hml]; rfl) (argsL := [(.ref ex), (.int (Int32.ofNat (n + 4))), (.int (q3.toInt32))]) (rest := []) (lenOf pd_5 rfl) rfl (by show 2 * 0 + _ ≤ _; exact Nat.le_of_eq rfl) (hb hby at_190) (fun _ _ => ⟨rfl, rfl, (by decide : 5 + 0 ≤ _), (by decide : 267 + 0 ≤ _)⟩)
    dsimp only [Pt.U, Pt.locs, Pt.cells, Pt.slots] at X9 l9 y9 z9 st9 hQ9
    subst l9 y9 z9
    obtain ⟨rfl, N9q, Kx_9, Bx_9⟩ := hQ9
    have N9 := Fr.app N6 N9q
    have Zx9 : n0 ≤ T9.heap.size := Nat.le_trans Zx6 Kx_9.1
    have Ex9 := Ex6.keep Kx_9
    have Fx19 := Fx16.keep Kx_9 (ninS nrx nin0)
    have Fx29 := Fx26.keep Kx_9 (ninS nrx nin0)
    have By9 := own_B_keep By6 Kx_9 (ninS nbx nin0)
    have Bg9 := own_B_keep Bg6 Kx_9 (ninS ngx nin0)
    have pre10 : ∀ t, Steps p.tables e below (T9.setTop (mkF m 196 #[.val (.int p1), .val (.int p2), .val (.long q3), .second, .val (.int p4), .val (.int p5), .val (.int dI), .val (.int dL), .val (.int dB), .val (.int bv), .val (.int dG), .val (.ref bg), .val (.ref ex), .val (.int ((Int32.ofNat n) + (8 : Int32))), .val (.ref ro), .val (.ref b0), .unset, .unset, .unset, .unset, .unset] [])) t → Steps p.tables e below _ t := fun t kt => pre7 t (by
      show Steps p.tables e below (T6.setTop (mkF m 190 #[.val (.int p1), .val (.int p2), .val (.long q3), .second, .val (.int p4), .val (.int p5), .val (.int dI), .val (.int dL), .val (.int dB), .val (.int bv), .val (.int dG), .val (.ref bg), .val (.ref ex), .val (.int (Int32.ofNat n)), .val (.ref ro), .val (.ref b0), .unset, .unset, .unset, .unset, .unset] [(.int (q3.toInt32)), (.int (Int32.ofNat (n + 4))), (.ref ex)])) _
      refine st9 _ ?_
      refine XS.iinc X9.here hx rfl (hb hby at_193) rfl (l' := #[.val (.int p1), .val (.int p2), .val (.long q3), .second, .val (.int p4), .val (.int p5), .val (.int dI), .val (.int dL), .val (.int dB), .val (.int bv), .val (.int dG), .val (.ref bg), .val (.ref ex), .val (.int ((Int32.ofNat n) + (8 : Int32))), .val (.ref ro), .val (.ref b0), .unset, .unset, .unset, .unset, .unset]) rfl ?_
      exact kt)
    have hv11 : ((Int32.ofNat n) + (8 : Int32)) = (Int32.ofNat (n + 8)) := own_add n 8
    rw [hv11] at pre10
    have ag' := own_agree8 q3 hag
    exact ⟨T9, T9.heap, _, (n + 8), (own_p8 f n q3), (own_p4 (own_p4 e_ n (((q3.toUInt64 >>> ((32 : Int32) &&& 0x3f).toInt64.toUInt64).toInt64).toInt32)) (n + 4) (q3.toInt32)), X9, rfl, N9, Zx9, ⟨Ex9, Fx19, Fx29, By9, Bx_9, Bg9⟩, ag', by omega, pre10⟩
theorem pd_7 : parseMethodDescriptor "(Z)Lcom/example/haulway/haulway/io/RecordOutput;" = some ⟨[.boolean], some (.object "com/example/haulway/haulway/io/RecordOutput")⟩ := by decide +kernel
set_option maxRecDepth 65536 in
set_option maxHeartbeats 40000000 in
theorem own_blk3 {p : Program} {l : Launch} {e : Env} {s : State} {m : MethodId} {args : Array Value} {below : List Frame} {meth : Method} {c : Code} {T0 : State} {locs : List Loc} {Z : State} {a0 : Array Value} {h0 : Heap} {n0 : Nat} (p1 p2 : Int32) (q3 : Int64) (p4 p5 dI dL dB bv dG : Int32) (bg ex ro b0 bb : Addr) (n : Nat) (f e_ g : Nat → Int32)
    (X0 : Stand p l e room_1 s m args below meth c T0 locs 5 267) (hx : p.tables.exec = Jvm.exec) (hZ : Z.Warmed39 s.vm) (hw : ∀ d ∈ tables_1, d.before a0 Z = true) (hby : c.code = code) (hml : c.maxLocals = 21) (hown : s.vm.findClass "com/example/haulway/haulway/io/RecordOutputToBytesPinLaw" = some m.cls) (e0 : T0.heap = h0) (N0 : Fr n0 locs) (Z0 : n0 ≤ h0.size) (hF : Exa Z h0 ro "com/example/haulway/haulway/io/RecordOutput" ∧ Fld Z h0 ro "com/example/haulway/haulway/io/RecordOutput" "bytes" "[B" (.ref bb) ∧ Fld Z h0 ro "com/example/haulway/haulway/io/RecordOutput" "length" "I" (.int (Int32.ofNat n)) ∧ own_B Z h0 bb 64 f ∧ own_B Z h0 ex 13 e_ ∧ own_B Z h0 bg 60 g) (hag : ∀ j, j < n → f j = e_ j) (hn : n ≤ 12) (nrb : ro ≠ bb) (nrx : ro ≠ ex) (nbx : bb ≠ ex) (ngr : bg ≠ ro) (ngb : bg ≠ bb) (ngx : bg ≠ ex) (gr : n0 ≤ ro) (gbb : n0 ≤ bb) (gx : n0 ≤ ex) (gg : n0 ≤ bg) :
    ∃ (T' : State) (h' : Heap) (locs' : List Loc) (n' : Nat) (f' e' : Nat → Int32), Stand p l e room_1 s m args below meth c T' locs' 5 267 ∧ T'.heap = h' ∧ Fr n0 locs' ∧ n0 ≤ h'.size ∧ (Exa Z h' ro "com/example/haulway/haulway/io/RecordOutput" ∧ Fld Z h' ro "com/example/haulway/haulway/io/RecordOutput" "bytes" "[B" (.ref bb) ∧ Fld Z h' ro "com/example/haulway/haulway/io/RecordOutput" "length" "I" (.int (Int32.ofNat n')) ∧ own_B Z h' bb 64 f' ∧ own_B Z h' ex 13 e' ∧ own_B Z h' bg 60 g) ∧ (∀ j, j < n' → f' j = e' j) ∧ n' ≤ 13 ∧
      ∀ t, Steps p.tables e below (T'.setTop (mkF m 228 #[.val (.int p1), .val (.int p2), .val (.long q3), .second, .val (.int p4), .val (.int p5), .val (.int dI), .val (.int dL), .val (.int dB), .val (.int bv), .val (.int dG), .val (.ref bg), .val (.ref ex), .val (.int (Int32.ofNat n')), .val (.ref ro), .val (.ref b0), .unset, .unset, .unset, .unset, .unset] [])) t → Steps p.tables e below (T0.setTop (mkF m 196 #[.val (.int p1), .val (.int p2), .val (.long q3), .second, .val (.int p4), .val (.int p5), .val (.int dI), .val (.int dL), .val (.int dB), .val (.int bv), .val (.int dG), .val (.ref bg), .val (.ref ex), .val (.int (Int32.ofNat n)), .val (.ref ro), .val (.ref b0), .unset, .unset, .unset, .unset, .unset] [])) t := by
  obtain ⟨E1, F1, F2, B1, BX, BG⟩ := hF
  have pre0 : ∀ t, Steps p.tables e below (T0.setTop (mkF m 196 #[.val (.int p1), .val (.int p2), .val (.long q3), .second, .val (.int p4), .val (.int p5), .val (.int dI), .val (.int dL), .val (.int dB), .val (.int bv), .val (.int dG), .val (.ref bg), .val (.ref ex), .val (.int (Int32.ofNat n)), .val (.ref ro), .val (.ref b0), .unset, .unset, .unset, .unset, .unset] [])) t → Steps p.tables e below (T0.setTop (mkF m 196 #[.val (.int p1), .val (.int p2), .val (.long q3), .second, .val (.int p4), .val (.int p5), .val (.int dI), .val (.int dL), .val (.int dB), .val (.int bv), .val (.int dG), .val (.ref bg), .val (.ref ex), .val (.int (Int32.ofNat n)), .val (.ref ro), .val (.ref b0), .unset, .unset, .unset, .unset, .unset] [])) t := fun t k => k
  have pre1 : ∀ t, Steps p.tables e below (T0.setTop (mkF m 198 #[.val (.int p1), .val (.int p2), .val (.long q3), .second, .val (.int p4), .val (.int p5), .val (.int dI), .val (.int dL), .val (.int dB), .val (.int bv), .val (.int dG), .val (.ref bg), .val (.ref ex), .val (.int (Int32.ofNat n)), .val (.ref ro), .val (.ref b0), .unset, .unset, .unset, .unset, .unset] [(.int dB)])) t → Steps p.tables e below _ t := fun t kt => pre0 t (by
    show Steps p.tables e below (T0.setTop (mkF m 196 #[.val (.int p1), .val (.int p2), .val (.long q3), .second, .val (.int p4), .val (.int p5), .val (.int dI), .val (.int dL), .val (.int dB), .val (.int bv), .val (.int dG), .val (.ref bg), .val (.ref ex), .val (.int (Int32.ofNat n)), .val (.ref ro), .val (.ref b0), .unset, .unset, .unset, .unset, .unset] [])) _
    refine XS.iload X0.here hx rfl (hb hby at_196) rfl ?_
    exact kt)
  by_cases hc198 : dB = (0 : Int32)
  · have pre2 : ∀ t, Steps p.tables e below (T0.setTop (mkF m 228 #[.val (.int p1), .val (.int p2), .val (.long q3), .second, .val (.int p4), .val (.int p5), .val (.int dI), .val (.int dL), .val (.int dB), .val (.int bv), .val (.int dG), .val (.ref bg), .val (.ref ex), .val (.int (Int32.ofNat n)), .val (.ref ro), .val (.ref b0), .unset, .unset, .unset, .unset, .unset] [])) t → Steps p.tables e below _ t := fun t kt => pre1 t (by
      show Steps p.tables e below (T0.setTop (mkF m 198 #[.val (.int p1), .val (.int p2), .val (.long q3), .second, .val (.int p4), .val (.int p5), .val (.int dI), .val (.int dL), .val (.int dB), .val (.int bv), .val (.int dG), .val (.ref bg), .val (.ref ex), .val (.int (Int32.ofNat n)), .val (.ref ro), .val (.ref b0), .unset, .unset, .unset, .unset, .unset] [(.int dB)])) _
      refine XS.ifYes X0.here hx rfl (pc0 := 198) (pc' := 228) rfl (hb hby at_198) rfl ((if0 _ _).trans (teq hc198).1) (by decide) (by decide) ?_
      exact kt)
    exact ⟨T0, h0, _, n, f, e_, X0, e0, N0, Z0, ⟨E1, F1, F2, B1, BX, BG⟩, hag, by omega, pre2⟩
  · have pre3 : ∀ t, Steps p.tables e below (T0.setTop (mkF m 205 #[.val (.int p1), .val (.int p2), .val (.long q3), .second, .val (.int p4), .val (.int p5), .val (.int dI), .val (.int dL), .val (.int dB), .val (.int bv), .val (.int dG), .val (.ref bg), .val (.ref ex), .val (.int (Int32.ofNat n)), .val (.ref ro), .val (.ref b0), .unset, .unset, .unset, .unset, .unset] [(.int bv), (.ref ro)])) t → Steps p.tables e below _ t := fun t kt => pre1 t (by
      show Steps p.tables e below (T0.setTop (mkF m 198 #[.val (.int p1), .val (.int p2), .val (.long q3), .second, .val (.int p4), .val (.int p5), .val (.int dI), .val (.int dL), .val (.int dB), .val (.int bv), .val (.int dG), .val (.ref bg), .val (.ref ex), .val (.int (Int32.ofNat n)), .val (.ref ro), .val (.ref b0), .unset, .unset, .unset, .unset, .unset] [(.int dB)])) _
      refine XS.ifNo X0.here hx rfl (hb hby at_198) rfl ((if0 _ _).trans (feq hc198).1) ?_
      refine XS.aload X0.here hx rfl (hb hby at_201) rfl rfl ?_
      refine XS.iload X0.here hx rfl (hb hby at_203) rfl ?_
      exact kt)
    obtain ⟨cq4, kq4, q4a, q4b, q4c⟩ := isOf hZ e0 E1
    obtain ⟨_, _, ⟨T4, L4, k4, n4⟩, -, X4, ⟨Lc4, hQ4, l4, y4, z4⟩, st4⟩ := X0.virtualBack hx (y := (⟨"com/example/haulway/haulway/io/RecordOutput", "putBoolean", "(Z)Lcom/example/haulway/haulway/io/RecordOutput;"⟩ : MethodName)) (z := (⟨"com/example/haulway/haulway/io/RecordOutput", "putBoolean", "(Z)Lcom/example/haulway/haulway/io/RecordOutput;"⟩ : MethodName)) hown (mvT hZ (hw _ (List.mem_of_getElem? (i := 47) rfl))) (mvT hZ (hw _ (List.mem_of_getElem? (i := 48) rfl))) (notFace_of_selects (args := #[]) (mvT hZ (hw _ (List.mem_of_getElem? (i := 50) rfl)))) (mvT hZ (hw _ (List.mem_of_getElem? (i := 50) rfl))) (mvT hZ (hw _ (List.mem_of_getElem? (i := 49) rfl))) (by decide) (backOf (W := 0) (rm10 l Z a0 hw [] ro bb 64 n f bv h0 n0 Z0 E1 F1 F2 B1 (by decide) (by omega) nrb gr gbb) hZ (hw _ (List.mem_of_getElem? (i := 51) rfl)) (hw _ (List.mem_of_getElem? (i := 3) rfl)) (by decide) (by decide)) q4a q4c (g := (mkF m 205 #[.val (.int p1), .val (.int p2), .val (.long q3), .second, .val (.int p4), .val (.int p5), .val (.int dI), .val (.int dL), .val (.int dB), .val (.int bv), .val (.int dG), .val (.ref bg), .val (.ref ex), .val (.int (Int32.ofNat n)), .val (.ref ro), .val (.ref b0), .unset, .unset, .unset, .unset, .unset] [(.int bv), (.ref ro)])) rfl (by rw [hml]; rfl) (Steps.refl _) (argsL := [(.int bv)]) (rest := []) (lenOf pd_7 rfl) rfl (by show 2 * 0 + _ ≤ _; exact Nat.le_of_eq rfl) (hb hby at_205) (fun _ _ => ⟨rfl, e0, (by decide : 5 + 0 ≤ _), (by decide : 267 + 0 ≤ _)⟩)
    dsimp only [Pt.U, Pt.locs, Pt.cells, Pt.slots] at X4 l4 y4 z4 st4 hQ4
    subst l4 y4 z4
    obtain ⟨rfl, N4q, Kp_4, Ep_4, Fp1_4, Fp2_4, Bp_4⟩ := hQ4
    have N4 := Fr.app N0 N4q
    have Zp4 : n0 ≤ T4.heap.size := Nat.le_trans Z0 Kp_4.1
    have BXp4 := own_B_keep BX Kp_4 (ninS (Ne.symm nrx) (ninS (Ne.symm nbx) nin0))
    have BGp4 := own_B_keep BG Kp_4 (ninS ngr (ninS ngb nin0))
    have pre5 : ∀ t, Steps p.tables e below (T4.setTop (mkF m 215 #[.val (.int p1), .val (.int p2), .val (.long q3), .second, .val (.int p4), .val (.int p5), .val (.int dI), .val (.int dL), .val (.int dB), .val (.int bv), .val (.int dG), .val (.ref bg), .val (.ref ex), .val (.int (Int32.ofNat n)), .val (.ref ro), .val (.ref b0), .unset, .unset, .unset, .unset, .unset] [(.int bv), (.int (Int32.ofNat n)), (.ref ex)])) t → Steps p.tables e below _ t := fun t kt => pre3 t (by
      show Steps p.tables e below (T0.setTop (mkF m 205 #[.val (.int p1), .val (.int p2), .val (.long q3), .second, .val (.int p4), .val (.int p5), .val (.int dI), .val (.int dL), .val (.int dB), .val (.int bv), .val (.int dG), .val (.ref bg), .val (.ref ex), .val (.int (Int32.ofNat n)), .val (.ref ro), .val (.ref b0), .unset, .unset, .unset, .unset, .unset] [(.int bv), (.ref ro)])) _
      refine st4.trans ?_
      refine XS.pop X4.here hx rfl (hb hby at_208) rfl rfl ?_
      refine XS.aload X4.here hx rfl (hb hby at_209) rfl rfl ?_
      show Steps p.tables e below (T4.setTop (mkF m 211 #[.val (.int p1), .val (.int p2), .val (.long q3), .second, .val (.int p4), .val (.int p5), .val (.int dI), .val (.int dL), .val (.int dB), .val (.int bv), .val (.int dG), .val (.ref bg), .val (.ref ex), .val (.int (Int32.ofNat n)), .val (.ref ro), .val (.ref b0), .unset, .unset, .unset, .unset, .unset] [(.ref ex)])) _
      refine XS.iload X4.here hx rfl (hb hby at_211) rfl ?_
      refine XS.iload X4.here hx rfl (hb hby at_213) rfl ?_
      exact kt)
    have pre6 : ∀ t, Steps p.tables e below (T4.setTop (mkF m 223 #[.val (.int p1), .val (.int p2), .val (.long q3), .second, .val (.int p4), .val (.int p5), .val (.int dI), .val (.int dL), .val (.int dB), .val (.int bv), .val (.int dG), .val (.ref bg), .val (.ref ex), .val (.int (Int32.ofNat n)), .val (.ref ro), .val (.ref b0), .unset, .unset, .unset, .unset, .unset] [(.int (if bv = (0 : Int32) then (0 : Int32) else (1 : Int32))), (.int (Int32.ofNat n)), (.ref ex)])) t → Steps p.tables e below (T0.setTop (mkF m 196 #[.val (.int p1), .val (.int p2), .val (.long q3), .second, .val (.int p4), .val (.int p5), .val (.int dI), .val (.int dL), .val (.int dB), .val (.int bv), .val (.int dG), .val (.ref bg), .val (.ref ex), .val (.int (Int32.ofNat n)), .val (.ref ro), .val (.ref b0), .unset, .unset, .unset, .unset, .unset] [])) t := fun t kt => by
      refine pre5 t ?_
      by_cases hd215 : bv = (0 : Int32)
      · simp only [if_pos hd215] at kt
        show Steps p.tables e below (T4.setTop (mkF m 215 #[.val (.int p1), .val (.int p2), .val (.long q3), .second, .val (.int p4), .val (.int p5), .val (.int dI), .val (.int dL), .val (.int dB), .val (.int bv), .val (.int dG), .val (.ref bg), .val (.ref ex), .val (.int (Int32.ofNat n)), .val (.ref ro), .val (.ref b0), .unset, .unset, .unset, .unset, .unset] [(.int bv), (.int (Int32.ofNat n)), (.ref ex)])) _
        refine XS.ifYes X4.here hx rfl (pc0 := 215) (pc' := 222) rfl (hb hby at_215) rfl ((if0 _ _).trans (teq hd215).1) (by decide) (by decide) ?_
        show Steps p.tables e below (T4.setTop (mkF m 222 #[.val (.int p1), .val (.int p2), .val (.long q3), .second, .val (.int p4), .val (.int p5), .val (.int dI), .val (.int dL), .val (.int dB), .val (.int bv), .val (.int dG), .val (.ref bg), .val (.ref ex), .val (.int (Int32.ofNat n)), .val (.ref ro), .val (.ref b0), .unset, .unset, .unset, .unset, .unset] [(.int (Int32.ofNat n)), (.ref ex)])) _
        refine XS.iconst X4.here hx rfl (hb hby at_222) ?_
        exact kt
      · simp only [if_neg hd215] at kt
        show Steps p.tables e below (T4.setTop (mkF m 215 #[.val (.int p1), .val (.int p2), .val (.long q3), .second, .val (.int p4), .val (.int p5), .val (.int dI), .val (.int dL), .val (.int dB), .val (.int bv), .val (.int dG), .val (.ref bg), .val (.ref ex), .val (.int (Int32.ofNat n)), .val (.ref ro), .val (.ref b0), .unset, .unset, .unset, .unset, .unset] [(.int bv), (.int (Int32.ofNat n)), (.ref ex)])) _
        refine XS.ifNo X4.here hx rfl (hb hby at_215) rfl ((if0 _ _).trans (feq hd215).1) ?_
        show Steps p.tables e below (T4.setTop (mkF m 218 #[.val (.int p1), .val (.int p2), .val (.long q3), .second, .val (.int p4), .val (.int p5), .val (.int dI), .val (.int dL), .val (.int dB), .val (.int bv), .val (.int dG), .val (.ref bg), .val (.ref ex), .val (.int (Int32.ofNat n)), .val (.ref ro), .val (.ref b0), .unset, .unset, .unset, .unset, .unset] [(.int (Int32.ofNat n)), (.ref ex)])) _
        refine XS.iconst X4.here hx rfl (hb hby at_218) ?_
        show Steps p.tables e below (T4.setTop (mkF m 219 #[.val (.int p1), .val (.int p2), .val (.long q3), .second, .val (.int p4), .val (.int p5), .val (.int dI), .val (.int dL), .val (.int dB), .val (.int bv), .val (.int dG), .val (.ref bg), .val (.ref ex), .val (.int (Int32.ofNat n)), .val (.ref ro), .val (.ref b0), .unset, .unset, .unset, .unset, .unset] [(.int (1 : Int32)), (.int (Int32.ofNat n)), (.ref ex)])) _
        refine XS.goto X4.here hx rfl (pc0 := 219) (pc' := 223) rfl (hb hby at_219) (by decide) (by decide) ?_
        exact kt
    have pre7 : ∀ t, Steps p.tables e below (T4.setTop (mkF m 224 #[.val (.int p1), .val (.int p2), .val (.long q3), .second, .val (.int p4), .val (.int p5), .val (.int dI), .val (.int dL), .val (.int dB), .val (.int bv), .val (.int dG), .val (.ref bg), .val (.ref ex), .val (.int (Int32.ofNat n)), .val (.ref ro), .val (.ref b0), .unset, .unset, .unset, .unset, .unset] [(.int ((if bv = (0 : Int32) then (0 : Int32) else (1 : Int32)).toInt8.toInt32)), (.int (Int32.ofNat n)), (.ref ex)])) t → Steps p.tables e below _ t := fun t kt => pre6 t (by
      show Steps p.tables e below (T4.setTop (mkF m 223 #[.val (.int p1), .val (.int p2), .val (.long q3), .second, .val (.int p4), .val (.int p5), .val (.int dI), .val (.int dL), .val (.int dB), .val (.int bv), .val (.int dG), .val (.ref bg), .val (.ref ex), .val (.int (Int32.ofNat n)), .val (.ref ro), .val (.ref b0), .unset, .unset, .unset, .unset, .unset] [(.int (if bv = (0 : Int32) then (0 : Int32) else (1 : Int32))), (.int (Int32.ofNat n)), (.ref ex)])) _
      refine XS.i2b X4.here hx rfl (hb hby at_223) rfl ?_
      exact kt)
    obtain ⟨clx, Arx, Szx, Hfx, Gfx, Xfx⟩ := id BXp4
    obtain ⟨T8, h8, X8, e8, W8, st8⟩ := stB X4 hx hZ rfl Arx (j := (Int32.ofNat n)) (within (c := n) rfl (by omega) (by omega)) (g := (mkF m 224 #[.val (.int p1), .val (.int p2), .val (.long q3), .second, .val (.int p4), .val (.int p5), .val (.int dI), .val (.int dL), .val (.int dB), .val (.int bv), .val (.int dG), .val (.ref bg), .val (.ref ex), .val (.int (Int32.ofNat n)), .val (.ref ro), .val (.ref b0), .unset, .unset, .unset, .unset, .unset] [(.int ((if bv = (0 : Int32) then (0 : Int32) else (1 : Int32)).toInt8.toInt32)), (.int (Int32.ofNat n)), (.ref ex)])) rfl rfl (hb hby at_224)
    have N8 := Fr.snoc X8 N4 gx
    have Zs8 : n0 ≤ h8.size := Nat.le_trans Zp4 (Nat.le_of_eq W8.size.symm)
    have Vx : Wr T4.heap h8 ex n (.int (own_bit bv)) := by have z := W8; rw [clamp_of (c := n) rfl (by omega), own_byte2] at z; exact z
    have Bx' := own_B_set BXp4 Vx (own_fits8 _)
    have Ex' := Ep_4.wr W8
    have Fx1' := Fp1_4.other W8 (Or.inl nrx)
    have Fx2' := Fp2_4.other W8 (Or.inl nrx)
    have By' := own_B_other Bp_4 W8 nbx
    have Bg' := own_B_other BGp4 W8 ngx
    have pre9 : ∀ t, Steps p.tables e below (T8.setTop (mkF m 228 #[.val (.int p1), .val (.int p2), .val (.long q3), .second, .val (.int p4), .val (.int p5), .val (.int dI), .val (.int dL), .val (.int dB), .val (.int bv), .val (.int dG), .val (.ref bg), .val (.ref ex), .val (.int ((Int32.ofNat n) + (1 : Int32))), .val (.ref ro), .val (.ref b0), .unset, .unset, .unset, .unset, .unset] [])) t → Steps p.tables e below _ t := fun t kt => pre7 t (by
      show Steps p.tables e below (T4.setTop (mkF m 224 #[.val (.int p1), .val (.int p2), .val (.long q3), .second, .val (.int p4), .val (.int p5), .val (.int dI), .val (.int dL), .val (.int dB), .val (.int bv), .val (.int dG), .val (.ref bg), .val (.ref ex), .val (.int (Int32.ofNat n)), .val (.ref ro), .val (.ref b0), .unset, .unset, .unset, .unset, .unset] [(.int ((if bv = (0 : Int32) then (0 : Int32) else (1 : Int32)).toInt8.toInt32)), (.int (Int32.ofNat n)), (.ref ex)])) _
      refine st8 _ ?_
      refine XS.iinc X8.here hx rfl (hb hby at_225) rfl (l' := #[.val (.int p1), .val (.int p2), .val (.long q3), .second, .val (.int p4), .val (.int p5), .val (.int dI), .val (.int dL), .val (.int dB), .val (.int bv), .val (.int dG), .val (.ref bg), .val (.ref ex), .val (.int ((Int32.ofNat n) + (1 : Int32))), .val (.ref ro), .val (.ref b0), .unset, .unset, .unset, .unset, .unset]) rfl ?_
      exact kt)
    have hv10 : ((Int32.ofNat n) + (1 : Int32)) = (Int32.ofNat (n + 1)) := own_add n 1
    rw [hv10] at pre9
    have ag' : ∀ j, j < n + 1 → upd f n (own_bit bv) j = upd e_ n (own_bit bv) j := fun j hj => by
      by_cases q : j = n
      · rw [q, own_upd_same, own_upd_same]
      · rw [own_upd_ne _ _ q, own_upd_ne _ _ q, hag j (by omega)]
    exact ⟨T8, h8, _, (n + 1), (upd f n (own_bit bv)), (upd e_ n (own_bit bv)), X8, e8, N8, Zs8, ⟨Ex', Fx1', Fx2', By', Bx', Bg'⟩, ag', by omega, pre9⟩

theorem own_by60 : own_by 60 24 = 0 ∧ own_by 60 16 = 0 ∧ own_by 60 8 = 0 ∧ own_by 60 0 = 60 := by decide
def own_big (p4 : Int32) (g : Nat → Int32) : Prop := g 0 = (p4.toInt8.toInt32) ∧ g 1 = (0 : Int32) ∧ g 30 = (((p4.toUInt32 >>> ((16 : Int32) &&& 31).toUInt32).toInt32).toInt8.toInt32) ∧ g 58 = (0 : Int32) ∧ g 59 = (((p4.toUInt32 >>> ((8 : Int32) &&& 31).toUInt32).toInt32).toInt8.toInt32)
theorem own_cpf_in (g f : Nat → Int32) (q m : Nat) {k : Nat} (h : k < m) : own_cpf g f q m (q + k) = g k := by
  unfold own_cpf
  rw [if_pos ⟨by omega, by omega⟩]
  congr 1
  omega
theorem own_cpf_lt (g f : Nat → Int32) (q m : Nat) {j : Nat} (h : j < q) : own_cpf g f q m j = f j := by
  unfold own_cpf
  rw [if_neg (by omega)]
theorem own_bigfacts {p4 : Int32} {g f F : Nat → Int32} {sm : Nat} (hg : own_big p4 g) (hF : ∀ j, j < sm + 4 → F j = own_p4 f sm 60 j) : own_cpf g F (sm + 4) 60 sm = (0 : Int32) ∧ own_cpf g F (sm + 4) 60 (sm + 1) = (0 : Int32) ∧ own_cpf g F (sm + 4) 60 (sm + 2) = (0 : Int32) ∧ own_cpf g F (sm + 4) 60 (sm + 3) = (60 : Int32) ∧ own_cpf g F (sm + 4) 60 (sm + 4) = (p4.toInt8.toInt32) ∧ own_cpf g F (sm + 4) 60 (sm + 5) = (0 : Int32) ∧ own_cpf g F (sm + 4) 60 (sm + 34) = (((p4.toUInt32 >>> ((16 : Int32) &&& 31).toUInt32).toInt32).toInt8.toInt32) ∧ own_cpf g F (sm + 4) 60 (sm + 62) = (0 : Int32) ∧ own_cpf g F (sm + 4) 60 (sm + 63) = (((p4.toUInt32 >>> ((8 : Int32) &&& 31).toUInt32).toInt32).toInt8.toInt32) := by
  obtain ⟨g0, g1, g30, g58, g59⟩ := hg
  obtain ⟨a1, a2, a3, a4⟩ := own_p4_at f sm 60
  obtain ⟨c1, c2, c3, c4⟩ := own_by60
  have i0 := own_cpf_in g F (sm + 4) 60 (k := 0) (by decide)
  have i1 := own_cpf_in g F (sm + 4) 60 (k := 1) (by decide)
  have i30 := own_cpf_in g F (sm + 4) 60 (k := 30) (by decide)
  have i58 := own_cpf_in g F (sm + 4) 60 (k := 58) (by decide)
  have i59 := own_cpf_in g F (sm + 4) 60 (k := 59) (by decide)
  refine ⟨?_, ?_, ?_, ?_, i0.trans g0, i1.trans g1, i30.trans g30, i58.trans g58, i59.trans g59⟩
  · rw [own_cpf_lt _ _ _ _ (by omega), hF _ (by omega), a1, c1]
  · rw [own_cpf_lt _ _ _ _ (by omega), hF _ (by omega), a2, c2]
  · rw [own_cpf_lt _ _ _ _ (by omega), hF _ (by omega), a3, c3]
  · rw [own_cpf_lt _ _ _ _ (by omega), hF _ (by omega), a4, c4]
theorem pd_8 : parseMethodDescriptor "([B)Lcom/example/haulway/haulway/io/RecordOutput;" = some ⟨[(.array .byte)], some (.object "com/example/haulway/haulway/io/RecordOutput")⟩ := by decide +kernel
set_option maxRecDepth 65536 in
set_option maxHeartbeats 40000000 in
theorem own_blk4 {p : Program} {l : Launch} {e : Env} {s : State} {m : MethodId} {args : Array Value} {below : List Frame} {meth : Method} {c : Code} {T0 : State} {locs : List Loc} {Z : State} {a0 : Array Value} {h0 : Heap} {n0 : Nat} (p1 p2 : Int32) (q3 : Int64) (p4 p5 dI dL dB bv dG : Int32) (bg ex ro b0 bb : Addr) (sm : Nat) (f e_ g : Nat → Int32)
    (X0 : Stand p l e room_1 s m args below meth c T0 locs 5 267) (hx : p.tables.exec = Jvm.exec) (hZ : Z.Warmed39 s.vm) (hw : ∀ d ∈ tables_1, d.before a0 Z = true) (hby : c.code = code) (hml : c.maxLocals = 21) (hown : s.vm.findClass "com/example/haulway/haulway/io/RecordOutputToBytesPinLaw" = some m.cls) (e0 : T0.heap = h0) (N0 : Fr n0 locs) (Z0 : n0 ≤ h0.size) (hF : Exa Z h0 ro "com/example/haulway/haulway/io/RecordOutput" ∧ Fld Z h0 ro "com/example/haulway/haulway/io/RecordOutput" "bytes" "[B" (.ref bb) ∧ Fld Z h0 ro "com/example/haulway/haulway/io/RecordOutput" "length" "I" (.int (Int32.ofNat sm)) ∧ own_B Z h0 bb 64 f ∧ own_B Z h0 ex 13 e_ ∧ own_B Z h0 bg 60 g) (hag : ∀ j, j < sm → f j = e_ j) (hn : sm ≤ 13) (hG : own_big p4 g) (nrb : ro ≠ bb) (nrx : ro ≠ ex) (nbx : bb ≠ ex) (ngr : bg ≠ ro) (ngb : bg ≠ bb) (ngx : bg ≠ ex) (gr : n0 ≤ ro) (gbb : n0 ≤ bb) (gx : n0 ≤ ex) (gg : n0 ≤ bg) :
    ∃ (T' : State) (h' : Heap) (locs' : List Loc) (tn cap : Nat) (b' : Addr) (f' : Nat → Int32), Stand p l e room_1 s m args below meth c T' locs' 6 395 ∧ T'.heap = h' ∧ Fr n0 locs' ∧ n0 ≤ h'.size ∧ (Exa Z h' ro "com/example/haulway/haulway/io/RecordOutput" ∧ Fld Z h' ro "com/example/haulway/haulway/io/RecordOutput" "bytes" "[B" (.ref b') ∧ Fld Z h' ro "com/example/haulway/haulway/io/RecordOutput" "length" "I" (.int (Int32.ofNat tn)) ∧ own_B Z h' b' cap f' ∧ own_B Z h' ex 13 e_) ∧ (∀ j, j < sm → f' j = e_ j) ∧ (¬ (dG = (0 : Int32)) → sm + 64 ≤ tn ∧ f' sm = (0 : Int32) ∧ f' (sm + 1) = (0 : Int32) ∧ f' (sm + 2) = (0 : Int32) ∧ f' (sm + 3) = (60 : Int32) ∧ f' (sm + 4) = (p4.toInt8.toInt32) ∧ f' (sm + 5) = (0 : Int32) ∧ f' (sm + 34) = (((p4.toUInt32 >>> ((16 : Int32) &&& 31).toUInt32).toInt32).toInt8.toInt32) ∧ f' (sm + 62) = (0 : Int32) ∧ f' (sm + 63) = (((p4.toUInt32 >>> ((8 : Int32) &&& 31).toUInt32).toInt32).toInt8.toInt32)) ∧ sm ≤ tn ∧ tn ≤ cap ∧ tn ≤ 77 ∧ cap ≤ 128 ∧ (tn + 4 ≤ cap ∨ (cap = 64 ∧ tn = 64)) ∧ ro ≠ b' ∧ b' ≠ ex ∧ n0 ≤ b' ∧
      ∀ t, Steps p.tables e below (T'.setTop (mkF m 256 #[.val (.int p1), .val (.int p2), .val (.long q3), .second, .val (.int p4), .val (.int p5), .val (.int dI), .val (.int dL), .val (.int dB), .val (.int bv), .val (.int dG), .val (.ref bg), .val (.ref ex), .val (.int (Int32.ofNat sm)), .val (.ref ro), .val (.ref b0), .val (.int (Int32.ofNat sm)), .val (.int (Int32.ofNat tn)), .unset, .unset, .unset] [])) t → Steps p.tables e below (T0.setTop (mkF m 228 #[.val (.int p1), .val (.int p2), .val (.long q3), .second, .val (.int p4), .val (.int p5), .val (.int dI), .val (.int dL), .val (.int dB), .val (.int bv), .val (.int dG), .val (.ref bg), .val (.ref ex), .val (.int (Int32.ofNat sm)), .val (.ref ro), .val (.ref b0), .unset, .unset, .unset, .unset, .unset] [])) t := by
  obtain ⟨E1, F1, F2, B1, BX, BG⟩ := hF
  have pre0 : ∀ t, Steps p.tables e below (T0.setTop (mkF m 228 #[.val (.int p1), .val (.int p2), .val (.long q3), .second, .val (.int p4), .val (.int p5), .val (.int dI), .val (.int dL), .val (.int dB), .val (.int bv), .val (.int dG), .val (.ref bg), .val (.ref ex), .val (.int (Int32.ofNat sm)), .val (.ref ro), .val (.ref b0), .unset, .unset, .unset, .unset, .unset] [])) t → Steps p.tables e below (T0.setTop (mkF m 228 #[.val (.int p1), .val (.int p2), .val (.long q3), .second, .val (.int p4), .val (.int p5), .val (.int dI), .val (.int dL), .val (.int dB), .val (.int bv), .val (.int dG), .val (.ref bg), .val (.ref ex), .val (.int (Int32.ofNat sm)), .val (.ref ro), .val (.ref b0), .unset, .unset, .unset, .unset, .unset] [])) t := fun t k => k
  have pre1 : ∀ t, Steps p.tables e below (T0.setTop (mkF m 238 #[.val (.int p1), .val (.int p2), .val (.long q3), .second, .val (.int p4), .val (.int p5), .val (.int dI), .val (.int dL), .val (.int dB), .val (.int bv), .val (.int dG), .val (.ref bg), .val (.ref ex), .val (.int (Int32.ofNat sm)), .val (.ref ro), .val (.ref b0), .val (.int (Int32.ofNat sm)), .val (.int (Int32.ofNat sm)), .unset, .unset, .unset] [(.int dG)])) t → Steps p.tables e below _ t := fun t kt => pre0 t (by
    show Steps p.tables e below (T0.setTop (mkF m 228 #[.val (.int p1), .val (.int p2), .val (.long q3), .second, .val (.int p4), .val (.int p5), .val (.int dI), .val (.int dL), .val (.int dB), .val (.int bv), .val (.int dG), .val (.ref bg), .val (.ref ex), .val (.int (Int32.ofNat sm)), .val (.ref ro), .val (.ref b0), .unset, .unset, .unset, .unset, .unset] [])) _
    refine XS.iload X0.here hx rfl (hb hby at_228) rfl ?_
    refine XS.istore X0.here hx rfl (hb hby at_230) rfl (l' := #[.val (.int p1), .val (.int p2), .val (.long q3), .second, .val (.int p4), .val (.int p5), .val (.int dI), .val (.int dL), .val (.int dB), .val (.int bv), .val (.int dG), .val (.ref bg), .val (.ref ex), .val (.int (Int32.ofNat sm)), .val (.ref ro), .val (.ref b0), .val (.int (Int32.ofNat sm)), .unset, .unset, .unset, .unset]) rfl ?_
    refine XS.iload X0.here hx rfl (hb hby at_232) rfl ?_
    show Steps p.tables e below (T0.setTop (mkF m 234 #[.val (.int p1), .val (.int p2), .val (.long q3), .second, .val (.int p4), .val (.int p5), .val (.int dI), .val (.int dL), .val (.int dB), .val (.int bv), .val (.int dG), .val (.ref bg), .val (.ref ex), .val (.int (Int32.ofNat sm)), .val (.ref ro), .val (.ref b0), .val (.int (Int32.ofNat sm)), .unset, .unset, .unset, .unset] [(.int (Int32.ofNat sm))])) _
    refine XS.istore X0.here hx rfl (hb hby at_234) rfl (l' := #[.val (.int p1), .val (.int p2), .val (.long q3), .second, .val (.int p4), .val (.int p5), .val (.int dI), .val (.int dL), .val (.int dB), .val (.int bv), .val (.int dG), .val (.ref bg), .val (.ref ex), .val (.int (Int32.ofNat sm)), .val (.ref ro), .val (.ref b0), .val (.int (Int32.ofNat sm)), .val (.int (Int32.ofNat sm)), .unset, .unset, .unset]) rfl ?_
    refine XS.iload X0.here hx rfl (hb hby at_236) rfl ?_
    exact kt)
  by_cases hc238 : dG = (0 : Int32)
  · have pre2 : ∀ t, Steps p.tables e below (T0.setTop (mkF m 256 #[.val (.int p1), .val (.int p2), .val (.long q3), .second, .val (.int p4), .val (.int p5), .val (.int dI), .val (.int dL), .val (.int dB), .val (.int bv), .val (.int dG), .val (.ref bg), .val (.ref ex), .val (.int (Int32.ofNat sm)), .val (.ref ro), .val (.ref b0), .val (.int (Int32.ofNat sm)), .val (.int (Int32.ofNat sm)), .unset, .unset, .unset] [])) t → Steps p.tables e below _ t := fun t kt => pre1 t (by
      show Steps p.tables e below (T0.setTop (mkF m 238 #[.val (.int p1), .val (.int p2), .val (.long q3), .second, .val (.int p4), .val (.int p5), .val (.int dI), .val (.int dL), .val (.int dB), .val (.int bv), .val (.int dG), .val (.ref bg), .val (.ref ex), .val (.int (Int32.ofNat sm)), .val (.ref ro), .val (.ref b0), .val (.int (Int32.ofNat sm)), .val (.int (Int32.ofNat sm)), .unset, .unset, .unset] [(.int dG)])) _
      refine XS.ifYes X0.here hx rfl (pc0 := 238) (pc' := 256) rfl (hb hby at_238) rfl ((if0 _ _).trans (teq hc238).1) (by decide) (by decide) ?_
      exact kt)
    exact ⟨T0, _, _, sm, 64, bb, f, (X0.mono (by decide) (by decide)), e0, N0, Z0, ⟨E1, F1, F2, B1, BX⟩, hag, fun q => absurd hc238 q, Nat.le_refl _, by omega, by omega, by decide, Or.inl (by omega), nrb, nbx, gbb, pre2⟩
  · have pre3 : ∀ t, Steps p.tables e below (T0.setTop (mkF m 245 #[.val (.int p1), .val (.int p2), .val (.long q3), .second, .val (.int p4), .val (.int p5), .val (.int dI), .val (.int dL), .val (.int dB), .val (.int bv), .val (.int dG), .val (.ref bg), .val (.ref ex), .val (.int (Int32.ofNat sm)), .val (.ref ro), .val (.ref b0), .val (.int (Int32.ofNat sm)), .val (.int (Int32.ofNat sm)), .unset, .unset, .unset] [(.ref bg), (.ref ro)])) t → Steps p.tables e below _ t := fun t kt => pre1 t (by
      show Steps p.tables e below (T0.setTop (mkF m 238 #[.val (.int p1), .val (.int p2), .val (.long q3), .second, .val (.int p4), .val (.int p5), .val (.int dI), .val (.int dL), .val (.int dB), .val (.int bv), .val (.int dG), .val (.ref bg), .val (.ref ex), .val (.int (Int32.ofNat sm)), .val (.ref ro), .val (.ref b0), .val (.int (Int32.ofNat sm)), .val (.int (Int32.ofNat sm)), .unset, .unset, .unset] [(.int dG)])) _
      refine XS.ifNo X0.here hx rfl (hb hby at_238) rfl ((if0 _ _).trans (feq hc238).1) ?_
      refine XS.aload X0.here hx rfl (hb hby at_241) rfl rfl ?_
      refine XS.aload X0.here hx rfl (hb hby at_243) rfl rfl ?_
      exact kt)
    by_cases hz : sm = 0
    · obtain ⟨cq4, kq4, q4a, q4b, q4c⟩ := isOf hZ e0 E1
      obtain ⟨_, _, ⟨T4, L4, k4, n4⟩, -, X4, ⟨Lc4, hQ4, l4, y4, z4⟩, st4⟩ := X0.virtualBack hx (y := (⟨"com/example/haulway/haulway/io/RecordOutput", "putBytes", "([B)Lcom/example/haulway/haulway/io/RecordOutput;"⟩ : MethodName)) (z := (⟨"com/example/haulway/haulway/io/RecordOutput", "putBytes", "([B)Lcom/example/haulway/haulway/io/RecordOutput;"⟩ : MethodName)) hown (mvT hZ (hw _ (List.mem_of_getElem? (i := 55) rfl))) (mvT hZ (hw _ (List.mem_of_getElem? (i := 56) rfl))) (notFace_of_selects (args := #[]) (mvT hZ (hw _ (List.mem_of_getElem? (i := 58) rfl)))) (mvT hZ (hw _ (List.mem_of_getElem? (i := 58) rfl))) (mvT hZ (hw _ (List.mem_of_getElem? (i := 57) rfl))) (by decide) (backOf (W := 0) (rm12 l Z a0 hw [] ro bg bb 64 sm f g h0 n0 Z0 E1 F1 F2 B1 BG nrb ngr ngb gr gbb (by decide) (by omega)) hZ (hw _ (List.mem_of_getElem? (i := 59) rfl)) (hw _ (List.mem_of_getElem? (i := 3) rfl)) (by decide) (by decide)) q4a q4c (g := (mkF m 245 #[.val (.int p1), .val (.int p2), .val (.long q3), .second, .val (.int p4), .val (.int p5), .val (.int dI), .val (.int dL), .val (.int dB), .val (.int bv), .val (.int dG), .val (.ref bg), .val (.ref ex), .val (.int (Int32.ofNat sm)), .val (.ref ro), .val (.ref b0), .val (.int (Int32.ofNat sm)), .val (.int (Int32.ofNat sm)), .unset, .unset, .unset] [(.ref bg), (.ref ro)])) rfl (by rw [hml]; rfl) (Steps.refl _) (argsL := [(.ref bg)]) (rest := []) (lenOf pd_8 rfl) rfl (by show 2 * 0 + _ ≤ _; exact Nat.le_of_eq rfl) (hb hby at_245) (fun _ _ => ⟨rfl, e0, (by decide : 5 + 0 ≤ _), (by decide : 267 + 0 ≤ _)⟩)
      dsimp only [Pt.U, Pt.locs, Pt.cells, Pt.slots] at X4 l4 y4 z4 st4 hQ4
      subst l4 y4 z4
      obtain ⟨rfl, N4q, Kb, Eb, Fb1, Fb2, Bb⟩ := hQ4
      have N4 := Fr.app N0 N4q
      have hFj : ∀ j, j < sm + 4 → own_p4 f sm 60 j = own_p4 f sm 60 j := fun _ _ => rfl
      have nrb' := nrb
      have nbx' := nbx
      have gbb' := gbb
      have Zb : n0 ≤ T4.heap.size := Nat.le_trans Z0 Kb.1
      have BXb := own_B_keep BX Kb (ninS (Ne.symm nrx) (ninS (Ne.symm nbx) nin0))
      have bf := own_bigfacts hG hFj
      have ag' : ∀ j, j < sm → (own_cpf g (own_p4 f sm 60) (sm + 4) 60) j = e_ j := fun j hj => by rw [own_cpf_lt _ _ _ _ (by omega), hFj j (by omega), own_p4_lt _ _ _ hj, hag j hj]
      have pre5 : ∀ t, Steps p.tables e below (T4.setTop (mkF m 256 #[.val (.int p1), .val (.int p2), .val (.long q3), .second, .val (.int p4), .val (.int p5), .val (.int dI), .val (.int dL), .val (.int dB), .val (.int bv), .val (.int dG), .val (.ref bg), .val (.ref ex), .val (.int (Int32.ofNat sm)), .val (.ref ro), .val (.ref b0), .val (.int (Int32.ofNat sm)), .val (.int ((Int32.ofNat sm) + (64 : Int32))), .unset, .unset, .unset] [])) t → Steps p.tables e below _ t := fun t kt => pre3 t (by
        show Steps p.tables e below (T0.setTop (mkF m 245 #[.val (.int p1), .val (.int p2), .val (.long q3), .second, .val (.int p4), .val (.int p5), .val (.int dI), .val (.int dL), .val (.int dB), .val (.int bv), .val (.int dG), .val (.ref bg), .val (.ref ex), .val (.int (Int32.ofNat sm)), .val (.ref ro), .val (.ref b0), .val (.int (Int32.ofNat sm)), .val (.int (Int32.ofNat sm)), .unset, .unset, .unset] [(.ref bg), (.ref ro)])) _
        refine st4.trans ?_
        refine XS.pop X4.here hx rfl (hb hby at_248) rfl rfl ?_
        refine XS.iload X4.here hx rfl (hb hby at_249) rfl ?_
        show Steps p.tables e below (T4.setTop (mkF m 251 #[.val (.int p1), .val (.int p2), .val (.long q3), .second, .val (.int p4), .val (.int p5), .val (.int dI), .val (.int dL), .val (.int dB), .val (.int bv), .val (.int dG), .val (.ref bg), .val (.ref ex), .val (.int (Int32.ofNat sm)), .val (.ref ro), .val (.ref b0), .val (.int (Int32.ofNat sm)), .val (.int (Int32.ofNat sm)), .unset, .unset, .unset] [(.int (Int32.ofNat sm))])) _
        refine XS.bipush X4.here hx rfl (hb hby at_251) ?_
        refine XS.iadd X4.here hx rfl (hb hby at_253) rfl ?_
        refine XS.istore X4.here hx rfl (hb hby at_254) rfl (l' := #[.val (.int p1), .val (.int p2), .val (.long q3), .second, .val (.int p4), .val (.int p5), .val (.int dI), .val (.int dL), .val (.int dB), .val (.int bv), .val (.int dG), .val (.ref bg), .val (.ref ex), .val (.int (Int32.ofNat sm)), .val (.ref ro), .val (.ref b0), .val (.int (Int32.ofNat sm)), .val (.int ((Int32.ofNat sm) + (64 : Int32))), .unset, .unset, .unset]) rfl ?_
        exact kt)
      have hv6 : ((Int32.ofNat sm) + (64 : Int32)) = (Int32.ofNat (sm + 64)) := own_add sm 64
      rw [hv6] at pre5
      exact ⟨T4, _, _, sm + 64, 64, bb, (own_cpf g (own_p4 f sm 60) (sm + 4) 60), (X4.mono (by decide) (by decide)), rfl, N4, Zb, ⟨Eb, Fb1, Fb2, Bb, BXb⟩, ag', fun _ => ⟨Nat.le_refl _, bf⟩, by omega, by omega, by omega, by decide, Or.inr ⟨rfl, by omega⟩, nrb', nbx', gbb', pre5⟩
    · obtain ⟨cq7, kq7, q7a, q7b, q7c⟩ := isOf hZ e0 E1
      obtain ⟨_, _, ⟨T7, L7, k7, n7⟩, -, X7, ⟨Lc7, hQ7, l7, y7, z7⟩, st7⟩ := X0.virtualBack hx (y := (⟨"com/example/haulway/haulway/io/RecordOutput", "putBytes", "([B)Lcom/example/haulway/haulway/io/RecordOutput;"⟩ : MethodName)) (z := (⟨"com/example/haulway/haulway/io/RecordOutput", "putBytes", "([B)Lcom/example/haulway/haulway/io/RecordOutput;"⟩ : MethodName)) hown (mvT hZ (hw _ (List.mem_of_getElem? (i := 55) rfl))) (mvT hZ (hw _ (List.mem_of_getElem? (i := 56) rfl))) (notFace_of_selects (args := #[]) (mvT hZ (hw _ (List.mem_of_getElem? (i := 58) rfl)))) (mvT hZ (hw _ (List.mem_of_getElem? (i := 58) rfl))) (mvT hZ (hw _ (List.mem_of_getElem? (i := 57) rfl))) (by decide) (backOf (W := 0) (rm12g l Z a0 hw [] ro bg bb 64 sm f g h0 n0 Z0 E1 F1 F2 B1 BG nrb ngr ngb gr gbb rfl (by omega) (by omega)) hZ (hw _ (List.mem_of_getElem? (i := 59) rfl)) (hw _ (List.mem_of_getElem? (i := 3) rfl)) (by decide) (by decide)) q7a q7c (g := (mkF m 245 #[.val (.int p1), .val (.int p2), .val (.long q3), .second, .val (.int p4), .val (.int p5), .val (.int dI), .val (.int dL), .val (.int dB), .val (.int bv), .val (.int dG), .val (.ref bg), .val (.ref ex), .val (.int (Int32.ofNat sm)), .val (.ref ro), .val (.ref b0), .val (.int (Int32.ofNat sm)), .val (.int (Int32.ofNat sm)), .unset, .unset, .unset] [(.ref bg), (.ref ro)])) rfl (by rw [hml]; rfl) (Steps.refl _) (argsL := [(.ref bg)]) (rest := []) (lenOf pd_8 rfl) rfl (by show 2 * 0 + _ ≤ _; exact Nat.le_of_eq rfl) (hb hby at_245) (fun _ _ => ⟨rfl, e0, (by decide : 5 + 1 ≤ _), (by decide : 267 + 128 ≤ _)⟩)
      dsimp only [Pt.U, Pt.locs, Pt.cells, Pt.slots] at X7 l7 y7 z7 st7 hQ7
      subst l7 y7 z7
      obtain ⟨bn, rfl, N7q, Kb, szb, Eb, Fb1, Fb2, Bb⟩ := hQ7
      have N7 := Fr.app N0 N7q
      have hFj : ∀ j, j < sm + 4 → own_cut (own_p4 f sm 60) 64 j = own_p4 f sm 60 j := fun j hj => by unfold own_cut; rw [if_pos (by omega)]
      have nrb' : ro ≠ bn := Nat.ne_of_lt (Nat.lt_of_lt_of_le E1.lt szb)
      have nbx' : bn ≠ ex := Nat.ne_of_gt (Nat.lt_of_lt_of_le (own_B_lt BX) szb)
      have gbb' : n0 ≤ bn := Nat.le_trans Z0 szb
      have Zb : n0 ≤ T7.heap.size := Nat.le_trans Z0 Kb.1
      have BXb := own_B_keep BX Kb (ninS (Ne.symm nrx) (ninS (Ne.symm nbx) nin0))
      have bf := own_bigfacts hG hFj
      have ag' : ∀ j, j < sm → (own_cpf g (own_cut (own_p4 f sm 60) 64) (sm + 4) 60) j = e_ j := fun j hj => by rw [own_cpf_lt _ _ _ _ (by omega), hFj j (by omega), own_p4_lt _ _ _ hj, hag j hj]
      have pre8 : ∀ t, Steps p.tables e below (T7.setTop (mkF m 256 #[.val (.int p1), .val (.int p2), .val (.long q3), .second, .val (.int p4), .val (.int p5), .val (.int dI), .val (.int dL), .val (.int dB), .val (.int bv), .val (.int dG), .val (.ref bg), .val (.ref ex), .val (.int (Int32.ofNat sm)), .val (.ref ro), .val (.ref b0), .val (.int (Int32.ofNat sm)), .val (.int ((Int32.ofNat sm) + (64 : Int32))), .unset, .unset, .unset] [])) t → Steps p.tables e below _ t := fun t kt => pre3 t (by
        show Steps p.tables e below (T0.setTop (mkF m 245 #[.val (.int p1), .val (.int p2), .val (.long q3), .second, .val (.int p4), .val (.int p5), .val (.int dI), .val (.int dL), .val (.int dB), .val (.int bv), .val (.int dG), .val (.ref bg), .val (.ref ex), .val (.int (Int32.ofNat sm)), .val (.ref ro), .val (.ref b0), .val (.int (Int32.ofNat sm)), .val (.int (Int32.ofNat sm)), .unset, .unset, .unset] [(.ref bg), (.ref ro)])) _
        refine st7.trans ?_
        refine XS.pop X7.here hx rfl (hb hby at_248) rfl rfl ?_
        refine XS.iload X7.here hx rfl (hb hby at_249) rfl ?_
        show Steps p.tables e below (T7.setTop (mkF m 251 #[.val (.int p1), .val (.int p2), .val (.long q3), .second, .val (.int p4), .val (.int p5), .val (.int dI), .val (.int dL), .val (.int dB), .val (.int bv), .val (.int dG), .val (.ref bg), .val (.ref ex), .val (.int (Int32.ofNat sm)), .val (.ref ro), .val (.ref b0), .val (.int (Int32.ofNat sm)), .val (.int (Int32.ofNat sm)), .unset, .unset, .unset] [(.int (Int32.ofNat sm))])) _
        refine XS.bipush X7.here hx rfl (hb hby at_251) ?_
        refine XS.iadd X7.here hx rfl (hb hby at_253) rfl ?_
        refine XS.istore X7.here hx rfl (hb hby at_254) rfl (l' := #[.val (.int p1), .val (.int p2), .val (.long q3), .second, .val (.int p4), .val (.int p5), .val (.int dI), .val (.int dL), .val (.int dB), .val (.int bv), .val (.int dG), .val (.ref bg), .val (.ref ex), .val (.int (Int32.ofNat sm)), .val (.ref ro), .val (.ref b0), .val (.int (Int32.ofNat sm)), .val (.int ((Int32.ofNat sm) + (64 : Int32))), .unset, .unset, .unset]) rfl ?_
        exact kt)
      have hv9 : ((Int32.ofNat sm) + (64 : Int32)) = (Int32.ofNat (sm + 64)) := own_add sm 64
      rw [hv9] at pre8
      exact ⟨T7, _, _, sm + 64, 128, bn, (own_cpf g (own_cut (own_p4 f sm 60) 64) (sm + 4) 60), X7, rfl, N7, Zb, ⟨Eb, Fb1, Fb2, Bb, BXb⟩, ag', fun _ => ⟨Nat.le_refl _, bf⟩, by omega, by omega, by omega, by decide, Or.inl (by omega), nrb', nbx', gbb', pre8⟩
theorem pn_0 : plainName "com/example/haulway/haulway/io/RecordOutputToBytesPinLaw" = true := by first | (simp [plainName, overriddenIn]; done) | decide +kernel
theorem ef_0 (m : MethodId) (x0 : Int32) (x1 : Int32) (x2 : Int64) (x3 : Int32) (x4 : Int32) : entryFrame m #[(.int x0), (.int x1), (.long x2), (.int x3), (.int x4)] maxLocals = mkF m 0 #[.val (.int x0), .val (.int x1), .val (.long x2), .second, .val (.int x3), .val (.int x4), .unset, .unset, .unset, .unset, .unset, .unset, .unset, .unset, .unset, .unset, .unset, .unset, .unset, .unset, .unset] [] := by first | (simp [entryFrame, mkF, argsToLocals, Value.category, maxLocals]; done) | rfl
theorem pd_9 : parseMethodDescriptor "()V" = some ⟨[], none⟩ := by decide +kernel
theorem pd_10 : parseMethodDescriptor "()[B" = some ⟨[], some (.array .byte)⟩ := by decide +kernel
theorem pd_11 : parseMethodDescriptor "([B[BIZI)Z" = some ⟨[(.array .byte), (.array .byte), .int, .boolean, .int], some .boolean⟩ := by decide +kernel
def Q0 (Z : State) (h0 : Heap) (n0 : Nat) (v : Option Value) (h : Heap) (L : List Loc) : Prop := v = some (.int (1 : Int32)) ∧ Fr n0 L
set_option maxRecDepth 65536 in
set_option maxHeartbeats 40000000 in
theorem rm0 (l : Launch) (Z : State) (a0 : Array Value) (hw : ∀ d ∈ tables_1, d.before a0 Z = true) (ws : List Jvm.Cond) (p1 : Int32) (p2 : Int32) (q3 : Int64) (p4 : Int32) (p5 : Int32) (h0 : Heap) (n0 : Nat) (Z0 : n0 ≤ h0.size) :
    MetFree l x (head1 (Jvm.Cond.code x code maxLocals ret :: ws) room_1) (fun aa_ U => aa_ = #[(.int p1), (.int p2), (.long q3), (.int p4), (.int p5)] ∧ Z.Warmed39 U.vm ∧ U.heap = h0) (fun _ _ _ _ _ => True) (fun _ U o U' => ∃ v_ L_, o = .returned v_ ∧ Q0 Z  h0 n0 v_ U'.heap L_ ∧ FrameEnd U o U' L_ room_1.cells room_1.slots) := by
  refine MetFree.of_bodySF (plainFor_of_name pn_0) hisR ?_
  intro p e s m args below meth c s₁ Bd hml0 hP hK
  obtain ⟨rfl, hZ, hh⟩ := hP
  have hx := Bd.exec
  have hby := Bd.bytes
  have hml : c.maxLocals = 21 := hml0
  have hown : s.vm.findClass "com/example/haulway/haulway/io/RecordOutputToBytesPinLaw" = some m.cls := findClass_of_methodNamed Bd.named
  have hnm := (name_of_methodNamed Bd.named Bd.method).1
  have X0 : Stand p l e room_1 s m #[(.int p1), (.int p2), (.long q3), (.int p4), (.int p5)] below meth c s₁ [] 0 0 := Stand.of_body Bd
  have e0 : s₁.heap = h0 := by rw [← hh, Bd.state]; rfl
  have N0 := Fr.nil n0
  have pre0 : ∀ t, Steps p.tables e below (s₁.setTop (mkF m 0 #[.val (.int p1), .val (.int p2), .val (.long q3), .second, .val (.int p4), .val (.int p5), .unset, .unset, .unset, .unset, .unset, .unset, .unset, .unset, .unset, .unset, .unset, .unset, .unset, .unset, .unset] [])) t → Steps p.tables e below (s₁.setTop (entryFrame m #[(.int p1), (.int p2), (.long q3), (.int p4), (.int p5)] maxLocals)) t := fun t k_ => castTop (ef_0 m p1 p2 q3 p4 p5) k_
  have pre1 : ∀ t, Steps p.tables e below (s₁.setTop (mkF m 3 #[.val (.int p1), .val (.int p2), .val (.long q3), .second, .val (.int p4), .val (.int p5), .unset, .unset, .unset, .unset, .unset, .unset, .unset, .unset, .unset, .unset, .unset, .unset, .unset, .unset, .unset] [(.int (p1 &&& (1 : Int32)))])) t → Steps p.tables e below _ t := fun t kt => pre0 t (by
    show Steps p.tables e below (s₁.setTop (mkF m 0 #[.val (.int p1), .val (.int p2), .val (.long q3), .second, .val (.int p4), .val (.int p5), .unset, .unset, .unset, .unset, .unset, .unset, .unset, .unset, .unset, .unset, .unset, .unset, .unset, .unset, .unset] [])) _
    refine XS.iloadN X0.here hx rfl (hb hby at_0) rfl ?_
    refine XS.iconst X0.here hx rfl (hb hby at_1) ?_
    refine XS.iand X0.here hx rfl (hb hby at_2) rfl ?_
    exact kt)
  have pre2 : ∀ t, Steps p.tables e below (s₁.setTop (mkF m 11 #[.val (.int p1), .val (.int p2), .val (.long q3), .second, .val (.int p4), .val (.int p5), .unset, .unset, .unset, .unset, .unset, .unset, .unset, .unset, .unset, .unset, .unset, .unset, .unset, .unset, .unset] [(.int (if (p1 &&& (1 : Int32)) = (0 : Int32) then (0 : Int32) else (1 : Int32)))])) t → Steps p.tables e below (s₁.setTop (entryFrame m #[(.int p1), (.int p2), (.long q3), (.int p4), (.int p5)] maxLocals)) t := fun t kt => by
    refine pre1 t ?_
    by_cases hd3 : (p1 &&& (1 : Int32)) = (0 : Int32)
    · simp only [if_pos hd3] at kt
      show Steps p.tables e below (s₁.setTop (mkF m 3 #[.val (.int p1), .val (.int p2), .val (.long q3), .second, .val (.int p4), .val (.int p5), .unset, .unset, .unset, .unset, .unset, .unset, .unset, .unset, .unset, .unset, .unset, .unset, .unset, .unset, .unset] [(.int (p1 &&& (1 : Int32)))])) _
      refine XS.ifYes X0.here hx rfl (pc0 := 3) (pc' := 10) rfl (hb hby at_3) rfl ((if0 _ _).trans (teq hd3).1) (by decide) (by decide) ?_
      show Steps p.tables e below (s₁.setTop (mkF m 10 #[.val (.int p1), .val (.int p2), .val (.long q3), .second, .val (.int p4), .val (.int p5), .unset, .unset, .unset, .unset, .unset, .unset, .unset, .unset, .unset, .unset, .unset, .unset, .unset, .unset, .unset] [])) _
      refine XS.iconst X0.here hx rfl (hb hby at_10) ?_
      exact kt
    · simp only [if_neg hd3] at kt
      show Steps p.tables e below (s₁.setTop (mkF m 3 #[.val (.int p1), .val (.int p2), .val (.long q3), .second, .val (.int p4), .val (.int p5), .unset, .unset, .unset, .unset, .unset, .unset, .unset, .unset, .unset, .unset, .unset, .unset, .unset, .unset, .unset] [(.int (p1 &&& (1 : Int32)))])) _
      refine XS.ifNo X0.here hx rfl (hb hby at_3) rfl ((if0 _ _).trans (feq hd3).1) ?_
      show Steps p.tables e below (s₁.setTop (mkF m 6 #[.val (.int p1), .val (.int p2), .val (.long q3), .second, .val (.int p4), .val (.int p5), .unset, .unset, .unset, .unset, .unset, .unset, .unset, .unset, .unset, .unset, .unset, .unset, .unset, .unset, .unset] [])) _
      refine XS.iconst X0.here hx rfl (hb hby at_6) ?_
      show Steps p.tables e below (s₁.setTop (mkF m 7 #[.val (.int p1), .val (.int p2), .val (.long q3), .second, .val (.int p4), .val (.int p5), .unset, .unset, .unset, .unset, .unset, .unset, .unset, .unset, .unset, .unset, .unset, .unset, .unset, .unset, .unset] [(.int (1 : Int32))])) _
      refine XS.goto X0.here hx rfl (pc0 := 7) (pc' := 11) rfl (hb hby at_7) (by decide) (by decide) ?_
      exact kt
  have pre3 : ∀ t, Steps p.tables e below (s₁.setTop (mkF m 13 #[.val (.int p1), .val (.int p2), .val (.long q3), .second, .val (.int p4), .val (.int p5), .val (.int (if (p1 &&& (1 : Int32)) = (0 : Int32) then (0 : Int32) else (1 : Int32))), .unset, .unset, .unset, .unset, .unset, .unset, .unset, .unset, .unset, .unset, .unset, .unset, .unset, .unset] [])) t → Steps p.tables e below _ t := fun t kt => pre2 t (by
    show Steps p.tables e below (s₁.setTop (mkF m 11 #[.val (.int p1), .val (.int p2), .val (.long q3), .second, .val (.int p4), .val (.int p5), .unset, .unset, .unset, .unset, .unset, .unset, .unset, .unset, .unset, .unset, .unset, .unset, .unset, .unset, .unset] [(.int (if (p1 &&& (1 : Int32)) = (0 : Int32) then (0 : Int32) else (1 : Int32)))])) _
    refine XS.istore X0.here hx rfl (hb hby at_11) rfl (l' := #[.val (.int p1), .val (.int p2), .val (.long q3), .second, .val (.int p4), .val (.int p5), .val (.int (if (p1 &&& (1 : Int32)) = (0 : Int32) then (0 : Int32) else (1 : Int32))), .unset, .unset, .unset, .unset, .unset, .unset, .unset, .unset, .unset, .unset, .unset, .unset, .unset, .unset]) rfl ?_
    exact kt)
  obtain ⟨dI, hdI⟩ : ∃ z : Int32, z = (if (p1 &&& (1 : Int32)) = (0 : Int32) then (0 : Int32) else (1 : Int32)) := ⟨_, rfl⟩
  rw [← hdI] at pre3
  have pre4 : ∀ t, Steps p.tables e below (s₁.setTop (mkF m 16 #[.val (.int p1), .val (.int p2), .val (.long q3), .second, .val (.int p4), .val (.int p5), .val (.int dI), .unset, .unset, .unset, .unset, .unset, .unset, .unset, .unset, .unset, .unset, .unset, .unset, .unset, .unset] [(.int (p1 &&& (2 : Int32)))])) t → Steps p.tables e below _ t := fun t kt => pre3 t (by
    show Steps p.tables e below (s₁.setTop (mkF m 13 #[.val (.int p1), .val (.int p2), .val (.long q3), .second, .val (.int p4), .val (.int p5), .val (.int dI), .unset, .unset, .unset, .unset, .unset, .unset, .unset, .unset, .unset, .unset, .unset, .unset, .unset, .unset] [])) _
    refine XS.iloadN X0.here hx rfl (hb hby at_13) rfl ?_
    refine XS.iconst X0.here hx rfl (hb hby at_14) ?_
    refine XS.iand X0.here hx rfl (hb hby at_15) rfl ?_
    exact kt)
  have pre5 : ∀ t, Steps p.tables e below (s₁.setTop (mkF m 24 #[.val (.int p1), .val (.int p2), .val (.long q3), .second, .val (.int p4), .val (.int p5), .val (.int dI), .unset, .unset, .unset, .unset, .unset, .unset, .unset, .unset, .unset, .unset, .unset, .unset, .unset, .unset] [(.int (if (p1 &&& (2 : Int32)) = (0 : Int32) then (0 : Int32) else (1 : Int32)))])) t → Steps p.tables e below (s₁.setTop (entryFrame m #[(.int p1), (.int p2), (.long q3), (.int p4), (.int p5)] maxLocals)) t := fun t kt => by
    refine pre4 t ?_
    by_cases hd16 : (p1 &&& (2 : Int32)) = (0 : Int32)
    · simp only [if_pos hd16] at kt
      show Steps p.tables e below (s₁.setTop (mkF m 16 #[.val (.int p1), .val (.int p2), .val (.long q3), .second, .val (.int p4), .val (.int p5), .val (.int dI), .unset, .unset, .unset, .unset, .unset, .unset, .unset, .unset, .unset, .unset, .unset, .unset, .unset, .unset] [(.int (p1 &&& (2 : Int32)))])) _
      refine XS.ifYes X0.here hx rfl (pc0 := 16) (pc' := 23) rfl (hb hby at_16) rfl ((if0 _ _).trans (teq hd16).1) (by decide) (by decide) ?_
      show Steps p.tables e below (s₁.setTop (mkF m 23 #[.val (.int p1), .val (.int p2), .val (.long q3), .second, .val (.int p4), .val (.int p5), .val (.int dI), .unset, .unset, .unset, .unset, .unset, .unset, .unset, .unset, .unset, .unset, .unset, .unset, .unset, .unset] [])) _
      refine XS.iconst X0.here hx rfl (hb hby at_23) ?_
      exact kt
    · simp only [if_neg hd16] at kt
      show Steps p.tables e below (s₁.setTop (mkF m 16 #[.val (.int p1), .val (.int p2), .val (.long q3), .second, .val (.int p4), .val (.int p5), .val (.int dI), .unset, .unset, .unset, .unset, .unset, .unset, .unset, .unset, .unset, .unset, .unset, .unset, .unset, .unset] [(.int (p1 &&& (2 : Int32)))])) _
      refine XS.ifNo X0.here hx rfl (hb hby at_16) rfl ((if0 _ _).trans (feq hd16).1) ?_
      show Steps p.tables e below (s₁.setTop (mkF m 19 #[.val (.int p1), .val (.int p2), .val (.long q3), .second, .val (.int p4), .val (.int p5), .val (.int dI), .unset, .unset, .unset, .unset, .unset, .unset, .unset, .unset, .unset, .unset, .unset, .unset, .unset, .unset] [])) _
      refine XS.iconst X0.here hx rfl (hb hby at_19) ?_
      show Steps p.tables e below (s₁.setTop (mkF m 20 #[.val (.int p1), .val (.int p2), .val (.long q3), .second, .val (.int p4), .val (.int p5), .val (.int dI), .unset, .unset, .unset, .unset, .unset, .unset, .unset, .unset, .unset, .unset, .unset, .unset, .unset, .unset] [(.int (1 : Int32))])) _
      refine XS.goto X0.here hx rfl (pc0 := 20) (pc' := 24) rfl (hb hby at_20) (by decide) (by decide) ?_
      exact kt
  have pre6 : ∀ t, Steps p.tables e below (s₁.setTop (mkF m 26 #[.val (.int p1), .val (.int p2), .val (.long q3), .second, .val (.int p4), .val (.int p5), .val (.int dI), .val (.int (if (p1 &&& (2 : Int32)) = (0 : Int32) then (0 : Int32) else (1 : Int32))), .unset, .unset, .unset, .unset, .unset, .unset, .unset, .unset, .unset, .unset, .unset, .unset, .unset] [])) t → Steps p.tables e below _ t := fun t kt => pre5 t (by
    show Steps p.tables e below (s₁.setTop (mkF m 24 #[.val (.int p1), .val (.int p2), .val (.long q3), .second, .val (.int p4), .val (.int p5), .val (.int dI), .unset, .unset, .unset, .unset, .unset, .unset, .unset, .unset, .unset, .unset, .unset, .unset, .unset, .unset] [(.int (if (p1 &&& (2 : Int32)) = (0 : Int32) then (0 : Int32) else (1 : Int32)))])) _
    refine XS.istore X0.here hx rfl (hb hby at_24) rfl (l' := #[.val (.int p1), .val (.int p2), .val (.long q3), .second, .val (.int p4), .val (.int p5), .val (.int dI), .val (.int (if (p1 &&& (2 : Int32)) = (0 : Int32) then (0 : Int32) else (1 : Int32))), .unset, .unset, .unset, .unset, .unset, .unset, .unset, .unset, .unset, .unset, .unset, .unset, .unset]) rfl ?_
    exact kt)
  obtain ⟨dL, hdL⟩ : ∃ z : Int32, z = (if (p1 &&& (2 : Int32)) = (0 : Int32) then (0 : Int32) else (1 : Int32)) := ⟨_, rfl⟩
  rw [← hdL] at pre6
  have pre7 : ∀ t, Steps p.tables e below (s₁.setTop (mkF m 29 #[.val (.int p1), .val (.int p2), .val (.long q3), .second, .val (.int p4), .val (.int p5), .val (.int dI), .val (.int dL), .unset, .unset, .unset, .unset, .unset, .unset, .unset, .unset, .unset, .unset, .unset, .unset, .unset] [(.int (p1 &&& (4 : Int32)))])) t → Steps p.tables e below _ t := fun t kt => pre6 t (by
    show Steps p.tables e below (s₁.setTop (mkF m 26 #[.val (.int p1), .val (.int p2), .val (.long q3), .second, .val (.int p4), .val (.int p5), .val (.int dI), .val (.int dL), .unset, .unset, .unset, .unset, .unset, .unset, .unset, .unset, .unset, .unset, .unset, .unset, .unset] [])) _
    refine XS.iloadN X0.here hx rfl (hb hby at_26) rfl ?_
    refine XS.iconst X0.here hx rfl (hb hby at_27) ?_
    refine XS.iand X0.here hx rfl (hb hby at_28) rfl ?_
    exact kt)
  have pre8 : ∀ t, Steps p.tables e below (s₁.setTop (mkF m 37 #[.val (.int p1), .val (.int p2), .val (.long q3), .second, .val (.int p4), .val (.int p5), .val (.int dI), .val (.int dL), .unset, .unset, .unset, .unset, .unset, .unset, .unset, .unset, .unset, .unset, .unset, .unset, .unset] [(.int (if (p1 &&& (4 : Int32)) = (0 : Int32) then (0 : Int32) else (1 : Int32)))])) t → Steps p.tables e below (s₁.setTop (entryFrame m #[(.int p1), (.int p2), (.long q3), (.int p4), (.int p5)] maxLocals)) t := fun t kt => by
    refine pre7 t ?_
    by_cases hd29 : (p1 &&& (4 : Int32)) = (0 : Int32)
    · simp only [if_pos hd29] at kt
      show Steps p.tables e below (s₁.setTop (mkF m 29 #[.val (.int p1), .val (.int p2), .val (.long q3), .second, .val (.int p4), .val (.int p5), .val (.int dI), .val (.int dL), .unset, .unset, .unset, .unset, .unset, .unset, .unset, .unset, .unset, .unset, .unset, .unset, .unset] [(.int (p1 &&& (4 : Int32)))])) _
      refine XS.ifYes X0.here hx rfl (pc0 := 29) (pc' := 36) rfl (hb hby at_29) rfl ((if0 _ _).trans (teq hd29).1) (by decide) (by decide) ?_
      show Steps p.tables e below (s₁.setTop (mkF m 36 #[.val (.int p1), .val (.int p2), .val (.long q3), .second, .val (.int p4), .val (.int p5), .val (.int dI), .val (.int dL), .unset, .unset, .unset, .unset, .unset, .unset, .unset, .unset, .unset, .unset, .unset, .unset, .unset] [])) _
      refine XS.iconst X0.here hx rfl (hb hby at_36) ?_
      exact kt
    · simp only [if_neg hd29] at kt
      show Steps p.tables e below (s₁.setTop (mkF m 29 #[.val (.int p1), .val (.int p2), .val (.long q3), .second, .val (.int p4), .val (.int p5), .val (.int dI), .val (.int dL), .unset, .unset, .unset, .unset, .unset, .unset, .unset, .unset, .unset, .unset, .unset, .unset, .unset] [(.int (p1 &&& (4 : Int32)))])) _
      refine XS.ifNo X0.here hx rfl (hb hby at_29) rfl ((if0 _ _).trans (feq hd29).1) ?_
      show Steps p.tables e below (s₁.setTop (mkF m 32 #[.val (.int p1), .val (.int p2), .val (.long q3), .second, .val (.int p4), .val (.int p5), .val (.int dI), .val (.int dL), .unset, .unset, .unset, .unset, .unset, .unset, .unset, .unset, .unset, .unset, .unset, .unset, .unset] [])) _
      refine XS.iconst X0.here hx rfl (hb hby at_32) ?_
      show Steps p.tables e below (s₁.setTop (mkF m 33 #[.val (.int p1), .val (.int p2), .val (.long q3), .second, .val (.int p4), .val (.int p5), .val (.int dI), .val (.int dL), .unset, .unset, .unset, .unset, .unset, .unset, .unset, .unset, .unset, .unset, .unset, .unset, .unset] [(.int (1 : Int32))])) _
      refine XS.goto X0.here hx rfl (pc0 := 33) (pc' := 37) rfl (hb hby at_33) (by decide) (by decide) ?_
      exact kt
  have pre9 : ∀ t, Steps p.tables e below (s₁.setTop (mkF m 39 #[.val (.int p1), .val (.int p2), .val (.long q3), .second, .val (.int p4), .val (.int p5), .val (.int dI), .val (.int dL), .val (.int (if (p1 &&& (4 : Int32)) = (0 : Int32) then (0 : Int32) else (1 : Int32))), .unset, .unset, .unset, .unset, .unset, .unset, .unset, .unset, .unset, .unset, .unset, .unset] [])) t → Steps p.tables e below _ t := fun t kt => pre8 t (by
    show Steps p.tables e below (s₁.setTop (mkF m 37 #[.val (.int p1), .val (.int p2), .val (.long q3), .second, .val (.int p4), .val (.int p5), .val (.int dI), .val (.int dL), .unset, .unset, .unset, .unset, .unset, .unset, .unset, .unset, .unset, .unset, .unset, .unset, .unset] [(.int (if (p1 &&& (4 : Int32)) = (0 : Int32) then (0 : Int32) else (1 : Int32)))])) _
    refine XS.istore X0.here hx rfl (hb hby at_37) rfl (l' := #[.val (.int p1), .val (.int p2), .val (.long q3), .second, .val (.int p4), .val (.int p5), .val (.int dI), .val (.int dL), .val (.int (if (p1 &&& (4 : Int32)) = (0 : Int32) then (0 : Int32) else (1 : Int32))), .unset, .unset, .unset, .unset, .unset, .unset, .unset, .unset, .unset, .unset, .unset, .unset]) rfl ?_
    exact kt)
  obtain ⟨dB, hdB⟩ : ∃ z : Int32, z = (if (p1 &&& (4 : Int32)) = (0 : Int32) then (0 : Int32) else (1 : Int32)) := ⟨_, rfl⟩
  rw [← hdB] at pre9
  have pre10 : ∀ t, Steps p.tables e below (s₁.setTop (mkF m 43 #[.val (.int p1), .val (.int p2), .val (.long q3), .second, .val (.int p4), .val (.int p5), .val (.int dI), .val (.int dL), .val (.int dB), .unset, .unset, .unset, .unset, .unset, .unset, .unset, .unset, .unset, .unset, .unset, .unset] [(.int (p1 &&& (8 : Int32)))])) t → Steps p.tables e below _ t := fun t kt => pre9 t (by
    show Steps p.tables e below (s₁.setTop (mkF m 39 #[.val (.int p1), .val (.int p2), .val (.long q3), .second, .val (.int p4), .val (.int p5), .val (.int dI), .val (.int dL), .val (.int dB), .unset, .unset, .unset, .unset, .unset, .unset, .unset, .unset, .unset, .unset, .unset, .unset] [])) _
    refine XS.iloadN X0.here hx rfl (hb hby at_39) rfl ?_
    refine XS.bipush X0.here hx rfl (hb hby at_40) ?_
    refine XS.iand X0.here hx rfl (hb hby at_42) rfl ?_
    exact kt)
  have pre11 : ∀ t, Steps p.tables e below (s₁.setTop (mkF m 51 #[.val (.int p1), .val (.int p2), .val (.long q3), .second, .val (.int p4), .val (.int p5), .val (.int dI), .val (.int dL), .val (.int dB), .unset, .unset, .unset, .unset, .unset, .unset, .unset, .unset, .unset, .unset, .unset, .unset] [(.int (if (p1 &&& (8 : Int32)) = (0 : Int32) then (0 : Int32) else (1 : Int32)))])) t → Steps p.tables e below (s₁.setTop (entryFrame m #[(.int p1), (.int p2), (.long q3), (.int p4), (.int p5)] maxLocals)) t := fun t kt => by
    refine pre10 t ?_
    by_cases hd43 : (p1 &&& (8 : Int32)) = (0 : Int32)
    · simp only [if_pos hd43] at kt
      show Steps p.tables e below (s₁.setTop (mkF m 43 #[.val (.int p1), .val (.int p2), .val (.long q3), .second, .val (.int p4), .val (.int p5), .val (.int dI), .val (.int dL), .val (.int dB), .unset, .unset, .unset, .unset, .unset, .unset, .unset, .unset, .unset, .unset, .unset, .unset] [(.int (p1 &&& (8 : Int32)))])) _
      refine XS.ifYes X0.here hx rfl (pc0 := 43) (pc' := 50) rfl (hb hby at_43) rfl ((if0 _ _).trans (teq hd43).1) (by decide) (by decide) ?_
      show Steps p.tables e below (s₁.setTop (mkF m 50 #[.val (.int p1), .val (.int p2), .val (.long q3), .second, .val (.int p4), .val (.int p5), .val (.int dI), .val (.int dL), .val (.int dB), .unset, .unset, .unset, .unset, .unset, .unset, .unset, .unset, .unset, .unset, .unset, .unset] [])) _
      refine XS.iconst X0.here hx rfl (hb hby at_50) ?_
      exact kt
    · simp only [if_neg hd43] at kt
      show Steps p.tables e below (s₁.setTop (mkF m 43 #[.val (.int p1), .val (.int p2), .val (.long q3), .second, .val (.int p4), .val (.int p5), .val (.int dI), .val (.int dL), .val (.int dB), .unset, .unset, .unset, .unset, .unset, .unset, .unset, .unset, .unset, .unset, .unset, .unset] [(.int (p1 &&& (8 : Int32)))])) _
      refine XS.ifNo X0.here hx rfl (hb hby at_43) rfl ((if0 _ _).trans (feq hd43).1) ?_
      show Steps p.tables e below (s₁.setTop (mkF m 46 #[.val (.int p1), .val (.int p2), .val (.long q3), .second, .val (.int p4), .val (.int p5), .val (.int dI), .val (.int dL), .val (.int dB), .unset, .unset, .unset, .unset, .unset, .unset, .unset, .unset, .unset, .unset, .unset, .unset] [])) _
      refine XS.iconst X0.here hx rfl (hb hby at_46) ?_
      show Steps p.tables e below (s₁.setTop (mkF m 47 #[.val (.int p1), .val (.int p2), .val (.long q3), .second, .val (.int p4), .val (.int p5), .val (.int dI), .val (.int dL), .val (.int dB), .unset, .unset, .unset, .unset, .unset, .unset, .unset, .unset, .unset, .unset, .unset, .unset] [(.int (1 : Int32))])) _
      refine XS.goto X0.here hx rfl (pc0 := 47) (pc' := 51) rfl (hb hby at_47) (by decide) (by decide) ?_
      exact kt
  have pre12 : ∀ t, Steps p.tables e below (s₁.setTop (mkF m 53 #[.val (.int p1), .val (.int p2), .val (.long q3), .second, .val (.int p4), .val (.int p5), .val (.int dI), .val (.int dL), .val (.int dB), .val (.int (if (p1 &&& (8 : Int32)) = (0 : Int32) then (0 : Int32) else (1 : Int32))), .unset, .unset, .unset, .unset, .unset, .unset, .unset, .unset, .unset, .unset, .unset] [])) t → Steps p.tables e below _ t := fun t kt => pre11 t (by
    show Steps p.tables e below (s₁.setTop (mkF m 51 #[.val (.int p1), .val (.int p2), .val (.long q3), .second, .val (.int p4), .val (.int p5), .val (.int dI), .val (.int dL), .val (.int dB), .unset, .unset, .unset, .unset, .unset, .unset, .unset, .unset, .unset, .unset, .unset, .unset] [(.int (if (p1 &&& (8 : Int32)) = (0 : Int32) then (0 : Int32) else (1 : Int32)))])) _
    refine XS.istore X0.here hx rfl (hb hby at_51) rfl (l' := #[.val (.int p1), .val (.int p2), .val (.long q3), .second, .val (.int p4), .val (.int p5), .val (.int dI), .val (.int dL), .val (.int dB), .val (.int (if (p1 &&& (8 : Int32)) = (0 : Int32) then (0 : Int32) else (1 : Int32))), .unset, .unset, .unset, .unset, .unset, .unset, .unset, .unset, .unset, .unset, .unset]) rfl ?_
    exact kt)
  obtain ⟨bv, hbv⟩ : ∃ z : Int32, z = (if (p1 &&& (8 : Int32)) = (0 : Int32) then (0 : Int32) else (1 : Int32)) := ⟨_, rfl⟩
  rw [← hbv] at pre12
  have pre13 : ∀ t, Steps p.tables e below (s₁.setTop (mkF m 57 #[.val (.int p1), .val (.int p2), .val (.long q3), .second, .val (.int p4), .val (.int p5), .val (.int dI), .val (.int dL), .val (.int dB), .val (.int bv), .unset, .unset, .unset, .unset, .unset, .unset, .unset, .unset, .unset, .unset, .unset] [(.int (p1 &&& (16 : Int32)))])) t → Steps p.tables e below _ t := fun t kt => pre12 t (by
    show Steps p.tables e below (s₁.setTop (mkF m 53 #[.val (.int p1), .val (.int p2), .val (.long q3), .second, .val (.int p4), .val (.int p5), .val (.int dI), .val (.int dL), .val (.int dB), .val (.int bv), .unset, .unset, .unset, .unset, .unset, .unset, .unset, .unset, .unset, .unset, .unset] [])) _
    refine XS.iloadN X0.here hx rfl (hb hby at_53) rfl ?_
    refine XS.bipush X0.here hx rfl (hb hby at_54) ?_
    refine XS.iand X0.here hx rfl (hb hby at_56) rfl ?_
    exact kt)
  have pre14 : ∀ t, Steps p.tables e below (s₁.setTop (mkF m 65 #[.val (.int p1), .val (.int p2), .val (.long q3), .second, .val (.int p4), .val (.int p5), .val (.int dI), .val (.int dL), .val (.int dB), .val (.int bv), .unset, .unset, .unset, .unset, .unset, .unset, .unset, .unset, .unset, .unset, .unset] [(.int (if (p1 &&& (16 : Int32)) = (0 : Int32) then (0 : Int32) else (1 : Int32)))])) t → Steps p.tables e below (s₁.setTop (entryFrame m #[(.int p1), (.int p2), (.long q3), (.int p4), (.int p5)] maxLocals)) t := fun t kt => by
    refine pre13 t ?_
    by_cases hd57 : (p1 &&& (16 : Int32)) = (0 : Int32)
    · simp only [if_pos hd57] at kt
      show Steps p.tables e below (s₁.setTop (mkF m 57 #[.val (.int p1), .val (.int p2), .val (.long q3), .second, .val (.int p4), .val (.int p5), .val (.int dI), .val (.int dL), .val (.int dB), .val (.int bv), .unset, .unset, .unset, .unset, .unset, .unset, .unset, .unset, .unset, .unset, .unset] [(.int (p1 &&& (16 : Int32)))])) _
      refine XS.ifYes X0.here hx rfl (pc0 := 57) (pc' := 64) rfl (hb hby at_57) rfl ((if0 _ _).trans (teq hd57).1) (by decide) (by decide) ?_
      show Steps p.tables e below (s₁.setTop (mkF m 64 #[.val (.int p1), .val (.int p2), .val (.long q3), .second, .val (.int p4), .val (.int p5), .val (.int dI), .val (.int dL), .val (.int dB), .val (.int bv), .unset, .unset, .unset, .unset, .unset, .unset, .unset, .unset, .unset, .unset, .unset] [])) _
      refine XS.iconst X0.here hx rfl (hb hby at_64) ?_
      exact kt
    · simp only [if_neg hd57] at kt
      show Steps p.tables e below (s₁.setTop (mkF m 57 #[.val (.int p1), .val (.int p2), .val (.long q3), .second, .val (.int p4), .val (.int p5), .val (.int dI), .val (.int dL), .val (.int dB), .val (.int bv), .unset, .unset, .unset, .unset, .unset, .unset, .unset, .unset, .unset, .unset, .unset] [(.int (p1 &&& (16 : Int32)))])) _
      refine XS.ifNo X0.here hx rfl (hb hby at_57) rfl ((if0 _ _).trans (feq hd57).1) ?_
      show Steps p.tables e below (s₁.setTop (mkF m 60 #[.val (.int p1), .val (.int p2), .val (.long q3), .second, .val (.int p4), .val (.int p5), .val (.int dI), .val (.int dL), .val (.int dB), .val (.int bv), .unset, .unset, .unset, .unset, .unset, .unset, .unset, .unset, .unset, .unset, .unset] [])) _
      refine XS.iconst X0.here hx rfl (hb hby at_60) ?_
      show Steps p.tables e below (s₁.setTop (mkF m 61 #[.val (.int p1), .val (.int p2), .val (.long q3), .second, .val (.int p4), .val (.int p5), .val (.int dI), .val (.int dL), .val (.int dB), .val (.int bv), .unset, .unset, .unset, .unset, .unset, .unset, .unset, .unset, .unset, .unset, .unset] [(.int (1 : Int32))])) _
      refine XS.goto X0.here hx rfl (pc0 := 61) (pc' := 65) rfl (hb hby at_61) (by decide) (by decide) ?_
      exact kt
  have pre15 : ∀ t, Steps p.tables e below (s₁.setTop (mkF m 67 #[.val (.int p1), .val (.int p2), .val (.long q3), .second, .val (.int p4), .val (.int p5), .val (.int dI), .val (.int dL), .val (.int dB), .val (.int bv), .val (.int (if (p1 &&& (16 : Int32)) = (0 : Int32) then (0 : Int32) else (1 : Int32))), .unset, .unset, .unset, .unset, .unset, .unset, .unset, .unset, .unset, .unset] [])) t → Steps p.tables e below _ t := fun t kt => pre14 t (by
    show Steps p.tables e below (s₁.setTop (mkF m 65 #[.val (.int p1), .val (.int p2), .val (.long q3), .second, .val (.int p4), .val (.int p5), .val (.int dI), .val (.int dL), .val (.int dB), .val (.int bv), .unset, .unset, .unset, .unset, .unset, .unset, .unset, .unset, .unset, .unset, .unset] [(.int (if (p1 &&& (16 : Int32)) = (0 : Int32) then (0 : Int32) else (1 : Int32)))])) _
    refine XS.istore X0.here hx rfl (hb hby at_65) rfl (l' := #[.val (.int p1), .val (.int p2), .val (.long q3), .second, .val (.int p4), .val (.int p5), .val (.int dI), .val (.int dL), .val (.int dB), .val (.int bv), .val (.int (if (p1 &&& (16 : Int32)) = (0 : Int32) then (0 : Int32) else (1 : Int32))), .unset, .unset, .unset, .unset, .unset, .unset, .unset, .unset, .unset, .unset]) rfl ?_
    exact kt)
  obtain ⟨dG, hdG⟩ : ∃ z : Int32, z = (if (p1 &&& (16 : Int32)) = (0 : Int32) then (0 : Int32) else (1 : Int32)) := ⟨_, rfl⟩
  rw [← hdG] at pre15
  have pre16 : ∀ t, Steps p.tables e below (s₁.setTop (mkF m 69 #[.val (.int p1), .val (.int p2), .val (.long q3), .second, .val (.int p4), .val (.int p5), .val (.int dI), .val (.int dL), .val (.int dB), .val (.int bv), .val (.int dG), .unset, .unset, .unset, .unset, .unset, .unset, .unset, .unset, .unset, .unset] [(.int (60 : Int32))])) t → Steps p.tables e below _ t := fun t kt => pre15 t (by
    show Steps p.tables e below (s₁.setTop (mkF m 67 #[.val (.int p1), .val (.int p2), .val (.long q3), .second, .val (.int p4), .val (.int p5), .val (.int dI), .val (.int dL), .val (.int dB), .val (.int bv), .val (.int dG), .unset, .unset, .unset, .unset, .unset, .unset, .unset, .unset, .unset, .unset] [])) _
    refine XS.bipush X0.here hx rfl (hb hby at_67) ?_
    exact kt)
  obtain ⟨T17, h17, k17, X17, e17, E17, A17, Xa17, st17⟩ := newPE X0 hx hZ (hw _ (List.mem_of_getElem? (i := 0) rfl)) e0 (g := (mkF m 69 #[.val (.int p1), .val (.int p2), .val (.long q3), .second, .val (.int p4), .val (.int p5), .val (.int dI), .val (.int dL), .val (.int dB), .val (.int bv), .val (.int dG), .unset, .unset, .unset, .unset, .unset, .unset, .unset, .unset, .unset, .unset] [(.int (60 : Int32))])) rfl (hb hby at_69) rfl (by decide) (cap := 60) (by decide) (by decide) (by decide) (by decide) (ad := "[B") (by decide)
  obtain ⟨b17, gb17⟩ : ∃ z, z = h0.size := ⟨_, rfl⟩
  rw [← gb17] at A17 Xa17 st17
  have g_b17 : n0 ≤ b17 := Nat.le_trans Z0 (Nat.le_of_eq gb17.symm)
  have Zs17 : n0 ≤ h17.size := Nat.le_trans Z0 E17.1
  have sz_b17 : h0.size ≤ b17 := Nat.le_trans (Keep.refl h0 []).1 (Nat.le_of_eq gb17.symm)
  have Kp17 : Keep h0 h17 [] := (Keep.refl h0 []).ext E17
  have BG0 : own_B Z h17 b17 60 (fun _ => 0) := own_B_new A17 Xa17 rfl
  have pre18 : ∀ t, Steps p.tables e below (T17.setTop (mkF m 79 #[.val (.int p1), .val (.int p2), .val (.long q3), .second, .val (.int p4), .val (.int p5), .val (.int dI), .val (.int dL), .val (.int dB), .val (.int bv), .val (.int dG), .val (.ref b17), .unset, .unset, .unset, .unset, .unset, .unset, .unset, .unset, .unset] [(.int (p4.toInt8.toInt32)), (.int (0 : Int32)), (.ref b17)])) t → Steps p.tables e below _ t := fun t kt => pre16 t (by
    show Steps p.tables e below (s₁.setTop (mkF m 69 #[.val (.int p1), .val (.int p2), .val (.long q3), .second, .val (.int p4), .val (.int p5), .val (.int dI), .val (.int dL), .val (.int dB), .val (.int bv), .val (.int dG), .unset, .unset, .unset, .unset, .unset, .unset, .unset, .unset, .unset, .unset] [(.int (60 : Int32))])) _
    refine st17 _ ?_
    refine XS.astore X17.here hx rfl (hb hby at_71) rfl rfl (l' := #[.val (.int p1), .val (.int p2), .val (.long q3), .second, .val (.int p4), .val (.int p5), .val (.int dI), .val (.int dL), .val (.int dB), .val (.int bv), .val (.int dG), .val (.ref b17), .unset, .unset, .unset, .unset, .unset, .unset, .unset, .unset, .unset]) rfl ?_
    refine XS.aload X17.here hx rfl (hb hby at_73) rfl rfl ?_
    show Steps p.tables e below (T17.setTop (mkF m 75 #[.val (.int p1), .val (.int p2), .val (.long q3), .second, .val (.int p4), .val (.int p5), .val (.int dI), .val (.int dL), .val (.int dB), .val (.int bv), .val (.int dG), .val (.ref b17), .unset, .unset, .unset, .unset, .unset, .unset, .unset, .unset, .unset] [(.ref b17)])) _
    refine XS.iconst X17.here hx rfl (hb hby at_75) ?_
    refine XS.iload X17.here hx rfl (hb hby at_76) rfl ?_
    refine XS.i2b X17.here hx rfl (hb hby at_78) rfl ?_
    exact kt)
  obtain ⟨clg0, Arg0, Szg0, Hfg0, Gfg0, Xfg0⟩ := id BG0
  obtain ⟨T19, h19, X19, e19, W19, st19⟩ := stB X17 hx hZ e17 Arg0 (j := (0 : Int32)) (within (c := 0) rfl (by omega) (by omega)) (g := (mkF m 79 #[.val (.int p1), .val (.int p2), .val (.long q3), .second, .val (.int p4), .val (.int p5), .val (.int dI), .val (.int dL), .val (.int dB), .val (.int bv), .val (.int dG), .val (.ref b17), .unset, .unset, .unset, .unset, .unset, .unset, .unset, .unset, .unset] [(.int (p4.toInt8.toInt32)), (.int (0 : Int32)), (.ref b17)])) rfl rfl (hb hby at_79)
  have N19 := Fr.snoc X19 N0 g_b17
  have Zs19 : n0 ≤ h19.size := Nat.le_trans Zs17 (Nat.le_of_eq W19.size.symm)
  have Kp19 : Keep h0 h19 [] := Kp17.wr W19 (Or.inr sz_b17)
  have Vg0 : Wr h17 h19 b17 0 (.int (p4.toInt8.toInt32)) := by have z := W19; rw [own_byte2] at z; exact z
  have BGs0 := own_B_set BG0 Vg0 (own_fits8 _)
  have pre20 : ∀ t, Steps p.tables e below (T19.setTop (mkF m 90 #[.val (.int p1), .val (.int p2), .val (.long q3), .second, .val (.int p4), .val (.int p5), .val (.int dI), .val (.int dL), .val (.int dB), .val (.int bv), .val (.int dG), .val (.ref b17), .unset, .unset, .unset, .unset, .unset, .unset, .unset, .unset, .unset] [(.int (((p4.toUInt32 >>> ((16 : Int32) &&& 31).toUInt32).toInt32).toInt8.toInt32)), (.int (30 : Int32)), (.ref b17)])) t → Steps p.tables e below _ t := fun t kt => pre18 t (by
    show Steps p.tables e below (T17.setTop (mkF m 79 #[.val (.int p1), .val (.int p2), .val (.long q3), .second, .val (.int p4), .val (.int p5), .val (.int dI), .val (.int dL), .val (.int dB), .val (.int bv), .val (.int dG), .val (.ref b17), .unset, .unset, .unset, .unset, .unset, .unset, .unset, .unset, .unset] [(.int (p4.toInt8.toInt32)), (.int (0 : Int32)), (.ref b17)])) _
    refine st19 _ ?_
    refine XS.aload X19.here hx rfl (hb hby at_80) rfl rfl ?_
    refine XS.bipush X19.here hx rfl (hb hby at_82) ?_
    show Steps p.tables e below (T19.setTop (mkF m 84 #[.val (.int p1), .val (.int p2), .val (.long q3), .second, .val (.int p4), .val (.int p5), .val (.int dI), .val (.int dL), .val (.int dB), .val (.int bv), .val (.int dG), .val (.ref b17), .unset, .unset, .unset, .unset, .unset, .unset, .unset, .unset, .unset] [(.int (30 : Int32)), (.ref b17)])) _
    refine XS.iload X19.here hx rfl (hb hby at_84) rfl ?_
    refine XS.bipush X19.here hx rfl (hb hby at_86) ?_
    refine XS.iushr X19.here hx rfl (hb hby at_88) rfl ?_
    show Steps p.tables e below (T19.setTop (mkF m 89 #[.val (.int p1), .val (.int p2), .val (.long q3), .second, .val (.int p4), .val (.int p5), .val (.int dI), .val (.int dL), .val (.int dB), .val (.int bv), .val (.int dG), .val (.ref b17), .unset, .unset, .unset, .unset, .unset, .unset, .unset, .unset, .unset] [(.int ((p4.toUInt32 >>> ((16 : Int32) &&& 31).toUInt32).toInt32)), (.int (30 : Int32)), (.ref b17)])) _
    refine XS.i2b X19.here hx rfl (hb hby at_89) rfl ?_
    exact kt)
  obtain ⟨clg30, Arg30, Szg30, Hfg30, Gfg30, Xfg30⟩ := id BGs0
  obtain ⟨T21, h21, X21, e21, W21, st21⟩ := stB X19 hx hZ e19 Arg30 (j := (30 : Int32)) (within (c := 30) rfl (by omega) (by omega)) (g := (mkF m 90 #[.val (.int p1), .val (.int p2), .val (.long q3), .second, .val (.int p4), .val (.int p5), .val (.int dI), .val (.int dL), .val (.int dB), .val (.int bv), .val (.int dG), .val (.ref b17), .unset, .unset, .unset, .unset, .unset, .unset, .unset, .unset, .unset] [(.int (((p4.toUInt32 >>> ((16 : Int32) &&& 31).toUInt32).toInt32).toInt8.toInt32)), (.int (30 : Int32)), (.ref b17)])) rfl rfl (hb hby at_90)
  have N21 := Fr.snoc X21 N19 g_b17
  have Zs21 : n0 ≤ h21.size := Nat.le_trans Zs19 (Nat.le_of_eq W21.size.symm)
  have Kp21 : Keep h0 h21 [] := Kp19.wr W21 (Or.inr sz_b17)
  have Vg30 : Wr h19 h21 b17 30 (.int (((p4.toUInt32 >>> ((16 : Int32) &&& 31).toUInt32).toInt32).toInt8.toInt32)) := by have z := W21; rw [own_byte2] at z; exact z
  have BGs30 := own_B_set BGs0 Vg30 (own_fits8 _)
  have pre22 : ∀ t, Steps p.tables e below (T21.setTop (mkF m 101 #[.val (.int p1), .val (.int p2), .val (.long q3), .second, .val (.int p4), .val (.int p5), .val (.int dI), .val (.int dL), .val (.int dB), .val (.int bv), .val (.int dG), .val (.ref b17), .unset, .unset, .unset, .unset, .unset, .unset, .unset, .unset, .unset] [(.int (((p4.toUInt32 >>> ((8 : Int32) &&& 31).toUInt32).toInt32).toInt8.toInt32)), (.int (59 : Int32)), (.ref b17)])) t → Steps p.tables e below _ t := fun t kt => pre20 t (by
    show Steps p.tables e below (T19.setTop (mkF m 90 #[.val (.int p1), .val (.int p2), .val (.long q3), .second, .val (.int p4), .val (.int p5), .val (.int dI), .val (.int dL), .val (.int dB), .val (.int bv), .val (.int dG), .val (.ref b17), .unset, .unset, .unset, .unset, .unset, .unset, .unset, .unset, .unset] [(.int (((p4.toUInt32 >>> ((16 : Int32) &&& 31).toUInt32).toInt32).toInt8.toInt32)), (.int (30 : Int32)), (.ref b17)])) _
    refine st21 _ ?_
    refine XS.aload X21.here hx rfl (hb hby at_91) rfl rfl ?_
    refine XS.bipush X21.here hx rfl (hb hby at_93) ?_
    show Steps p.tables e below (T21.setTop (mkF m 95 #[.val (.int p1), .val (.int p2), .val (.long q3), .second, .val (.int p4), .val (.int p5), .val (.int dI), .val (.int dL), .val (.int dB), .val (.int bv), .val (.int dG), .val (.ref b17), .unset, .unset, .unset, .unset, .unset, .unset, .unset, .unset, .unset] [(.int (59 : Int32)), (.ref b17)])) _
    refine XS.iload X21.here hx rfl (hb hby at_95) rfl ?_
    refine XS.bipush X21.here hx rfl (hb hby at_97) ?_
    refine XS.iushr X21.here hx rfl (hb hby at_99) rfl ?_
    show Steps p.tables e below (T21.setTop (mkF m 100 #[.val (.int p1), .val (.int p2), .val (.long q3), .second, .val (.int p4), .val (.int p5), .val (.int dI), .val (.int dL), .val (.int dB), .val (.int bv), .val (.int dG), .val (.ref b17), .unset, .unset, .unset, .unset, .unset, .unset, .unset, .unset, .unset] [(.int ((p4.toUInt32 >>> ((8 : Int32) &&& 31).toUInt32).toInt32)), (.int (59 : Int32)), (.ref b17)])) _
    refine XS.i2b X21.here hx rfl (hb hby at_100) rfl ?_
    exact kt)
  obtain ⟨clg59, Arg59, Szg59, Hfg59, Gfg59, Xfg59⟩ := id BGs30
  obtain ⟨T23, h23, X23, e23, W23, st23⟩ := stB X21 hx hZ e21 Arg59 (j := (59 : Int32)) (within (c := 59) rfl (by omega) (by omega)) (g := (mkF m 101 #[.val (.int p1), .val (.int p2), .val (.long q3), .second, .val (.int p4), .val (.int p5), .val (.int dI), .val (.int dL), .val (.int dB), .val (.int bv), .val (.int dG), .val (.ref b17), .unset, .unset, .unset, .unset, .unset, .unset, .unset, .unset, .unset] [(.int (((p4.toUInt32 >>> ((8 : Int32) &&& 31).toUInt32).toInt32).toInt8.toInt32)), (.int (59 : Int32)), (.ref b17)])) rfl rfl (hb hby at_101)
  have N23 := Fr.snoc X23 N21 g_b17
  have Zs23 : n0 ≤ h23.size := Nat.le_trans Zs21 (Nat.le_of_eq W23.size.symm)
  have Kp23 : Keep h0 h23 [] := Kp21.wr W23 (Or.inr sz_b17)
  have Vg59 : Wr h21 h23 b17 59 (.int (((p4.toUInt32 >>> ((8 : Int32) &&& 31).toUInt32).toInt32).toInt8.toInt32)) := by have z := W23; rw [own_byte2] at z; exact z
  have BGs59 := own_B_set BGs30 Vg59 (own_fits8 _)
  have pre24 : ∀ t, Steps p.tables e below (T23.setTop (mkF m 104 #[.val (.int p1), .val (.int p2), .val (.long q3), .second, .val (.int p4), .val (.int p5), .val (.int dI), .val (.int dL), .val (.int dB), .val (.int bv), .val (.int dG), .val (.ref b17), .unset, .unset, .unset, .unset, .unset, .unset, .unset, .unset, .unset] [(.int (13 : Int32))])) t → Steps p.tables e below _ t := fun t kt => pre22 t (by
    show Steps p.tables e below (T21.setTop (mkF m 101 #[.val (.int p1), .val (.int p2), .val (.long q3), .second, .val (.int p4), .val (.int p5), .val (.int dI), .val (.int dL), .val (.int dB), .val (.int bv), .val (.int dG), .val (.ref b17), .unset, .unset, .unset, .unset, .unset, .unset, .unset, .unset, .unset] [(.int (((p4.toUInt32 >>> ((8 : Int32) &&& 31).toUInt32).toInt32).toInt8.toInt32)), (.int (59 : Int32)), (.ref b17)])) _
    refine st23 _ ?_
    refine XS.bipush X23.here hx rfl (hb hby at_102) ?_
    exact kt)
  obtain ⟨g, hg⟩ : ∃ z : Nat → Int32, z = (upd (upd (upd (fun _ => 0) 0 (p4.toInt8.toInt32)) 30 (((p4.toUInt32 >>> ((16 : Int32) &&& 31).toUInt32).toInt32).toInt8.toInt32)) 59 (((p4.toUInt32 >>> ((8 : Int32) &&& 31).toUInt32).toInt32).toInt8.toInt32)) := ⟨_, rfl⟩
  have hG : own_big p4 g := by rw [hg]; exact ⟨rfl, rfl, rfl, rfl, rfl⟩
  have BGa : own_B Z h23 b17 60 g := by rw [hg]; exact BGs59
  obtain ⟨T25, h25, k25, X25, e25, E25, A25, Xa25, st25⟩ := newPE X23 hx hZ (hw _ (List.mem_of_getElem? (i := 0) rfl)) e23 (g := (mkF m 104 #[.val (.int p1), .val (.int p2), .val (.long q3), .second, .val (.int p4), .val (.int p5), .val (.int dI), .val (.int dL), .val (.int dB), .val (.int bv), .val (.int dG), .val (.ref b17), .unset, .unset, .unset, .unset, .unset, .unset, .unset, .unset, .unset] [(.int (13 : Int32))])) rfl (hb hby at_104) rfl (by decide) (cap := 13) (by decide) (by decide) (by decide) (by decide) (ad := "[B") (by decide)
  obtain ⟨b25, gb25⟩ : ∃ z, z = h23.size := ⟨_, rfl⟩
  rw [← gb25] at A25 Xa25 st25
  have g_b25 : n0 ≤ b25 := Nat.le_trans Zs23 (Nat.le_of_eq gb25.symm)
  have Zs25 : n0 ≤ h25.size := Nat.le_trans Zs23 E25.1
  have sz_b25 : h0.size ≤ b25 := Nat.le_trans Kp23.1 (Nat.le_of_eq gb25.symm)
  have Kp25 : Keep h0 h25 [] := Kp23.ext E25
  have BX0 : own_B Z h25 b25 13 (fun _ => 0) := own_B_new A25 Xa25 rfl
  have BGb := own_B_ext BGa E25
  have ngx : b17 ≠ b25 := by have q := own_B_lt BGa; rw [gb25]; exact Nat.ne_of_lt q
  have pre26 : ∀ t, Steps p.tables e below (T25.setTop (mkF m 111 #[.val (.int p1), .val (.int p2), .val (.long q3), .second, .val (.int p4), .val (.int p5), .val (.int dI), .val (.int dL), .val (.int dB), .val (.int bv), .val (.int dG), .val (.ref b17), .val (.ref b25), .val (.int (0 : Int32)), .unset, .unset, .unset, .unset, .unset, .unset, .unset] [])) t → Steps p.tables e below _ t := fun t kt => pre24 t (by
    show Steps p.tables e below (T23.setTop (mkF m 104 #[.val (.int p1), .val (.int p2), .val (.long q3), .second, .val (.int p4), .val (.int p5), .val (.int dI), .val (.int dL), .val (.int dB), .val (.int bv), .val (.int dG), .val (.ref b17), .unset, .unset, .unset, .unset, .unset, .unset, .unset, .unset, .unset] [(.int (13 : Int32))])) _
    refine st25 _ ?_
    refine XS.astore X25.here hx rfl (hb hby at_106) rfl rfl (l' := #[.val (.int p1), .val (.int p2), .val (.long q3), .second, .val (.int p4), .val (.int p5), .val (.int dI), .val (.int dL), .val (.int dB), .val (.int bv), .val (.int dG), .val (.ref b17), .val (.ref b25), .unset, .unset, .unset, .unset, .unset, .unset, .unset, .unset]) rfl ?_
    refine XS.iconst X25.here hx rfl (hb hby at_108) ?_
    show Steps p.tables e below (T25.setTop (mkF m 109 #[.val (.int p1), .val (.int p2), .val (.long q3), .second, .val (.int p4), .val (.int p5), .val (.int dI), .val (.int dL), .val (.int dB), .val (.int bv), .val (.int dG), .val (.ref b17), .val (.ref b25), .unset, .unset, .unset, .unset, .unset, .unset, .unset, .unset] [(.int (0 : Int32))])) _
    refine XS.istore X25.here hx rfl (hb hby at_109) rfl (l' := #[.val (.int p1), .val (.int p2), .val (.long q3), .second, .val (.int p4), .val (.int p5), .val (.int dI), .val (.int dL), .val (.int dB), .val (.int bv), .val (.int dG), .val (.ref b17), .val (.ref b25), .val (.int (0 : Int32)), .unset, .unset, .unset, .unset, .unset, .unset, .unset]) rfl ?_
    exact kt)
  obtain ⟨T27, h27, X27, e27, E27, A27, D27, -, st27⟩ := newO X25 hx hZ hown (hw _ (List.mem_of_getElem? (i := 1) rfl)) (hw _ (List.mem_of_getElem? (i := 2) rfl)) (hw _ (List.mem_of_getElem? (i := 3) rfl)) e25 (g := (mkF m 111 #[.val (.int p1), .val (.int p2), .val (.long q3), .second, .val (.int p4), .val (.int p5), .val (.int dI), .val (.int dL), .val (.int dB), .val (.int bv), .val (.int dG), .val (.ref b17), .val (.ref b25), .val (.int (0 : Int32)), .unset, .unset, .unset, .unset, .unset, .unset, .unset] [])) rfl (hb hby at_111) (by decide) (by decide)
  obtain ⟨b27, gb27⟩ : ∃ z, z = h25.size := ⟨_, rfl⟩
  rw [← gb27] at A27 D27 st27
  have g_b27 : n0 ≤ b27 := Nat.le_trans Zs25 (Nat.le_of_eq gb27.symm)
  have Zs27 : n0 ≤ h27.size := Nat.le_trans Zs25 E27.1
  have sz_b27 : h0.size ≤ b27 := Nat.le_trans Kp25.1 (Nat.le_of_eq gb27.symm)
  have Kp27 : Keep h0 h27 [] := Kp25.ext E27
  have Fo1 : Fld Z h27 b27 "com/example/haulway/haulway/io/RecordOutput" "bytes" "[B" .null := D27 (Or.inl (hw _ (List.mem_of_getElem? (i := 11) rfl))) (ty := (.array .byte)) (by decide)
  have Fo2 : Fld Z h27 b27 "com/example/haulway/haulway/io/RecordOutput" "length" "I" (.int (0 : Int32)) := D27 (Or.inl (hw _ (List.mem_of_getElem? (i := 18) rfl))) (ty := .int) (by decide)
  have ngr : b17 ≠ b27 := by have q := own_B_lt BGb; rw [gb27]; exact Nat.ne_of_lt q
  have nxr : b25 ≠ b27 := by have q := own_B_lt BX0; rw [gb27]; exact Nat.ne_of_lt q
  have BGc := own_B_ext BGb E27
  have BX1 := own_B_ext BX0 E27
  have pre28 : ∀ t, Steps p.tables e below (T27.setTop (mkF m 115 #[.val (.int p1), .val (.int p2), .val (.long q3), .second, .val (.int p4), .val (.int p5), .val (.int dI), .val (.int dL), .val (.int dB), .val (.int bv), .val (.int dG), .val (.ref b17), .val (.ref b25), .val (.int (0 : Int32)), .unset, .unset, .unset, .unset, .unset, .unset, .unset] [(.ref b27), (.ref b27)])) t → Steps p.tables e below _ t := fun t kt => pre26 t (by
    show Steps p.tables e below (T25.setTop (mkF m 111 #[.val (.int p1), .val (.int p2), .val (.long q3), .second, .val (.int p4), .val (.int p5), .val (.int dI), .val (.int dL), .val (.int dB), .val (.int bv), .val (.int dG), .val (.ref b17), .val (.ref b25), .val (.int (0 : Int32)), .unset, .unset, .unset, .unset, .unset, .unset, .unset] [])) _
    refine st27 _ ?_
    refine XS.dup X27.here hx rfl (hb hby at_114) rfl rfl ?_
    exact kt)
  obtain ⟨_, _, ⟨T29, L29, k29, n29⟩, -, X29, ⟨Lc29, hQ29, l29, y29, z29⟩, st29⟩ := X27.specialBack hx (y := (⟨"com/example/haulway/haulway/io/RecordOutput", "<init>", "()V"⟩ : MethodName)) rfl hown (mvT hZ (hw _ (List.mem_of_getElem? (i := 4) rfl))) (mvT hZ (hw _ (List.mem_of_getElem? (i := 5) rfl))) (mvT hZ (hw _ (List.mem_of_getElem? (i := 6) rfl))) (by decide) (backOf (W := 1) (rm1 l Z a0 hw [] b27 h27 n0 Zs27 Fo1 Fo2 A27 g_b27) hZ (hw _ (List.mem_of_getElem? (i := 6) rfl)) (hw _ (List.mem_of_getElem? (i := 3) rfl)) (by decide) (by decide)) (g := (mkF m 115 #[.val (.int p1), .val (.int p2), .val (.long q3), .second, .val (.int p4), .val (.int p5), .val (.int dI), .val (.int dL), .val (.int dB), .val (.int bv), .val (.int dG), .val (.ref b17), .val (.ref b25), .val (.int (0 : Int32)), .unset, .unset, .unset, .unset, .unset, .unset, .unset] [(.ref b27), (.ref b27)])) rfl (by rw [hml]; rfl) (Steps.refl _) (a := b27) (argsL := []) (rest := [(.ref b27)]) (lenOf pd_9 rfl) rfl (by show 2 * 0 + _ ≤ _; exact Nat.le_of_eq rfl) (hb hby at_115) (fun _ _ => ⟨rfl, e27, (by decide : 3 + 1 ≤ _), (by decide : 75 + 64 ≤ _)⟩)
  dsimp only [Pt.U, Pt.locs, Pt.cells, Pt.slots] at X29 l29 y29 z29 st29 hQ29
  subst l29 y29 z29
  obtain ⟨bb, rfl, N29q, K1, S1, E1, F1, F2, B1⟩ := hQ29
  have N29 := Fr.app N23 N29q
  have Z1 : n0 ≤ T29.heap.size := Nat.le_trans Zs27 K1.1
  have BGd := own_B_keep BGc K1 (ninS ngr nin0)
  have BX2 := own_B_keep BX1 K1 (ninS nxr nin0)
  have nrb : b27 ≠ bb := Nat.ne_of_lt (Nat.lt_of_lt_of_le A27.lt S1)
  have ngb : b17 ≠ bb := Nat.ne_of_lt (Nat.lt_of_lt_of_le (own_B_lt BGc) S1)
  have nxb : b25 ≠ bb := Nat.ne_of_lt (Nat.lt_of_lt_of_le (own_B_lt BX1) S1)
  have gbb : n0 ≤ bb := Nat.le_trans Zs27 S1
  have pre30 : ∀ t, Steps p.tables e below (T29.setTop (mkF m 122 #[.val (.int p1), .val (.int p2), .val (.long q3), .second, .val (.int p4), .val (.int p5), .val (.int dI), .val (.int dL), .val (.int dB), .val (.int bv), .val (.int dG), .val (.ref b17), .val (.ref b25), .val (.int (0 : Int32)), .val (.ref b27), .unset, .unset, .unset, .unset, .unset, .unset] [(.ref b27)])) t → Steps p.tables e below _ t := fun t kt => pre28 t (by
    show Steps p.tables e below (T27.setTop (mkF m 115 #[.val (.int p1), .val (.int p2), .val (.long q3), .second, .val (.int p4), .val (.int p5), .val (.int dI), .val (.int dL), .val (.int dB), .val (.int bv), .val (.int dG), .val (.ref b17), .val (.ref b25), .val (.int (0 : Int32)), .unset, .unset, .unset, .unset, .unset, .unset, .unset] [(.ref b27), (.ref b27)])) _
    refine st29.trans ?_
    refine XS.astore X29.here hx rfl (hb hby at_118) rfl rfl (l' := #[.val (.int p1), .val (.int p2), .val (.long q3), .second, .val (.int p4), .val (.int p5), .val (.int dI), .val (.int dL), .val (.int dB), .val (.int bv), .val (.int dG), .val (.ref b17), .val (.ref b25), .val (.int (0 : Int32)), .val (.ref b27), .unset, .unset, .unset, .unset, .unset, .unset]) rfl ?_
    refine XS.aload X29.here hx rfl (hb hby at_120) rfl rfl ?_
    exact kt)
  obtain ⟨cq31, kq31, q31a, q31b, q31c⟩ := isOf hZ rfl E1
  obtain ⟨_, _, ⟨T31, L31, k31, n31⟩, -, X31, ⟨Lc31, hQ31, l31, y31, z31⟩, st31⟩ := X29.virtualBack hx (y := (⟨"com/example/haulway/haulway/io/RecordOutput", "toBytes", "()[B"⟩ : MethodName)) (z := (⟨"com/example/haulway/haulway/io/RecordOutput", "toBytes", "()[B"⟩ : MethodName)) hown (mvT hZ (hw _ (List.mem_of_getElem? (i := 12) rfl))) (mvT hZ (hw _ (List.mem_of_getElem? (i := 13) rfl))) (notFace_of_selects (args := #[]) (mvT hZ (hw _ (List.mem_of_getElem? (i := 15) rfl)))) (mvT hZ (hw _ (List.mem_of_getElem? (i := 15) rfl))) (mvT hZ (hw _ (List.mem_of_getElem? (i := 14) rfl))) (by decide) (backOf (W := 0) (rm3 l Z a0 hw [] b27 bb 64 0 (fun _ => 0) T29.heap n0 Z1 E1 F1 F2 B1 (by decide) (by decide)) hZ (hw _ (List.mem_of_getElem? (i := 16) rfl)) (hw _ (List.mem_of_getElem? (i := 3) rfl)) (by decide) (by decide)) q31a q31c (g := (mkF m 122 #[.val (.int p1), .val (.int p2), .val (.long q3), .second, .val (.int p4), .val (.int p5), .val (.int dI), .val (.int dL), .val (.int dB), .val (.int bv), .val (.int dG), .val (.ref b17), .val (.ref b25), .val (.int (0 : Int32)), .val (.ref b27), .unset, .unset, .unset, .unset, .unset, .unset] [(.ref b27)])) rfl (by rw [hml]; rfl) (Steps.refl _) (argsL := []) (rest := []) (lenOf pd_10 rfl) rfl (by show 2 * 0 + _ ≤ _; exact Nat.le_of_eq rfl) (hb hby at_122) (fun _ _ => ⟨rfl, rfl, (by decide : 4 + 1 ≤ _), (by decide : 139 + 128 ≤ _)⟩)
  dsimp only [Pt.U, Pt.locs, Pt.cells, Pt.slots] at X31 l31 y31 z31 st31 hQ31
  subst l31 y31 z31
  obtain ⟨b0, rfl, N31q, K2, S2, B2⟩ := hQ31
  have N31 := Fr.app N29 N31q
  have Z2 : n0 ≤ T31.heap.size := Nat.le_trans Z1 K2.1
  have E2 := E1.keep K2
  have F1b := F1.keep K2 nin0
  have F2b := F2.keep K2 nin0
  have B1b := own_B_keep B1 K2 nin0
  have BGe := own_B_keep BGd K2 nin0
  have BX3 := own_B_keep BX2 K2 nin0
  obtain ⟨cl0, Ar0, Sz0, Hf0, Gf0, Xf0⟩ := id B2
  have pre32 : ∀ t, Steps p.tables e below (T31.setTop (mkF m 135 #[.val (.int p1), .val (.int p2), .val (.long q3), .second, .val (.int p4), .val (.int p5), .val (.int dI), .val (.int dL), .val (.int dB), .val (.int bv), .val (.int dG), .val (.ref b17), .val (.ref b25), .val (.int (0 : Int32)), .val (.ref b27), .val (.ref b0), .unset, .unset, .unset, .unset, .unset] [])) t → Steps p.tables e below _ t := fun t kt => pre30 t (by
    show Steps p.tables e below (T29.setTop (mkF m 122 #[.val (.int p1), .val (.int p2), .val (.long q3), .second, .val (.int p4), .val (.int p5), .val (.int dI), .val (.int dL), .val (.int dB), .val (.int bv), .val (.int dG), .val (.ref b17), .val (.ref b25), .val (.int (0 : Int32)), .val (.ref b27), .unset, .unset, .unset, .unset, .unset, .unset] [(.ref b27)])) _
    refine st31.trans ?_
    refine XS.astore X31.here hx rfl (hb hby at_125) rfl rfl (l' := #[.val (.int p1), .val (.int p2), .val (.long q3), .second, .val (.int p4), .val (.int p5), .val (.int dI), .val (.int dL), .val (.int dB), .val (.int bv), .val (.int dG), .val (.ref b17), .val (.ref b25), .val (.int (0 : Int32)), .val (.ref b27), .val (.ref b0), .unset, .unset, .unset, .unset, .unset]) rfl ?_
    refine XS.aload X31.here hx rfl (hb hby at_127) rfl rfl ?_
    show Steps p.tables e below (T31.setTop (mkF m 129 #[.val (.int p1), .val (.int p2), .val (.long q3), .second, .val (.int p4), .val (.int p5), .val (.int dI), .val (.int dL), .val (.int dB), .val (.int bv), .val (.int dG), .val (.ref b17), .val (.ref b25), .val (.int (0 : Int32)), .val (.ref b27), .val (.ref b0), .unset, .unset, .unset, .unset, .unset] [(.ref b0)])) _
    refine X31.arraylength hx Ar0.1 (State.isArrayOf_alike hZ.alike Ar0.2.1) (g := (mkF m 129 #[.val (.int p1), .val (.int p2), .val (.long q3), .second, .val (.int p4), .val (.int p5), .val (.int dI), .val (.int dL), .val (.int dB), .val (.int bv), .val (.int dG), .val (.ref b17), .val (.ref b25), .val (.int (0 : Int32)), .val (.ref b27), .val (.ref b0), .unset, .unset, .unset, .unset, .unset] [(.ref b0)])) rfl rfl (hb hby at_129) _ ?_
    rw [len_of (by rw [Sz0]; rfl : cl0.slots.size = (0 : Int32).toNatClampNeg) (by decide)]
    have hc130 : (0 : Int32) = (0 : Int32) := by decide
    refine XS.ifYes X31.here hx rfl (pc0 := 130) (pc' := 135) rfl (hb hby at_130) rfl ((if0 _ _).trans (teq hc130).1) (by decide) (by decide) ?_
    exact kt)
  have preA : ∀ t, Steps p.tables e below (T31.setTop (mkF m 135 #[.val (.int p1), .val (.int p2), .val (.long q3), .second, .val (.int p4), .val (.int p5), .val (.int dI), .val (.int dL), .val (.int dB), .val (.int bv), .val (.int dG), .val (.ref b17), .val (.ref b25), .val (.int (Int32.ofNat 0)), .val (.ref b27), .val (.ref b0), .unset, .unset, .unset, .unset, .unset] [])) t → Steps p.tables e below (s₁.setTop (entryFrame m #[(.int p1), (.int p2), (.long q3), (.int p4), (.int p5)] maxLocals)) t := pre32
  obtain ⟨T_1, h_1, L_1, n_1, f_1, e_1, X_1, q_1, N_1, Z_1, R_1, ag_1, bd_1, st_1⟩ := own_blk1 p1 p2 q3 p4 p5 dI dL dB bv dG b17 b25 b27 b0 bb 0 (fun _ => 0) (fun _ => 0) g X31 hx hZ hw hby hml hown rfl N31 Z2 ⟨E2, F1b, F2b, B1b, BX3, BGe⟩ (fun j hj => absurd hj (Nat.not_lt_zero _)) (Nat.le_refl _) nrb (Ne.symm nxr) (Ne.symm nxb) ngr ngb ngx g_b27 gbb g_b25 g_b17
  obtain ⟨T_2, h_2, L_2, n_2, f_2, e_2, X_2, q_2, N_2, Z_2, R_2, ag_2, bd_2, st_2⟩ := own_blk2 p1 p2 q3 p4 p5 dI dL dB bv dG b17 b25 b27 b0 bb n_1 f_1 e_1 g X_1 hx hZ hw hby hml hown q_1 N_1 Z_1 R_1 ag_1 bd_1 nrb (Ne.symm nxr) (Ne.symm nxb) ngr ngb ngx g_b27 gbb g_b25 g_b17
  obtain ⟨T_3, h_3, L_3, n_3, f_3, e_3, X_3, q_3, N_3, Z_3, R_3, ag_3, bd_3, st_3⟩ := own_blk3 p1 p2 q3 p4 p5 dI dL dB bv dG b17 b25 b27 b0 bb n_2 f_2 e_2 g X_2 hx hZ hw hby hml hown q_2 N_2 Z_2 R_2 ag_2 bd_2 nrb (Ne.symm nxr) (Ne.symm nxb) ngr ngb ngx g_b27 gbb g_b25 g_b17
  obtain ⟨T_4, h_4, L_4, tn, cap, b4, f_4, X_4, q_4, N_4, Z_4, ⟨E4, F41, F42, B4, BX4⟩, ag_4, big_4, sm_4, tc_4, t77, c128, hcap4, nrb4, nbx4, g_4, st_4⟩ := own_blk4 p1 p2 q3 p4 p5 dI dL dB bv dG b17 b25 b27 b0 bb n_3 f_3 e_3 g X_3 hx hZ hw hby hml hown q_3 N_3 Z_3 R_3 ag_3 bd_3 hG nrb (Ne.symm nxr) (Ne.symm nxb) ngr ngb ngx g_b27 gbb g_b25 g_b17
  have preB : ∀ t, Steps p.tables e below (T_4.setTop (mkF m 256 #[.val (.int p1), .val (.int p2), .val (.long q3), .second, .val (.int p4), .val (.int p5), .val (.int dI), .val (.int dL), .val (.int dB), .val (.int bv), .val (.int dG), .val (.ref b17), .val (.ref b25), .val (.int (Int32.ofNat n_3)), .val (.ref b27), .val (.ref b0), .val (.int (Int32.ofNat n_3)), .val (.int (Int32.ofNat tn)), .unset, .unset, .unset] [])) t → Steps p.tables e below (s₁.setTop (entryFrame m #[(.int p1), (.int p2), (.long q3), (.int p4), (.int p5)] maxLocals)) t := fun t kt => preA t (st_1 t (st_2 t (st_3 t (st_4 t kt))))
  have pre33 : ∀ t, Steps p.tables e below (T_4.setTop (mkF m 258 #[.val (.int p1), .val (.int p2), .val (.long q3), .second, .val (.int p4), .val (.int p5), .val (.int dI), .val (.int dL), .val (.int dB), .val (.int bv), .val (.int dG), .val (.ref b17), .val (.ref b25), .val (.int (Int32.ofNat n_3)), .val (.ref b27), .val (.ref b0), .val (.int (Int32.ofNat n_3)), .val (.int (Int32.ofNat tn)), .unset, .unset, .unset] [(.ref b27)])) t → Steps p.tables e below _ t := fun t kt => preB t (by
    show Steps p.tables e below (T_4.setTop (mkF m 256 #[.val (.int p1), .val (.int p2), .val (.long q3), .second, .val (.int p4), .val (.int p5), .val (.int dI), .val (.int dL), .val (.int dB), .val (.int bv), .val (.int dG), .val (.ref b17), .val (.ref b25), .val (.int (Int32.ofNat n_3)), .val (.ref b27), .val (.ref b0), .val (.int (Int32.ofNat n_3)), .val (.int (Int32.ofNat tn)), .unset, .unset, .unset] [])) _
    refine XS.aload X_4.here hx rfl (hb hby at_256) rfl rfl ?_
    exact kt)
  obtain ⟨cq34, kq34, q34a, q34b, q34c⟩ := isOf hZ q_4 E4
  obtain ⟨_, _, ⟨T34, L34, k34, n34⟩, -, X34, ⟨Lc34, hQ34, l34, y34, z34⟩, st34⟩ := X_4.virtualBack hx (y := (⟨"com/example/haulway/haulway/io/RecordOutput", "toBytes", "()[B"⟩ : MethodName)) (z := (⟨"com/example/haulway/haulway/io/RecordOutput", "toBytes", "()[B"⟩ : MethodName)) hown (mvT hZ (hw _ (List.mem_of_getElem? (i := 12) rfl))) (mvT hZ (hw _ (List.mem_of_getElem? (i := 13) rfl))) (notFace_of_selects (args := #[]) (mvT hZ (hw _ (List.mem_of_getElem? (i := 15) rfl)))) (mvT hZ (hw _ (List.mem_of_getElem? (i := 15) rfl))) (mvT hZ (hw _ (List.mem_of_getElem? (i := 14) rfl))) (by decide) (backOf (W := 0) (rm3 l Z a0 hw [] b27 b4 cap tn f_4 h_4 n0 Z_4 E4 F41 F42 B4 (by omega) (by omega)) hZ (hw _ (List.mem_of_getElem? (i := 16) rfl)) (hw _ (List.mem_of_getElem? (i := 3) rfl)) (by decide) (by decide)) q34a q34c (g := (mkF m 258 #[.val (.int p1), .val (.int p2), .val (.long q3), .second, .val (.int p4), .val (.int p5), .val (.int dI), .val (.int dL), .val (.int dB), .val (.int bv), .val (.int dG), .val (.ref b17), .val (.ref b25), .val (.int (Int32.ofNat n_3)), .val (.ref b27), .val (.ref b0), .val (.int (Int32.ofNat n_3)), .val (.int (Int32.ofNat tn)), .unset, .unset, .unset] [(.ref b27)])) rfl (by rw [hml]; rfl) (Steps.refl _) (argsL := []) (rest := []) (lenOf pd_10 rfl) rfl (by show 2 * 0 + _ ≤ _; exact Nat.le_of_eq rfl) (hb hby at_258) (fun _ _ => ⟨rfl, q_4, (by decide : 6 + 1 ≤ _), (by decide : 395 + 128 ≤ _)⟩)
  dsimp only [Pt.U, Pt.locs, Pt.cells, Pt.slots] at X34 l34 y34 z34 st34 hQ34
  subst l34 y34 z34
  obtain ⟨rA, rfl, N34q, KtA, StA, BtA⟩ := hQ34
  have N34 := Fr.app N_4 N34q
  have ZtA : n0 ≤ T34.heap.size := Nat.le_trans Z_4 KtA.1
  have EAt := E4.keep KtA
  have F1At := F41.keep KtA nin0
  have F2At := F42.keep KtA nin0
  have BAt := own_B_keep B4 KtA nin0
  have BXAt := own_B_keep BX4 KtA nin0
  obtain ⟨clA, ArA, SzA, HfA, GfA, XfA⟩ := id BtA
  have BtA' : own_B Z T34.heap rA tn f_4 := ⟨clA, ArA, SzA, HfA, GfA, XfA⟩
  have pre35 : ∀ t, Steps p.tables e below (T34.setTop (mkF m 283 #[.val (.int p1), .val (.int p2), .val (.long q3), .second, .val (.int p4), .val (.int p5), .val (.int dI), .val (.int dL), .val (.int dB), .val (.int bv), .val (.int dG), .val (.ref b17), .val (.ref b25), .val (.int (Int32.ofNat n_3)), .val (.ref b27), .val (.ref b0), .val (.int (Int32.ofNat n_3)), .val (.int (Int32.ofNat tn)), .val (.ref rA), .unset, .unset] [(.int p4), (.int dG), (.int (Int32.ofNat n_3)), (.ref b25), (.ref rA)])) t → Steps p.tables e below _ t := fun t kt => pre33 t (by
    show Steps p.tables e below (T_4.setTop (mkF m 258 #[.val (.int p1), .val (.int p2), .val (.long q3), .second, .val (.int p4), .val (.int p5), .val (.int dI), .val (.int dL), .val (.int dB), .val (.int bv), .val (.int dG), .val (.ref b17), .val (.ref b25), .val (.int (Int32.ofNat n_3)), .val (.ref b27), .val (.ref b0), .val (.int (Int32.ofNat n_3)), .val (.int (Int32.ofNat tn)), .unset, .unset, .unset] [(.ref b27)])) _
    refine st34.trans ?_
    refine XS.astore X34.here hx rfl (hb hby at_261) rfl rfl (l' := #[.val (.int p1), .val (.int p2), .val (.long q3), .second, .val (.int p4), .val (.int p5), .val (.int dI), .val (.int dL), .val (.int dB), .val (.int bv), .val (.int dG), .val (.ref b17), .val (.ref b25), .val (.int (Int32.ofNat n_3)), .val (.ref b27), .val (.ref b0), .val (.int (Int32.ofNat n_3)), .val (.int (Int32.ofNat tn)), .val (.ref rA), .unset, .unset]) rfl ?_
    refine XS.aload X34.here hx rfl (hb hby at_263) rfl rfl ?_
    show Steps p.tables e below (T34.setTop (mkF m 265 #[.val (.int p1), .val (.int p2), .val (.long q3), .second, .val (.int p4), .val (.int p5), .val (.int dI), .val (.int dL), .val (.int dB), .val (.int bv), .val (.int dG), .val (.ref b17), .val (.ref b25), .val (.int (Int32.ofNat n_3)), .val (.ref b27), .val (.ref b0), .val (.int (Int32.ofNat n_3)), .val (.int (Int32.ofNat tn)), .val (.ref rA), .unset, .unset] [(.ref rA)])) _
    refine X34.arraylength hx ArA.1 (State.isArrayOf_alike hZ.alike ArA.2.1) (g := (mkF m 265 #[.val (.int p1), .val (.int p2), .val (.long q3), .second, .val (.int p4), .val (.int p5), .val (.int dI), .val (.int dL), .val (.int dB), .val (.int bv), .val (.int dG), .val (.ref b17), .val (.ref b25), .val (.int (Int32.ofNat n_3)), .val (.ref b27), .val (.ref b0), .val (.int (Int32.ofNat n_3)), .val (.int (Int32.ofNat tn)), .val (.ref rA), .unset, .unset] [(.ref rA)])) rfl rfl (hb hby at_265) _ ?_
    rw [len_of (by rw [SzA, clamp_of (c := tn) rfl (by omega)] : clA.slots.size = (Int32.ofNat tn).toNatClampNeg) (own_nneg (by omega))]
    refine XS.iload X34.here hx rfl (hb hby at_266) rfl ?_
    have hc268 : (Int32.ofNat tn) = (Int32.ofNat tn) := rfl
    refine XS.icmpYes X34.here hx rfl (pc0 := 268) (pc' := 273) rfl (hb hby at_268) rfl (teq hc268).1 (by decide) (by decide) ?_
    show Steps p.tables e below (T34.setTop (mkF m 273 #[.val (.int p1), .val (.int p2), .val (.long q3), .second, .val (.int p4), .val (.int p5), .val (.int dI), .val (.int dL), .val (.int dB), .val (.int bv), .val (.int dG), .val (.ref b17), .val (.ref b25), .val (.int (Int32.ofNat n_3)), .val (.ref b27), .val (.ref b0), .val (.int (Int32.ofNat n_3)), .val (.int (Int32.ofNat tn)), .val (.ref rA), .unset, .unset] [])) _
    refine XS.aload X34.here hx rfl (hb hby at_273) rfl rfl ?_
    refine XS.aload X34.here hx rfl (hb hby at_275) rfl rfl ?_
    refine XS.iload X34.here hx rfl (hb hby at_277) rfl ?_
    show Steps p.tables e below (T34.setTop (mkF m 279 #[.val (.int p1), .val (.int p2), .val (.long q3), .second, .val (.int p4), .val (.int p5), .val (.int dI), .val (.int dL), .val (.int dB), .val (.int bv), .val (.int dG), .val (.ref b17), .val (.ref b25), .val (.int (Int32.ofNat n_3)), .val (.ref b27), .val (.ref b0), .val (.int (Int32.ofNat n_3)), .val (.int (Int32.ofNat tn)), .val (.ref rA), .unset, .unset] [(.int (Int32.ofNat n_3)), (.ref b25), (.ref rA)])) _
    refine XS.iload X34.here hx rfl (hb hby at_279) rfl ?_
    refine XS.iload X34.here hx rfl (hb hby at_281) rfl ?_
    exact kt)
  obtain ⟨_, _, ⟨T36, L36, k36, n36⟩, -, X36, ⟨Lc36, hQ36, l36, y36, z36⟩, st36⟩ := Jvm.LawKit.callS X34 hx (y := (⟨"com/example/haulway/haulway/io/RecordOutputToBytesPinLaw", "check", "([B[BIZI)Z"⟩ : MethodName)) hown (mvT hZ (hw _ (List.mem_of_getElem? (i := 31) rfl))) (mvT hZ (hw _ (List.mem_of_getElem? (i := 32) rfl))) (mvT hZ (hw _ (List.mem_of_getElem? (i := 33) rfl))) (mvT hZ (hw _ (List.mem_of_getElem? (i := 34) rfl))) (by decide) (backOf (W := 0) (rm6 l Z a0 hw [] rA b25 tn n_3 dG p4 f_4 e_3 T34.heap n0 ZtA BtA' BXAt (by omega) (by omega) (by omega) ag_4 big_4) hZ (hw _ (List.mem_of_getElem? (i := 34) rfl)) (hw _ (List.mem_of_getElem? (i := 33) rfl)) (by decide) (by decide)) (g := (mkF m 283 #[.val (.int p1), .val (.int p2), .val (.long q3), .second, .val (.int p4), .val (.int p5), .val (.int dI), .val (.int dL), .val (.int dB), .val (.int bv), .val (.int dG), .val (.ref b17), .val (.ref b25), .val (.int (Int32.ofNat n_3)), .val (.ref b27), .val (.ref b0), .val (.int (Int32.ofNat n_3)), .val (.int (Int32.ofNat tn)), .val (.ref rA), .unset, .unset] [(.int p4), (.int dG), (.int (Int32.ofNat n_3)), (.ref b25), (.ref rA)])) rfl (by rw [hml]; rfl) (argsL := [(.ref rA), (.ref b25), (.int (Int32.ofNat n_3)), (.int dG), (.int p4)]) (rest := []) (lenOf pd_11 rfl) rfl (by show 2 * 0 + _ ≤ _; exact Nat.le_of_eq rfl) (hb hby at_283) (fun _ _ => ⟨rfl, rfl, (by decide : 7 + 0 ≤ _), (by decide : 523 + 0 ≤ _)⟩)
  dsimp only [Pt.U, Pt.locs, Pt.cells, Pt.slots] at X36 l36 y36 z36 st36 hQ36
  subst l36 y36 z36
  obtain ⟨rfl, N36q, e36⟩ := hQ36
  have N36 := Fr.app N34 N36q
  have pre37 : ∀ t, Steps p.tables e below (T36.setTop (mkF m 293 #[.val (.int p1), .val (.int p2), .val (.long q3), .second, .val (.int p4), .val (.int p5), .val (.int dI), .val (.int dL), .val (.int dB), .val (.int bv), .val (.int dG), .val (.ref b17), .val (.ref b25), .val (.int (Int32.ofNat n_3)), .val (.ref b27), .val (.ref b0), .val (.int (Int32.ofNat n_3)), .val (.int (Int32.ofNat tn)), .val (.ref rA), .unset, .unset] [(.int (Int32.ofNat tn))])) t → Steps p.tables e below _ t := fun t kt => pre35 t (by
    show Steps p.tables e below (T34.setTop (mkF m 283 #[.val (.int p1), .val (.int p2), .val (.long q3), .second, .val (.int p4), .val (.int p5), .val (.int dI), .val (.int dL), .val (.int dB), .val (.int bv), .val (.int dG), .val (.ref b17), .val (.ref b25), .val (.int (Int32.ofNat n_3)), .val (.ref b27), .val (.ref b0), .val (.int (Int32.ofNat n_3)), .val (.int (Int32.ofNat tn)), .val (.ref rA), .unset, .unset] [(.int p4), (.int dG), (.int (Int32.ofNat n_3)), (.ref b25), (.ref rA)])) _
    refine st36 _ ?_
    have hc286 : ¬ ((1 : Int32) = (0 : Int32)) := by decide
    refine XS.ifYes X36.here hx rfl (pc0 := 286) (pc' := 291) rfl (hb hby at_286) rfl ((if0 _ _).trans (feq hc286).2) (by decide) (by decide) ?_
    refine XS.iload X36.here hx rfl (hb hby at_291) rfl ?_
    exact kt)
  by_cases hc293 : (0 : Int32) < (Int32.ofNat tn)
  · have pre38 : ∀ t, Steps p.tables e below (T36.setTop (mkF m 296 #[.val (.int p1), .val (.int p2), .val (.long q3), .second, .val (.int p4), .val (.int p5), .val (.int dI), .val (.int dL), .val (.int dB), .val (.int bv), .val (.int dG), .val (.ref b17), .val (.ref b25), .val (.int (Int32.ofNat n_3)), .val (.ref b27), .val (.ref b0), .val (.int (Int32.ofNat n_3)), .val (.int (Int32.ofNat tn)), .val (.ref rA), .unset, .unset] [])) t → Steps p.tables e below _ t := fun t kt => pre37 t (by
      show Steps p.tables e below (T36.setTop (mkF m 293 #[.val (.int p1), .val (.int p2), .val (.long q3), .second, .val (.int p4), .val (.int p5), .val (.int dI), .val (.int dL), .val (.int dB), .val (.int bv), .val (.int dG), .val (.ref b17), .val (.ref b25), .val (.int (Int32.ofNat n_3)), .val (.ref b27), .val (.ref b0), .val (.int (Int32.ofNat n_3)), .val (.int (Int32.ofNat tn)), .val (.ref rA), .unset, .unset] [(.int (Int32.ofNat tn))])) _
      refine XS.ifNo X36.here hx rfl (hb hby at_293) rfl ((if0 _ _).trans (tlt hc293).2.2.2) ?_
      exact kt)
    have tpos : 0 < tn := Decidable.byContradiction fun q => own_nlt (n := tn) (i := 0) (by omega) (by decide) hc293
    have pre39 : ∀ t, Steps p.tables e below (T36.setTop (mkF m 306 #[.val (.int p1), .val (.int p2), .val (.long q3), .second, .val (.int p4), .val (.int p5), .val (.int dI), .val (.int dL), .val (.int dB), .val (.int bv), .val (.int dG), .val (.ref b17), .val (.ref b25), .val (.int (Int32.ofNat n_3)), .val (.ref b27), .val (.ref b0), .val (.int (Int32.ofNat n_3)), .val (.int (Int32.ofNat tn)), .val (.ref rA), .unset, .unset] [(.int (((f_4 0) ^^^ (1 : Int32)).toInt8.toInt32)), (.int (0 : Int32)), (.ref rA)])) t → Steps p.tables e below _ t := fun t kt => pre38 t (by
      show Steps p.tables e below (T36.setTop (mkF m 296 #[.val (.int p1), .val (.int p2), .val (.long q3), .second, .val (.int p4), .val (.int p5), .val (.int dI), .val (.int dL), .val (.int dB), .val (.int bv), .val (.int dG), .val (.ref b17), .val (.ref b25), .val (.int (Int32.ofNat n_3)), .val (.ref b27), .val (.ref b0), .val (.int (Int32.ofNat n_3)), .val (.int (Int32.ofNat tn)), .val (.ref rA), .unset, .unset] [])) _
      refine XS.aload X36.here hx rfl (hb hby at_296) rfl rfl ?_
      refine XS.iconst X36.here hx rfl (hb hby at_298) ?_
      refine XS.aload X36.here hx rfl (hb hby at_299) rfl rfl ?_
      show Steps p.tables e below (T36.setTop (mkF m 301 #[.val (.int p1), .val (.int p2), .val (.long q3), .second, .val (.int p4), .val (.int p5), .val (.int dI), .val (.int dL), .val (.int dB), .val (.int bv), .val (.int dG), .val (.ref b17), .val (.ref b25), .val (.int (Int32.ofNat n_3)), .val (.ref b27), .val (.ref b0), .val (.int (Int32.ofNat n_3)), .val (.int (Int32.ofNat tn)), .val (.ref rA), .unset, .unset] [(.ref rA), (.int (0 : Int32)), (.ref rA)])) _
      refine XS.iconst X36.here hx rfl (hb hby at_301) ?_
      refine X36.baloadBytes hx (j := (0 : Int32)) (v := (.int (f_4 0))) (by rw [e36]; exact ArA.1) (State.isArrayOf_alike hZ.alike ArA.2.1) ArA.2.2 (within (c := 0) rfl (by omega) (by omega)) (HfA 0 (by omega)) (g := (mkF m 302 #[.val (.int p1), .val (.int p2), .val (.long q3), .second, .val (.int p4), .val (.int p5), .val (.int dI), .val (.int dL), .val (.int dB), .val (.int bv), .val (.int dG), .val (.ref b17), .val (.ref b25), .val (.int (Int32.ofNat n_3)), .val (.ref b27), .val (.ref b0), .val (.int (Int32.ofNat n_3)), .val (.int (Int32.ofNat tn)), .val (.ref rA), .unset, .unset] [(.int (0 : Int32)), (.ref rA), (.int (0 : Int32)), (.ref rA)])) rfl rfl (hb hby at_302) _ ?_
      refine XS.iconst X36.here hx rfl (hb hby at_303) ?_
      show Steps p.tables e below (T36.setTop (mkF m 304 #[.val (.int p1), .val (.int p2), .val (.long q3), .second, .val (.int p4), .val (.int p5), .val (.int dI), .val (.int dL), .val (.int dB), .val (.int bv), .val (.int dG), .val (.ref b17), .val (.ref b25), .val (.int (Int32.ofNat n_3)), .val (.ref b27), .val (.ref b0), .val (.int (Int32.ofNat n_3)), .val (.int (Int32.ofNat tn)), .val (.ref rA), .unset, .unset] [(.int (1 : Int32)), (.int (f_4 0)), (.int (0 : Int32)), (.ref rA)])) _
      refine XS.ixor X36.here hx rfl (hb hby at_304) rfl ?_
      refine XS.i2b X36.here hx rfl (hb hby at_305) rfl ?_
      exact kt)
    have gA : n0 ≤ rA := Nat.le_trans Z_4 StA
    obtain ⟨T40, h40, X40, e40, W40, st40⟩ := stB X36 hx hZ e36 ArA (j := (0 : Int32)) (within (c := 0) rfl (by omega) (by omega)) (g := (mkF m 306 #[.val (.int p1), .val (.int p2), .val (.long q3), .second, .val (.int p4), .val (.int p5), .val (.int dI), .val (.int dL), .val (.int dB), .val (.int bv), .val (.int dG), .val (.ref b17), .val (.ref b25), .val (.int (Int32.ofNat n_3)), .val (.ref b27), .val (.ref b0), .val (.int (Int32.ofNat n_3)), .val (.int (Int32.ofNat tn)), .val (.ref rA), .unset, .unset] [(.int (((f_4 0) ^^^ (1 : Int32)).toInt8.toInt32)), (.int (0 : Int32)), (.ref rA)])) rfl rfl (hb hby at_306)
    have N40 := Fr.snoc X40 N36 gA
    have Zs40 : n0 ≤ h40.size := Nat.le_trans ZtA (Nat.le_of_eq W40.size.symm)
    have BA1 := own_B_set BtA' (show Wr _ _ _ 0 (.int (nar .byte _)) from W40) (fits_nar_byte _)
    have nA1 : b27 ≠ rA := Nat.ne_of_lt (Nat.lt_of_lt_of_le E4.lt StA)
    have nA2 : b4 ≠ rA := Nat.ne_of_lt (Nat.lt_of_lt_of_le (own_B_lt B4) StA)
    have nA3 : b25 ≠ rA := Nat.ne_of_lt (Nat.lt_of_lt_of_le (own_B_lt BX4) StA)
    have Ew40 := EAt.wr W40
    have Fw140 := F1At.other W40 (Or.inl nA1)
    have Fw240 := F2At.other W40 (Or.inl nA1)
    have Bw40 := own_B_other BAt W40 nA2
    have BXw40 := own_B_other BXAt W40 nA3
    obtain ⟨clD, ArD, SzD, HfD, GfD, XfD⟩ := id BA1
    have pre41 : ∀ t, Steps p.tables e below (T40.setTop (mkF m 319 #[.val (.int p1), .val (.int p2), .val (.long q3), .second, .val (.int p4), .val (.int p5), .val (.int dI), .val (.int dL), .val (.int dB), .val (.int bv), .val (.int dG), .val (.ref b17), .val (.ref b25), .val (.int (Int32.ofNat n_3)), .val (.ref b27), .val (.ref b0), .val (.int (Int32.ofNat n_3)), .val (.int (Int32.ofNat tn)), .val (.ref rA), .unset, .unset] [(.int ((Int32.ofNat tn) - (1 : Int32))), (.ref rA), (.int ((Int32.ofNat tn) - (1 : Int32))), (.ref rA)])) t → Steps p.tables e below _ t := fun t kt => pre39 t (by
      show Steps p.tables e below (T36.setTop (mkF m 306 #[.val (.int p1), .val (.int p2), .val (.long q3), .second, .val (.int p4), .val (.int p5), .val (.int dI), .val (.int dL), .val (.int dB), .val (.int bv), .val (.int dG), .val (.ref b17), .val (.ref b25), .val (.int (Int32.ofNat n_3)), .val (.ref b27), .val (.ref b0), .val (.int (Int32.ofNat n_3)), .val (.int (Int32.ofNat tn)), .val (.ref rA), .unset, .unset] [(.int (((f_4 0) ^^^ (1 : Int32)).toInt8.toInt32)), (.int (0 : Int32)), (.ref rA)])) _
      refine st40 _ ?_
      refine XS.aload X40.here hx rfl (hb hby at_307) rfl rfl ?_
      refine XS.iload X40.here hx rfl (hb hby at_309) rfl ?_
      show Steps p.tables e below (T40.setTop (mkF m 311 #[.val (.int p1), .val (.int p2), .val (.long q3), .second, .val (.int p4), .val (.int p5), .val (.int dI), .val (.int dL), .val (.int dB), .val (.int bv), .val (.int dG), .val (.ref b17), .val (.ref b25), .val (.int (Int32.ofNat n_3)), .val (.ref b27), .val (.ref b0), .val (.int (Int32.ofNat n_3)), .val (.int (Int32.ofNat tn)), .val (.ref rA), .unset, .unset] [(.int (Int32.ofNat tn)), (.ref rA)])) _
      refine XS.iconst X40.here hx rfl (hb hby at_311) ?_
      refine XS.isub X40.here hx rfl (hb hby at_312) rfl ?_
      refine XS.aload X40.here hx rfl (hb hby at_313) rfl rfl ?_
      show Steps p.tables e below (T40.setTop (mkF m 315 #[.val (.int p1), .val (.int p2), .val (.long q3), .second, .val (.int p4), .val (.int p5), .val (.int dI), .val (.int dL), .val (.int dB), .val (.int bv), .val (.int dG), .val (.ref b17), .val (.ref b25), .val (.int (Int32.ofNat n_3)), .val (.ref b27), .val (.ref b0), .val (.int (Int32.ofNat n_3)), .val (.int (Int32.ofNat tn)), .val (.ref rA), .unset, .unset] [(.ref rA), (.int ((Int32.ofNat tn) - (1 : Int32))), (.ref rA)])) _
      refine XS.iload X40.here hx rfl (hb hby at_315) rfl ?_
      refine XS.iconst X40.here hx rfl (hb hby at_317) ?_
      refine XS.isub X40.here hx rfl (hb hby at_318) rfl ?_
      exact kt)
    have hv42 : ((Int32.ofNat tn) - (1 : Int32)) = (Int32.ofNat (tn - 1)) := own_sub (b := 1) (by omega) (by omega)
    rw [hv42] at pre41
    have pre43 : ∀ t, Steps p.tables e below (T40.setTop (mkF m 324 #[.val (.int p1), .val (.int p2), .val (.long q3), .second, .val (.int p4), .val (.int p5), .val (.int dI), .val (.int dL), .val (.int dB), .val (.int bv), .val (.int dG), .val (.ref b17), .val (.ref b25), .val (.int (Int32.ofNat n_3)), .val (.ref b27), .val (.ref b0), .val (.int (Int32.ofNat n_3)), .val (.int (Int32.ofNat tn)), .val (.ref rA), .unset, .unset] [(.int (((upd f_4 0 (nar .byte (((f_4 0) ^^^ (1 : Int32)).toInt8.toInt32)) (tn - 1)) ^^^ (85 : Int32)).toInt8.toInt32)), (.int (Int32.ofNat (tn - 1))), (.ref rA)])) t → Steps p.tables e below _ t := fun t kt => pre41 t (by
      show Steps p.tables e below (T40.setTop (mkF m 319 #[.val (.int p1), .val (.int p2), .val (.long q3), .second, .val (.int p4), .val (.int p5), .val (.int dI), .val (.int dL), .val (.int dB), .val (.int bv), .val (.int dG), .val (.ref b17), .val (.ref b25), .val (.int (Int32.ofNat n_3)), .val (.ref b27), .val (.ref b0), .val (.int (Int32.ofNat n_3)), .val (.int (Int32.ofNat tn)), .val (.ref rA), .unset, .unset] [(.int (Int32.ofNat (tn - 1))), (.ref rA), (.int (Int32.ofNat (tn - 1))), (.ref rA)])) _
      refine X40.baloadBytes hx (j := (Int32.ofNat (tn - 1))) (v := (.int (upd f_4 0 (nar .byte (((f_4 0) ^^^ (1 : Int32)).toInt8.toInt32)) (tn - 1)))) (by rw [e40]; exact ArD.1) (State.isArrayOf_alike hZ.alike ArD.2.1) ArD.2.2 (within (c := tn - 1) rfl (by omega) (by omega)) (by rw [clamp_of (c := tn - 1) rfl (by omega)]; exact HfD _ (by omega)) (g := (mkF m 319 #[.val (.int p1), .val (.int p2), .val (.long q3), .second, .val (.int p4), .val (.int p5), .val (.int dI), .val (.int dL), .val (.int dB), .val (.int bv), .val (.int dG), .val (.ref b17), .val (.ref b25), .val (.int (Int32.ofNat n_3)), .val (.ref b27), .val (.ref b0), .val (.int (Int32.ofNat n_3)), .val (.int (Int32.ofNat tn)), .val (.ref rA), .unset, .unset] [(.int (Int32.ofNat (tn - 1))), (.ref rA), (.int (Int32.ofNat (tn - 1))), (.ref rA)])) rfl rfl (hb hby at_319) _ ?_
      refine XS.bipush X40.here hx rfl (hb hby at_320) ?_
      refine XS.ixor X40.here hx rfl (hb hby at_322) rfl ?_
      show Steps p.tables e below (T40.setTop (mkF m 323 #[.val (.int p1), .val (.int p2), .val (.long q3), .second, .val (.int p4), .val (.int p5), .val (.int dI), .val (.int dL), .val (.int dB), .val (.int bv), .val (.int dG), .val (.ref b17), .val (.ref b25), .val (.int (Int32.ofNat n_3)), .val (.ref b27), .val (.ref b0), .val (.int (Int32.ofNat n_3)), .val (.int (Int32.ofNat tn)), .val (.ref rA), .unset, .unset] [(.int ((upd f_4 0 (nar .byte (((f_4 0) ^^^ (1 : Int32)).toInt8.toInt32)) (tn - 1)) ^^^ (85 : Int32))), (.int (Int32.ofNat (tn - 1))), (.ref rA)])) _
      refine XS.i2b X40.here hx rfl (hb hby at_323) rfl ?_
      exact kt)
    obtain ⟨T44, h44, X44, e44, W44, st44⟩ := stB X40 hx hZ e40 ArD (j := (Int32.ofNat (tn - 1))) (within (c := tn - 1) rfl (by omega) (by omega)) (g := (mkF m 324 #[.val (.int p1), .val (.int p2), .val (.long q3), .second, .val (.int p4), .val (.int p5), .val (.int dI), .val (.int dL), .val (.int dB), .val (.int bv), .val (.int dG), .val (.ref b17), .val (.ref b25), .val (.int (Int32.ofNat n_3)), .val (.ref b27), .val (.ref b0), .val (.int (Int32.ofNat n_3)), .val (.int (Int32.ofNat tn)), .val (.ref rA), .unset, .unset] [(.int (((upd f_4 0 (nar .byte (((f_4 0) ^^^ (1 : Int32)).toInt8.toInt32)) (tn - 1)) ^^^ (85 : Int32)).toInt8.toInt32)), (.int (Int32.ofNat (tn - 1))), (.ref rA)])) rfl rfl (hb hby at_324)
    have N44 := Fr.snoc X44 N40 gA
    have Zs44 : n0 ≤ h44.size := Nat.le_trans Zs40 (Nat.le_of_eq W44.size.symm)
    have Ew44 := Ew40.wr W44
    have Fw144 := Fw140.other W44 (Or.inl nA1)
    have Fw244 := Fw240.other W44 (Or.inl nA1)
    have Bw44 := own_B_other Bw40 W44 nA2
    have BXw44 := own_B_other BXw40 W44 nA3
    have pre45 : ∀ t, Steps p.tables e below (T44.setTop (mkF m 327 #[.val (.int p1), .val (.int p2), .val (.long q3), .second, .val (.int p4), .val (.int p5), .val (.int dI), .val (.int dL), .val (.int dB), .val (.int bv), .val (.int dG), .val (.ref b17), .val (.ref b25), .val (.int (Int32.ofNat n_3)), .val (.ref b27), .val (.ref b0), .val (.int (Int32.ofNat n_3)), .val (.int (Int32.ofNat tn)), .val (.ref rA), .unset, .unset] [(.ref b27)])) t → Steps p.tables e below _ t := fun t kt => pre43 t (by
      show Steps p.tables e below (T40.setTop (mkF m 324 #[.val (.int p1), .val (.int p2), .val (.long q3), .second, .val (.int p4), .val (.int p5), .val (.int dI), .val (.int dL), .val (.int dB), .val (.int bv), .val (.int dG), .val (.ref b17), .val (.ref b25), .val (.int (Int32.ofNat n_3)), .val (.ref b27), .val (.ref b0), .val (.int (Int32.ofNat n_3)), .val (.int (Int32.ofNat tn)), .val (.ref rA), .unset, .unset] [(.int (((upd f_4 0 (nar .byte (((f_4 0) ^^^ (1 : Int32)).toInt8.toInt32)) (tn - 1)) ^^^ (85 : Int32)).toInt8.toInt32)), (.int (Int32.ofNat (tn - 1))), (.ref rA)])) _
      refine st44 _ ?_
      refine XS.aload X44.here hx rfl (hb hby at_325) rfl rfl ?_
      exact kt)
    obtain ⟨cq46, kq46, q46a, q46b, q46c⟩ := isOf hZ e44 Ew44
    obtain ⟨_, _, ⟨T46, L46, k46, n46⟩, -, X46, ⟨Lc46, hQ46, l46, y46, z46⟩, st46⟩ := X44.virtualBack hx (y := (⟨"com/example/haulway/haulway/io/RecordOutput", "toBytes", "()[B"⟩ : MethodName)) (z := (⟨"com/example/haulway/haulway/io/RecordOutput", "toBytes", "()[B"⟩ : MethodName)) hown (mvT hZ (hw _ (List.mem_of_getElem? (i := 12) rfl))) (mvT hZ (hw _ (List.mem_of_getElem? (i := 13) rfl))) (notFace_of_selects (args := #[]) (mvT hZ (hw _ (List.mem_of_getElem? (i := 15) rfl)))) (mvT hZ (hw _ (List.mem_of_getElem? (i := 15) rfl))) (mvT hZ (hw _ (List.mem_of_getElem? (i := 14) rfl))) (by decide) (backOf (W := 0) (rm3 l Z a0 hw [] b27 b4 cap tn f_4 h44 n0 Zs44 Ew44 Fw144 Fw244 Bw44 (by omega) (by omega)) hZ (hw _ (List.mem_of_getElem? (i := 16) rfl)) (hw _ (List.mem_of_getElem? (i := 3) rfl)) (by decide) (by decide)) q46a q46c (g := (mkF m 327 #[.val (.int p1), .val (.int p2), .val (.long q3), .second, .val (.int p4), .val (.int p5), .val (.int dI), .val (.int dL), .val (.int dB), .val (.int bv), .val (.int dG), .val (.ref b17), .val (.ref b25), .val (.int (Int32.ofNat n_3)), .val (.ref b27), .val (.ref b0), .val (.int (Int32.ofNat n_3)), .val (.int (Int32.ofNat tn)), .val (.ref rA), .unset, .unset] [(.ref b27)])) rfl (by rw [hml]; rfl) (Steps.refl _) (argsL := []) (rest := []) (lenOf pd_10 rfl) rfl (by show 2 * 0 + _ ≤ _; exact Nat.le_of_eq rfl) (hb hby at_327) (fun _ _ => ⟨rfl, e44, (by decide : 7 + 1 ≤ _), (by decide : 523 + 128 ≤ _)⟩)
    dsimp only [Pt.U, Pt.locs, Pt.cells, Pt.slots] at X46 l46 y46 z46 st46 hQ46
    subst l46 y46 z46
    obtain ⟨rB, rfl, N46q, KtB, StB, BtB⟩ := hQ46
    have N46 := Fr.app N44 N46q
    have ZtB : n0 ≤ T46.heap.size := Nat.le_trans Zs44 KtB.1
    have EBt := Ew44.keep KtB
    have F1Bt := Fw144.keep KtB nin0
    have F2Bt := Fw244.keep KtB nin0
    have BBt := own_B_keep Bw44 KtB nin0
    have BXBt := own_B_keep BXw44 KtB nin0
    obtain ⟨clB, ArB, SzB, HfB, GfB, XfB⟩ := id BtB
    have BtB' : own_B Z T46.heap rB tn f_4 := ⟨clB, ArB, SzB, HfB, GfB, XfB⟩
    have pre47 : ∀ t, Steps p.tables e below (T46.setTop (mkF m 352 #[.val (.int p1), .val (.int p2), .val (.long q3), .second, .val (.int p4), .val (.int p5), .val (.int dI), .val (.int dL), .val (.int dB), .val (.int bv), .val (.int dG), .val (.ref b17), .val (.ref b25), .val (.int (Int32.ofNat n_3)), .val (.ref b27), .val (.ref b0), .val (.int (Int32.ofNat n_3)), .val (.int (Int32.ofNat tn)), .val (.ref rA), .val (.ref rB), .unset] [(.int p4), (.int dG), (.int (Int32.ofNat n_3)), (.ref b25), (.ref rB)])) t → Steps p.tables e below _ t := fun t kt => pre45 t (by
      show Steps p.tables e below (T44.setTop (mkF m 327 #[.val (.int p1), .val (.int p2), .val (.long q3), .second, .val (.int p4), .val (.int p5), .val (.int dI), .val (.int dL), .val (.int dB), .val (.int bv), .val (.int dG), .val (.ref b17), .val (.ref b25), .val (.int (Int32.ofNat n_3)), .val (.ref b27), .val (.ref b0), .val (.int (Int32.ofNat n_3)), .val (.int (Int32.ofNat tn)), .val (.ref rA), .unset, .unset] [(.ref b27)])) _
      refine st46.trans ?_
      refine XS.astore X46.here hx rfl (hb hby at_330) rfl rfl (l' := #[.val (.int p1), .val (.int p2), .val (.long q3), .second, .val (.int p4), .val (.int p5), .val (.int dI), .val (.int dL), .val (.int dB), .val (.int bv), .val (.int dG), .val (.ref b17), .val (.ref b25), .val (.int (Int32.ofNat n_3)), .val (.ref b27), .val (.ref b0), .val (.int (Int32.ofNat n_3)), .val (.int (Int32.ofNat tn)), .val (.ref rA), .val (.ref rB), .unset]) rfl ?_
      refine XS.aload X46.here hx rfl (hb hby at_332) rfl rfl ?_
      show Steps p.tables e below (T46.setTop (mkF m 334 #[.val (.int p1), .val (.int p2), .val (.long q3), .second, .val (.int p4), .val (.int p5), .val (.int dI), .val (.int dL), .val (.int dB), .val (.int bv), .val (.int dG), .val (.ref b17), .val (.ref b25), .val (.int (Int32.ofNat n_3)), .val (.ref b27), .val (.ref b0), .val (.int (Int32.ofNat n_3)), .val (.int (Int32.ofNat tn)), .val (.ref rA), .val (.ref rB), .unset] [(.ref rB)])) _
      refine X46.arraylength hx ArB.1 (State.isArrayOf_alike hZ.alike ArB.2.1) (g := (mkF m 334 #[.val (.int p1), .val (.int p2), .val (.long q3), .second, .val (.int p4), .val (.int p5), .val (.int dI), .val (.int dL), .val (.int dB), .val (.int bv), .val (.int dG), .val (.ref b17), .val (.ref b25), .val (.int (Int32.ofNat n_3)), .val (.ref b27), .val (.ref b0), .val (.int (Int32.ofNat n_3)), .val (.int (Int32.ofNat tn)), .val (.ref rA), .val (.ref rB), .unset] [(.ref rB)])) rfl rfl (hb hby at_334) _ ?_
      rw [len_of (by rw [SzB, clamp_of (c := tn) rfl (by omega)] : clB.slots.size = (Int32.ofNat tn).toNatClampNeg) (own_nneg (by omega))]
      refine XS.iload X46.here hx rfl (hb hby at_335) rfl ?_
      have hc337 : (Int32.ofNat tn) = (Int32.ofNat tn) := rfl
      refine XS.icmpYes X46.here hx rfl (pc0 := 337) (pc' := 342) rfl (hb hby at_337) rfl (teq hc337).1 (by decide) (by decide) ?_
      show Steps p.tables e below (T46.setTop (mkF m 342 #[.val (.int p1), .val (.int p2), .val (.long q3), .second, .val (.int p4), .val (.int p5), .val (.int dI), .val (.int dL), .val (.int dB), .val (.int bv), .val (.int dG), .val (.ref b17), .val (.ref b25), .val (.int (Int32.ofNat n_3)), .val (.ref b27), .val (.ref b0), .val (.int (Int32.ofNat n_3)), .val (.int (Int32.ofNat tn)), .val (.ref rA), .val (.ref rB), .unset] [])) _
      refine XS.aload X46.here hx rfl (hb hby at_342) rfl rfl ?_
      refine XS.aload X46.here hx rfl (hb hby at_344) rfl rfl ?_
      refine XS.iload X46.here hx rfl (hb hby at_346) rfl ?_
      show Steps p.tables e below (T46.setTop (mkF m 348 #[.val (.int p1), .val (.int p2), .val (.long q3), .second, .val (.int p4), .val (.int p5), .val (.int dI), .val (.int dL), .val (.int dB), .val (.int bv), .val (.int dG), .val (.ref b17), .val (.ref b25), .val (.int (Int32.ofNat n_3)), .val (.ref b27), .val (.ref b0), .val (.int (Int32.ofNat n_3)), .val (.int (Int32.ofNat tn)), .val (.ref rA), .val (.ref rB), .unset] [(.int (Int32.ofNat n_3)), (.ref b25), (.ref rB)])) _
      refine XS.iload X46.here hx rfl (hb hby at_348) rfl ?_
      refine XS.iload X46.here hx rfl (hb hby at_350) rfl ?_
      exact kt)
    obtain ⟨_, _, ⟨T48, L48, k48, n48⟩, -, X48, ⟨Lc48, hQ48, l48, y48, z48⟩, st48⟩ := Jvm.LawKit.callS X46 hx (y := (⟨"com/example/haulway/haulway/io/RecordOutputToBytesPinLaw", "check", "([B[BIZI)Z"⟩ : MethodName)) hown (mvT hZ (hw _ (List.mem_of_getElem? (i := 31) rfl))) (mvT hZ (hw _ (List.mem_of_getElem? (i := 32) rfl))) (mvT hZ (hw _ (List.mem_of_getElem? (i := 33) rfl))) (mvT hZ (hw _ (List.mem_of_getElem? (i := 34) rfl))) (by decide) (backOf (W := 0) (rm6 l Z a0 hw [] rB b25 tn n_3 dG p4 f_4 e_3 T46.heap n0 ZtB BtB' BXBt (by omega) (by omega) (by omega) ag_4 big_4) hZ (hw _ (List.mem_of_getElem? (i := 34) rfl)) (hw _ (List.mem_of_getElem? (i := 33) rfl)) (by decide) (by decide)) (g := (mkF m 352 #[.val (.int p1), .val (.int p2), .val (.long q3), .second, .val (.int p4), .val (.int p5), .val (.int dI), .val (.int dL), .val (.int dB), .val (.int bv), .val (.int dG), .val (.ref b17), .val (.ref b25), .val (.int (Int32.ofNat n_3)), .val (.ref b27), .val (.ref b0), .val (.int (Int32.ofNat n_3)), .val (.int (Int32.ofNat tn)), .val (.ref rA), .val (.ref rB), .unset] [(.int p4), (.int dG), (.int (Int32.ofNat n_3)), (.ref b25), (.ref rB)])) rfl (by rw [hml]; rfl) (argsL := [(.ref rB), (.ref b25), (.int (Int32.ofNat n_3)), (.int dG), (.int p4)]) (rest := []) (lenOf pd_11 rfl) rfl (by show 2 * 0 + _ ≤ _; exact Nat.le_of_eq rfl) (hb hby at_352) (fun _ _ => ⟨rfl, rfl, (by decide : 8 + 0 ≤ _), (by decide : 651 + 0 ≤ _)⟩)
    dsimp only [Pt.U, Pt.locs, Pt.cells, Pt.slots] at X48 l48 y48 z48 st48 hQ48
    subst l48 y48 z48
    obtain ⟨rfl, N48q, e48⟩ := hQ48
    have N48 := Fr.app N46 N48q
    have pre49 : ∀ t, Steps p.tables e below (T48.setTop (mkF m 360 #[.val (.int p1), .val (.int p2), .val (.long q3), .second, .val (.int p4), .val (.int p5), .val (.int dI), .val (.int dL), .val (.int dB), .val (.int bv), .val (.int dG), .val (.ref b17), .val (.ref b25), .val (.int (Int32.ofNat n_3)), .val (.ref b27), .val (.ref b0), .val (.int (Int32.ofNat n_3)), .val (.int (Int32.ofNat tn)), .val (.ref rA), .val (.ref rB), .unset] [])) t → Steps p.tables e below _ t := fun t kt => pre47 t (by
      show Steps p.tables e below (T46.setTop (mkF m 352 #[.val (.int p1), .val (.int p2), .val (.long q3), .second, .val (.int p4), .val (.int p5), .val (.int dI), .val (.int dL), .val (.int dB), .val (.int bv), .val (.int dG), .val (.ref b17), .val (.ref b25), .val (.int (Int32.ofNat n_3)), .val (.ref b27), .val (.ref b0), .val (.int (Int32.ofNat n_3)), .val (.int (Int32.ofNat tn)), .val (.ref rA), .val (.ref rB), .unset] [(.int p4), (.int dG), (.int (Int32.ofNat n_3)), (.ref b25), (.ref rB)])) _
      refine st48 _ ?_
      have hc355 : ¬ ((1 : Int32) = (0 : Int32)) := by decide
      refine XS.ifYes X48.here hx rfl (pc0 := 355) (pc' := 360) rfl (hb hby at_355) rfl ((if0 _ _).trans (feq hc355).2) (by decide) (by decide) ?_
      exact kt)
    have nrx4 : b27 ≠ b25 := Ne.symm nxr
    have pre50 : ∀ t, Steps p.tables e below (T48.setTop (mkF m 364 #[.val (.int p1), .val (.int p2), .val (.long q3), .second, .val (.int p4), .val (.int p5), .val (.int dI), .val (.int dL), .val (.int dB), .val (.int bv), .val (.int dG), .val (.ref b17), .val (.ref b25), .val (.int (Int32.ofNat n_3)), .val (.ref b27), .val (.ref b0), .val (.int (Int32.ofNat n_3)), .val (.int (Int32.ofNat tn)), .val (.ref rA), .val (.ref rB), .unset] [(.int p5), (.ref b27)])) t → Steps p.tables e below _ t := fun t kt => pre49 t (by
      show Steps p.tables e below (T48.setTop (mkF m 360 #[.val (.int p1), .val (.int p2), .val (.long q3), .second, .val (.int p4), .val (.int p5), .val (.int dI), .val (.int dL), .val (.int dB), .val (.int bv), .val (.int dG), .val (.ref b17), .val (.ref b25), .val (.int (Int32.ofNat n_3)), .val (.ref b27), .val (.ref b0), .val (.int (Int32.ofNat n_3)), .val (.int (Int32.ofNat tn)), .val (.ref rA), .val (.ref rB), .unset] [])) _
      refine XS.aload X48.here hx rfl (hb hby at_360) rfl rfl ?_
      refine XS.iload X48.here hx rfl (hb hby at_362) rfl ?_
      exact kt)
    rcases hcap4 with hc4 | ⟨hc4, ht4⟩
    · obtain ⟨cq51, kq51, q51a, q51b, q51c⟩ := isOf hZ e48 EBt
      obtain ⟨_, _, ⟨T51, L51, k51, n51⟩, -, X51, ⟨Lc51, hQ51, l51, y51, z51⟩, st51⟩ := X48.virtualBack hx (y := (⟨"com/example/haulway/haulway/io/RecordOutput", "putInt", "(I)Lcom/example/haulway/haulway/io/RecordOutput;"⟩ : MethodName)) (z := (⟨"com/example/haulway/haulway/io/RecordOutput", "putInt", "(I)Lcom/example/haulway/haulway/io/RecordOutput;"⟩ : MethodName)) hown (mvT hZ (hw _ (List.mem_of_getElem? (i := 38) rfl))) (mvT hZ (hw _ (List.mem_of_getElem? (i := 39) rfl))) (notFace_of_selects (args := #[]) (mvT hZ (hw _ (List.mem_of_getElem? (i := 41) rfl)))) (mvT hZ (hw _ (List.mem_of_getElem? (i := 41) rfl))) (mvT hZ (hw _ (List.mem_of_getElem? (i := 40) rfl))) (by decide) (backOf (W := 0) (rm8 l Z a0 hw [] b27 b4 cap tn f_4 p5 T46.heap n0 ZtB EBt F1Bt F2Bt BBt (by omega) (by omega) nrb4 g_b27 g_4) hZ (hw _ (List.mem_of_getElem? (i := 42) rfl)) (hw _ (List.mem_of_getElem? (i := 3) rfl)) (by decide) (by decide)) q51a q51c (g := (mkF m 364 #[.val (.int p1), .val (.int p2), .val (.long q3), .second, .val (.int p4), .val (.int p5), .val (.int dI), .val (.int dL), .val (.int dB), .val (.int bv), .val (.int dG), .val (.ref b17), .val (.ref b25), .val (.int (Int32.ofNat n_3)), .val (.ref b27), .val (.ref b0), .val (.int (Int32.ofNat n_3)), .val (.int (Int32.ofNat tn)), .val (.ref rA), .val (.ref rB), .unset] [(.int p5), (.ref b27)])) rfl (by rw [hml]; rfl) (Steps.refl _) (argsL := [(.int p5)]) (rest := []) (lenOf pd_4 rfl) rfl (by show 2 * 0 + _ ≤ _; exact Nat.le_of_eq rfl) (hb hby at_364) (fun _ _ => ⟨rfl, e48, (by decide : 8 + 0 ≤ _), (by decide : 651 + 0 ≤ _)⟩)
      dsimp only [Pt.U, Pt.locs, Pt.cells, Pt.slots] at X51 l51 y51 z51 st51 hQ51
      subst l51 y51 z51
      obtain ⟨rfl, N51q, Kp, Ep, Fp1, Fp2, Bp⟩ := hQ51
      have N51 := Fr.app N48 N51q
      have BXp := own_B_keep BXBt Kp (ninS (Ne.symm nrx4) (ninS (Ne.symm nbx4) nin0))
      have hfj : ∀ j, j < tn → (own_p4 f_4 tn p5) j = f_4 j := fun j hj => own_p4_lt _ _ _ hj
      have Zp : n0 ≤ T51.heap.size := Nat.le_trans ZtB Kp.1
      have ag5 : ∀ i, i < n_3 → (own_p4 f_4 tn p5) i = e_3 i := fun i hi => by rw [hfj i (by omega)]; exact ag_4 i hi
      have big5 : (¬ (dG = (0 : Int32)) → n_3 + 64 ≤ (tn + 4) ∧ (own_p4 f_4 tn p5) n_3 = (0 : Int32) ∧ (own_p4 f_4 tn p5) (n_3 + 1) = (0 : Int32) ∧ (own_p4 f_4 tn p5) (n_3 + 2) = (0 : Int32) ∧ (own_p4 f_4 tn p5) (n_3 + 3) = (60 : Int32) ∧ (own_p4 f_4 tn p5) (n_3 + 4) = (p4.toInt8.toInt32) ∧ (own_p4 f_4 tn p5) (n_3 + 5) = (0 : Int32) ∧ (own_p4 f_4 tn p5) (n_3 + 34) = (((p4.toUInt32 >>> ((16 : Int32) &&& 31).toUInt32).toInt32).toInt8.toInt32) ∧ (own_p4 f_4 tn p5) (n_3 + 62) = (0 : Int32) ∧ (own_p4 f_4 tn p5) (n_3 + 63) = (((p4.toUInt32 >>> ((8 : Int32) &&& 31).toUInt32).toInt32).toInt8.toInt32)) := fun q => by
        obtain ⟨q_, k0, k1, k2, k3, k4, k5, k34, k62, k63⟩ := big_4 q
        refine ⟨by omega, ?_, ?_, ?_, ?_, ?_, ?_, ?_, ?_, ?_⟩
        · rw [hfj _ (by omega)]; exact k0
        · rw [hfj _ (by omega)]; exact k1
        · rw [hfj _ (by omega)]; exact k2
        · rw [hfj _ (by omega)]; exact k3
        · rw [hfj _ (by omega)]; exact k4
        · rw [hfj _ (by omega)]; exact k5
        · rw [hfj _ (by omega)]; exact k34
        · rw [hfj _ (by omega)]; exact k62
        · rw [hfj _ (by omega)]; exact k63
      obtain ⟨l0, l1, l2, l3⟩ := own_p4_at f_4 tn p5
      rw [own_by0] at l3
      have pre52 : ∀ t, Steps p.tables e below (T51.setTop (mkF m 370 #[.val (.int p1), .val (.int p2), .val (.long q3), .second, .val (.int p4), .val (.int p5), .val (.int dI), .val (.int dL), .val (.int dB), .val (.int bv), .val (.int dG), .val (.ref b17), .val (.ref b25), .val (.int (Int32.ofNat n_3)), .val (.ref b27), .val (.ref b0), .val (.int (Int32.ofNat n_3)), .val (.int (Int32.ofNat tn)), .val (.ref rA), .val (.ref rB), .unset] [(.ref b27)])) t → Steps p.tables e below _ t := fun t kt => pre50 t (by
        show Steps p.tables e below (T48.setTop (mkF m 364 #[.val (.int p1), .val (.int p2), .val (.long q3), .second, .val (.int p4), .val (.int p5), .val (.int dI), .val (.int dL), .val (.int dB), .val (.int bv), .val (.int dG), .val (.ref b17), .val (.ref b25), .val (.int (Int32.ofNat n_3)), .val (.ref b27), .val (.ref b0), .val (.int (Int32.ofNat n_3)), .val (.int (Int32.ofNat tn)), .val (.ref rA), .val (.ref rB), .unset] [(.int p5), (.ref b27)])) _
        refine st51.trans ?_
        refine XS.pop X51.here hx rfl (hb hby at_367) rfl rfl ?_
        refine XS.aload X51.here hx rfl (hb hby at_368) rfl rfl ?_
        exact kt)
      obtain ⟨cq53, kq53, q53a, q53b, q53c⟩ := isOf hZ rfl Ep
      obtain ⟨_, _, ⟨T53, L53, k53, n53⟩, -, X53, ⟨Lc53, hQ53, l53, y53, z53⟩, st53⟩ := X51.virtualBack hx (y := (⟨"com/example/haulway/haulway/io/RecordOutput", "toBytes", "()[B"⟩ : MethodName)) (z := (⟨"com/example/haulway/haulway/io/RecordOutput", "toBytes", "()[B"⟩ : MethodName)) hown (mvT hZ (hw _ (List.mem_of_getElem? (i := 12) rfl))) (mvT hZ (hw _ (List.mem_of_getElem? (i := 13) rfl))) (notFace_of_selects (args := #[]) (mvT hZ (hw _ (List.mem_of_getElem? (i := 15) rfl)))) (mvT hZ (hw _ (List.mem_of_getElem? (i := 15) rfl))) (mvT hZ (hw _ (List.mem_of_getElem? (i := 14) rfl))) (by decide) (backOf (W := 0) (rm3 l Z a0 hw [] b27 b4 cap (tn + 4) (own_p4 f_4 tn p5) T51.heap n0 Zp Ep Fp1 Fp2 Bp (by omega) (by omega)) hZ (hw _ (List.mem_of_getElem? (i := 16) rfl)) (hw _ (List.mem_of_getElem? (i := 3) rfl)) (by decide) (by decide)) q53a q53c (g := (mkF m 370 #[.val (.int p1), .val (.int p2), .val (.long q3), .second, .val (.int p4), .val (.int p5), .val (.int dI), .val (.int dL), .val (.int dB), .val (.int bv), .val (.int dG), .val (.ref b17), .val (.ref b25), .val (.int (Int32.ofNat n_3)), .val (.ref b27), .val (.ref b0), .val (.int (Int32.ofNat n_3)), .val (.int (Int32.ofNat tn)), .val (.ref rA), .val (.ref rB), .unset] [(.ref b27)])) rfl (by rw [hml]; rfl) (Steps.refl _) (argsL := []) (rest := []) (lenOf pd_10 rfl) rfl (by show 2 * 0 + _ ≤ _; exact Nat.le_of_eq rfl) (hb hby at_370) (fun _ _ => ⟨rfl, rfl, (by decide : 8 + 1 ≤ _), (by decide : 651 + 128 ≤ _)⟩)
      dsimp only [Pt.U, Pt.locs, Pt.cells, Pt.slots] at X53 l53 y53 z53 st53 hQ53
      subst l53 y53 z53
      obtain ⟨rC, rfl, N53q, KtC, StC, BtC⟩ := hQ53
      have N53 := Fr.app N51 N53q
      have ZtC : n0 ≤ T53.heap.size := Nat.le_trans Zp KtC.1
      have ECt := Ep.keep KtC
      have F1Ct := Fp1.keep KtC nin0
      have F2Ct := Fp2.keep KtC nin0
      have BCt := own_B_keep Bp KtC nin0
      have BXCt := own_B_keep BXp KtC nin0
      obtain ⟨clC, ArC, SzC, HfC, GfC, XfC⟩ := id BtC
      have BtC' : own_B Z T53.heap rC (tn + 4) (own_p4 f_4 tn p5) := ⟨clC, ArC, SzC, HfC, GfC, XfC⟩
      have pre54 : ∀ t, Steps p.tables e below (T53.setTop (mkF m 397 #[.val (.int p1), .val (.int p2), .val (.long q3), .second, .val (.int p4), .val (.int p5), .val (.int dI), .val (.int dL), .val (.int dB), .val (.int bv), .val (.int dG), .val (.ref b17), .val (.ref b25), .val (.int (Int32.ofNat n_3)), .val (.ref b27), .val (.ref b0), .val (.int (Int32.ofNat n_3)), .val (.int (Int32.ofNat tn)), .val (.ref rA), .val (.ref rB), .val (.ref rC)] [(.int p4), (.int dG), (.int (Int32.ofNat n_3)), (.ref b25), (.ref rC)])) t → Steps p.tables e below _ t := fun t kt => pre52 t (by
        show Steps p.tables e below (T51.setTop (mkF m 370 #[.val (.int p1), .val (.int p2), .val (.long q3), .second, .val (.int p4), .val (.int p5), .val (.int dI), .val (.int dL), .val (.int dB), .val (.int bv), .val (.int dG), .val (.ref b17), .val (.ref b25), .val (.int (Int32.ofNat n_3)), .val (.ref b27), .val (.ref b0), .val (.int (Int32.ofNat n_3)), .val (.int (Int32.ofNat tn)), .val (.ref rA), .val (.ref rB), .unset] [(.ref b27)])) _
        refine st53.trans ?_
        refine XS.astore X53.here hx rfl (hb hby at_373) rfl rfl (l' := #[.val (.int p1), .val (.int p2), .val (.long q3), .second, .val (.int p4), .val (.int p5), .val (.int dI), .val (.int dL), .val (.int dB), .val (.int bv), .val (.int dG), .val (.ref b17), .val (.ref b25), .val (.int (Int32.ofNat n_3)), .val (.ref b27), .val (.ref b0), .val (.int (Int32.ofNat n_3)), .val (.int (Int32.ofNat tn)), .val (.ref rA), .val (.ref rB), .val (.ref rC)]) rfl ?_
        refine XS.aload X53.here hx rfl (hb hby at_375) rfl rfl ?_
        show Steps p.tables e below (T53.setTop (mkF m 377 #[.val (.int p1), .val (.int p2), .val (.long q3), .second, .val (.int p4), .val (.int p5), .val (.int dI), .val (.int dL), .val (.int dB), .val (.int bv), .val (.int dG), .val (.ref b17), .val (.ref b25), .val (.int (Int32.ofNat n_3)), .val (.ref b27), .val (.ref b0), .val (.int (Int32.ofNat n_3)), .val (.int (Int32.ofNat tn)), .val (.ref rA), .val (.ref rB), .val (.ref rC)] [(.ref rC)])) _
        refine X53.arraylength hx ArC.1 (State.isArrayOf_alike hZ.alike ArC.2.1) (g := (mkF m 377 #[.val (.int p1), .val (.int p2), .val (.long q3), .second, .val (.int p4), .val (.int p5), .val (.int dI), .val (.int dL), .val (.int dB), .val (.int bv), .val (.int dG), .val (.ref b17), .val (.ref b25), .val (.int (Int32.ofNat n_3)), .val (.ref b27), .val (.ref b0), .val (.int (Int32.ofNat n_3)), .val (.int (Int32.ofNat tn)), .val (.ref rA), .val (.ref rB), .val (.ref rC)] [(.ref rC)])) rfl rfl (hb hby at_377) _ ?_
        rw [len_of (by rw [SzC, clamp_of (c := (tn + 4)) rfl (by omega)] : clC.slots.size = (Int32.ofNat (tn + 4)).toNatClampNeg) (own_nneg (by omega))]
        refine XS.iload X53.here hx rfl (hb hby at_378) rfl ?_
        refine XS.iconst X53.here hx rfl (hb hby at_380) ?_
        show Steps p.tables e below (T53.setTop (mkF m 381 #[.val (.int p1), .val (.int p2), .val (.long q3), .second, .val (.int p4), .val (.int p5), .val (.int dI), .val (.int dL), .val (.int dB), .val (.int bv), .val (.int dG), .val (.ref b17), .val (.ref b25), .val (.int (Int32.ofNat n_3)), .val (.ref b27), .val (.ref b0), .val (.int (Int32.ofNat n_3)), .val (.int (Int32.ofNat tn)), .val (.ref rA), .val (.ref rB), .val (.ref rC)] [(.int (4 : Int32)), (.int (Int32.ofNat tn)), (.int (Int32.ofNat (tn + 4)))])) _
        refine XS.iadd X53.here hx rfl (hb hby at_381) rfl ?_
        have hc382 : (Int32.ofNat (tn + 4)) = ((Int32.ofNat tn) + (4 : Int32)) := (own_add tn 4).symm
        refine XS.icmpYes X53.here hx rfl (pc0 := 382) (pc' := 387) rfl (hb hby at_382) rfl (teq hc382).1 (by decide) (by decide) ?_
        refine XS.aload X53.here hx rfl (hb hby at_387) rfl rfl ?_
        show Steps p.tables e below (T53.setTop (mkF m 389 #[.val (.int p1), .val (.int p2), .val (.long q3), .second, .val (.int p4), .val (.int p5), .val (.int dI), .val (.int dL), .val (.int dB), .val (.int bv), .val (.int dG), .val (.ref b17), .val (.ref b25), .val (.int (Int32.ofNat n_3)), .val (.ref b27), .val (.ref b0), .val (.int (Int32.ofNat n_3)), .val (.int (Int32.ofNat tn)), .val (.ref rA), .val (.ref rB), .val (.ref rC)] [(.ref rC)])) _
        refine XS.aload X53.here hx rfl (hb hby at_389) rfl rfl ?_
        refine XS.iload X53.here hx rfl (hb hby at_391) rfl ?_
        refine XS.iload X53.here hx rfl (hb hby at_393) rfl ?_
        show Steps p.tables e below (T53.setTop (mkF m 395 #[.val (.int p1), .val (.int p2), .val (.long q3), .second, .val (.int p4), .val (.int p5), .val (.int dI), .val (.int dL), .val (.int dB), .val (.int bv), .val (.int dG), .val (.ref b17), .val (.ref b25), .val (.int (Int32.ofNat n_3)), .val (.ref b27), .val (.ref b0), .val (.int (Int32.ofNat n_3)), .val (.int (Int32.ofNat tn)), .val (.ref rA), .val (.ref rB), .val (.ref rC)] [(.int dG), (.int (Int32.ofNat n_3)), (.ref b25), (.ref rC)])) _
        refine XS.iload X53.here hx rfl (hb hby at_395) rfl ?_
        exact kt)
      obtain ⟨_, _, ⟨T55, L55, k55, n55⟩, -, X55, ⟨Lc55, hQ55, l55, y55, z55⟩, st55⟩ := Jvm.LawKit.callS X53 hx (y := (⟨"com/example/haulway/haulway/io/RecordOutputToBytesPinLaw", "check", "([B[BIZI)Z"⟩ : MethodName)) hown (mvT hZ (hw _ (List.mem_of_getElem? (i := 31) rfl))) (mvT hZ (hw _ (List.mem_of_getElem? (i := 32) rfl))) (mvT hZ (hw _ (List.mem_of_getElem? (i := 33) rfl))) (mvT hZ (hw _ (List.mem_of_getElem? (i := 34) rfl))) (by decide) (backOf (W := 0) (rm6 l Z a0 hw [] rC b25 (tn + 4) n_3 dG p4 (own_p4 f_4 tn p5) e_3 T53.heap n0 ZtC BtC' BXCt (by omega) (by omega) (by omega) ag5 big5) hZ (hw _ (List.mem_of_getElem? (i := 34) rfl)) (hw _ (List.mem_of_getElem? (i := 33) rfl)) (by decide) (by decide)) (g := (mkF m 397 #[.val (.int p1), .val (.int p2), .val (.long q3), .second, .val (.int p4), .val (.int p5), .val (.int dI), .val (.int dL), .val (.int dB), .val (.int bv), .val (.int dG), .val (.ref b17), .val (.ref b25), .val (.int (Int32.ofNat n_3)), .val (.ref b27), .val (.ref b0), .val (.int (Int32.ofNat n_3)), .val (.int (Int32.ofNat tn)), .val (.ref rA), .val (.ref rB), .val (.ref rC)] [(.int p4), (.int dG), (.int (Int32.ofNat n_3)), (.ref b25), (.ref rC)])) rfl (by rw [hml]; rfl) (argsL := [(.ref rC), (.ref b25), (.int (Int32.ofNat n_3)), (.int dG), (.int p4)]) (rest := []) (lenOf pd_11 rfl) rfl (by show 2 * 0 + _ ≤ _; exact Nat.le_of_eq rfl) (hb hby at_397) (fun _ _ => ⟨rfl, rfl, (by decide : 9 + 0 ≤ _), (by decide : 779 + 0 ≤ _)⟩)
      dsimp only [Pt.U, Pt.locs, Pt.cells, Pt.slots] at X55 l55 y55 z55 st55 hQ55
      subst l55 y55 z55
      obtain ⟨rfl, N55q, e55⟩ := hQ55
      have N55 := Fr.app N53 N55q
      have pre56 : ∀ t, Steps p.tables e below (T55.setTop (mkF m 425 #[.val (.int p1), .val (.int p2), .val (.long q3), .second, .val (.int p4), .val (.int p5), .val (.int dI), .val (.int dL), .val (.int dB), .val (.int bv), .val (.int dG), .val (.ref b17), .val (.ref b25), .val (.int (Int32.ofNat n_3)), .val (.ref b27), .val (.ref b0), .val (.int (Int32.ofNat n_3)), .val (.int (Int32.ofNat tn)), .val (.ref rA), .val (.ref rB), .val (.ref rC)] [(.int ((Int32.ofNat tn) + (1 : Int32))), (.ref rC)])) t → Steps p.tables e below _ t := fun t kt => pre54 t (by
        show Steps p.tables e below (T53.setTop (mkF m 397 #[.val (.int p1), .val (.int p2), .val (.long q3), .second, .val (.int p4), .val (.int p5), .val (.int dI), .val (.int dL), .val (.int dB), .val (.int bv), .val (.int dG), .val (.ref b17), .val (.ref b25), .val (.int (Int32.ofNat n_3)), .val (.ref b27), .val (.ref b0), .val (.int (Int32.ofNat n_3)), .val (.int (Int32.ofNat tn)), .val (.ref rA), .val (.ref rB), .val (.ref rC)] [(.int p4), (.int dG), (.int (Int32.ofNat n_3)), (.ref b25), (.ref rC)])) _
        refine st55 _ ?_
        have hc400 : ¬ ((1 : Int32) = (0 : Int32)) := by decide
        refine XS.ifYes X55.here hx rfl (pc0 := 400) (pc' := 405) rfl (hb hby at_400) rfl ((if0 _ _).trans (feq hc400).2) (by decide) (by decide) ?_
        refine XS.aload X55.here hx rfl (hb hby at_405) rfl rfl ?_
        show Steps p.tables e below (T55.setTop (mkF m 407 #[.val (.int p1), .val (.int p2), .val (.long q3), .second, .val (.int p4), .val (.int p5), .val (.int dI), .val (.int dL), .val (.int dB), .val (.int bv), .val (.int dG), .val (.ref b17), .val (.ref b25), .val (.int (Int32.ofNat n_3)), .val (.ref b27), .val (.ref b0), .val (.int (Int32.ofNat n_3)), .val (.int (Int32.ofNat tn)), .val (.ref rA), .val (.ref rB), .val (.ref rC)] [(.ref rC)])) _
        refine XS.iload X55.here hx rfl (hb hby at_407) rfl ?_
        refine X55.baloadBytes hx (j := (Int32.ofNat tn)) (v := (.int ((own_p4 f_4 tn p5) tn))) (by rw [e55]; exact ArC.1) (State.isArrayOf_alike hZ.alike ArC.2.1) ArC.2.2 (within (c := tn) rfl (by omega) (by omega)) (by rw [clamp_of (c := tn) rfl (by omega)]; exact HfC _ (by omega)) (g := (mkF m 409 #[.val (.int p1), .val (.int p2), .val (.long q3), .second, .val (.int p4), .val (.int p5), .val (.int dI), .val (.int dL), .val (.int dB), .val (.int bv), .val (.int dG), .val (.ref b17), .val (.ref b25), .val (.int (Int32.ofNat n_3)), .val (.ref b27), .val (.ref b0), .val (.int (Int32.ofNat n_3)), .val (.int (Int32.ofNat tn)), .val (.ref rA), .val (.ref rB), .val (.ref rC)] [(.int (Int32.ofNat tn)), (.ref rC)])) rfl rfl (hb hby at_409) _ ?_
        refine XS.iload X55.here hx rfl (hb hby at_410) rfl ?_
        show Steps p.tables e below (T55.setTop (mkF m 412 #[.val (.int p1), .val (.int p2), .val (.long q3), .second, .val (.int p4), .val (.int p5), .val (.int dI), .val (.int dL), .val (.int dB), .val (.int bv), .val (.int dG), .val (.ref b17), .val (.ref b25), .val (.int (Int32.ofNat n_3)), .val (.ref b27), .val (.ref b0), .val (.int (Int32.ofNat n_3)), .val (.int (Int32.ofNat tn)), .val (.ref rA), .val (.ref rB), .val (.ref rC)] [(.int p5), (.int ((own_p4 f_4 tn p5) tn))])) _
        refine XS.bipush X55.here hx rfl (hb hby at_412) ?_
        refine XS.iushr X55.here hx rfl (hb hby at_414) rfl ?_
        refine XS.i2b X55.here hx rfl (hb hby at_415) rfl ?_
        have hc416 : ((own_p4 f_4 tn p5) tn) = (((p5.toUInt32 >>> ((24 : Int32) &&& 31).toUInt32).toInt32).toInt8.toInt32) := l0
        show Steps p.tables e below (T55.setTop (mkF m 416 #[.val (.int p1), .val (.int p2), .val (.long q3), .second, .val (.int p4), .val (.int p5), .val (.int dI), .val (.int dL), .val (.int dB), .val (.int bv), .val (.int dG), .val (.ref b17), .val (.ref b25), .val (.int (Int32.ofNat n_3)), .val (.ref b27), .val (.ref b0), .val (.int (Int32.ofNat n_3)), .val (.int (Int32.ofNat tn)), .val (.ref rA), .val (.ref rB), .val (.ref rC)] [(.int (((p5.toUInt32 >>> ((24 : Int32) &&& 31).toUInt32).toInt32).toInt8.toInt32)), (.int ((own_p4 f_4 tn p5) tn))])) _
        refine XS.icmpNo X55.here hx rfl (hb hby at_416) rfl (teq hc416).2 ?_
        refine XS.aload X55.here hx rfl (hb hby at_419) rfl rfl ?_
        refine XS.iload X55.here hx rfl (hb hby at_421) rfl ?_
        show Steps p.tables e below (T55.setTop (mkF m 423 #[.val (.int p1), .val (.int p2), .val (.long q3), .second, .val (.int p4), .val (.int p5), .val (.int dI), .val (.int dL), .val (.int dB), .val (.int bv), .val (.int dG), .val (.ref b17), .val (.ref b25), .val (.int (Int32.ofNat n_3)), .val (.ref b27), .val (.ref b0), .val (.int (Int32.ofNat n_3)), .val (.int (Int32.ofNat tn)), .val (.ref rA), .val (.ref rB), .val (.ref rC)] [(.int (Int32.ofNat tn)), (.ref rC)])) _
        refine XS.iconst X55.here hx rfl (hb hby at_423) ?_
        refine XS.iadd X55.here hx rfl (hb hby at_424) rfl ?_
        exact kt)
      have hv57 : ((Int32.ofNat tn) + (1 : Int32)) = (Int32.ofNat (tn + 1)) := own_add tn 1
      rw [hv57] at pre56
      have pre58 : ∀ t, Steps p.tables e below (T55.setTop (mkF m 441 #[.val (.int p1), .val (.int p2), .val (.long q3), .second, .val (.int p4), .val (.int p5), .val (.int dI), .val (.int dL), .val (.int dB), .val (.int bv), .val (.int dG), .val (.ref b17), .val (.ref b25), .val (.int (Int32.ofNat n_3)), .val (.ref b27), .val (.ref b0), .val (.int (Int32.ofNat n_3)), .val (.int (Int32.ofNat tn)), .val (.ref rA), .val (.ref rB), .val (.ref rC)] [(.int ((Int32.ofNat tn) + (2 : Int32))), (.ref rC)])) t → Steps p.tables e below _ t := fun t kt => pre56 t (by
        show Steps p.tables e below (T55.setTop (mkF m 425 #[.val (.int p1), .val (.int p2), .val (.long q3), .second, .val (.int p4), .val (.int p5), .val (.int dI), .val (.int dL), .val (.int dB), .val (.int bv), .val (.int dG), .val (.ref b17), .val (.ref b25), .val (.int (Int32.ofNat n_3)), .val (.ref b27), .val (.ref b0), .val (.int (Int32.ofNat n_3)), .val (.int (Int32.ofNat tn)), .val (.ref rA), .val (.ref rB), .val (.ref rC)] [(.int (Int32.ofNat (tn + 1))), (.ref rC)])) _
        refine X55.baloadBytes hx (j := (Int32.ofNat (tn + 1))) (v := (.int ((own_p4 f_4 tn p5) (tn + 1)))) (by rw [e55]; exact ArC.1) (State.isArrayOf_alike hZ.alike ArC.2.1) ArC.2.2 (within (c := (tn + 1)) rfl (by omega) (by omega)) (by rw [clamp_of (c := (tn + 1)) rfl (by omega)]; exact HfC _ (by omega)) (g := (mkF m 425 #[.val (.int p1), .val (.int p2), .val (.long q3), .second, .val (.int p4), .val (.int p5), .val (.int dI), .val (.int dL), .val (.int dB), .val (.int bv), .val (.int dG), .val (.ref b17), .val (.ref b25), .val (.int (Int32.ofNat n_3)), .val (.ref b27), .val (.ref b0), .val (.int (Int32.ofNat n_3)), .val (.int (Int32.ofNat tn)), .val (.ref rA), .val (.ref rB), .val (.ref rC)] [(.int (Int32.ofNat (tn + 1))), (.ref rC)])) rfl rfl (hb hby at_425) _ ?_
        refine XS.iload X55.here hx rfl (hb hby at_426) rfl ?_
        refine XS.bipush X55.here hx rfl (hb hby at_428) ?_
        show Steps p.tables e below (T55.setTop (mkF m 430 #[.val (.int p1), .val (.int p2), .val (.long q3), .second, .val (.int p4), .val (.int p5), .val (.int dI), .val (.int dL), .val (.int dB), .val (.int bv), .val (.int dG), .val (.ref b17), .val (.ref b25), .val (.int (Int32.ofNat n_3)), .val (.ref b27), .val (.ref b0), .val (.int (Int32.ofNat n_3)), .val (.int (Int32.ofNat tn)), .val (.ref rA), .val (.ref rB), .val (.ref rC)] [(.int (16 : Int32)), (.int p5), (.int ((own_p4 f_4 tn p5) (tn + 1)))])) _
        refine XS.iushr X55.here hx rfl (hb hby at_430) rfl ?_
        refine XS.i2b X55.here hx rfl (hb hby at_431) rfl ?_
        have hc432 : ((own_p4 f_4 tn p5) (tn + 1)) = (((p5.toUInt32 >>> ((16 : Int32) &&& 31).toUInt32).toInt32).toInt8.toInt32) := l1
        refine XS.icmpNo X55.here hx rfl (hb hby at_432) rfl (teq hc432).2 ?_
        show Steps p.tables e below (T55.setTop (mkF m 435 #[.val (.int p1), .val (.int p2), .val (.long q3), .second, .val (.int p4), .val (.int p5), .val (.int dI), .val (.int dL), .val (.int dB), .val (.int bv), .val (.int dG), .val (.ref b17), .val (.ref b25), .val (.int (Int32.ofNat n_3)), .val (.ref b27), .val (.ref b0), .val (.int (Int32.ofNat n_3)), .val (.int (Int32.ofNat tn)), .val (.ref rA), .val (.ref rB), .val (.ref rC)] [])) _
        refine XS.aload X55.here hx rfl (hb hby at_435) rfl rfl ?_
        refine XS.iload X55.here hx rfl (hb hby at_437) rfl ?_
        refine XS.iconst X55.here hx rfl (hb hby at_439) ?_
        show Steps p.tables e below (T55.setTop (mkF m 440 #[.val (.int p1), .val (.int p2), .val (.long q3), .second, .val (.int p4), .val (.int p5), .val (.int dI), .val (.int dL), .val (.int dB), .val (.int bv), .val (.int dG), .val (.ref b17), .val (.ref b25), .val (.int (Int32.ofNat n_3)), .val (.ref b27), .val (.ref b0), .val (.int (Int32.ofNat n_3)), .val (.int (Int32.ofNat tn)), .val (.ref rA), .val (.ref rB), .val (.ref rC)] [(.int (2 : Int32)), (.int (Int32.ofNat tn)), (.ref rC)])) _
        refine XS.iadd X55.here hx rfl (hb hby at_440) rfl ?_
        exact kt)
      have hv59 : ((Int32.ofNat tn) + (2 : Int32)) = (Int32.ofNat (tn + 2)) := own_add tn 2
      rw [hv59] at pre58
      have pre60 : ∀ t, Steps p.tables e below (T55.setTop (mkF m 457 #[.val (.int p1), .val (.int p2), .val (.long q3), .second, .val (.int p4), .val (.int p5), .val (.int dI), .val (.int dL), .val (.int dB), .val (.int bv), .val (.int dG), .val (.ref b17), .val (.ref b25), .val (.int (Int32.ofNat n_3)), .val (.ref b27), .val (.ref b0), .val (.int (Int32.ofNat n_3)), .val (.int (Int32.ofNat tn)), .val (.ref rA), .val (.ref rB), .val (.ref rC)] [(.int ((Int32.ofNat tn) + (3 : Int32))), (.ref rC)])) t → Steps p.tables e below _ t := fun t kt => pre58 t (by
        show Steps p.tables e below (T55.setTop (mkF m 441 #[.val (.int p1), .val (.int p2), .val (.long q3), .second, .val (.int p4), .val (.int p5), .val (.int dI), .val (.int dL), .val (.int dB), .val (.int bv), .val (.int dG), .val (.ref b17), .val (.ref b25), .val (.int (Int32.ofNat n_3)), .val (.ref b27), .val (.ref b0), .val (.int (Int32.ofNat n_3)), .val (.int (Int32.ofNat tn)), .val (.ref rA), .val (.ref rB), .val (.ref rC)] [(.int (Int32.ofNat (tn + 2))), (.ref rC)])) _
        refine X55.baloadBytes hx (j := (Int32.ofNat (tn + 2))) (v := (.int ((own_p4 f_4 tn p5) (tn + 2)))) (by rw [e55]; exact ArC.1) (State.isArrayOf_alike hZ.alike ArC.2.1) ArC.2.2 (within (c := (tn + 2)) rfl (by omega) (by omega)) (by rw [clamp_of (c := (tn + 2)) rfl (by omega)]; exact HfC _ (by omega)) (g := (mkF m 441 #[.val (.int p1), .val (.int p2), .val (.long q3), .second, .val (.int p4), .val (.int p5), .val (.int dI), .val (.int dL), .val (.int dB), .val (.int bv), .val (.int dG), .val (.ref b17), .val (.ref b25), .val (.int (Int32.ofNat n_3)), .val (.ref b27), .val (.ref b0), .val (.int (Int32.ofNat n_3)), .val (.int (Int32.ofNat tn)), .val (.ref rA), .val (.ref rB), .val (.ref rC)] [(.int (Int32.ofNat (tn + 2))), (.ref rC)])) rfl rfl (hb hby at_441) _ ?_
        refine XS.iload X55.here hx rfl (hb hby at_442) rfl ?_
        refine XS.bipush X55.here hx rfl (hb hby at_444) ?_
        show Steps p.tables e below (T55.setTop (mkF m 446 #[.val (.int p1), .val (.int p2), .val (.long q3), .second, .val (.int p4), .val (.int p5), .val (.int dI), .val (.int dL), .val (.int dB), .val (.int bv), .val (.int dG), .val (.ref b17), .val (.ref b25), .val (.int (Int32.ofNat n_3)), .val (.ref b27), .val (.ref b0), .val (.int (Int32.ofNat n_3)), .val (.int (Int32.ofNat tn)), .val (.ref rA), .val (.ref rB), .val (.ref rC)] [(.int (8 : Int32)), (.int p5), (.int ((own_p4 f_4 tn p5) (tn + 2)))])) _
        refine XS.iushr X55.here hx rfl (hb hby at_446) rfl ?_
        refine XS.i2b X55.here hx rfl (hb hby at_447) rfl ?_
        have hc448 : ((own_p4 f_4 tn p5) (tn + 2)) = (((p5.toUInt32 >>> ((8 : Int32) &&& 31).toUInt32).toInt32).toInt8.toInt32) := l2
        refine XS.icmpNo X55.here hx rfl (hb hby at_448) rfl (teq hc448).2 ?_
        show Steps p.tables e below (T55.setTop (mkF m 451 #[.val (.int p1), .val (.int p2), .val (.long q3), .second, .val (.int p4), .val (.int p5), .val (.int dI), .val (.int dL), .val (.int dB), .val (.int bv), .val (.int dG), .val (.ref b17), .val (.ref b25), .val (.int (Int32.ofNat n_3)), .val (.ref b27), .val (.ref b0), .val (.int (Int32.ofNat n_3)), .val (.int (Int32.ofNat tn)), .val (.ref rA), .val (.ref rB), .val (.ref rC)] [])) _
        refine XS.aload X55.here hx rfl (hb hby at_451) rfl rfl ?_
        refine XS.iload X55.here hx rfl (hb hby at_453) rfl ?_
        refine XS.iconst X55.here hx rfl (hb hby at_455) ?_
        show Steps p.tables e below (T55.setTop (mkF m 456 #[.val (.int p1), .val (.int p2), .val (.long q3), .second, .val (.int p4), .val (.int p5), .val (.int dI), .val (.int dL), .val (.int dB), .val (.int bv), .val (.int dG), .val (.ref b17), .val (.ref b25), .val (.int (Int32.ofNat n_3)), .val (.ref b27), .val (.ref b0), .val (.int (Int32.ofNat n_3)), .val (.int (Int32.ofNat tn)), .val (.ref rA), .val (.ref rB), .val (.ref rC)] [(.int (3 : Int32)), (.int (Int32.ofNat tn)), (.ref rC)])) _
        refine XS.iadd X55.here hx rfl (hb hby at_456) rfl ?_
        exact kt)
      have hv61 : ((Int32.ofNat tn) + (3 : Int32)) = (Int32.ofNat (tn + 3)) := own_add tn 3
      rw [hv61] at pre60
      obtain ⟨fs, hr, hrun, hended, hW, hsame⟩ := X55.leave (v := some (.int (1 : Int32))) (fun h => by rw [Bd.returns] at h; cases h)
      refine ⟨_, _, pre60 _ ?_, hrun, hended, _, _, rfl, ?_, ⟨_, rfl⟩, hW, hsame.mono (by decide) (by decide)⟩
      · show Steps p.tables e below (T55.setTop (mkF m 457 #[.val (.int p1), .val (.int p2), .val (.long q3), .second, .val (.int p4), .val (.int p5), .val (.int dI), .val (.int dL), .val (.int dB), .val (.int bv), .val (.int dG), .val (.ref b17), .val (.ref b25), .val (.int (Int32.ofNat n_3)), .val (.ref b27), .val (.ref b0), .val (.int (Int32.ofNat n_3)), .val (.int (Int32.ofNat tn)), .val (.ref rA), .val (.ref rB), .val (.ref rC)] [(.int (Int32.ofNat (tn + 3))), (.ref rC)])) _
        refine X55.baloadBytes hx (j := (Int32.ofNat (tn + 3))) (v := (.int ((own_p4 f_4 tn p5) (tn + 3)))) (by rw [e55]; exact ArC.1) (State.isArrayOf_alike hZ.alike ArC.2.1) ArC.2.2 (within (c := (tn + 3)) rfl (by omega) (by omega)) (by rw [clamp_of (c := (tn + 3)) rfl (by omega)]; exact HfC _ (by omega)) (g := (mkF m 457 #[.val (.int p1), .val (.int p2), .val (.long q3), .second, .val (.int p4), .val (.int p5), .val (.int dI), .val (.int dL), .val (.int dB), .val (.int bv), .val (.int dG), .val (.ref b17), .val (.ref b25), .val (.int (Int32.ofNat n_3)), .val (.ref b27), .val (.ref b0), .val (.int (Int32.ofNat n_3)), .val (.int (Int32.ofNat tn)), .val (.ref rA), .val (.ref rB), .val (.ref rC)] [(.int (Int32.ofNat (tn + 3))), (.ref rC)])) rfl rfl (hb hby at_457) _ ?_
        refine XS.iload X55.here hx rfl (hb hby at_458) rfl ?_
        refine XS.i2b X55.here hx rfl (hb hby at_460) rfl ?_
        have hc461 : ((own_p4 f_4 tn p5) (tn + 3)) = (p5.toInt8.toInt32) := l3
        show Steps p.tables e below (T55.setTop (mkF m 461 #[.val (.int p1), .val (.int p2), .val (.long q3), .second, .val (.int p4), .val (.int p5), .val (.int dI), .val (.int dL), .val (.int dB), .val (.int bv), .val (.int dG), .val (.ref b17), .val (.ref b25), .val (.int (Int32.ofNat n_3)), .val (.ref b27), .val (.ref b0), .val (.int (Int32.ofNat n_3)), .val (.int (Int32.ofNat tn)), .val (.ref rA), .val (.ref rB), .val (.ref rC)] [(.int (p5.toInt8.toInt32)), (.int ((own_p4 f_4 tn p5) (tn + 3)))])) _
        refine XS.icmpNo X55.here hx rfl (hb hby at_461) rfl (teq hc461).2 ?_
        refine XS.iconst X55.here hx rfl (hb hby at_464) ?_
        refine XS.goto X55.here hx rfl (pc0 := 465) (pc' := 469) rfl (hb hby at_465) (by decide) (by decide) ?_
        show Steps p.tables e below (T55.setTop (mkF m 469 #[.val (.int p1), .val (.int p2), .val (.long q3), .second, .val (.int p4), .val (.int p5), .val (.int dI), .val (.int dL), .val (.int dB), .val (.int bv), .val (.int dG), .val (.ref b17), .val (.ref b25), .val (.int (Int32.ofNat n_3)), .val (.ref b27), .val (.ref b0), .val (.int (Int32.ofNat n_3)), .val (.int (Int32.ofNat tn)), .val (.ref rA), .val (.ref rB), .val (.ref rC)] [(.int (1 : Int32))])) _
        exact retN X55 hx (t := .boolean) Bd.returns (by simp) (hb hby at_469) hr
      · exact ⟨rfl, N55⟩
    · obtain ⟨cq62, kq62, q62a, q62b, q62c⟩ := isOf hZ e48 EBt
      obtain ⟨_, _, ⟨T62, L62, k62, n62⟩, -, X62, ⟨Lc62, hQ62, l62, y62, z62⟩, st62⟩ := X48.virtualBack hx (y := (⟨"com/example/haulway/haulway/io/RecordOutput", "putInt", "(I)Lcom/example/haulway/haulway/io/RecordOutput;"⟩ : MethodName)) (z := (⟨"com/example/haulway/haulway/io/RecordOutput", "putInt", "(I)Lcom/example/haulway/haulway/io/RecordOutput;"⟩ : MethodName)) hown (mvT hZ (hw _ (List.mem_of_getElem? (i := 38) rfl))) (mvT hZ (hw _ (List.mem_of_getElem? (i := 39) rfl))) (notFace_of_selects (args := #[]) (mvT hZ (hw _ (List.mem_of_getElem? (i := 41) rfl)))) (mvT hZ (hw _ (List.mem_of_getElem? (i := 41) rfl))) (mvT hZ (hw _ (List.mem_of_getElem? (i := 40) rfl))) (by decide) (backOf (W := 0) (rm8g l Z a0 hw [] b27 b4 cap tn f_4 p5 T46.heap n0 ZtB EBt F1Bt F2Bt BBt hc4 (by omega) (by omega) g_b27) hZ (hw _ (List.mem_of_getElem? (i := 42) rfl)) (hw _ (List.mem_of_getElem? (i := 3) rfl)) (by decide) (by decide)) q62a q62c (g := (mkF m 364 #[.val (.int p1), .val (.int p2), .val (.long q3), .second, .val (.int p4), .val (.int p5), .val (.int dI), .val (.int dL), .val (.int dB), .val (.int bv), .val (.int dG), .val (.ref b17), .val (.ref b25), .val (.int (Int32.ofNat n_3)), .val (.ref b27), .val (.ref b0), .val (.int (Int32.ofNat n_3)), .val (.int (Int32.ofNat tn)), .val (.ref rA), .val (.ref rB), .unset] [(.int p5), (.ref b27)])) rfl (by rw [hml]; rfl) (Steps.refl _) (argsL := [(.int p5)]) (rest := []) (lenOf pd_4 rfl) rfl (by show 2 * 0 + _ ≤ _; exact Nat.le_of_eq rfl) (hb hby at_364) (fun _ _ => ⟨rfl, e48, (by decide : 8 + 1 ≤ _), (by decide : 651 + 128 ≤ _)⟩)
      dsimp only [Pt.U, Pt.locs, Pt.cells, Pt.slots] at X62 l62 y62 z62 st62 hQ62
      subst l62 y62 z62
      obtain ⟨bp, rfl, N62q, Kp, szp, Ep, Fp1, Fp2, Bp⟩ := hQ62
      have N62 := Fr.app N48 N62q
      have BXp := own_B_keep BXBt Kp (ninS (Ne.symm nrx4) nin0)
      have hfj : ∀ j, j < tn → (own_p4 (own_cut f_4 cap) tn p5) j = f_4 j := fun j hj => by rw [own_p4_lt _ _ _ hj]; unfold own_cut; rw [if_pos (by omega)]
      have Zp : n0 ≤ T62.heap.size := Nat.le_trans ZtB Kp.1
      have ag5 : ∀ i, i < n_3 → (own_p4 (own_cut f_4 cap) tn p5) i = e_3 i := fun i hi => by rw [hfj i (by omega)]; exact ag_4 i hi
      have big5 : (¬ (dG = (0 : Int32)) → n_3 + 64 ≤ (tn + 4) ∧ (own_p4 (own_cut f_4 cap) tn p5) n_3 = (0 : Int32) ∧ (own_p4 (own_cut f_4 cap) tn p5) (n_3 + 1) = (0 : Int32) ∧ (own_p4 (own_cut f_4 cap) tn p5) (n_3 + 2) = (0 : Int32) ∧ (own_p4 (own_cut f_4 cap) tn p5) (n_3 + 3) = (60 : Int32) ∧ (own_p4 (own_cut f_4 cap) tn p5) (n_3 + 4) = (p4.toInt8.toInt32) ∧ (own_p4 (own_cut f_4 cap) tn p5) (n_3 + 5) = (0 : Int32) ∧ (own_p4 (own_cut f_4 cap) tn p5) (n_3 + 34) = (((p4.toUInt32 >>> ((16 : Int32) &&& 31).toUInt32).toInt32).toInt8.toInt32) ∧ (own_p4 (own_cut f_4 cap) tn p5) (n_3 + 62) = (0 : Int32) ∧ (own_p4 (own_cut f_4 cap) tn p5) (n_3 + 63) = (((p4.toUInt32 >>> ((8 : Int32) &&& 31).toUInt32).toInt32).toInt8.toInt32)) := fun q => by
        obtain ⟨q_, k0, k1, k2, k3, k4, k5, k34, k62, k63⟩ := big_4 q
        refine ⟨by omega, ?_, ?_, ?_, ?_, ?_, ?_, ?_, ?_, ?_⟩
        · rw [hfj _ (by omega)]; exact k0
        · rw [hfj _ (by omega)]; exact k1
        · rw [hfj _ (by omega)]; exact k2
        · rw [hfj _ (by omega)]; exact k3
        · rw [hfj _ (by omega)]; exact k4
        · rw [hfj _ (by omega)]; exact k5
        · rw [hfj _ (by omega)]; exact k34
        · rw [hfj _ (by omega)]; exact k62
        · rw [hfj _ (by omega)]; exact k63
      obtain ⟨l0, l1, l2, l3⟩ := own_p4_at (own_cut f_4 cap) tn p5
      rw [own_by0] at l3
      have pre63 : ∀ t, Steps p.tables e below (T62.setTop (mkF m 370 #[.val (.int p1), .val (.int p2), .val (.long q3), .second, .val (.int p4), .val (.int p5), .val (.int dI), .val (.int dL), .val (.int dB), .val (.int bv), .val (.int dG), .val (.ref b17), .val (.ref b25), .val (.int (Int32.ofNat n_3)), .val (.ref b27), .val (.ref b0), .val (.int (Int32.ofNat n_3)), .val (.int (Int32.ofNat tn)), .val (.ref rA), .val (.ref rB), .unset] [(.ref b27)])) t → Steps p.tables e below _ t := fun t kt => pre50 t (by
        show Steps p.tables e below (T48.setTop (mkF m 364 #[.val (.int p1), .val (.int p2), .val (.long q3), .second, .val (.int p4), .val (.int p5), .val (.int dI), .val (.int dL), .val (.int dB), .val (.int bv), .val (.int dG), .val (.ref b17), .val (.ref b25), .val (.int (Int32.ofNat n_3)), .val (.ref b27), .val (.ref b0), .val (.int (Int32.ofNat n_3)), .val (.int (Int32.ofNat tn)), .val (.ref rA), .val (.ref rB), .unset] [(.int p5), (.ref b27)])) _
        refine st62.trans ?_
        refine XS.pop X62.here hx rfl (hb hby at_367) rfl rfl ?_
        refine XS.aload X62.here hx rfl (hb hby at_368) rfl rfl ?_
        exact kt)
      obtain ⟨cq64, kq64, q64a, q64b, q64c⟩ := isOf hZ rfl Ep
      obtain ⟨_, _, ⟨T64, L64, k64, n64⟩, -, X64, ⟨Lc64, hQ64, l64, y64, z64⟩, st64⟩ := X62.virtualBack hx (y := (⟨"com/example/haulway/haulway/io/RecordOutput", "toBytes", "()[B"⟩ : MethodName)) (z := (⟨"com/example/haulway/haulway/io/RecordOutput", "toBytes", "()[B"⟩ : MethodName)) hown (mvT hZ (hw _ (List.mem_of_getElem? (i := 12) rfl))) (mvT hZ (hw _ (List.mem_of_getElem? (i := 13) rfl))) (notFace_of_selects (args := #[]) (mvT hZ (hw _ (List.mem_of_getElem? (i := 15) rfl)))) (mvT hZ (hw _ (List.mem_of_getElem? (i := 15) rfl))) (mvT hZ (hw _ (List.mem_of_getElem? (i := 14) rfl))) (by decide) (backOf (W := 0) (rm3 l Z a0 hw [] b27 bp 128 (tn + 4) (own_p4 (own_cut f_4 cap) tn p5) T62.heap n0 Zp Ep Fp1 Fp2 Bp (by omega) (by omega)) hZ (hw _ (List.mem_of_getElem? (i := 16) rfl)) (hw _ (List.mem_of_getElem? (i := 3) rfl)) (by decide) (by decide)) q64a q64c (g := (mkF m 370 #[.val (.int p1), .val (.int p2), .val (.long q3), .second, .val (.int p4), .val (.int p5), .val (.int dI), .val (.int dL), .val (.int dB), .val (.int bv), .val (.int dG), .val (.ref b17), .val (.ref b25), .val (.int (Int32.ofNat n_3)), .val (.ref b27), .val (.ref b0), .val (.int (Int32.ofNat n_3)), .val (.int (Int32.ofNat tn)), .val (.ref rA), .val (.ref rB), .unset] [(.ref b27)])) rfl (by rw [hml]; rfl) (Steps.refl _) (argsL := []) (rest := []) (lenOf pd_10 rfl) rfl (by show 2 * 0 + _ ≤ _; exact Nat.le_of_eq rfl) (hb hby at_370) (fun _ _ => ⟨rfl, rfl, (by decide : 9 + 1 ≤ _), (by decide : 779 + 128 ≤ _)⟩)
      dsimp only [Pt.U, Pt.locs, Pt.cells, Pt.slots] at X64 l64 y64 z64 st64 hQ64
      subst l64 y64 z64
      obtain ⟨rC, rfl, N64q, KtC, StC, BtC⟩ := hQ64
      have N64 := Fr.app N62 N64q
      have ZtC : n0 ≤ T64.heap.size := Nat.le_trans Zp KtC.1
      have ECt := Ep.keep KtC
      have F1Ct := Fp1.keep KtC nin0
      have F2Ct := Fp2.keep KtC nin0
      have BCt := own_B_keep Bp KtC nin0
      have BXCt := own_B_keep BXp KtC nin0
      obtain ⟨clC, ArC, SzC, HfC, GfC, XfC⟩ := id BtC
      have BtC' : own_B Z T64.heap rC (tn + 4) (own_p4 (own_cut f_4 cap) tn p5) := ⟨clC, ArC, SzC, HfC, GfC, XfC⟩
      have pre65 : ∀ t, Steps p.tables e below (T64.setTop (mkF m 397 #[.val (.int p1), .val (.int p2), .val (.long q3), .second, .val (.int p4), .val (.int p5), .val (.int dI), .val (.int dL), .val (.int dB), .val (.int bv), .val (.int dG), .val (.ref b17), .val (.ref b25), .val (.int (Int32.ofNat n_3)), .val (.ref b27), .val (.ref b0), .val (.int (Int32.ofNat n_3)), .val (.int (Int32.ofNat tn)), .val (.ref rA), .val (.ref rB), .val (.ref rC)] [(.int p4), (.int dG), (.int (Int32.ofNat n_3)), (.ref b25), (.ref rC)])) t → Steps p.tables e below _ t := fun t kt => pre63 t (by
        show Steps p.tables e below (T62.setTop (mkF m 370 #[.val (.int p1), .val (.int p2), .val (.long q3), .second, .val (.int p4), .val (.int p5), .val (.int dI), .val (.int dL), .val (.int dB), .val (.int bv), .val (.int dG), .val (.ref b17), .val (.ref b25), .val (.int (Int32.ofNat n_3)), .val (.ref b27), .val (.ref b0), .val (.int (Int32.ofNat n_3)), .val (.int (Int32.ofNat tn)), .val (.ref rA), .val (.ref rB), .unset] [(.ref b27)])) _
        refine st64.trans ?_
        refine XS.astore X64.here hx rfl (hb hby at_373) rfl rfl (l' := #[.val (.int p1), .val (.int p2), .val (.long q3), .second, .val (.int p4), .val (.int p5), .val (.int dI), .val (.int dL), .val (.int dB), .val (.int bv), .val (.int dG), .val (.ref b17), .val (.ref b25), .val (.int (Int32.ofNat n_3)), .val (.ref b27), .val (.ref b0), .val (.int (Int32.ofNat n_3)), .val (.int (Int32.ofNat tn)), .val (.ref rA), .val (.ref rB), .val (.ref rC)]) rfl ?_
        refine XS.aload X64.here hx rfl (hb hby at_375) rfl rfl ?_
        show Steps p.tables e below (T64.setTop (mkF m 377 #[.val (.int p1), .val (.int p2), .val (.long q3), .second, .val (.int p4), .val (.int p5), .val (.int dI), .val (.int dL), .val (.int dB), .val (.int bv), .val (.int dG), .val (.ref b17), .val (.ref b25), .val (.int (Int32.ofNat n_3)), .val (.ref b27), .val (.ref b0), .val (.int (Int32.ofNat n_3)), .val (.int (Int32.ofNat tn)), .val (.ref rA), .val (.ref rB), .val (.ref rC)] [(.ref rC)])) _
        refine X64.arraylength hx ArC.1 (State.isArrayOf_alike hZ.alike ArC.2.1) (g := (mkF m 377 #[.val (.int p1), .val (.int p2), .val (.long q3), .second, .val (.int p4), .val (.int p5), .val (.int dI), .val (.int dL), .val (.int dB), .val (.int bv), .val (.int dG), .val (.ref b17), .val (.ref b25), .val (.int (Int32.ofNat n_3)), .val (.ref b27), .val (.ref b0), .val (.int (Int32.ofNat n_3)), .val (.int (Int32.ofNat tn)), .val (.ref rA), .val (.ref rB), .val (.ref rC)] [(.ref rC)])) rfl rfl (hb hby at_377) _ ?_
        rw [len_of (by rw [SzC, clamp_of (c := (tn + 4)) rfl (by omega)] : clC.slots.size = (Int32.ofNat (tn + 4)).toNatClampNeg) (own_nneg (by omega))]
        refine XS.iload X64.here hx rfl (hb hby at_378) rfl ?_
        refine XS.iconst X64.here hx rfl (hb hby at_380) ?_
        show Steps p.tables e below (T64.setTop (mkF m 381 #[.val (.int p1), .val (.int p2), .val (.long q3), .second, .val (.int p4), .val (.int p5), .val (.int dI), .val (.int dL), .val (.int dB), .val (.int bv), .val (.int dG), .val (.ref b17), .val (.ref b25), .val (.int (Int32.ofNat n_3)), .val (.ref b27), .val (.ref b0), .val (.int (Int32.ofNat n_3)), .val (.int (Int32.ofNat tn)), .val (.ref rA), .val (.ref rB), .val (.ref rC)] [(.int (4 : Int32)), (.int (Int32.ofNat tn)), (.int (Int32.ofNat (tn + 4)))])) _
        refine XS.iadd X64.here hx rfl (hb hby at_381) rfl ?_
        have hc382 : (Int32.ofNat (tn + 4)) = ((Int32.ofNat tn) + (4 : Int32)) := (own_add tn 4).symm
        refine XS.icmpYes X64.here hx rfl (pc0 := 382) (pc' := 387) rfl (hb hby at_382) rfl (teq hc382).1 (by decide) (by decide) ?_
        refine XS.aload X64.here hx rfl (hb hby at_387) rfl rfl ?_
        show Steps p.tables e below (T64.setTop (mkF m 389 #[.val (.int p1), .val (.int p2), .val (.long q3), .second, .val (.int p4), .val (.int p5), .val (.int dI), .val (.int dL), .val (.int dB), .val (.int bv), .val (.int dG), .val (.ref b17), .val (.ref b25), .val (.int (Int32.ofNat n_3)), .val (.ref b27), .val (.ref b0), .val (.int (Int32.ofNat n_3)), .val (.int (Int32.ofNat tn)), .val (.ref rA), .val (.ref rB), .val (.ref rC)] [(.ref rC)])) _
        refine XS.aload X64.here hx rfl (hb hby at_389) rfl rfl ?_
        refine XS.iload X64.here hx rfl (hb hby at_391) rfl ?_
        refine XS.iload X64.here hx rfl (hb hby at_393) rfl ?_
        show Steps p.tables e below (T64.setTop (mkF m 395 #[.val (.int p1), .val (.int p2), .val (.long q3), .second, .val (.int p4), .val (.int p5), .val (.int dI), .val (.int dL), .val (.int dB), .val (.int bv), .val (.int dG), .val (.ref b17), .val (.ref b25), .val (.int (Int32.ofNat n_3)), .val (.ref b27), .val (.ref b0), .val (.int (Int32.ofNat n_3)), .val (.int (Int32.ofNat tn)), .val (.ref rA), .val (.ref rB), .val (.ref rC)] [(.int dG), (.int (Int32.ofNat n_3)), (.ref b25), (.ref rC)])) _
        refine XS.iload X64.here hx rfl (hb hby at_395) rfl ?_
        exact kt)
      obtain ⟨_, _, ⟨T66, L66, k66, n66⟩, -, X66, ⟨Lc66, hQ66, l66, y66, z66⟩, st66⟩ := Jvm.LawKit.callS X64 hx (y := (⟨"com/example/haulway/haulway/io/RecordOutputToBytesPinLaw", "check", "([B[BIZI)Z"⟩ : MethodName)) hown (mvT hZ (hw _ (List.mem_of_getElem? (i := 31) rfl))) (mvT hZ (hw _ (List.mem_of_getElem? (i := 32) rfl))) (mvT hZ (hw _ (List.mem_of_getElem? (i := 33) rfl))) (mvT hZ (hw _ (List.mem_of_getElem? (i := 34) rfl))) (by decide) (backOf (W := 0) (rm6 l Z a0 hw [] rC b25 (tn + 4) n_3 dG p4 (own_p4 (own_cut f_4 cap) tn p5) e_3 T64.heap n0 ZtC BtC' BXCt (by omega) (by omega) (by omega) ag5 big5) hZ (hw _ (List.mem_of_getElem? (i := 34) rfl)) (hw _ (List.mem_of_getElem? (i := 33) rfl)) (by decide) (by decide)) (g := (mkF m 397 #[.val (.int p1), .val (.int p2), .val (.long q3), .second, .val (.int p4), .val (.int p5), .val (.int dI), .val (.int dL), .val (.int dB), .val (.int bv), .val (.int dG), .val (.ref b17), .val (.ref b25), .val (.int (Int32.ofNat n_3)), .val (.ref b27), .val (.ref b0), .val (.int (Int32.ofNat n_3)), .val (.int (Int32.ofNat tn)), .val (.ref rA), .val (.ref rB), .val (.ref rC)] [(.int p4), (.int dG), (.int (Int32.ofNat n_3)), (.ref b25), (.ref rC)])) rfl (by rw [hml]; rfl) (argsL := [(.ref rC), (.ref b25), (.int (Int32.ofNat n_3)), (.int dG), (.int p4)]) (rest := []) (lenOf pd_11 rfl) rfl (by show 2 * 0 + _ ≤ _; exact Nat.le_of_eq rfl) (hb hby at_397) (fun _ _ => ⟨rfl, rfl, (by decide : 10 + 0 ≤ _), (by decide : 907 + 0 ≤ _)⟩)
      dsimp only [Pt.U, Pt.locs, Pt.cells, Pt.slots] at X66 l66 y66 z66 st66 hQ66
      subst l66 y66 z66
      obtain ⟨rfl, N66q, e66⟩ := hQ66
      have N66 := Fr.app N64 N66q
      have pre67 : ∀ t, Steps p.tables e below (T66.setTop (mkF m 425 #[.val (.int p1), .val (.int p2), .val (.long q3), .second, .val (.int p4), .val (.int p5), .val (.int dI), .val (.int dL), .val (.int dB), .val (.int bv), .val (.int dG), .val (.ref b17), .val (.ref b25), .val (.int (Int32.ofNat n_3)), .val (.ref b27), .val (.ref b0), .val (.int (Int32.ofNat n_3)), .val (.int (Int32.ofNat tn)), .val (.ref rA), .val (.ref rB), .val (.ref rC)] [(.int ((Int32.ofNat tn) + (1 : Int32))), (.ref rC)])) t → Steps p.tables e below _ t := fun t kt => pre65 t (by
        show Steps p.tables e below (T64.setTop (mkF m 397 #[.val (.int p1), .val (.int p2), .val (.long q3), .second, .val (.int p4), .val (.int p5), .val (.int dI), .val (.int dL), .val (.int dB), .val (.int bv), .val (.int dG), .val (.ref b17), .val (.ref b25), .val (.int (Int32.ofNat n_3)), .val (.ref b27), .val (.ref b0), .val (.int (Int32.ofNat n_3)), .val (.int (Int32.ofNat tn)), .val (.ref rA), .val (.ref rB), .val (.ref rC)] [(.int p4), (.int dG), (.int (Int32.ofNat n_3)), (.ref b25), (.ref rC)])) _
        refine st66 _ ?_
        have hc400 : ¬ ((1 : Int32) = (0 : Int32)) := by decide
        refine XS.ifYes X66.here hx rfl (pc0 := 400) (pc' := 405) rfl (hb hby at_400) rfl ((if0 _ _).trans (feq hc400).2) (by decide) (by decide) ?_
        refine XS.aload X66.here hx rfl (hb hby at_405) rfl rfl ?_
        show Steps p.tables e below (T66.setTop (mkF m 407 #[.val (.int p1), .val (.int p2), .val (.long q3), .second, .val (.int p4), .val (.int p5), .val (.int dI), .val (.int dL), .val (.int dB), .val (.int bv), .val (.int dG), .val (.ref b17), .val (.ref b25), .val (.int (Int32.ofNat n_3)), .val (.ref b27), .val (.ref b0), .val (.int (Int32.ofNat n_3)), .val (.int (Int32.ofNat tn)), .val (.ref rA), .val (.ref rB), .val (.ref rC)] [(.ref rC)])) _
        refine XS.iload X66.here hx rfl (hb hby at_407) rfl ?_
        refine X66.baloadBytes hx (j := (Int32.ofNat tn)) (v := (.int ((own_p4 (own_cut f_4 cap) tn p5) tn))) (by rw [e66]; exact ArC.1) (State.isArrayOf_alike hZ.alike ArC.2.1) ArC.2.2 (within (c := tn) rfl (by omega) (by omega)) (by rw [clamp_of (c := tn) rfl (by omega)]; exact HfC _ (by omega)) (g := (mkF m 409 #[.val (.int p1), .val (.int p2), .val (.long q3), .second, .val (.int p4), .val (.int p5), .val (.int dI), .val (.int dL), .val (.int dB), .val (.int bv), .val (.int dG), .val (.ref b17), .val (.ref b25), .val (.int (Int32.ofNat n_3)), .val (.ref b27), .val (.ref b0), .val (.int (Int32.ofNat n_3)), .val (.int (Int32.ofNat tn)), .val (.ref rA), .val (.ref rB), .val (.ref rC)] [(.int (Int32.ofNat tn)), (.ref rC)])) rfl rfl (hb hby at_409) _ ?_
        refine XS.iload X66.here hx rfl (hb hby at_410) rfl ?_
        show Steps p.tables e below (T66.setTop (mkF m 412 #[.val (.int p1), .val (.int p2), .val (.long q3), .second, .val (.int p4), .val (.int p5), .val (.int dI), .val (.int dL), .val (.int dB), .val (.int bv), .val (.int dG), .val (.ref b17), .val (.ref b25), .val (.int (Int32.ofNat n_3)), .val (.ref b27), .val (.ref b0), .val (.int (Int32.ofNat n_3)), .val (.int (Int32.ofNat tn)), .val (.ref rA), .val (.ref rB), .val (.ref rC)] [(.int p5), (.int ((own_p4 (own_cut f_4 cap) tn p5) tn))])) _
        refine XS.bipush X66.here hx rfl (hb hby at_412) ?_
        refine XS.iushr X66.here hx rfl (hb hby at_414) rfl ?_
        refine XS.i2b X66.here hx rfl (hb hby at_415) rfl ?_
        have hc416 : ((own_p4 (own_cut f_4 cap) tn p5) tn) = (((p5.toUInt32 >>> ((24 : Int32) &&& 31).toUInt32).toInt32).toInt8.toInt32) := l0
        show Steps p.tables e below (T66.setTop (mkF m 416 #[.val (.int p1), .val (.int p2), .val (.long q3), .second, .val (.int p4), .val (.int p5), .val (.int dI), .val (.int dL), .val (.int dB), .val (.int bv), .val (.int dG), .val (.ref b17), .val (.ref b25), .val (.int (Int32.ofNat n_3)), .val (.ref b27), .val (.ref b0), .val (.int (Int32.ofNat n_3)), .val (.int (Int32.ofNat tn)), .val (.ref rA), .val (.ref rB), .val (.ref rC)] [(.int (((p5.toUInt32 >>> ((24 : Int32) &&& 31).toUInt32).toInt32).toInt8.toInt32)), (.int ((own_p4 (own_cut f_4 cap) tn p5) tn))])) _
        refine XS.icmpNo X66.here hx rfl (hb hby at_416) rfl (teq hc416).2 ?_
        refine XS.aload X66.here hx rfl (hb hby at_419) rfl rfl ?_
        refine XS.iload X66.here hx rfl (hb hby at_421) rfl ?_
        show Steps p.tables e below (T66.setTop (mkF m 423 #[.val (.int p1), .val (.int p2), .val (.long q3), .second, .val (.int p4), .val (.int p5), .val (.int dI), .val (.int dL), .val (.int dB), .val (.int bv), .val (.int dG), .val (.ref b17), .val (.ref b25), .val (.int (Int32.ofNat n_3)), .val (.ref b27), .val (.ref b0), .val (.int (Int32.ofNat n_3)), .val (.int (Int32.ofNat tn)), .val (.ref rA), .val (.ref rB), .val (.ref rC)] [(.int (Int32.ofNat tn)), (.ref rC)])) _
        refine XS.iconst X66.here hx rfl (hb hby at_423) ?_
        refine XS.iadd X66.here hx rfl (hb hby at_424) rfl ?_
        exact kt)
      have hv68 : ((Int32.ofNat tn) + (1 : Int32)) = (Int32.ofNat (tn + 1)) := own_add tn 1
      rw [hv68] at pre67
      have pre69 : ∀ t, Steps p.tables e below (T66.setTop (mkF m 441 #[.val (.int p1), .val (.int p2), .val (.long q3), .second, .val (.int p4), .val (.int p5), .val (.int dI), .val (.int dL), .val (.int dB), .val (.int bv), .val (.int dG), .val (.ref b17), .val (.ref b25), .val (.int (Int32.ofNat n_3)), .val (.ref b27), .val (.ref b0), .val (.int (Int32.ofNat n_3)), .val (.int (Int32.ofNat tn)), .val (.ref rA), .val (.ref rB), .val (.ref rC)] [(.int ((Int32.ofNat tn) + (2 : Int32))), (.ref rC)])) t → Steps p.tables e below _ t := fun t kt => pre67 t (by
        show Steps p.tables e below (T66.setTop (mkF m 425 #[.val (.int p1), .val (.int p2), .val (.long q3), .second, .val (.int p4), .val (.int p5), .val (.int dI), .val (.int dL), .val (.int dB), .val (.int bv), .val (.int dG), .val (.ref b17), .val (.ref b25), .val (.int (Int32.ofNat n_3)), .val (.ref b27), .val (.ref b0), .val (.int (Int32.ofNat n_3)), .val (.int (Int32.ofNat tn)), .val (.ref rA), .val (.ref rB), .val (.ref rC)] [(.int (Int32.ofNat (tn + 1))), (.ref rC)])) _
        refine X66.baloadBytes hx (j := (Int32.ofNat (tn + 1))) (v := (.int ((own_p4 (own_cut f_4 cap) tn p5) (tn + 1)))) (by rw [e66]; exact ArC.1) (State.isArrayOf_alike hZ.alike ArC.2.1) ArC.2.2 (within (c := (tn + 1)) rfl (by omega) (by omega)) (by rw [clamp_of (c := (tn + 1)) rfl (by omega)]; exact HfC _ (by omega)) (g := (mkF m 425 #[.val (.int p1), .val (.int p2), .val (.long q3), .second, .val (.int p4), .val (.int p5), .val (.int dI), .val (.int dL), .val (.int dB), .val (.int bv), .val (.int dG), .val (.ref b17), .val (.ref b25), .val (.int (Int32.ofNat n_3)), .val (.ref b27), .val (.ref b0), .val (.int (Int32.ofNat n_3)), .val (.int (Int32.ofNat tn)), .val (.ref rA), .val (.ref rB), .val (.ref rC)] [(.int (Int32.ofNat (tn + 1))), (.ref rC)])) rfl rfl (hb hby at_425) _ ?_
        refine XS.iload X66.here hx rfl (hb hby at_426) rfl ?_
        refine XS.bipush X66.here hx rfl (hb hby at_428) ?_
        show Steps p.tables e below (T66.setTop (mkF m 430 #[.val (.int p1), .val (.int p2), .val (.long q3), .second, .val (.int p4), .val (.int p5), .val (.int dI), .val (.int dL), .val (.int dB), .val (.int bv), .val (.int dG), .val (.ref b17), .val (.ref b25), .val (.int (Int32.ofNat n_3)), .val (.ref b27), .val (.ref b0), .val (.int (Int32.ofNat n_3)), .val (.int (Int32.ofNat tn)), .val (.ref rA), .val (.ref rB), .val (.ref rC)] [(.int (16 : Int32)), (.int p5), (.int ((own_p4 (own_cut f_4 cap) tn p5) (tn + 1)))])) _
        refine XS.iushr X66.here hx rfl (hb hby at_430) rfl ?_
        refine XS.i2b X66.here hx rfl (hb hby at_431) rfl ?_
        have hc432 : ((own_p4 (own_cut f_4 cap) tn p5) (tn + 1)) = (((p5.toUInt32 >>> ((16 : Int32) &&& 31).toUInt32).toInt32).toInt8.toInt32) := l1
        refine XS.icmpNo X66.here hx rfl (hb hby at_432) rfl (teq hc432).2 ?_
        show Steps p.tables e below (T66.setTop (mkF m 435 #[.val (.int p1), .val (.int p2), .val (.long q3), .second, .val (.int p4), .val (.int p5), .val (.int dI), .val (.int dL), .val (.int dB), .val (.int bv), .val (.int dG), .val (.ref b17), .val (.ref b25), .val (.int (Int32.ofNat n_3)), .val (.ref b27), .val (.ref b0), .val (.int (Int32.ofNat n_3)), .val (.int (Int32.ofNat tn)), .val (.ref rA), .val (.ref rB), .val (.ref rC)] [])) _
        refine XS.aload X66.here hx rfl (hb hby at_435) rfl rfl ?_
        refine XS.iload X66.here hx rfl (hb hby at_437) rfl ?_
        refine XS.iconst X66.here hx rfl (hb hby at_439) ?_
        show Steps p.tables e below (T66.setTop (mkF m 440 #[.val (.int p1), .val (.int p2), .val (.long q3), .second, .val (.int p4), .val (.int p5), .val (.int dI), .val (.int dL), .val (.int dB), .val (.int bv), .val (.int dG), .val (.ref b17), .val (.ref b25), .val (.int (Int32.ofNat n_3)), .val (.ref b27), .val (.ref b0), .val (.int (Int32.ofNat n_3)), .val (.int (Int32.ofNat tn)), .val (.ref rA), .val (.ref rB), .val (.ref rC)] [(.int (2 : Int32)), (.int (Int32.ofNat tn)), (.ref rC)])) _
        refine XS.iadd X66.here hx rfl (hb hby at_440) rfl ?_
        exact kt)
      have hv70 : ((Int32.ofNat tn) + (2 : Int32)) = (Int32.ofNat (tn + 2)) := own_add tn 2
      rw [hv70] at pre69
      have pre71 : ∀ t, Steps p.tables e below (T66.setTop (mkF m 457 #[.val (.int p1), .val (.int p2), .val (.long q3), .second, .val (.int p4), .val (.int p5), .val (.int dI), .val (.int dL), .val (.int dB), .val (.int bv), .val (.int dG), .val (.ref b17), .val (.ref b25), .val (.int (Int32.ofNat n_3)), .val (.ref b27), .val (.ref b0), .val (.int (Int32.ofNat n_3)), .val (.int (Int32.ofNat tn)), .val (.ref rA), .val (.ref rB), .val (.ref rC)] [(.int ((Int32.ofNat tn) + (3 : Int32))), (.ref rC)])) t → Steps p.tables e below _ t := fun t kt => pre69 t (by
        show Steps p.tables e below (T66.setTop (mkF m 441 #[.val (.int p1), .val (.int p2), .val (.long q3), .second, .val (.int p4), .val (.int p5), .val (.int dI), .val (.int dL), .val (.int dB), .val (.int bv), .val (.int dG), .val (.ref b17), .val (.ref b25), .val (.int (Int32.ofNat n_3)), .val (.ref b27), .val (.ref b0), .val (.int (Int32.ofNat n_3)), .val (.int (Int32.ofNat tn)), .val (.ref rA), .val (.ref rB), .val (.ref rC)] [(.int (Int32.ofNat (tn + 2))), (.ref rC)])) _
        refine X66.baloadBytes hx (j := (Int32.ofNat (tn + 2))) (v := (.int ((own_p4 (own_cut f_4 cap) tn p5) (tn + 2)))) (by rw [e66]; exact ArC.1) (State.isArrayOf_alike hZ.alike ArC.2.1) ArC.2.2 (within (c := (tn + 2)) rfl (by omega) (by omega)) (by rw [clamp_of (c := (tn + 2)) rfl (by omega)]; exact HfC _ (by omega)) (g := (mkF m 441 #[.val (.int p1), .val (.int p2), .val (.long q3), .second, .val (.int p4), .val (.int p5), .val (.int dI), .val (.int dL), .val (.int dB), .val (.int bv), .val (.int dG), .val (.ref b17), .val (.ref b25), .val (.int (Int32.ofNat n_3)), .val (.ref b27), .val (.ref b0), .val (.int (Int32.ofNat n_3)), .val (.int (Int32.ofNat tn)), .val (.ref rA), .val (.ref rB), .val (.ref rC)] [(.int (Int32.ofNat (tn + 2))), (.ref rC)])) rfl rfl (hb hby at_441) _ ?_
        refine XS.iload X66.here hx rfl (hb hby at_442) rfl ?_
        refine XS.bipush X66.here hx rfl (hb hby at_444) ?_
        show Steps p.tables e below (T66.setTop (mkF m 446 #[.val (.int p1), .val (.int p2), .val (.long q3), .second, .val (.int p4), .val (.int p5), .val (.int dI), .val (.int dL), .val (.int dB), .val (.int bv), .val (.int dG), .val (.ref b17), .val (.ref b25), .val (.int (Int32.ofNat n_3)), .val (.ref b27), .val (.ref b0), .val (.int (Int32.ofNat n_3)), .val (.int (Int32.ofNat tn)), .val (.ref rA), .val (.ref rB), .val (.ref rC)] [(.int (8 : Int32)), (.int p5), (.int ((own_p4 (own_cut f_4 cap) tn p5) (tn + 2)))])) _
        refine XS.iushr X66.here hx rfl (hb hby at_446) rfl ?_
        refine XS.i2b X66.here hx rfl (hb hby at_447) rfl ?_
        have hc448 : ((own_p4 (own_cut f_4 cap) tn p5) (tn + 2)) = (((p5.toUInt32 >>> ((8 : Int32) &&& 31).toUInt32).toInt32).toInt8.toInt32) := l2
        refine XS.icmpNo X66.here hx rfl (hb hby at_448) rfl (teq hc448).2 ?_
        show Steps p.tables e below (T66.setTop (mkF m 451 #[.val (.int p1), .val (.int p2), .val (.long q3), .second, .val (.int p4), .val (.int p5), .val (.int dI), .val (.int dL), .val (.int dB), .val (.int bv), .val (.int dG), .val (.ref b17), .val (.ref b25), .val (.int (Int32.ofNat n_3)), .val (.ref b27), .val (.ref b0), .val (.int (Int32.ofNat n_3)), .val (.int (Int32.ofNat tn)), .val (.ref rA), .val (.ref rB), .val (.ref rC)] [])) _
        refine XS.aload X66.here hx rfl (hb hby at_451) rfl rfl ?_
        refine XS.iload X66.here hx rfl (hb hby at_453) rfl ?_
        refine XS.iconst X66.here hx rfl (hb hby at_455) ?_
        show Steps p.tables e below (T66.setTop (mkF m 456 #[.val (.int p1), .val (.int p2), .val (.long q3), .second, .val (.int p4), .val (.int p5), .val (.int dI), .val (.int dL), .val (.int dB), .val (.int bv), .val (.int dG), .val (.ref b17), .val (.ref b25), .val (.int (Int32.ofNat n_3)), .val (.ref b27), .val (.ref b0), .val (.int (Int32.ofNat n_3)), .val (.int (Int32.ofNat tn)), .val (.ref rA), .val (.ref rB), .val (.ref rC)] [(.int (3 : Int32)), (.int (Int32.ofNat tn)), (.ref rC)])) _
        refine XS.iadd X66.here hx rfl (hb hby at_456) rfl ?_
        exact kt)
      have hv72 : ((Int32.ofNat tn) + (3 : Int32)) = (Int32.ofNat (tn + 3)) := own_add tn 3
      rw [hv72] at pre71
      obtain ⟨fs, hr, hrun, hended, hW, hsame⟩ := X66.leave (v := some (.int (1 : Int32))) (fun h => by rw [Bd.returns] at h; cases h)
      refine ⟨_, _, pre71 _ ?_, hrun, hended, _, _, rfl, ?_, ⟨_, rfl⟩, hW, hsame.mono (by decide) (by decide)⟩
      · show Steps p.tables e below (T66.setTop (mkF m 457 #[.val (.int p1), .val (.int p2), .val (.long q3), .second, .val (.int p4), .val (.int p5), .val (.int dI), .val (.int dL), .val (.int dB), .val (.int bv), .val (.int dG), .val (.ref b17), .val (.ref b25), .val (.int (Int32.ofNat n_3)), .val (.ref b27), .val (.ref b0), .val (.int (Int32.ofNat n_3)), .val (.int (Int32.ofNat tn)), .val (.ref rA), .val (.ref rB), .val (.ref rC)] [(.int (Int32.ofNat (tn + 3))), (.ref rC)])) _
        refine X66.baloadBytes hx (j := (Int32.ofNat (tn + 3))) (v := (.int ((own_p4 (own_cut f_4 cap) tn p5) (tn + 3)))) (by rw [e66]; exact ArC.1) (State.isArrayOf_alike hZ.alike ArC.2.1) ArC.2.2 (within (c := (tn + 3)) rfl (by omega) (by omega)) (by rw [clamp_of (c := (tn + 3)) rfl (by omega)]; exact HfC _ (by omega)) (g := (mkF m 457 #[.val (.int p1), .val (.int p2), .val (.long q3), .second, .val (.int p4), .val (.int p5), .val (.int dI), .val (.int dL), .val (.int dB), .val (.int bv), .val (.int dG), .val (.ref b17), .val (.ref b25), .val (.int (Int32.ofNat n_3)), .val (.ref b27), .val (.ref b0), .val (.int (Int32.ofNat n_3)), .val (.int (Int32.ofNat tn)), .val (.ref rA), .val (.ref rB), .val (.ref rC)] [(.int (Int32.ofNat (tn + 3))), (.ref rC)])) rfl rfl (hb hby at_457) _ ?_
        refine XS.iload X66.here hx rfl (hb hby at_458) rfl ?_
        refine XS.i2b X66.here hx rfl (hb hby at_460) rfl ?_
        have hc461 : ((own_p4 (own_cut f_4 cap) tn p5) (tn + 3)) = (p5.toInt8.toInt32) := l3
        show Steps p.tables e below (T66.setTop (mkF m 461 #[.val (.int p1), .val (.int p2), .val (.long q3), .second, .val (.int p4), .val (.int p5), .val (.int dI), .val (.int dL), .val (.int dB), .val (.int bv), .val (.int dG), .val (.ref b17), .val (.ref b25), .val (.int (Int32.ofNat n_3)), .val (.ref b27), .val (.ref b0), .val (.int (Int32.ofNat n_3)), .val (.int (Int32.ofNat tn)), .val (.ref rA), .val (.ref rB), .val (.ref rC)] [(.int (p5.toInt8.toInt32)), (.int ((own_p4 (own_cut f_4 cap) tn p5) (tn + 3)))])) _
        refine XS.icmpNo X66.here hx rfl (hb hby at_461) rfl (teq hc461).2 ?_
        refine XS.iconst X66.here hx rfl (hb hby at_464) ?_
        refine XS.goto X66.here hx rfl (pc0 := 465) (pc' := 469) rfl (hb hby at_465) (by decide) (by decide) ?_
        show Steps p.tables e below (T66.setTop (mkF m 469 #[.val (.int p1), .val (.int p2), .val (.long q3), .second, .val (.int p4), .val (.int p5), .val (.int dI), .val (.int dL), .val (.int dB), .val (.int bv), .val (.int dG), .val (.ref b17), .val (.ref b25), .val (.int (Int32.ofNat n_3)), .val (.ref b27), .val (.ref b0), .val (.int (Int32.ofNat n_3)), .val (.int (Int32.ofNat tn)), .val (.ref rA), .val (.ref rB), .val (.ref rC)] [(.int (1 : Int32))])) _
        exact retN X66 hx (t := .boolean) Bd.returns (by simp) (hb hby at_469) hr
      · exact ⟨rfl, N66⟩
  · have pre73 : ∀ t, Steps p.tables e below (T36.setTop (mkF m 327 #[.val (.int p1), .val (.int p2), .val (.long q3), .second, .val (.int p4), .val (.int p5), .val (.int dI), .val (.int dL), .val (.int dB), .val (.int bv), .val (.int dG), .val (.ref b17), .val (.ref b25), .val (.int (Int32.ofNat n_3)), .val (.ref b27), .val (.ref b0), .val (.int (Int32.ofNat n_3)), .val (.int (Int32.ofNat tn)), .val (.ref rA), .unset, .unset] [(.ref b27)])) t → Steps p.tables e below _ t := fun t kt => pre37 t (by
      show Steps p.tables e below (T36.setTop (mkF m 293 #[.val (.int p1), .val (.int p2), .val (.long q3), .second, .val (.int p4), .val (.int p5), .val (.int dI), .val (.int dL), .val (.int dB), .val (.int bv), .val (.int dG), .val (.ref b17), .val (.ref b25), .val (.int (Int32.ofNat n_3)), .val (.ref b27), .val (.ref b0), .val (.int (Int32.ofNat n_3)), .val (.int (Int32.ofNat tn)), .val (.ref rA), .unset, .unset] [(.int (Int32.ofNat tn))])) _
      refine XS.ifYes X36.here hx rfl (pc0 := 293) (pc' := 325) rfl (hb hby at_293) rfl ((if0 _ _).trans (flt hc293).2.2.2) (by decide) (by decide) ?_
      refine XS.aload X36.here hx rfl (hb hby at_325) rfl rfl ?_
      exact kt)
    obtain ⟨cq74, kq74, q74a, q74b, q74c⟩ := isOf hZ e36 EAt
    obtain ⟨_, _, ⟨T74, L74, k74, n74⟩, -, X74, ⟨Lc74, hQ74, l74, y74, z74⟩, st74⟩ := X36.virtualBack hx (y := (⟨"com/example/haulway/haulway/io/RecordOutput", "toBytes", "()[B"⟩ : MethodName)) (z := (⟨"com/example/haulway/haulway/io/RecordOutput", "toBytes", "()[B"⟩ : MethodName)) hown (mvT hZ (hw _ (List.mem_of_getElem? (i := 12) rfl))) (mvT hZ (hw _ (List.mem_of_getElem? (i := 13) rfl))) (notFace_of_selects (args := #[]) (mvT hZ (hw _ (List.mem_of_getElem? (i := 15) rfl)))) (mvT hZ (hw _ (List.mem_of_getElem? (i := 15) rfl))) (mvT hZ (hw _ (List.mem_of_getElem? (i := 14) rfl))) (by decide) (backOf (W := 0) (rm3 l Z a0 hw [] b27 b4 cap tn f_4 T34.heap n0 ZtA EAt F1At F2At BAt (by omega) (by omega)) hZ (hw _ (List.mem_of_getElem? (i := 16) rfl)) (hw _ (List.mem_of_getElem? (i := 3) rfl)) (by decide) (by decide)) q74a q74c (g := (mkF m 327 #[.val (.int p1), .val (.int p2), .val (.long q3), .second, .val (.int p4), .val (.int p5), .val (.int dI), .val (.int dL), .val (.int dB), .val (.int bv), .val (.int dG), .val (.ref b17), .val (.ref b25), .val (.int (Int32.ofNat n_3)), .val (.ref b27), .val (.ref b0), .val (.int (Int32.ofNat n_3)), .val (.int (Int32.ofNat tn)), .val (.ref rA), .unset, .unset] [(.ref b27)])) rfl (by rw [hml]; rfl) (Steps.refl _) (argsL := []) (rest := []) (lenOf pd_10 rfl) rfl (by show 2 * 0 + _ ≤ _; exact Nat.le_of_eq rfl) (hb hby at_327) (fun _ _ => ⟨rfl, e36, (by decide : 7 + 1 ≤ _), (by decide : 523 + 128 ≤ _)⟩)
    dsimp only [Pt.U, Pt.locs, Pt.cells, Pt.slots] at X74 l74 y74 z74 st74 hQ74
    subst l74 y74 z74
    obtain ⟨rB, rfl, N74q, KtB, StB, BtB⟩ := hQ74
    have N74 := Fr.app N36 N74q
    have ZtB : n0 ≤ T74.heap.size := Nat.le_trans ZtA KtB.1
    have EBt := EAt.keep KtB
    have F1Bt := F1At.keep KtB nin0
    have F2Bt := F2At.keep KtB nin0
    have BBt := own_B_keep BAt KtB nin0
    have BXBt := own_B_keep BXAt KtB nin0
    obtain ⟨clB, ArB, SzB, HfB, GfB, XfB⟩ := id BtB
    have BtB' : own_B Z T74.heap rB tn f_4 := ⟨clB, ArB, SzB, HfB, GfB, XfB⟩
    have pre75 : ∀ t, Steps p.tables e below (T74.setTop (mkF m 352 #[.val (.int p1), .val (.int p2), .val (.long q3), .second, .val (.int p4), .val (.int p5), .val (.int dI), .val (.int dL), .val (.int dB), .val (.int bv), .val (.int dG), .val (.ref b17), .val (.ref b25), .val (.int (Int32.ofNat n_3)), .val (.ref b27), .val (.ref b0), .val (.int (Int32.ofNat n_3)), .val (.int (Int32.ofNat tn)), .val (.ref rA), .val (.ref rB), .unset] [(.int p4), (.int dG), (.int (Int32.ofNat n_3)), (.ref b25), (.ref rB)])) t → Steps p.tables e below _ t := fun t kt => pre73 t (by
      show Steps p.tables e below (T36.setTop (mkF m 327 #[.val (.int p1), .val (.int p2), .val (.long q3), .second, .val (.int p4), .val (.int p5), .val (.int dI), .val (.int dL), .val (.int dB), .val (.int bv), .val (.int dG), .val (.ref b17), .val (.ref b25), .val (.int (Int32.ofNat n_3)), .val (.ref b27), .val (.ref b0), .val (.int (Int32.ofNat n_3)), .val (.int (Int32.ofNat tn)), .val (.ref rA), .unset, .unset] [(.ref b27)])) _
      refine st74.trans ?_
      refine XS.astore X74.here hx rfl (hb hby at_330) rfl rfl (l' := #[.val (.int p1), .val (.int p2), .val (.long q3), .second, .val (.int p4), .val (.int p5), .val (.int dI), .val (.int dL), .val (.int dB), .val (.int bv), .val (.int dG), .val (.ref b17), .val (.ref b25), .val (.int (Int32.ofNat n_3)), .val (.ref b27), .val (.ref b0), .val (.int (Int32.ofNat n_3)), .val (.int (Int32.ofNat tn)), .val (.ref rA), .val (.ref rB), .unset]) rfl ?_
      refine XS.aload X74.here hx rfl (hb hby at_332) rfl rfl ?_
      show Steps p.tables e below (T74.setTop (mkF m 334 #[.val (.int p1), .val (.int p2), .val (.long q3), .second, .val (.int p4), .val (.int p5), .val (.int dI), .val (.int dL), .val (.int dB), .val (.int bv), .val (.int dG), .val (.ref b17), .val (.ref b25), .val (.int (Int32.ofNat n_3)), .val (.ref b27), .val (.ref b0), .val (.int (Int32.ofNat n_3)), .val (.int (Int32.ofNat tn)), .val (.ref rA), .val (.ref rB), .unset] [(.ref rB)])) _
      refine X74.arraylength hx ArB.1 (State.isArrayOf_alike hZ.alike ArB.2.1) (g := (mkF m 334 #[.val (.int p1), .val (.int p2), .val (.long q3), .second, .val (.int p4), .val (.int p5), .val (.int dI), .val (.int dL), .val (.int dB), .val (.int bv), .val (.int dG), .val (.ref b17), .val (.ref b25), .val (.int (Int32.ofNat n_3)), .val (.ref b27), .val (.ref b0), .val (.int (Int32.ofNat n_3)), .val (.int (Int32.ofNat tn)), .val (.ref rA), .val (.ref rB), .unset] [(.ref rB)])) rfl rfl (hb hby at_334) _ ?_
      rw [len_of (by rw [SzB, clamp_of (c := tn) rfl (by omega)] : clB.slots.size = (Int32.ofNat tn).toNatClampNeg) (own_nneg (by omega))]
      refine XS.iload X74.here hx rfl (hb hby at_335) rfl ?_
      have hc337 : (Int32.ofNat tn) = (Int32.ofNat tn) := rfl
      refine XS.icmpYes X74.here hx rfl (pc0 := 337) (pc' := 342) rfl (hb hby at_337) rfl (teq hc337).1 (by decide) (by decide) ?_
      show Steps p.tables e below (T74.setTop (mkF m 342 #[.val (.int p1), .val (.int p2), .val (.long q3), .second, .val (.int p4), .val (.int p5), .val (.int dI), .val (.int dL), .val (.int dB), .val (.int bv), .val (.int dG), .val (.ref b17), .val (.ref b25), .val (.int (Int32.ofNat n_3)), .val (.ref b27), .val (.ref b0), .val (.int (Int32.ofNat n_3)), .val (.int (Int32.ofNat tn)), .val (.ref rA), .val (.ref rB), .unset] [])) _
      refine XS.aload X74.here hx rfl (hb hby at_342) rfl rfl ?_
      refine XS.aload X74.here hx rfl (hb hby at_344) rfl rfl ?_
      refine XS.iload X74.here hx rfl (hb hby at_346) rfl ?_
      show Steps p.tables e below (T74.setTop (mkF m 348 #[.val (.int p1), .val (.int p2), .val (.long q3), .second, .val (.int p4), .val (.int p5), .val (.int dI), .val (.int dL), .val (.int dB), .val (.int bv), .val (.int dG), .val (.ref b17), .val (.ref b25), .val (.int (Int32.ofNat n_3)), .val (.ref b27), .val (.ref b0), .val (.int (Int32.ofNat n_3)), .val (.int (Int32.ofNat tn)), .val (.ref rA), .val (.ref rB), .unset] [(.int (Int32.ofNat n_3)), (.ref b25), (.ref rB)])) _
      refine XS.iload X74.here hx rfl (hb hby at_348) rfl ?_
      refine XS.iload X74.here hx rfl (hb hby at_350) rfl ?_
      exact kt)
    obtain ⟨_, _, ⟨T76, L76, k76, n76⟩, -, X76, ⟨Lc76, hQ76, l76, y76, z76⟩, st76⟩ := Jvm.LawKit.callS X74 hx (y := (⟨"com/example/haulway/haulway/io/RecordOutputToBytesPinLaw", "check", "([B[BIZI)Z"⟩ : MethodName)) hown (mvT hZ (hw _ (List.mem_of_getElem? (i := 31) rfl))) (mvT hZ (hw _ (List.mem_of_getElem? (i := 32) rfl))) (mvT hZ (hw _ (List.mem_of_getElem? (i := 33) rfl))) (mvT hZ (hw _ (List.mem_of_getElem? (i := 34) rfl))) (by decide) (backOf (W := 0) (rm6 l Z a0 hw [] rB b25 tn n_3 dG p4 f_4 e_3 T74.heap n0 ZtB BtB' BXBt (by omega) (by omega) (by omega) ag_4 big_4) hZ (hw _ (List.mem_of_getElem? (i := 34) rfl)) (hw _ (List.mem_of_getElem? (i := 33) rfl)) (by decide) (by decide)) (g := (mkF m 352 #[.val (.int p1), .val (.int p2), .val (.long q3), .second, .val (.int p4), .val (.int p5), .val (.int dI), .val (.int dL), .val (.int dB), .val (.int bv), .val (.int dG), .val (.ref b17), .val (.ref b25), .val (.int (Int32.ofNat n_3)), .val (.ref b27), .val (.ref b0), .val (.int (Int32.ofNat n_3)), .val (.int (Int32.ofNat tn)), .val (.ref rA), .val (.ref rB), .unset] [(.int p4), (.int dG), (.int (Int32.ofNat n_3)), (.ref b25), (.ref rB)])) rfl (by rw [hml]; rfl) (argsL := [(.ref rB), (.ref b25), (.int (Int32.ofNat n_3)), (.int dG), (.int p4)]) (rest := []) (lenOf pd_11 rfl) rfl (by show 2 * 0 + _ ≤ _; exact Nat.le_of_eq rfl) (hb hby at_352) (fun _ _ => ⟨rfl, rfl, (by decide : 8 + 0 ≤ _), (by decide : 651 + 0 ≤ _)⟩)
    dsimp only [Pt.U, Pt.locs, Pt.cells, Pt.slots] at X76 l76 y76 z76 st76 hQ76
    subst l76 y76 z76
    obtain ⟨rfl, N76q, e76⟩ := hQ76
    have N76 := Fr.app N74 N76q
    have pre77 : ∀ t, Steps p.tables e below (T76.setTop (mkF m 360 #[.val (.int p1), .val (.int p2), .val (.long q3), .second, .val (.int p4), .val (.int p5), .val (.int dI), .val (.int dL), .val (.int dB), .val (.int bv), .val (.int dG), .val (.ref b17), .val (.ref b25), .val (.int (Int32.ofNat n_3)), .val (.ref b27), .val (.ref b0), .val (.int (Int32.ofNat n_3)), .val (.int (Int32.ofNat tn)), .val (.ref rA), .val (.ref rB), .unset] [])) t → Steps p.tables e below _ t := fun t kt => pre75 t (by
      show Steps p.tables e below (T74.setTop (mkF m 352 #[.val (.int p1), .val (.int p2), .val (.long q3), .second, .val (.int p4), .val (.int p5), .val (.int dI), .val (.int dL), .val (.int dB), .val (.int bv), .val (.int dG), .val (.ref b17), .val (.ref b25), .val (.int (Int32.ofNat n_3)), .val (.ref b27), .val (.ref b0), .val (.int (Int32.ofNat n_3)), .val (.int (Int32.ofNat tn)), .val (.ref rA), .val (.ref rB), .unset] [(.int p4), (.int dG), (.int (Int32.ofNat n_3)), (.ref b25), (.ref rB)])) _
      refine st76 _ ?_
      have hc355 : ¬ ((1 : Int32) = (0 : Int32)) := by decide
      refine XS.ifYes X76.here hx rfl (pc0 := 355) (pc' := 360) rfl (hb hby at_355) rfl ((if0 _ _).trans (feq hc355).2) (by decide) (by decide) ?_
      exact kt)
    have nrx4 : b27 ≠ b25 := Ne.symm nxr
    have pre78 : ∀ t, Steps p.tables e below (T76.setTop (mkF m 364 #[.val (.int p1), .val (.int p2), .val (.long q3), .second, .val (.int p4), .val (.int p5), .val (.int dI), .val (.int dL), .val (.int dB), .val (.int bv), .val (.int dG), .val (.ref b17), .val (.ref b25), .val (.int (Int32.ofNat n_3)), .val (.ref b27), .val (.ref b0), .val (.int (Int32.ofNat n_3)), .val (.int (Int32.ofNat tn)), .val (.ref rA), .val (.ref rB), .unset] [(.int p5), (.ref b27)])) t → Steps p.tables e below _ t := fun t kt => pre77 t (by
      show Steps p.tables e below (T76.setTop (mkF m 360 #[.val (.int p1), .val (.int p2), .val (.long q3), .second, .val (.int p4), .val (.int p5), .val (.int dI), .val (.int dL), .val (.int dB), .val (.int bv), .val (.int dG), .val (.ref b17), .val (.ref b25), .val (.int (Int32.ofNat n_3)), .val (.ref b27), .val (.ref b0), .val (.int (Int32.ofNat n_3)), .val (.int (Int32.ofNat tn)), .val (.ref rA), .val (.ref rB), .unset] [])) _
      refine XS.aload X76.here hx rfl (hb hby at_360) rfl rfl ?_
      refine XS.iload X76.here hx rfl (hb hby at_362) rfl ?_
      exact kt)
    rcases hcap4 with hc4 | ⟨hc4, ht4⟩
    · obtain ⟨cq79, kq79, q79a, q79b, q79c⟩ := isOf hZ e76 EBt
      obtain ⟨_, _, ⟨T79, L79, k79, n79⟩, -, X79, ⟨Lc79, hQ79, l79, y79, z79⟩, st79⟩ := X76.virtualBack hx (y := (⟨"com/example/haulway/haulway/io/RecordOutput", "putInt", "(I)Lcom/example/haulway/haulway/io/RecordOutput;"⟩ : MethodName)) (z := (⟨"com/example/haulway/haulway/io/RecordOutput", "putInt", "(I)Lcom/example/haulway/haulway/io/RecordOutput;"⟩ : MethodName)) hown (mvT hZ (hw _ (List.mem_of_getElem? (i := 38) rfl))) (mvT hZ (hw _ (List.mem_of_getElem? (i := 39) rfl))) (notFace_of_selects (args := #[]) (mvT hZ (hw _ (List.mem_of_getElem? (i := 41) rfl)))) (mvT hZ (hw _ (List.mem_of_getElem? (i := 41) rfl))) (mvT hZ (hw _ (List.mem_of_getElem? (i := 40) rfl))) (by decide) (backOf (W := 0) (rm8 l Z a0 hw [] b27 b4 cap tn f_4 p5 T74.heap n0 ZtB EBt F1Bt F2Bt BBt (by omega) (by omega) nrb4 g_b27 g_4) hZ (hw _ (List.mem_of_getElem? (i := 42) rfl)) (hw _ (List.mem_of_getElem? (i := 3) rfl)) (by decide) (by decide)) q79a q79c (g := (mkF m 364 #[.val (.int p1), .val (.int p2), .val (.long q3), .second, .val (.int p4), .val (.int p5), .val (.int dI), .val (.int dL), .val (.int dB), .val (.int bv), .val (.int dG), .val (.ref b17), .val (.ref b25), .val (.int (Int32.ofNat n_3)), .val (.ref b27), .val (.ref b0), .val (.int (Int32.ofNat n_3)), .val (.int (Int32.ofNat tn)), .val (.ref rA), .val (.ref rB), .unset] [(.int p5), (.ref b27)])) rfl (by rw [hml]; rfl) (Steps.refl _) (argsL := [(.int p5)]) (rest := []) (lenOf pd_4 rfl) rfl (by show 2 * 0 + _ ≤ _; exact Nat.le_of_eq rfl) (hb hby at_364) (fun _ _ => ⟨rfl, e76, (by decide : 8 + 0 ≤ _), (by decide : 651 + 0 ≤ _)⟩)
      dsimp only [Pt.U, Pt.locs, Pt.cells, Pt.slots] at X79 l79 y79 z79 st79 hQ79
      subst l79 y79 z79
      obtain ⟨rfl, N79q, Kp, Ep, Fp1, Fp2, Bp⟩ := hQ79
      have N79 := Fr.app N76 N79q
      have BXp := own_B_keep BXBt Kp (ninS (Ne.symm nrx4) (ninS (Ne.symm nbx4) nin0))
      have hfj : ∀ j, j < tn → (own_p4 f_4 tn p5) j = f_4 j := fun j hj => own_p4_lt _ _ _ hj
      have Zp : n0 ≤ T79.heap.size := Nat.le_trans ZtB Kp.1
      have ag5 : ∀ i, i < n_3 → (own_p4 f_4 tn p5) i = e_3 i := fun i hi => by rw [hfj i (by omega)]; exact ag_4 i hi
      have big5 : (¬ (dG = (0 : Int32)) → n_3 + 64 ≤ (tn + 4) ∧ (own_p4 f_4 tn p5) n_3 = (0 : Int32) ∧ (own_p4 f_4 tn p5) (n_3 + 1) = (0 : Int32) ∧ (own_p4 f_4 tn p5) (n_3 + 2) = (0 : Int32) ∧ (own_p4 f_4 tn p5) (n_3 + 3) = (60 : Int32) ∧ (own_p4 f_4 tn p5) (n_3 + 4) = (p4.toInt8.toInt32) ∧ (own_p4 f_4 tn p5) (n_3 + 5) = (0 : Int32) ∧ (own_p4 f_4 tn p5) (n_3 + 34) = (((p4.toUInt32 >>> ((16 : Int32) &&& 31).toUInt32).toInt32).toInt8.toInt32) ∧ (own_p4 f_4 tn p5) (n_3 + 62) = (0 : Int32) ∧ (own_p4 f_4 tn p5) (n_3 + 63) = (((p4.toUInt32 >>> ((8 : Int32) &&& 31).toUInt32).toInt32).toInt8.toInt32)) := fun q => by
        obtain ⟨q_, k0, k1, k2, k3, k4, k5, k34, k62, k63⟩ := big_4 q
        refine ⟨by omega, ?_, ?_, ?_, ?_, ?_, ?_, ?_, ?_, ?_⟩
        · rw [hfj _ (by omega)]; exact k0
        · rw [hfj _ (by omega)]; exact k1
        · rw [hfj _ (by omega)]; exact k2
        · rw [hfj _ (by omega)]; exact k3
        · rw [hfj _ (by omega)]; exact k4
        · rw [hfj _ (by omega)]; exact k5
        · rw [hfj _ (by omega)]; exact k34
        · rw [hfj _ (by omega)]; exact k62
        · rw [hfj _ (by omega)]; exact k63
      obtain ⟨l0, l1, l2, l3⟩ := own_p4_at f_4 tn p5
      rw [own_by0] at l3
      have pre80 : ∀ t, Steps p.tables e below (T79.setTop (mkF m 370 #[.val (.int p1), .val (.int p2), .val (.long q3), .second, .val (.int p4), .val (.int p5), .val (.int dI), .val (.int dL), .val (.int dB), .val (.int bv), .val (.int dG), .val (.ref b17), .val (.ref b25), .val (.int (Int32.ofNat n_3)), .val (.ref b27), .val (.ref b0), .val (.int (Int32.ofNat n_3)), .val (.int (Int32.ofNat tn)), .val (.ref rA), .val (.ref rB), .unset] [(.ref b27)])) t → Steps p.tables e below _ t := fun t kt => pre78 t (by
        show Steps p.tables e below (T76.setTop (mkF m 364 #[.val (.int p1), .val (.int p2), .val (.long q3), .second, .val (.int p4), .val (.int p5), .val (.int dI), .val (.int dL), .val (.int dB), .val (.int bv), .val (.int dG), .val (.ref b17), .val (.ref b25), .val (.int (Int32.ofNat n_3)), .val (.ref b27), .val (.ref b0), .val (.int (Int32.ofNat n_3)), .val (.int (Int32.ofNat tn)), .val (.ref rA), .val (.ref rB), .unset] [(.int p5), (.ref b27)])) _
        refine st79.trans ?_
        refine XS.pop X79.here hx rfl (hb hby at_367) rfl rfl ?_
        refine XS.aload X79.here hx rfl (hb hby at_368) rfl rfl ?_
        exact kt)
      obtain ⟨cq81, kq81, q81a, q81b, q81c⟩ := isOf hZ rfl Ep
      obtain ⟨_, _, ⟨T81, L81, k81, n81⟩, -, X81, ⟨Lc81, hQ81, l81, y81, z81⟩, st81⟩ := X79.virtualBack hx (y := (⟨"com/example/haulway/haulway/io/RecordOutput", "toBytes", "()[B"⟩ : MethodName)) (z := (⟨"com/example/haulway/haulway/io/RecordOutput", "toBytes", "()[B"⟩ : MethodName)) hown (mvT hZ (hw _ (List.mem_of_getElem? (i := 12) rfl))) (mvT hZ (hw _ (List.mem_of_getElem? (i := 13) rfl))) (notFace_of_selects (args := #[]) (mvT hZ (hw _ (List.mem_of_getElem? (i := 15) rfl)))) (mvT hZ (hw _ (List.mem_of_getElem? (i := 15) rfl))) (mvT hZ (hw _ (List.mem_of_getElem? (i := 14) rfl))) (by decide) (backOf (W := 0) (rm3 l Z a0 hw [] b27 b4 cap (tn + 4) (own_p4 f_4 tn p5) T79.heap n0 Zp Ep Fp1 Fp2 Bp (by omega) (by omega)) hZ (hw _ (List.mem_of_getElem? (i := 16) rfl)) (hw _ (List.mem_of_getElem? (i := 3) rfl)) (by decide) (by decide)) q81a q81c (g := (mkF m 370 #[.val (.int p1), .val (.int p2), .val (.long q3), .second, .val (.int p4), .val (.int p5), .val (.int dI), .val (.int dL), .val (.int dB), .val (.int bv), .val (.int dG), .val (.ref b17), .val (.ref b25), .val (.int (Int32.ofNat n_3)), .val (.ref b27), .val (.ref b0), .val (.int (Int32.ofNat n_3)), .val (.int (Int32.ofNat tn)), .val (.ref rA), .val (.ref rB), .unset] [(.ref b27)])) rfl (by rw [hml]; rfl) (Steps.refl _) (argsL := []) (rest := []) (lenOf pd_10 rfl) rfl (by show 2 * 0 + _ ≤ _; exact Nat.le_of_eq rfl) (hb hby at_370) (fun _ _ => ⟨rfl, rfl, (by decide : 8 + 1 ≤ _), (by decide : 651 + 128 ≤ _)⟩)
      dsimp only [Pt.U, Pt.locs, Pt.cells, Pt.slots] at X81 l81 y81 z81 st81 hQ81
      subst l81 y81 z81
      obtain ⟨rC, rfl, N81q, KtC, StC, BtC⟩ := hQ81
      have N81 := Fr.app N79 N81q
      have ZtC : n0 ≤ T81.heap.size := Nat.le_trans Zp KtC.1
      have ECt := Ep.keep KtC
      have F1Ct := Fp1.keep KtC nin0
      have F2Ct := Fp2.keep KtC nin0
      have BCt := own_B_keep Bp KtC nin0
      have BXCt := own_B_keep BXp KtC nin0
      obtain ⟨clC, ArC, SzC, HfC, GfC, XfC⟩ := id BtC
      have BtC' : own_B Z T81.heap rC (tn + 4) (own_p4 f_4 tn p5) := ⟨clC, ArC, SzC, HfC, GfC, XfC⟩
      have pre82 : ∀ t, Steps p.tables e below (T81.setTop (mkF m 397 #[.val (.int p1), .val (.int p2), .val (.long q3), .second, .val (.int p4), .val (.int p5), .val (.int dI), .val (.int dL), .val (.int dB), .val (.int bv), .val (.int dG), .val (.ref b17), .val (.ref b25), .val (.int (Int32.ofNat n_3)), .val (.ref b27), .val (.ref b0), .val (.int (Int32.ofNat n_3)), .val (.int (Int32.ofNat tn)), .val (.ref rA), .val (.ref rB), .val (.ref rC)] [(.int p4), (.int dG), (.int (Int32.ofNat n_3)), (.ref b25), (.ref rC)])) t → Steps p.tables e below _ t := fun t kt => pre80 t (by
        show Steps p.tables e below (T79.setTop (mkF m 370 #[.val (.int p1), .val (.int p2), .val (.long q3), .second, .val (.int p4), .val (.int p5), .val (.int dI), .val (.int dL), .val (.int dB), .val (.int bv), .val (.int dG), .val (.ref b17), .val (.ref b25), .val (.int (Int32.ofNat n_3)), .val (.ref b27), .val (.ref b0), .val (.int (Int32.ofNat n_3)), .val (.int (Int32.ofNat tn)), .val (.ref rA), .val (.ref rB), .unset] [(.ref b27)])) _
        refine st81.trans ?_
        refine XS.astore X81.here hx rfl (hb hby at_373) rfl rfl (l' := #[.val (.int p1), .val (.int p2), .val (.long q3), .second, .val (.int p4), .val (.int p5), .val (.int dI), .val (.int dL), .val (.int dB), .val (.int bv), .val (.int dG), .val (.ref b17), .val (.ref b25), .val (.int (Int32.ofNat n_3)), .val (.ref b27), .val (.ref b0), .val (.int (Int32.ofNat n_3)), .val (.int (Int32.ofNat tn)), .val (.ref rA), .val (.ref rB), .val (.ref rC)]) rfl ?_
        refine XS.aload X81.here hx rfl (hb hby at_375) rfl rfl ?_
        show Steps p.tables e below (T81.setTop (mkF m 377 #[.val (.int p1), .val (.int p2), .val (.long q3), .second, .val (.int p4), .val (.int p5), .val (.int dI), .val (.int dL), .val (.int dB), .val (.int bv), .val (.int dG), .val (.ref b17), .val (.ref b25), .val (.int (Int32.ofNat n_3)), .val (.ref b27), .val (.ref b0), .val (.int (Int32.ofNat n_3)), .val (.int (Int32.ofNat tn)), .val (.ref rA), .val (.ref rB), .val (.ref rC)] [(.ref rC)])) _
        refine X81.arraylength hx ArC.1 (State.isArrayOf_alike hZ.alike ArC.2.1) (g := (mkF m 377 #[.val (.int p1), .val (.int p2), .val (.long q3), .second, .val (.int p4), .val (.int p5), .val (.int dI), .val (.int dL), .val (.int dB), .val (.int bv), .val (.int dG), .val (.ref b17), .val (.ref b25), .val (.int (Int32.ofNat n_3)), .val (.ref b27), .val (.ref b0), .val (.int (Int32.ofNat n_3)), .val (.int (Int32.ofNat tn)), .val (.ref rA), .val (.ref rB), .val (.ref rC)] [(.ref rC)])) rfl rfl (hb hby at_377) _ ?_
        rw [len_of (by rw [SzC, clamp_of (c := (tn + 4)) rfl (by omega)] : clC.slots.size = (Int32.ofNat (tn + 4)).toNatClampNeg) (own_nneg (by omega))]
        refine XS.iload X81.here hx rfl (hb hby at_378) rfl ?_
        refine XS.iconst X81.here hx rfl (hb hby at_380) ?_
        show Steps p.tables e below (T81.setTop (mkF m 381 #[.val (.int p1), .val (.int p2), .val (.long q3), .second, .val (.int p4), .val (.int p5), .val (.int dI), .val (.int dL), .val (.int dB), .val (.int bv), .val (.int dG), .val (.ref b17), .val (.ref b25), .val (.int (Int32.ofNat n_3)), .val (.ref b27), .val (.ref b0), .val (.int (Int32.ofNat n_3)), .val (.int (Int32.ofNat tn)), .val (.ref rA), .val (.ref rB), .val (.ref rC)] [(.int (4 : Int32)), (.int (Int32.ofNat tn)), (.int (Int32.ofNat (tn + 4)))])) _
        refine XS.iadd X81.here hx rfl (hb hby at_381) rfl ?_
        have hc382 : (Int32.ofNat (tn + 4)) = ((Int32.ofNat tn) + (4 : Int32)) := (own_add tn 4).symm
        refine XS.icmpYes X81.here hx rfl (pc0 := 382) (pc' := 387) rfl (hb hby at_382) rfl (teq hc382).1 (by decide) (by decide) ?_
        refine XS.aload X81.here hx rfl (hb hby at_387) rfl rfl ?_
        show Steps p.tables e below (T81.setTop (mkF m 389 #[.val (.int p1), .val (.int p2), .val (.long q3), .second, .val (.int p4), .val (.int p5), .val (.int dI), .val (.int dL), .val (.int dB), .val (.int bv), .val (.int dG), .val (.ref b17), .val (.ref b25), .val (.int (Int32.ofNat n_3)), .val (.ref b27), .val (.ref b0), .val (.int (Int32.ofNat n_3)), .val (.int (Int32.ofNat tn)), .val (.ref rA), .val (.ref rB), .val (.ref rC)] [(.ref rC)])) _
        refine XS.aload X81.here hx rfl (hb hby at_389) rfl rfl ?_
        refine XS.iload X81.here hx rfl (hb hby at_391) rfl ?_
        refine XS.iload X81.here hx rfl (hb hby at_393) rfl ?_
        show Steps p.tables e below (T81.setTop (mkF m 395 #[.val (.int p1), .val (.int p2), .val (.long q3), .second, .val (.int p4), .val (.int p5), .val (.int dI), .val (.int dL), .val (.int dB), .val (.int bv), .val (.int dG), .val (.ref b17), .val (.ref b25), .val (.int (Int32.ofNat n_3)), .val (.ref b27), .val (.ref b0), .val (.int (Int32.ofNat n_3)), .val (.int (Int32.ofNat tn)), .val (.ref rA), .val (.ref rB), .val (.ref rC)] [(.int dG), (.int (Int32.ofNat n_3)), (.ref b25), (.ref rC)])) _
        refine XS.iload X81.here hx rfl (hb hby at_395) rfl ?_
        exact kt)
      obtain ⟨_, _, ⟨T83, L83, k83, n83⟩, -, X83, ⟨Lc83, hQ83, l83, y83, z83⟩, st83⟩ := Jvm.LawKit.callS X81 hx (y := (⟨"com/example/haulway/haulway/io/RecordOutputToBytesPinLaw", "check", "([B[BIZI)Z"⟩ : MethodName)) hown (mvT hZ (hw _ (List.mem_of_getElem? (i := 31) rfl))) (mvT hZ (hw _ (List.mem_of_getElem? (i := 32) rfl))) (mvT hZ (hw _ (List.mem_of_getElem? (i := 33) rfl))) (mvT hZ (hw _ (List.mem_of_getElem? (i := 34) rfl))) (by decide) (backOf (W := 0) (rm6 l Z a0 hw [] rC b25 (tn + 4) n_3 dG p4 (own_p4 f_4 tn p5) e_3 T81.heap n0 ZtC BtC' BXCt (by omega) (by omega) (by omega) ag5 big5) hZ (hw _ (List.mem_of_getElem? (i := 34) rfl)) (hw _ (List.mem_of_getElem? (i := 33) rfl)) (by decide) (by decide)) (g := (mkF m 397 #[.val (.int p1), .val (.int p2), .val (.long q3), .second, .val (.int p4), .val (.int p5), .val (.int dI), .val (.int dL), .val (.int dB), .val (.int bv), .val (.int dG), .val (.ref b17), .val (.ref b25), .val (.int (Int32.ofNat n_3)), .val (.ref b27), .val (.ref b0), .val (.int (Int32.ofNat n_3)), .val (.int (Int32.ofNat tn)), .val (.ref rA), .val (.ref rB), .val (.ref rC)] [(.int p4), (.int dG), (.int (Int32.ofNat n_3)), (.ref b25), (.ref rC)])) rfl (by rw [hml]; rfl) (argsL := [(.ref rC), (.ref b25), (.int (Int32.ofNat n_3)), (.int dG), (.int p4)]) (rest := []) (lenOf pd_11 rfl) rfl (by show 2 * 0 + _ ≤ _; exact Nat.le_of_eq rfl) (hb hby at_397) (fun _ _ => ⟨rfl, rfl, (by decide : 9 + 0 ≤ _), (by decide : 779 + 0 ≤ _)⟩)
      dsimp only [Pt.U, Pt.locs, Pt.cells, Pt.slots] at X83 l83 y83 z83 st83 hQ83
      subst l83 y83 z83
      obtain ⟨rfl, N83q, e83⟩ := hQ83
      have N83 := Fr.app N81 N83q
      have pre84 : ∀ t, Steps p.tables e below (T83.setTop (mkF m 425 #[.val (.int p1), .val (.int p2), .val (.long q3), .second, .val (.int p4), .val (.int p5), .val (.int dI), .val (.int dL), .val (.int dB), .val (.int bv), .val (.int dG), .val (.ref b17), .val (.ref b25), .val (.int (Int32.ofNat n_3)), .val (.ref b27), .val (.ref b0), .val (.int (Int32.ofNat n_3)), .val (.int (Int32.ofNat tn)), .val (.ref rA), .val (.ref rB), .val (.ref rC)] [(.int ((Int32.ofNat tn) + (1 : Int32))), (.ref rC)])) t → Steps p.tables e below _ t := fun t kt => pre82 t (by
        show Steps p.tables e below (T81.setTop (mkF m 397 #[.val (.int p1), .val (.int p2), .val (.long q3), .second, .val (.int p4), .val (.int p5), .val (.int dI), .val (.int dL), .val (.int dB), .val (.int bv), .val (.int dG), .val (.ref b17), .val (.ref b25), .val (.int (Int32.ofNat n_3)), .val (.ref b27), .val (.ref b0), .val (.int (Int32.ofNat n_3)), .val (.int (Int32.ofNat tn)), .val (.ref rA), .val (.ref rB), .val (.ref rC)] [(.int p4), (.int dG), (.int (Int32.ofNat n_3)), (.ref b25), (.ref rC)])) _
        refine st83 _ ?_
        have hc400 : ¬ ((1 : Int32) = (0 : Int32)) := by decide
        refine XS.ifYes X83.here hx rfl (pc0 := 400) (pc' := 405) rfl (hb hby at_400) rfl ((if0 _ _).trans (feq hc400).2) (by decide) (by decide) ?_
        refine XS.aload X83.here hx rfl (hb hby at_405) rfl rfl ?_
        show Steps p.tables e below (T83.setTop (mkF m 407 #[.val (.int p1), .val (.int p2), .val (.long q3), .second, .val (.int p4), .val (.int p5), .val (.int dI), .val (.int dL), .val (.int dB), .val (.int bv), .val (.int dG), .val (.ref b17), .val (.ref b25), .val (.int (Int32.ofNat n_3)), .val (.ref b27), .val (.ref b0), .val (.int (Int32.ofNat n_3)), .val (.int (Int32.ofNat tn)), .val (.ref rA), .val (.ref rB), .val (.ref rC)] [(.ref rC)])) _
        refine XS.iload X83.here hx rfl (hb hby at_407) rfl ?_
        refine X83.baloadBytes hx (j := (Int32.ofNat tn)) (v := (.int ((own_p4 f_4 tn p5) tn))) (by rw [e83]; exact ArC.1) (State.isArrayOf_alike hZ.alike ArC.2.1) ArC.2.2 (within (c := tn) rfl (by omega) (by omega)) (by rw [clamp_of (c := tn) rfl (by omega)]; exact HfC _ (by omega)) (g := (mkF m 409 #[.val (.int p1), .val (.int p2), .val (.long q3), .second, .val (.int p4), .val (.int p5), .val (.int dI), .val (.int dL), .val (.int dB), .val (.int bv), .val (.int dG), .val (.ref b17), .val (.ref b25), .val (.int (Int32.ofNat n_3)), .val (.ref b27), .val (.ref b0), .val (.int (Int32.ofNat n_3)), .val (.int (Int32.ofNat tn)), .val (.ref rA), .val (.ref rB), .val (.ref rC)] [(.int (Int32.ofNat tn)), (.ref rC)])) rfl rfl (hb hby at_409) _ ?_
        refine XS.iload X83.here hx rfl (hb hby at_410) rfl ?_
        show Steps p.tables e below (T83.setTop (mkF m 412 #[.val (.int p1), .val (.int p2), .val (.long q3), .second, .val (.int p4), .val (.int p5), .val (.int dI), .val (.int dL), .val (.int dB), .val (.int bv), .val (.int dG), .val (.ref b17), .val (.ref b25), .val (.int (Int32.ofNat n_3)), .val (.ref b27), .val (.ref b0), .val (.int (Int32.ofNat n_3)), .val (.int (Int32.ofNat tn)), .val (.ref rA), .val (.ref rB), .val (.ref rC)] [(.int p5), (.int ((own_p4 f_4 tn p5) tn))])) _
        refine XS.bipush X83.here hx rfl (hb hby at_412) ?_
        refine XS.iushr X83.here hx rfl (hb hby at_414) rfl ?_
        refine XS.i2b X83.here hx rfl (hb hby at_415) rfl ?_
        have hc416 : ((own_p4 f_4 tn p5) tn) = (((p5.toUInt32 >>> ((24 : Int32) &&& 31).toUInt32).toInt32).toInt8.toInt32) := l0
        show Steps p.tables e below (T83.setTop (mkF m 416 #[.val (.int p1), .val (.int p2), .val (.long q3), .second, .val (.int p4), .val (.int p5), .val (.int dI), .val (.int dL), .val (.int dB), .val (.int bv), .val (.int dG), .val (.ref b17), .val (.ref b25), .val (.int (Int32.ofNat n_3)), .val (.ref b27), .val (.ref b0), .val (.int (Int32.ofNat n_3)), .val (.int (Int32.ofNat tn)), .val (.ref rA), .val (.ref rB), .val (.ref rC)] [(.int (((p5.toUInt32 >>> ((24 : Int32) &&& 31).toUInt32).toInt32).toInt8.toInt32)), (.int ((own_p4 f_4 tn p5) tn))])) _
        refine XS.icmpNo X83.here hx rfl (hb hby at_416) rfl (teq hc416).2 ?_
        refine XS.aload X83.here hx rfl (hb hby at_419) rfl rfl ?_
        refine XS.iload X83.here hx rfl (hb hby at_421) rfl ?_
        show Steps p.tables e below (T83.setTop (mkF m 423 #[.val (.int p1), .val (.int p2), .val (.long q3), .second, .val (.int p4), .val (.int p5), .val (.int dI), .val (.int dL), .val (.int dB), .val (.int bv), .val (.int dG), .val (.ref b17), .val (.ref b25), .val (.int (Int32.ofNat n_3)), .val (.ref b27), .val (.ref b0), .val (.int (Int32.ofNat n_3)), .val (.int (Int32.ofNat tn)), .val (.ref rA), .val (.ref rB), .val (.ref rC)] [(.int (Int32.ofNat tn)), (.ref rC)])) _
        refine XS.iconst X83.here hx rfl (hb hby at_423) ?_
        refine XS.iadd X83.here hx rfl (hb hby at_424) rfl ?_
        exact kt)
      have hv85 : ((Int32.ofNat tn) + (1 : Int32)) = (Int32.ofNat (tn + 1)) := own_add tn 1
      rw [hv85] at pre84
      have pre86 : ∀ t, Steps p.tables e below (T83.setTop (mkF m 441 #[.val (.int p1), .val (.int p2), .val (.long q3), .second, .val (.int p4), .val (.int p5), .val (.int dI), .val (.int dL), .val (.int dB), .val (.int bv), .val (.int dG), .val (.ref b17), .val (.ref b25), .val (.int (Int32.ofNat n_3)), .val (.ref b27), .val (.ref b0), .val (.int (Int32.ofNat n_3)), .val (.int (Int32.ofNat tn)), .val (.ref rA), .val (.ref rB), .val (.ref rC)] [(.int ((Int32.ofNat tn) + (2 : Int32))), (.ref rC)])) t → Steps p.tables e below _ t := fun t kt => pre84 t (by
        show Steps p.tables e below (T83.setTop (mkF m 425 #[.val (.int p1), .val (.int p2), .val (.long q3), .second, .val (.int p4), .val (.int p5), .val (.int dI), .val (.int dL), .val (.int dB), .val (.int bv), .val (.int dG), .val (.ref b17), .val (.ref b25), .val (.int (Int32.ofNat n_3)), .val (.ref b27), .val (.ref b0), .val (.int (Int32.ofNat n_3)), .val (.int (Int32.ofNat tn)), .val (.ref rA), .val (.ref rB), .val (.ref rC)] [(.int (Int32.ofNat (tn + 1))), (.ref rC)])) _
        refine X83.baloadBytes hx (j := (Int32.ofNat (tn + 1))) (v := (.int ((own_p4 f_4 tn p5) (tn + 1)))) (by rw [e83]; exact ArC.1) (State.isArrayOf_alike hZ.alike ArC.2.1) ArC.2.2 (within (c := (tn + 1)) rfl (by omega) (by omega)) (by rw [clamp_of (c := (tn + 1)) rfl (by omega)]; exact HfC _ (by omega)) (g := (mkF m 425 #[.val (.int p1), .val (.int p2), .val (.long q3), .second, .val (.int p4), .val (.int p5), .val (.int dI), .val (.int dL), .val (.int dB), .val (.int bv), .val (.int dG), .val (.ref b17), .val (.ref b25), .val (.int (Int32.ofNat n_3)), .val (.ref b27), .val (.ref b0), .val (.int (Int32.ofNat n_3)), .val (.int (Int32.ofNat tn)), .val (.ref rA), .val (.ref rB), .val (.ref rC)] [(.int (Int32.ofNat (tn + 1))), (.ref rC)])) rfl rfl (hb hby at_425) _ ?_
        refine XS.iload X83.here hx rfl (hb hby at_426) rfl ?_
        refine XS.bipush X83.here hx rfl (hb hby at_428) ?_
        show Steps p.tables e below (T83.setTop (mkF m 430 #[.val (.int p1), .val (.int p2), .val (.long q3), .second, .val (.int p4), .val (.int p5), .val (.int dI), .val (.int dL), .val (.int dB), .val (.int bv), .val (.int dG), .val (.ref b17), .val (.ref b25), .val (.int (Int32.ofNat n_3)), .val (.ref b27), .val (.ref b0), .val (.int (Int32.ofNat n_3)), .val (.int (Int32.ofNat tn)), .val (.ref rA), .val (.ref rB), .val (.ref rC)] [(.int (16 : Int32)), (.int p5), (.int ((own_p4 f_4 tn p5) (tn + 1)))])) _
        refine XS.iushr X83.here hx rfl (hb hby at_430) rfl ?_
        refine XS.i2b X83.here hx rfl (hb hby at_431) rfl ?_
        have hc432 : ((own_p4 f_4 tn p5) (tn + 1)) = (((p5.toUInt32 >>> ((16 : Int32) &&& 31).toUInt32).toInt32).toInt8.toInt32) := l1
        refine XS.icmpNo X83.here hx rfl (hb hby at_432) rfl (teq hc432).2 ?_
        show Steps p.tables e below (T83.setTop (mkF m 435 #[.val (.int p1), .val (.int p2), .val (.long q3), .second, .val (.int p4), .val (.int p5), .val (.int dI), .val (.int dL), .val (.int dB), .val (.int bv), .val (.int dG), .val (.ref b17), .val (.ref b25), .val (.int (Int32.ofNat n_3)), .val (.ref b27), .val (.ref b0), .val (.int (Int32.ofNat n_3)), .val (.int (Int32.ofNat tn)), .val (.ref rA), .val (.ref rB), .val (.ref rC)] [])) _
        refine XS.aload X83.here hx rfl (hb hby at_435) rfl rfl ?_
        refine XS.iload X83.here hx rfl (hb hby at_437) rfl ?_
        refine XS.iconst X83.here hx rfl (hb hby at_439) ?_
        show Steps p.tables e below (T83.setTop (mkF m 440 #[.val (.int p1), .val (.int p2), .val (.long q3), .second, .val (.int p4), .val (.int p5), .val (.int dI), .val (.int dL), .val (.int dB), .val (.int bv), .val (.int dG), .val (.ref b17), .val (.ref b25), .val (.int (Int32.ofNat n_3)), .val (.ref b27), .val (.ref b0), .val (.int (Int32.ofNat n_3)), .val (.int (Int32.ofNat tn)), .val (.ref rA), .val (.ref rB), .val (.ref rC)] [(.int (2 : Int32)), (.int (Int32.ofNat tn)), (.ref rC)])) _
        refine XS.iadd X83.here hx rfl (hb hby at_440) rfl ?_
        exact kt)
      have hv87 : ((Int32.ofNat tn) + (2 : Int32)) = (Int32.ofNat (tn + 2)) := own_add tn 2
      rw [hv87] at pre86
      have pre88 : ∀ t, Steps p.tables e below (T83.setTop (mkF m 457 #[.val (.int p1), .val (.int p2), .val (.long q3), .second, .val (.int p4), .val (.int p5), .val (.int dI), .val (.int dL), .val (.int dB), .val (.int bv), .val (.int dG), .val (.ref b17), .val (.ref b25), .val (.int (Int32.ofNat n_3)), .val (.ref b27), .val (.ref b0), .val (.int (Int32.ofNat n_3)), .val (.int (Int32.ofNat tn)), .val (.ref rA), .val (.ref rB), .val (.ref rC)] [(.int ((Int32.ofNat tn) + (3 : Int32))), (.ref rC)])) t → Steps p.tables e below _ t := fun t kt => pre86 t (by
        show Steps p.tables e below (T83.setTop (mkF m 441 #[.val (.int p1), .val (.int p2), .val (.long q3), .second, .val (.int p4), .val (.int p5), .val (.int dI), .val (.int dL), .val (.int dB), .val (.int bv), .val (.int dG), .val (.ref b17), .val (.ref b25), .val (.int (Int32.ofNat n_3)), .val (.ref b27), .val (.ref b0), .val (.int (Int32.ofNat n_3)), .val (.int (Int32.ofNat tn)), .val (.ref rA), .val (.ref rB), .val (.ref rC)] [(.int (Int32.ofNat (tn + 2))), (.ref rC)])) _
        refine X83.baloadBytes hx (j := (Int32.ofNat (tn + 2))) (v := (.int ((own_p4 f_4 tn p5) (tn + 2)))) (by rw [e83]; exact ArC.1) (State.isArrayOf_alike hZ.alike ArC.2.1) ArC.2.2 (within (c := (tn + 2)) rfl (by omega) (by omega)) (by rw [clamp_of (c := (tn + 2)) rfl (by omega)]; exact HfC _ (by omega)) (g := (mkF m 441 #[.val (.int p1), .val (.int p2), .val (.long q3), .second, .val (.int p4), .val (.int p5), .val (.int dI), .val (.int dL), .val (.int dB), .val (.int bv), .val (.int dG), .val (.ref b17), .val (.ref b25), .val (.int (Int32.ofNat n_3)), .val (.ref b27), .val (.ref b0), .val (.int (Int32.ofNat n_3)), .val (.int (Int32.ofNat tn)), .val (.ref rA), .val (.ref rB), .val (.ref rC)] [(.int (Int32.ofNat (tn + 2))), (.ref rC)])) rfl rfl (hb hby at_441) _ ?_
        refine XS.iload X83.here hx rfl (hb hby at_442) rfl ?_
        refine XS.bipush X83.here hx rfl (hb hby at_444) ?_
        show Steps p.tables e below (T83.setTop (mkF m 446 #[.val (.int p1), .val (.int p2), .val (.long q3), .second, .val (.int p4), .val (.int p5), .val (.int dI), .val (.int dL), .val (.int dB), .val (.int bv), .val (.int dG), .val (.ref b17), .val (.ref b25), .val (.int (Int32.ofNat n_3)), .val (.ref b27), .val (.ref b0), .val (.int (Int32.ofNat n_3)), .val (.int (Int32.ofNat tn)), .val (.ref rA), .val (.ref rB), .val (.ref rC)] [(.int (8 : Int32)), (.int p5), (.int ((own_p4 f_4 tn p5) (tn + 2)))])) _
        refine XS.iushr X83.here hx rfl (hb hby at_446) rfl ?_
        refine XS.i2b X83.here hx rfl (hb hby at_447) rfl ?_
        have hc448 : ((own_p4 f_4 tn p5) (tn + 2)) = (((p5.toUInt32 >>> ((8 : Int32) &&& 31).toUInt32).toInt32).toInt8.toInt32) := l2
        refine XS.icmpNo X83.here hx rfl (hb hby at_448) rfl (teq hc448).2 ?_
        show Steps p.tables e below (T83.setTop (mkF m 451 #[.val (.int p1), .val (.int p2), .val (.long q3), .second, .val (.int p4), .val (.int p5), .val (.int dI), .val (.int dL), .val (.int dB), .val (.int bv), .val (.int dG), .val (.ref b17), .val (.ref b25), .val (.int (Int32.ofNat n_3)), .val (.ref b27), .val (.ref b0), .val (.int (Int32.ofNat n_3)), .val (.int (Int32.ofNat tn)), .val (.ref rA), .val (.ref rB), .val (.ref rC)] [])) _
        refine XS.aload X83.here hx rfl (hb hby at_451) rfl rfl ?_
        refine XS.iload X83.here hx rfl (hb hby at_453) rfl ?_
        refine XS.iconst X83.here hx rfl (hb hby at_455) ?_
        show Steps p.tables e below (T83.setTop (mkF m 456 #[.val (.int p1), .val (.int p2), .val (.long q3), .second, .val (.int p4), .val (.int p5), .val (.int dI), .val (.int dL), .val (.int dB), .val (.int bv), .val (.int dG), .val (.ref b17), .val (.ref b25), .val (.int (Int32.ofNat n_3)), .val (.ref b27), .val (.ref b0), .val (.int (Int32.ofNat n_3)), .val (.int (Int32.ofNat tn)), .val (.ref rA), .val (.ref rB), .val (.ref rC)] [(.int (3 : Int32)), (.int (Int32.ofNat tn)), (.ref rC)])) _
        refine XS.iadd X83.here hx rfl (hb hby at_456) rfl ?_
        exact kt)
      have hv89 : ((Int32.ofNat tn) + (3 : Int32)) = (Int32.ofNat (tn + 3)) := own_add tn 3
      rw [hv89] at pre88
      obtain ⟨fs, hr, hrun, hended, hW, hsame⟩ := X83.leave (v := some (.int (1 : Int32))) (fun h => by rw [Bd.returns] at h; cases h)
      refine ⟨_, _, pre88 _ ?_, hrun, hended, _, _, rfl, ?_, ⟨_, rfl⟩, hW, hsame.mono (by decide) (by decide)⟩
      · show Steps p.tables e below (T83.setTop (mkF m 457 #[.val (.int p1), .val (.int p2), .val (.long q3), .second, .val (.int p4), .val (.int p5), .val (.int dI), .val (.int dL), .val (.int dB), .val (.int bv), .val (.int dG), .val (.ref b17), .val (.ref b25), .val (.int (Int32.ofNat n_3)), .val (.ref b27), .val (.ref b0), .val (.int (Int32.ofNat n_3)), .val (.int (Int32.ofNat tn)), .val (.ref rA), .val (.ref rB), .val (.ref rC)] [(.int (Int32.ofNat (tn + 3))), (.ref rC)])) _
        refine X83.baloadBytes hx (j := (Int32.ofNat (tn + 3))) (v := (.int ((own_p4 f_4 tn p5) (tn + 3)))) (by rw [e83]; exact ArC.1) (State.isArrayOf_alike hZ.alike ArC.2.1) ArC.2.2 (within (c := (tn + 3)) rfl (by omega) (by omega)) (by rw [clamp_of (c := (tn + 3)) rfl (by omega)]; exact HfC _ (by omega)) (g := (mkF m 457 #[.val (.int p1), .val (.int p2), .val (.long q3), .second, .val (.int p4), .val (.int p5), .val (.int dI), .val (.int dL), .val (.int dB), .val (.int bv), .val (.int dG), .val (.ref b17), .val (.ref b25), .val (.int (Int32.ofNat n_3)), .val (.ref b27), .val (.ref b0), .val (.int (Int32.ofNat n_3)), .val (.int (Int32.ofNat tn)), .val (.ref rA), .val (.ref rB), .val (.ref rC)] [(.int (Int32.ofNat (tn + 3))), (.ref rC)])) rfl rfl (hb hby at_457) _ ?_
        refine XS.iload X83.here hx rfl (hb hby at_458) rfl ?_
        refine XS.i2b X83.here hx rfl (hb hby at_460) rfl ?_
        have hc461 : ((own_p4 f_4 tn p5) (tn + 3)) = (p5.toInt8.toInt32) := l3
        show Steps p.tables e below (T83.setTop (mkF m 461 #[.val (.int p1), .val (.int p2), .val (.long q3), .second, .val (.int p4), .val (.int p5), .val (.int dI), .val (.int dL), .val (.int dB), .val (.int bv), .val (.int dG), .val (.ref b17), .val (.ref b25), .val (.int (Int32.ofNat n_3)), .val (.ref b27), .val (.ref b0), .val (.int (Int32.ofNat n_3)), .val (.int (Int32.ofNat tn)), .val (.ref rA), .val (.ref rB), .val (.ref rC)] [(.int (p5.toInt8.toInt32)), (.int ((own_p4 f_4 tn p5) (tn + 3)))])) _
        refine XS.icmpNo X83.here hx rfl (hb hby at_461) rfl (teq hc461).2 ?_
        refine XS.iconst X83.here hx rfl (hb hby at_464) ?_
        refine XS.goto X83.here hx rfl (pc0 := 465) (pc' := 469) rfl (hb hby at_465) (by decide) (by decide) ?_
        show Steps p.tables e below (T83.setTop (mkF m 469 #[.val (.int p1), .val (.int p2), .val (.long q3), .second, .val (.int p4), .val (.int p5), .val (.int dI), .val (.int dL), .val (.int dB), .val (.int bv), .val (.int dG), .val (.ref b17), .val (.ref b25), .val (.int (Int32.ofNat n_3)), .val (.ref b27), .val (.ref b0), .val (.int (Int32.ofNat n_3)), .val (.int (Int32.ofNat tn)), .val (.ref rA), .val (.ref rB), .val (.ref rC)] [(.int (1 : Int32))])) _
        exact retN X83 hx (t := .boolean) Bd.returns (by simp) (hb hby at_469) hr
      · exact ⟨rfl, N83⟩
    · obtain ⟨cq90, kq90, q90a, q90b, q90c⟩ := isOf hZ e76 EBt
      obtain ⟨_, _, ⟨T90, L90, k90, n90⟩, -, X90, ⟨Lc90, hQ90, l90, y90, z90⟩, st90⟩ := X76.virtualBack hx (y := (⟨"com/example/haulway/haulway/io/RecordOutput", "putInt", "(I)Lcom/example/haulway/haulway/io/RecordOutput;"⟩ : MethodName)) (z := (⟨"com/example/haulway/haulway/io/RecordOutput", "putInt", "(I)Lcom/example/haulway/haulway/io/RecordOutput;"⟩ : MethodName)) hown (mvT hZ (hw _ (List.mem_of_getElem? (i := 38) rfl))) (mvT hZ (hw _ (List.mem_of_getElem? (i := 39) rfl))) (notFace_of_selects (args := #[]) (mvT hZ (hw _ (List.mem_of_getElem? (i := 41) rfl)))) (mvT hZ (hw _ (List.mem_of_getElem? (i := 41) rfl))) (mvT hZ (hw _ (List.mem_of_getElem? (i := 40) rfl))) (by decide) (backOf (W := 0) (rm8g l Z a0 hw [] b27 b4 cap tn f_4 p5 T74.heap n0 ZtB EBt F1Bt F2Bt BBt hc4 (by omega) (by omega) g_b27) hZ (hw _ (List.mem_of_getElem? (i := 42) rfl)) (hw _ (List.mem_of_getElem? (i := 3) rfl)) (by decide) (by decide)) q90a q90c (g := (mkF m 364 #[.val (.int p1), .val (.int p2), .val (.long q3), .second, .val (.int p4), .val (.int p5), .val (.int dI), .val (.int dL), .val (.int dB), .val (.int bv), .val (.int dG), .val (.ref b17), .val (.ref b25), .val (.int (Int32.ofNat n_3)), .val (.ref b27), .val (.ref b0), .val (.int (Int32.ofNat n_3)), .val (.int (Int32.ofNat tn)), .val (.ref rA), .val (.ref rB), .unset] [(.int p5), (.ref b27)])) rfl (by rw [hml]; rfl) (Steps.refl _) (argsL := [(.int p5)]) (rest := []) (lenOf pd_4 rfl) rfl (by show 2 * 0 + _ ≤ _; exact Nat.le_of_eq rfl) (hb hby at_364) (fun _ _ => ⟨rfl, e76, (by decide : 8 + 1 ≤ _), (by decide : 651 + 128 ≤ _)⟩)
      dsimp only [Pt.U, Pt.locs, Pt.cells, Pt.slots] at X90 l90 y90 z90 st90 hQ90
      subst l90 y90 z90
      obtain ⟨bp, rfl, N90q, Kp, szp, Ep, Fp1, Fp2, Bp⟩ := hQ90
      have N90 := Fr.app N76 N90q
      have BXp := own_B_keep BXBt Kp (ninS (Ne.symm nrx4) nin0)
      have hfj : ∀ j, j < tn → (own_p4 (own_cut f_4 cap) tn p5) j = f_4 j := fun j hj => by rw [own_p4_lt _ _ _ hj]; unfold own_cut; rw [if_pos (by omega)]
      have Zp : n0 ≤ T90.heap.size := Nat.le_trans ZtB Kp.1
      have ag5 : ∀ i, i < n_3 → (own_p4 (own_cut f_4 cap) tn p5) i = e_3 i := fun i hi => by rw [hfj i (by omega)]; exact ag_4 i hi
      have big5 : (¬ (dG = (0 : Int32)) → n_3 + 64 ≤ (tn + 4) ∧ (own_p4 (own_cut f_4 cap) tn p5) n_3 = (0 : Int32) ∧ (own_p4 (own_cut f_4 cap) tn p5) (n_3 + 1) = (0 : Int32) ∧ (own_p4 (own_cut f_4 cap) tn p5) (n_3 + 2) = (0 : Int32) ∧ (own_p4 (own_cut f_4 cap) tn p5) (n_3 + 3) = (60 : Int32) ∧ (own_p4 (own_cut f_4 cap) tn p5) (n_3 + 4) = (p4.toInt8.toInt32) ∧ (own_p4 (own_cut f_4 cap) tn p5) (n_3 + 5) = (0 : Int32) ∧ (own_p4 (own_cut f_4 cap) tn p5) (n_3 + 34) = (((p4.toUInt32 >>> ((16 : Int32) &&& 31).toUInt32).toInt32).toInt8.toInt32) ∧ (own_p4 (own_cut f_4 cap) tn p5) (n_3 + 62) = (0 : Int32) ∧ (own_p4 (own_cut f_4 cap) tn p5) (n_3 + 63) = (((p4.toUInt32 >>> ((8 : Int32) &&& 31).toUInt32).toInt32).toInt8.toInt32)) := fun q => by
        obtain ⟨q_, k0, k1, k2, k3, k4, k5, k34, k62, k63⟩ := big_4 q
        refine ⟨by omega, ?_, ?_, ?_, ?_, ?_, ?_, ?_, ?_, ?_⟩
        · rw [hfj _ (by omega)]; exact k0
        · rw [hfj _ (by omega)]; exact k1
        · rw [hfj _ (by omega)]; exact k2
        · rw [hfj _ (by omega)]; exact k3
        · rw [hfj _ (by omega)]; exact k4
        · rw [hfj _ (by omega)]; exact k5
        · rw [hfj _ (by omega)]; exact k34
        · rw [hfj _ (by omega)]; exact k62
        · rw [hfj _ (by omega)]; exact k63
      obtain ⟨l0, l1, l2, l3⟩ := own_p4_at (own_cut f_4 cap) tn p5
      rw [own_by0] at l3
      have pre91 : ∀ t, Steps p.tables e below (T90.setTop (mkF m 370 #[.val (.int p1), .val (.int p2), .val (.long q3), .second, .val (.int p4), .val (.int p5), .val (.int dI), .val (.int dL), .val (.int dB), .val (.int bv), .val (.int dG), .val (.ref b17), .val (.ref b25), .val (.int (Int32.ofNat n_3)), .val (.ref b27), .val (.ref b0), .val (.int (Int32.ofNat n_3)), .val (.int (Int32.ofNat tn)), .val (.ref rA), .val (.ref rB), .unset] [(.ref b27)])) t → Steps p.tables e below _ t := fun t kt => pre78 t (by
        show Steps p.tables e below (T76.setTop (mkF m 364 #[.val (.int p1), .val (.int p2), .val (.long q3), .second, .val (.int p4), .val (.int p5), .val (.int dI), .val (.int dL), .val (.int dB), .val (.int bv), .val (.int dG), .val (.ref b17), .val (.ref b25), .val (.int (Int32.ofNat n_3)), .val (.ref b27), .val (.ref b0), .val (.int (Int32.ofNat n_3)), .val (.int (Int32.ofNat tn)), .val (.ref rA), .val (.ref rB), .unset] [(.int p5), (.ref b27)])) _
        refine st90.trans ?_
        refine XS.pop X90.here hx rfl (hb hby at_367) rfl rfl ?_
        refine XS.aload X90.here hx rfl (hb hby at_368) rfl rfl ?_
        exact kt)
      obtain ⟨cq92, kq92, q92a, q92b, q92c⟩ := isOf hZ rfl Ep
      obtain ⟨_, _, ⟨T92, L92, k92, n92⟩, -, X92, ⟨Lc92, hQ92, l92, y92, z92⟩, st92⟩ := X90.virtualBack hx (y := (⟨"com/example/haulway/haulway/io/RecordOutput", "toBytes", "()[B"⟩ : MethodName)) (z := (⟨"com/example/haulway/haulway/io/RecordOutput", "toBytes", "()[B"⟩ : MethodName)) hown (mvT hZ (hw _ (List.mem_of_getElem? (i := 12) rfl))) (mvT hZ (hw _ (List.mem_of_getElem? (i := 13) rfl))) (notFace_of_selects (args := #[]) (mvT hZ (hw _ (List.mem_of_getElem? (i := 15) rfl)))) (mvT hZ (hw _ (List.mem_of_getElem? (i := 15) rfl))) (mvT hZ (hw _ (List.mem_of_getElem? (i := 14) rfl))) (by decide) (backOf (W := 0) (rm3 l Z a0 hw [] b27 bp 128 (tn + 4) (own_p4 (own_cut f_4 cap) tn p5) T90.heap n0 Zp Ep Fp1 Fp2 Bp (by omega) (by omega)) hZ (hw _ (List.mem_of_getElem? (i := 16) rfl)) (hw _ (List.mem_of_getElem? (i := 3) rfl)) (by decide) (by decide)) q92a q92c (g := (mkF m 370 #[.val (.int p1), .val (.int p2), .val (.long q3), .second, .val (.int p4), .val (.int p5), .val (.int dI), .val (.int dL), .val (.int dB), .val (.int bv), .val (.int dG), .val (.ref b17), .val (.ref b25), .val (.int (Int32.ofNat n_3)), .val (.ref b27), .val (.ref b0), .val (.int (Int32.ofNat n_3)), .val (.int (Int32.ofNat tn)), .val (.ref rA), .val (.ref rB), .unset] [(.ref b27)])) rfl (by rw [hml]; rfl) (Steps.refl _) (argsL := []) (rest := []) (lenOf pd_10 rfl) rfl (by show 2 * 0 + _ ≤ _; exact Nat.le_of_eq rfl) (hb hby at_370) (fun _ _ => ⟨rfl, rfl, (by decide : 9 + 1 ≤ _), (by decide : 779 + 128 ≤ _)⟩)
      dsimp only [Pt.U, Pt.locs, Pt.cells, Pt.slots] at X92 l92 y92 z92 st92 hQ92
      subst l92 y92 z92
      obtain ⟨rC, rfl, N92q, KtC, StC, BtC⟩ := hQ92
      have N92 := Fr.app N90 N92q
      have ZtC : n0 ≤ T92.heap.size := Nat.le_trans Zp KtC.1
      have ECt := Ep.keep KtC
      have F1Ct := Fp1.keep KtC nin0
      have F2Ct := Fp2.keep KtC nin0
      have BCt := own_B_keep Bp KtC nin0
      have BXCt := own_B_keep BXp KtC nin0
      obtain ⟨clC, ArC, SzC, HfC, GfC, XfC⟩ := id BtC
      have BtC' : own_B Z T92.heap rC (tn + 4) (own_p4 (own_cut f_4 cap) tn p5) := ⟨clC, ArC, SzC, HfC, GfC, XfC⟩
      have pre93 : ∀ t, Steps p.tables e below (T92.setTop (mkF m 397 #[.val (.int p1), .val (.int p2), .val (.long q3), .second, .val (.int p4), .val (.int p5), .val (.int dI), .val (.int dL), .val (.int dB), .val (.int bv), .val (.int dG), .val (.ref b17), .val (.ref b25), .val (.int (Int32.ofNat n_3)), .val (.ref b27), .val (.ref b0), .val (.int (Int32.ofNat n_3)), .val (.int (Int32.ofNat tn)), .val (.ref rA), .val (.ref rB), .val (.ref rC)] [(.int p4), (.int dG), (.int (Int32.ofNat n_3)), (.ref b25), (.ref rC)])) t → Steps p.tables e below _ t := fun t kt => pre91 t (by
        show Steps p.tables e below (T90.setTop (mkF m 370 #[.val (.int p1), .val (.int p2), .val (.long q3), .second, .val (.int p4), .val (.int p5), .val (.int dI), .val (.int dL), .val (.int dB), .val (.int bv), .val (.int dG), .val (.ref b17), .val (.ref b25), .val (.int (Int32.ofNat n_3)), .val (.ref b27), .val (.ref b0), .val (.int (Int32.ofNat n_3)), .val (.int (Int32.ofNat tn)), .val (.ref rA), .val (.ref rB), .unset] [(.ref b27)])) _
        refine st92.trans ?_
        refine XS.astore X92.here hx rfl (hb hby at_373) rfl rfl (l' := #[.val (.int p1), .val (.int p2), .val (.long q3), .second, .val (.int p4), .val (.int p5), .val (.int dI), .val (.int dL), .val (.int dB), .val (.int bv), .val (.int dG), .val (.ref b17), .val (.ref b25), .val (.int (Int32.ofNat n_3)), .val (.ref b27), .val (.ref b0), .val (.int (Int32.ofNat n_3)), .val (.int (Int32.ofNat tn)), .val (.ref rA), .val (.ref rB), .val (.ref rC)]) rfl ?_
        refine XS.aload X92.here hx rfl (hb hby at_375) rfl rfl ?_
        show Steps p.tables e below (T92.setTop (mkF m 377 #[.val (.int p1), .val (.int p2), .val (.long q3), .second, .val (.int p4), .val (.int p5), .val (.int dI), .val (.int dL), .val (.int dB), .val (.int bv), .val (.int dG), .val (.ref b17), .val (.ref b25), .val (.int (Int32.ofNat n_3)), .val (.ref b27), .val (.ref b0), .val (.int (Int32.ofNat n_3)), .val (.int (Int32.ofNat tn)), .val (.ref rA), .val (.ref rB), .val (.ref rC)] [(.ref rC)])) _
        refine X92.arraylength hx ArC.1 (State.isArrayOf_alike hZ.alike ArC.2.1) (g := (mkF m 377 #[.val (.int p1), .val (.int p2), .val (.long q3), .second, .val (.int p4), .val (.int p5), .val (.int dI), .val (.int dL), .val (.int dB), .val (.int bv), .val (.int dG), .val (.ref b17), .val (.ref b25), .val (.int (Int32.ofNat n_3)), .val (.ref b27), .val (.ref b0), .val (.int (Int32.ofNat n_3)), .val (.int (Int32.ofNat tn)), .val (.ref rA), .val (.ref rB), .val (.ref rC)] [(.ref rC)])) rfl rfl (hb hby at_377) _ ?_
        rw [len_of (by rw [SzC, clamp_of (c := (tn + 4)) rfl (by omega)] : clC.slots.size = (Int32.ofNat (tn + 4)).toNatClampNeg) (own_nneg (by omega))]
        refine XS.iload X92.here hx rfl (hb hby at_378) rfl ?_
        refine XS.iconst X92.here hx rfl (hb hby at_380) ?_
        show Steps p.tables e below (T92.setTop (mkF m 381 #[.val (.int p1), .val (.int p2), .val (.long q3), .second, .val (.int p4), .val (.int p5), .val (.int dI), .val (.int dL), .val (.int dB), .val (.int bv), .val (.int dG), .val (.ref b17), .val (.ref b25), .val (.int (Int32.ofNat n_3)), .val (.ref b27), .val (.ref b0), .val (.int (Int32.ofNat n_3)), .val (.int (Int32.ofNat tn)), .val (.ref rA), .val (.ref rB), .val (.ref rC)] [(.int (4 : Int32)), (.int (Int32.ofNat tn)), (.int (Int32.ofNat (tn + 4)))])) _
        refine XS.iadd X92.here hx rfl (hb hby at_381) rfl ?_
        have hc382 : (Int32.ofNat (tn + 4)) = ((Int32.ofNat tn) + (4 : Int32)) := (own_add tn 4).symm
        refine XS.icmpYes X92.here hx rfl (pc0 := 382) (pc' := 387) rfl (hb hby at_382) rfl (teq hc382).1 (by decide) (by decide) ?_
        refine XS.aload X92.here hx rfl (hb hby at_387) rfl rfl ?_
        show Steps p.tables e below (T92.setTop (mkF m 389 #[.val (.int p1), .val (.int p2), .val (.long q3), .second, .val (.int p4), .val (.int p5), .val (.int dI), .val (.int dL), .val (.int dB), .val (.int bv), .val (.int dG), .val (.ref b17), .val (.ref b25), .val (.int (Int32.ofNat n_3)), .val (.ref b27), .val (.ref b0), .val (.int (Int32.ofNat n_3)), .val (.int (Int32.ofNat tn)), .val (.ref rA), .val (.ref rB), .val (.ref rC)] [(.ref rC)])) _
        refine XS.aload X92.here hx rfl (hb hby at_389) rfl rfl ?_
        refine XS.iload X92.here hx rfl (hb hby at_391) rfl ?_
        refine XS.iload X92.here hx rfl (hb hby at_393) rfl ?_
        show Steps p.tables e below (T92.setTop (mkF m 395 #[.val (.int p1), .val (.int p2), .val (.long q3), .second, .val (.int p4), .val (.int p5), .val (.int dI), .val (.int dL), .val (.int dB), .val (.int bv), .val (.int dG), .val (.ref b17), .val (.ref b25), .val (.int (Int32.ofNat n_3)), .val (.ref b27), .val (.ref b0), .val (.int (Int32.ofNat n_3)), .val (.int (Int32.ofNat tn)), .val (.ref rA), .val (.ref rB), .val (.ref rC)] [(.int dG), (.int (Int32.ofNat n_3)), (.ref b25), (.ref rC)])) _
        refine XS.iload X92.here hx rfl (hb hby at_395) rfl ?_
        exact kt)
      obtain ⟨_, _, ⟨T94, L94, k94, n94⟩, -, X94, ⟨Lc94, hQ94, l94, y94, z94⟩, st94⟩ := Jvm.LawKit.callS X92 hx (y := (⟨"com/example/haulway/haulway/io/RecordOutputToBytesPinLaw", "check", "([B[BIZI)Z"⟩ : MethodName)) hown (mvT hZ (hw _ (List.mem_of_getElem? (i := 31) rfl))) (mvT hZ (hw _ (List.mem_of_getElem? (i := 32) rfl))) (mvT hZ (hw _ (List.mem_of_getElem? (i := 33) rfl))) (mvT hZ (hw _ (List.mem_of_getElem? (i := 34) rfl))) (by decide) (backOf (W := 0) (rm6 l Z a0 hw [] rC b25 (tn + 4) n_3 dG p4 (own_p4 (own_cut f_4 cap) tn p5) e_3 T92.heap n0 ZtC BtC' BXCt (by omega) (by omega) (by omega) ag5 big5) hZ (hw _ (List.mem_of_getElem? (i := 34) rfl)) (hw _ (List.mem_of_getElem? (i := 33) rfl)) (by decide) (by decide)) (g := (mkF m 397 #[.val (.int p1), .val (.int p2), .val (.long q3), .second, .val (.int p4), .val (.int p5), .val (.int dI), .val (.int dL), .val (.int dB), .val (.int bv), .val (.int dG), .val (.ref b17), .val (.ref b25), .val (.int (Int32.ofNat n_3)), .val (.ref b27), .val (.ref b0), .val (.int (Int32.ofNat n_3)), .val (.int (Int32.ofNat tn)), .val (.ref rA), .val (.ref rB), .val (.ref rC)] [(.int p4), (.int dG), (.int (Int32.ofNat n_3)), (.ref b25), (.ref rC)])) rfl (by rw [hml]; rfl) (argsL := [(.ref rC), (.ref b25), (.int (Int32.ofNat n_3)), (.int dG), (.int p4)]) (rest := []) (lenOf pd_11 rfl) rfl (by show 2 * 0 + _ ≤ _; exact Nat.le_of_eq rfl) (hb hby at_397) (fun _ _ => ⟨rfl, rfl, (by decide : 10 + 0 ≤ _), (by decide : 907 + 0 ≤ _)⟩)
      dsimp only [Pt.U, Pt.locs, Pt.cells, Pt.slots] at X94 l94 y94 z94 st94 hQ94
      subst l94 y94 z94
      obtain ⟨rfl, N94q, e94⟩ := hQ94
      have N94 := Fr.app N92 N94q
      have pre95 : ∀ t, Steps p.tables e below (T94.setTop (mkF m 425 #[.val (.int p1), .val (.int p2), .val (.long q3), .second, .val (.int p4), .val (.int p5), .val (.int dI), .val (.int dL), .val (.int dB), .val (.int bv), .val (.int dG), .val (.ref b17), .val (.ref b25), .val (.int (Int32.ofNat n_3)), .val (.ref b27), .val (.ref b0), .val (.int (Int32.ofNat n_3)), .val (.int (Int32.ofNat tn)), .val (.ref rA), .val (.ref rB), .val (.ref rC)] [(.int ((Int32.ofNat tn) + (1 : Int32))), (.ref rC)])) t → Steps p.tables e below _ t := fun t kt => pre93 t (by
        show Steps p.tables e below (T92.setTop (mkF m 397 #[.val (.int p1), .val (.int p2), .val (.long q3), .second, .val (.int p4), .val (.int p5), .val (.int dI), .val (.int dL), .val (.int dB), .val (.int bv), .val (.int dG), .val (.ref b17), .val (.ref b25), .val (.int (Int32.ofNat n_3)), .val (.ref b27), .val (.ref b0), .val (.int (Int32.ofNat n_3)), .val (.int (Int32.ofNat tn)), .val (.ref rA), .val (.ref rB), .val (.ref rC)] [(.int p4), (.int dG), (.int (Int32.ofNat n_3)), (.ref b25), (.ref rC)])) _
        refine st94 _ ?_
        have hc400 : ¬ ((1 : Int32) = (0 : Int32)) := by decide
        refine XS.ifYes X94.here hx rfl (pc0 := 400) (pc' := 405) rfl (hb hby at_400) rfl ((if0 _ _).trans (feq hc400).2) (by decide) (by decide) ?_
        refine XS.aload X94.here hx rfl (hb hby at_405) rfl rfl ?_
        show Steps p.tables e below (T94.setTop (mkF m 407 #[.val (.int p1), .val (.int p2), .val (.long q3), .second, .val (.int p4), .val (.int p5), .val (.int dI), .val (.int dL), .val (.int dB), .val (.int bv), .val (.int dG), .val (.ref b17), .val (.ref b25), .val (.int (Int32.ofNat n_3)), .val (.ref b27), .val (.ref b0), .val (.int (Int32.ofNat n_3)), .val (.int (Int32.ofNat tn)), .val (.ref rA), .val (.ref rB), .val (.ref rC)] [(.ref rC)])) _
        refine XS.iload X94.here hx rfl (hb hby at_407) rfl ?_
        refine X94.baloadBytes hx (j := (Int32.ofNat tn)) (v := (.int ((own_p4 (own_cut f_4 cap) tn p5) tn))) (by rw [e94]; exact ArC.1) (State.isArrayOf_alike hZ.alike ArC.2.1) ArC.2.2 (within (c := tn) rfl (by omega) (by omega)) (by rw [clamp_of (c := tn) rfl (by omega)]; exact HfC _ (by omega)) (g := (mkF m 409 #[.val (.int p1), .val (.int p2), .val (.long q3), .second, .val (.int p4), .val (.int p5), .val (.int dI), .val (.int dL), .val (.int dB), .val (.int bv), .val (.int dG), .val (.ref b17), .val (.ref b25), .val (.int (Int32.ofNat n_3)), .val (.ref b27), .val (.ref b0), .val (.int (Int32.ofNat n_3)), .val (.int (Int32.ofNat tn)), .val (.ref rA), .val (.ref rB), .val (.ref rC)] [(.int (Int32.ofNat tn)), (.ref rC)])) rfl rfl (hb hby at_409) _ ?_
        refine XS.iload X94.here hx rfl (hb hby at_410) rfl ?_
        show Steps p.tables e below (T94.setTop (mkF m 412 #[.val (.int p1), .val (.int p2), .val (.long q3), .second, .val (.int p4), .val (.int p5), .val (.int dI), .val (.int dL), .val (.int dB), .val (.int bv), .val (.int dG), .val (.ref b17), .val (.ref b25), .val (.int (Int32.ofNat n_3)), .val (.ref b27), .val (.ref b0), .val (.int (Int32.ofNat n_3)), .val (.int (Int32.ofNat tn)), .val (.ref rA), .val (.ref rB), .val (.ref rC)] [(.int p5), (.int ((own_p4 (own_cut f_4 cap) tn p5) tn))])) _
        refine XS.bipush X94.here hx rfl (hb hby at_412) ?_
        refine XS.iushr X94.here hx rfl (hb hby at_414) rfl ?_
        refine XS.i2b X94.here hx rfl (hb hby at_415) rfl ?_
        have hc416 : ((own_p4 (own_cut f_4 cap) tn p5) tn) = (((p5.toUInt32 >>> ((24 : Int32) &&& 31).toUInt32).toInt32).toInt8.toInt32) := l0
        show Steps p.tables e below (T94.setTop (mkF m 416 #[.val (.int p1), .val (.int p2), .val (.long q3), .second, .val (.int p4), .val (.int p5), .val (.int dI), .val (.int dL), .val (.int dB), .val (.int bv), .val (.int dG), .val (.ref b17), .val (.ref b25), .val (.int (Int32.ofNat n_3)), .val (.ref b27), .val (.ref b0), .val (.int (Int32.ofNat n_3)), .val (.int (Int32.ofNat tn)), .val (.ref rA), .val (.ref rB), .val (.ref rC)] [(.int (((p5.toUInt32 >>> ((24 : Int32) &&& 31).toUInt32).toInt32).toInt8.toInt32)), (.int ((own_p4 (own_cut f_4 cap) tn p5) tn))])) _
        refine XS.icmpNo X94.here hx rfl (hb hby at_416) rfl (teq hc416).2 ?_
        refine XS.aload X94.here hx rfl (hb hby at_419) rfl rfl ?_
        refine XS.iload X94.here hx rfl (hb hby at_421) rfl ?_
        show Steps p.tables e below (T94.setTop (mkF m 423 #[.val (.int p1), .val (.int p2), .val (.long q3), .second, .val (.int p4), .val (.int p5), .val (.int dI), .val (.int dL), .val (.int dB), .val (.int bv), .val (.int dG), .val (.ref b17), .val (.ref b25), .val (.int (Int32.ofNat n_3)), .val (.ref b27), .val (.ref b0), .val (.int (Int32.ofNat n_3)), .val (.int (Int32.ofNat tn)), .val (.ref rA), .val (.ref rB), .val (.ref rC)] [(.int (Int32.ofNat tn)), (.ref rC)])) _
        refine XS.iconst X94.here hx rfl (hb hby at_423) ?_
        refine XS.iadd X94.here hx rfl (hb hby at_424) rfl ?_
        exact kt)
      have hv96 : ((Int32.ofNat tn) + (1 : Int32)) = (Int32.ofNat (tn + 1)) := own_add tn 1
      rw [hv96] at pre95
      have pre97 : ∀ t, Steps p.tables e below (T94.setTop (mkF m 441 #[.val (.int p1), .val (.int p2), .val (.long q3), .second, .val (.int p4), .val (.int p5), .val (.int dI), .val (.int dL), .val (.int dB), .val (.int bv), .val (.int dG), .val (.ref b17), .val (.ref b25), .val (.int (Int32.ofNat n_3)), .val (.ref b27), .val (.ref b0), .val (.int (Int32.ofNat n_3)), .val (.int (Int32.ofNat tn)), .val (.ref rA), .val (.ref rB), .val (.ref rC)] [(.int ((Int32.ofNat tn) + (2 : Int32))), (.ref rC)])) t → Steps p.tables e below _ t := fun t kt => pre95 t (by
        show Steps p.tables e below (T94.setTop (mkF m 425 #[.val (.int p1), .val (.int p2), .val (.long q3), .second, .val (.int p4), .val (.int p5), .val (.int dI), .val (.int dL), .val (.int dB), .val (.int bv), .val (.int dG), .val (.ref b17), .val (.ref b25), .val (.int (Int32.ofNat n_3)), .val (.ref b27), .val (.ref b0), .val (.int (Int32.ofNat n_3)), .val (.int (Int32.ofNat tn)), .val (.ref rA), .val (.ref rB), .val (.ref rC)] [(.int (Int32.ofNat (tn + 1))), (.ref rC)])) _
        refine X94.baloadBytes hx (j := (Int32.ofNat (tn + 1))) (v := (.int ((own_p4 (own_cut f_4 cap) tn p5) (tn + 1)))) (by rw [e94]; exact ArC.1) (State.isArrayOf_alike hZ.alike ArC.2.1) ArC.2.2 (within (c := (tn + 1)) rfl (by omega) (by omega)) (by rw [clamp_of (c := (tn + 1)) rfl (by omega)]; exact HfC _ (by omega)) (g := (mkF m 425 #[.val (.int p1), .val (.int p2), .val (.long q3), .second, .val (.int p4), .val (.int p5), .val (.int dI), .val (.int dL), .val (.int dB), .val (.int bv), .val (.int dG), .val (.ref b17), .val (.ref b25), .val (.int (Int32.ofNat n_3)), .val (.ref b27), .val (.ref b0), .val (.int (Int32.ofNat n_3)), .val (.int (Int32.ofNat tn)), .val (.ref rA), .val (.ref rB), .val (.ref rC)] [(.int (Int32.ofNat (tn + 1))), (.ref rC)])) rfl rfl (hb hby at_425) _ ?_
        refine XS.iload X94.here hx rfl (hb hby at_426) rfl ?_
        refine XS.bipush X94.here hx rfl (hb hby at_428) ?_
        show Steps p.tables e below (T94.setTop (mkF m 430 #[.val (.int p1), .val (.int p2), .val (.long q3), .second, .val (.int p4), .val (.int p5), .val (.int dI), .val (.int dL), .val (.int dB), .val (.int bv), .val (.int dG), .val (.ref b17), .val (.ref b25), .val (.int (Int32.ofNat n_3)), .val (.ref b27), .val (.ref b0), .val (.int (Int32.ofNat n_3)), .val (.int (Int32.ofNat tn)), .val (.ref rA), .val (.ref rB), .val (.ref rC)] [(.int (16 : Int32)), (.int p5), (.int ((own_p4 (own_cut f_4 cap) tn p5) (tn + 1)))])) _
        refine XS.iushr X94.here hx rfl (hb hby at_430) rfl ?_
        refine XS.i2b X94.here hx rfl (hb hby at_431) rfl ?_
        have hc432 : ((own_p4 (own_cut f_4 cap) tn p5) (tn + 1)) = (((p5.toUInt32 >>> ((16 : Int32) &&& 31).toUInt32).toInt32).toInt8.toInt32) := l1
        refine XS.icmpNo X94.here hx rfl (hb hby at_432) rfl (teq hc432).2 ?_
        show Steps p.tables e below (T94.setTop (mkF m 435 #[.val (.int p1), .val (.int p2), .val (.long q3), .second, .val (.int p4), .val (.int p5), .val (.int dI), .val (.int dL), .val (.int dB), .val (.int bv), .val (.int dG), .val (.ref b17), .val (.ref b25), .val (.int (Int32.ofNat n_3)), .val (.ref b27), .val (.ref b0), .val (.int (Int32.ofNat n_3)), .val (.int (Int32.ofNat tn)), .val (.ref rA), .val (.ref rB), .val (.ref rC)] [])) _
        refine XS.aload X94.here hx rfl (hb hby at_435) rfl rfl ?_
        refine XS.iload X94.here hx rfl (hb hby at_437) rfl ?_
        refine XS.iconst X94.here hx rfl (hb hby at_439) ?_
        show Steps p.tables e below (T94.setTop (mkF m 440 #[.val (.int p1), .val (.int p2), .val (.long q3), .second, .val (.int p4), .val (.int p5), .val (.int dI), .val (.int dL), .val (.int dB), .val (.int bv), .val (.int dG), .val (.ref b17), .val (.ref b25), .val (.int (Int32.ofNat n_3)), .val (.ref b27), .val (.ref b0), .val (.int (Int32.ofNat n_3)), .val (.int (Int32.ofNat tn)), .val (.ref rA), .val (.ref rB), .val (.ref rC)] [(.int (2 : Int32)), (.int (Int32.ofNat tn)), (.ref rC)])) _
        refine XS.iadd X94.here hx rfl (hb hby at_440) rfl ?_
        exact kt)
      have hv98 : ((Int32.ofNat tn) + (2 : Int32)) = (Int32.ofNat (tn + 2)) := own_add tn 2
      rw [hv98] at pre97
      have pre99 : ∀ t, Steps p.tables e below (T94.setTop (mkF m 457 #[.val (.int p1), .val (.int p2), .val (.long q3), .second, .val (.int p4), .val (.int p5), .val (.int dI), .val (.int dL), .val (.int dB), .val (.int bv), .val (.int dG), .val (.ref b17), .val (.ref b25), .val (.int (Int32.ofNat n_3)), .val (.ref b27), .val (.ref b0), .val (.int (Int32.ofNat n_3)), .val (.int (Int32.ofNat tn)), .val (.ref rA), .val (.ref rB), .val (.ref rC)] [(.int ((Int32.ofNat tn) + (3 : Int32))), (.ref rC)])) t → Steps p.tables e below _ t := fun t kt => pre97 t (by
        show Steps p.tables e below (T94.setTop (mkF m 441 #[.val (.int p1), .val (.int p2), .val (.long q3), .second, .val (.int p4), .val (.int p5), .val (.int dI), .val (.int dL), .val (.int dB), .val (.int bv), .val (.int dG), .val (.ref b17), .val (.ref b25), .val (.int (Int32.ofNat n_3)), .val (.ref b27), .val (.ref b0), .val (.int (Int32.ofNat n_3)), .val (.int (Int32.ofNat tn)), .val (.ref rA), .val (.ref rB), .val (.ref rC)] [(.int (Int32.ofNat (tn + 2))), (.ref rC)])) _
        refine X94.baloadBytes hx (j := (Int32.ofNat (tn + 2))) (v := (.int ((own_p4 (own_cut f_4 cap) tn p5) (tn + 2)))) (by rw [e94]; exact ArC.1) (State.isArrayOf_alike hZ.alike ArC.2.1) ArC.2.2 (within (c := (tn + 2)) rfl (by omega) (by omega)) (by rw [clamp_of (c := (tn + 2)) rfl (by omega)]; exact HfC _ (by omega)) (g := (mkF m 441 #[.val (.int p1), .val (.int p2), .val (.long q3), .second, .val (.int p4), .val (.int p5), .val (.int dI), .val (.int dL), .val (.int dB), .val (.int bv), .val (.int dG), .val (.ref b17), .val (.ref b25), .val (.int (Int32.ofNat n_3)), .val (.ref b27), .val (.ref b0), .val (.int (Int32.ofNat n_3)), .val (.int (Int32.ofNat tn)), .val (.ref rA), .val (.ref rB), .val (.ref rC)] [(.int (Int32.ofNat (tn + 2))), (.ref rC)])) rfl rfl (hb hby at_441) _ ?_
        refine XS.iload X94.here hx rfl (hb hby at_442) rfl ?_
        refine XS.bipush X94.here hx rfl (hb hby at_444) ?_
        show Steps p.tables e below (T94.setTop (mkF m 446 #[.val (.int p1), .val (.int p2), .val (.long q3), .second, .val (.int p4), .val (.int p5), .val (.int dI), .val (.int dL), .val (.int dB), .val (.int bv), .val (.int dG), .val (.ref b17), .val (.ref b25), .val (.int (Int32.ofNat n_3)), .val (.ref b27), .val (.ref b0), .val (.int (Int32.ofNat n_3)), .val (.int (Int32.ofNat tn)), .val (.ref rA), .val (.ref rB), .val (.ref rC)] [(.int (8 : Int32)), (.int p5), (.int ((own_p4 (own_cut f_4 cap) tn p5) (tn + 2)))])) _
        refine XS.iushr X94.here hx rfl (hb hby at_446) rfl ?_
        refine XS.i2b X94.here hx rfl (hb hby at_447) rfl ?_
        have hc448 : ((own_p4 (own_cut f_4 cap) tn p5) (tn + 2)) = (((p5.toUInt32 >>> ((8 : Int32) &&& 31).toUInt32).toInt32).toInt8.toInt32) := l2
        refine XS.icmpNo X94.here hx rfl (hb hby at_448) rfl (teq hc448).2 ?_
        show Steps p.tables e below (T94.setTop (mkF m 451 #[.val (.int p1), .val (.int p2), .val (.long q3), .second, .val (.int p4), .val (.int p5), .val (.int dI), .val (.int dL), .val (.int dB), .val (.int bv), .val (.int dG), .val (.ref b17), .val (.ref b25), .val (.int (Int32.ofNat n_3)), .val (.ref b27), .val (.ref b0), .val (.int (Int32.ofNat n_3)), .val (.int (Int32.ofNat tn)), .val (.ref rA), .val (.ref rB), .val (.ref rC)] [])) _
        refine XS.aload X94.here hx rfl (hb hby at_451) rfl rfl ?_
        refine XS.iload X94.here hx rfl (hb hby at_453) rfl ?_
        refine XS.iconst X94.here hx rfl (hb hby at_455) ?_
        show Steps p.tables e below (T94.setTop (mkF m 456 #[.val (.int p1), .val (.int p2), .val (.long q3), .second, .val (.int p4), .val (.int p5), .val (.int dI), .val (.int dL), .val (.int dB), .val (.int bv), .val (.int dG), .val (.ref b17), .val (.ref b25), .val (.int (Int32.ofNat n_3)), .val (.ref b27), .val (.ref b0), .val (.int (Int32.ofNat n_3)), .val (.int (Int32.ofNat tn)), .val (.ref rA), .val (.ref rB), .val (.ref rC)] [(.int (3 : Int32)), (.int (Int32.ofNat tn)), (.ref rC)])) _
        refine XS.iadd X94.here hx rfl (hb hby at_456) rfl ?_
        exact kt)
      have hv100 : ((Int32.ofNat tn) + (3 : Int32)) = (Int32.ofNat (tn + 3)) := own_add tn 3
      rw [hv100] at pre99
      obtain ⟨fs, hr, hrun, hended, hW, hsame⟩ := X94.leave (v := some (.int (1 : Int32))) (fun h => by rw [Bd.returns] at h; cases h)
      refine ⟨_, _, pre99 _ ?_, hrun, hended, _, _, rfl, ?_, ⟨_, rfl⟩, hW, hsame.mono (by decide) (by decide)⟩
      · show Steps p.tables e below (T94.setTop (mkF m 457 #[.val (.int p1), .val (.int p2), .val (.long q3), .second, .val (.int p4), .val (.int p5), .val (.int dI), .val (.int dL), .val (.int dB), .val (.int bv), .val (.int dG), .val (.ref b17), .val (.ref b25), .val (.int (Int32.ofNat n_3)), .val (.ref b27), .val (.ref b0), .val (.int (Int32.ofNat n_3)), .val (.int (Int32.ofNat tn)), .val (.ref rA), .val (.ref rB), .val (.ref rC)] [(.int (Int32.ofNat (tn + 3))), (.ref rC)])) _
        refine X94.baloadBytes hx (j := (Int32.ofNat (tn + 3))) (v := (.int ((own_p4 (own_cut f_4 cap) tn p5) (tn + 3)))) (by rw [e94]; exact ArC.1) (State.isArrayOf_alike hZ.alike ArC.2.1) ArC.2.2 (within (c := (tn + 3)) rfl (by omega) (by omega)) (by rw [clamp_of (c := (tn + 3)) rfl (by omega)]; exact HfC _ (by omega)) (g := (mkF m 457 #[.val (.int p1), .val (.int p2), .val (.long q3), .second, .val (.int p4), .val (.int p5), .val (.int dI), .val (.int dL), .val (.int dB), .val (.int bv), .val (.int dG), .val (.ref b17), .val (.ref b25), .val (.int (Int32.ofNat n_3)), .val (.ref b27), .val (.ref b0), .val (.int (Int32.ofNat n_3)), .val (.int (Int32.ofNat tn)), .val (.ref rA), .val (.ref rB), .val (.ref rC)] [(.int (Int32.ofNat (tn + 3))), (.ref rC)])) rfl rfl (hb hby at_457) _ ?_
        refine XS.iload X94.here hx rfl (hb hby at_458) rfl ?_
        refine XS.i2b X94.here hx rfl (hb hby at_460) rfl ?_
        have hc461 : ((own_p4 (own_cut f_4 cap) tn p5) (tn + 3)) = (p5.toInt8.toInt32) := l3
        show Steps p.tables e below (T94.setTop (mkF m 461 #[.val (.int p1), .val (.int p2), .val (.long q3), .second, .val (.int p4), .val (.int p5), .val (.int dI), .val (.int dL), .val (.int dB), .val (.int bv), .val (.int dG), .val (.ref b17), .val (.ref b25), .val (.int (Int32.ofNat n_3)), .val (.ref b27), .val (.ref b0), .val (.int (Int32.ofNat n_3)), .val (.int (Int32.ofNat tn)), .val (.ref rA), .val (.ref rB), .val (.ref rC)] [(.int (p5.toInt8.toInt32)), (.int ((own_p4 (own_cut f_4 cap) tn p5) (tn + 3)))])) _
        refine XS.icmpNo X94.here hx rfl (hb hby at_461) rfl (teq hc461).2 ?_
        refine XS.iconst X94.here hx rfl (hb hby at_464) ?_
        refine XS.goto X94.here hx rfl (pc0 := 465) (pc' := 469) rfl (hb hby at_465) (by decide) (by decide) ?_
        show Steps p.tables e below (T94.setTop (mkF m 469 #[.val (.int p1), .val (.int p2), .val (.long q3), .second, .val (.int p4), .val (.int p5), .val (.int dI), .val (.int dL), .val (.int dB), .val (.int bv), .val (.int dG), .val (.ref b17), .val (.ref b25), .val (.int (Int32.ofNat n_3)), .val (.ref b27), .val (.ref b0), .val (.int (Int32.ofNat n_3)), .val (.int (Int32.ofNat tn)), .val (.ref rA), .val (.ref rB), .val (.ref rC)] [(.int (1 : Int32))])) _
        exact retN X94 hx (t := .boolean) Bd.returns (by simp) (hb hby at_469) hr
      · exact ⟨rfl, N94⟩
set_option maxRecDepth 65536 in
set_option maxHeartbeats 40000000 in
theorem comes_1 {Post : Tables → Env → Array Value → State → Outcome → State → Prop} (hpost : ∀ tb e args s v u, (limb_1_1.after args s (.returned v) u = true ∧ limb_1_2.after args s (.returned v) u = true ∧ True) → FrameEnd s (.returned v) u (Jvm.fieldLocs frame_1_writes args s ++ Jvm.arrayLocs frame_1_arrays args s ++ Jvm.staticLocs frame_1_statics s) 32 1088 → Post tb e args s (.returned v) u) :
    ArmFor flags0 classFile x code maxLocals ret World_1 tables_1 room_1 Calls_1 rest_1 Pre_1 Post := by
  intro l hfl _ _ p e ha hc hk s m args below hf hA hF happ hP
  obtain ⟨hcalls, hrest, hpre⟩ := hP
  obtain ⟨-, -, -, hnamed, -, -, -, hat⟩ := (Spec.applies_iff hf).mp happ
  obtain ⟨hg, hn⟩ := and_e (Cond.before_iff.mp (show (Jvm.Cond.and given_1 narrow_1).before args s = true from hpre))
  obtain ⟨gc, gr0⟩ := and_e hg
  obtain ⟨ga0, gr1⟩ := and_e gr0
  obtain ⟨ga1, gr2⟩ := and_e gr1
  obtain ⟨ga2, gr3⟩ := and_e gr2
  obtain ⟨ga3, gr4⟩ := and_e gr3
  obtain ⟨w0, w1, w2, w3, w4, rfl⟩ : ∃ w0 w1 w2 w3 w4 : Value, args = #[w0, w1, w2, w3, w4] := by
    have hs : args.size = 5 := by simpa [Cond.value, given_1] using gc
    obtain ⟨L⟩ := args
    match L, hs with
    | [w0, w1, w2, w3, w4], _ => exact ⟨w0, w1, w2, w3, w4, rfl⟩
  have hw := fun d (hd : d ∈ tables_1) => atoms_spec (ws := Jvm.Cond.code x code maxLocals ret :: tables_1) hat d (List.mem_cons_of_mem _ hd)
  have hfit : Fit s := fun {y c} hc i hi => by
    obtain ⟨ha, rfl⟩ := Array.getElem?_eq_some_iff.mp hc
    have q := List.all_eq_true.mp ((Array.all_eq_true_iff_forall_mem.mp hF) _ (Array.getElem_mem ha)) i (List.mem_range.mpr hi)
    simpa [Array.getElem?_eq_getElem hi] using q
  obtain ⟨i0, ei0⟩ := is_v ga0
  obtain rfl : w0 = (.int i0) := Option.some.inj ei0
  obtain ⟨i1, ei1⟩ := is_v ga1
  obtain rfl : w1 = (.int i1) := Option.some.inj ei1
  obtain ⟨i2, ei2⟩ := isL_v ga2
  obtain rfl : w2 = (.long i2) := Option.some.inj ei2
  obtain ⟨i3, ei3⟩ := is_v ga3
  obtain rfl : w3 = (.int i3) := Option.some.inj ei3
  obtain ⟨i4, ei4⟩ := is_v gr4
  obtain rfl : w4 = (.int i4) := Option.some.inj ei4
  obtain ⟨n, o, h1, h2, h3, _, L, rfl, ⟨rfl, N⟩, hq⟩ := rm0 l s _ hw tables_1 i0 i1 i2 i3 i4 s.heap s.heap.size (Nat.le_refl _) p e ha hc hk s m _ below hf ((Spec.applies_iff_loose hf).mp happ).1 ⟨rfl, State.Warmed39.refl s, rfl⟩ trivial
  refine ⟨n, _, h1, h2, h3, hpost _ _ _ _ _ _ ⟨Cond.after_iff.mpr rfl, Cond.after_iff.mpr (eq_i res_at (Term.int_eval (1)) rfl), trivial⟩ ⟨hq.1, hq.2.1, (hq.2.2.sift fun y hy => Or.inr (N y hy)).mono (by decide) (by decide)⟩⟩
theorem main_1_1 : Claimed_1_1 := comes_1 fun _ _ _ _ _ _ h hF => ⟨h.1, hF⟩
theorem main_1_2 : Claimed_1_2 := comes_1 fun _ _ _ _ _ _ h hF => ⟨h.2.1, hF⟩
end Jvm.Pilot.@@N@@
namespace Jvm.Pilot.@@N@@
open Jvm Jvm.ClassFile Sem Op Lib Jvm.Free Jvm.Stand Jvm.Pilot.@@N@@.Jvm.D
/-! MADE BY PROGRAM (witnessworld.py) out of the Statement's table words and the real class files: 12 classes; the members and pool entries that the words name. The judged class is class 1, her method 1. -/
namespace start1
open Jvm.ClassFile
def u (s : String) : CpInfo := .utf8 (stringToUtf16 s)
/-- a pool by its gaps: so many unusable entries, then the entry; so many at the end -/
def gap : Nat → List CpInfo → List CpInfo
  | 0, r => r
  | n + 1, r => .unusable :: gap n r
def poolList (es : List (Nat × CpInfo)) (last : Nat) : List CpInfo := es.foldr (fun e r => gap e.1 (e.2 :: r)) (gap last [])
def pool (es : List (Nat × CpInfo)) (last : Nat) : Array CpInfo := ⟨poolList es last⟩
def fileOf (pool : Array CpInfo) (this : Nat) (attrs : Array Attribute := #[]) (ms : Array MethodInfo := #[]) (fl : Nat := 33) (sup : Nat := 0) (ifs : Array Nat := #[]) (fds : Array FieldInfo := #[]) : ClassFile where
  minorVersion := 0
  majorVersion := 65
  constantPool := pool
  accessFlags := fl
  thisClass := this
  superClass := sup
  interfaces := ifs
  fields := fds
  methods := ms
  attributes := attrs
def plain (name : String) (sup : Option ClassId) : Class where
  name := name
  kind := .ordinary
  loader := none
  accessFlags := 33
  super := sup
  interfaces := #[]
  cf := none
  fields := #[]
  methods := #[]
  instanceTypes := #[]
  staticTypes := #[]
  resolved := #[]
  callSites := []
  init := .initialized
  statics := none
  mirror := none

def pool0 : Array CpInfo := pool [(5, u "<init>"), (0, u "()V"), (1, .class_ 10), (1, u "java/lang/Object"), (85, u "clone"), (0, u "()Ljava/lang/Object;")] 26

def k0c0 : Code := { maxStack := 0, maxLocals := 1, code := object_method_1_code, exceptionTable := #[], attributes := #[] }
def k0m0 : Method := { name := "<init>", desc := "()V", sig := { parameters := [], returnType := none }, accessFlags := 1, code := some k0c0 }
def k0m1 : Method := { name := "clone", desc := "()Ljava/lang/Object;", sig := { parameters := [], returnType := some (.object "java/lang/Object") }, accessFlags := 260, code := none }
/-- java/lang/Object -/
def k0 : Class := { plain "java/lang/Object" none with
  accessFlags := 33
  interfaces := #[]
  cf := some (fileOf pool0 8 #[] #[{ accessFlags := 1, nameIndex := 5, descriptorIndex := 6, attributes := #[] }, { accessFlags := 260, nameIndex := 96, descriptorIndex := 97, attributes := #[] }] 33 0 #[] #[])
  fields := #[]
  methods := #[k0m0, k0m1]
  instanceTypes := #[]
  staticTypes := #[]
  resolved := Array.replicate 124 none
  statics := none }

def pool1 : Array CpInfo := pool [(2, .class_ 4), (0, .nameAndType 5 6), (0, u "java/lang/Object"), (0, u "<init>"), (0, u "()V"), (0, .class_ 8), (0, u "com/example/haulway/haulway/io/RecordOutput"), (0, .methodref 7 3), (0, .methodref 7 11), (0, .nameAndType 12 13), (0, u "toBytes"), (0, u "()[B"), (0, .methodref 7 15), (0, .nameAndType 16 17), (0, u "putInt"), (0, u "(I)Lcom/example/haulway/haulway/io/RecordOutput;"), (0, .methodref 19 20), (0, .class_ 21), (0, .nameAndType 22 23), (0, u "com/example/haulway/haulway/io/RecordOutputToBytesPinLaw"), (0, u "put4"), (0, u "([BII)V"), (0, .methodref 7 25), (0, .nameAndType 26 27), (0, u "putLong"), (0, u "(J)Lcom/example/haulway/haulway/io/RecordOutput;"), (0, .methodref 7 29), (0, .nameAndType 30 31), (0, u "putBoolean"), (0, u "(Z)Lcom/example/haulway/haulway/io/RecordOutput;"), (0, .methodref 7 33), (0, .nameAndType 34 35), (0, u "putBytes"), (0, u "([B)Lcom/example/haulway/haulway/io/RecordOutput;"), (0, .methodref 19 37), (0, .nameAndType 38 39), (0, u "check"), (0, u "([B[BIZI)Z"), (0, .methodref 19 41), (0, .nameAndType 42 43), (0, u "at"), (0, u "([B[BII)Z"), (2, u "law"), (0, u "(IIJII)Z")] 5

def k1m0 : Method := { name := "<init>", desc := "()V", sig := { parameters := [], returnType := none }, accessFlags := 1, code := none }
def k1c1 : Code := { maxStack := 5, maxLocals := 21, code := code, exceptionTable := #[], attributes := #[] }
def k1m1 : Method := { name := "law", desc := "(IIJII)Z", sig := { parameters := [.int, .int, .long, .int, .int], returnType := some .boolean }, accessFlags := 9, code := some k1c1 }
def k1c2 : Code := { maxStack := 4, maxLocals := 3, code := method_3_code, exceptionTable := #[], attributes := #[] }
def k1m2 : Method := { name := "put4", desc := "([BII)V", sig := { parameters := [(.array .byte), .int, .int], returnType := none }, accessFlags := 10, code := some k1c2 }
def k1c3 : Code := { maxStack := 3, maxLocals := 4, code := method_4_code, exceptionTable := #[], attributes := #[] }
def k1m3 : Method := { name := "at", desc := "([B[BII)Z", sig := { parameters := [(.array .byte), (.array .byte), .int, .int], returnType := some .boolean }, accessFlags := 10, code := some k1c3 }
def k1c4 : Code := { maxStack := 4, maxLocals := 5, code := method_5_code, exceptionTable := #[], attributes := #[] }
def k1m4 : Method := { name := "check", desc := "([B[BIZI)Z", sig := { parameters := [(.array .byte), (.array .byte), .int, .boolean, .int], returnType := some .boolean }, accessFlags := 10, code := some k1c4 }
/-- com/example/haulway/haulway/io/RecordOutputToBytesPinLaw -/
def k1 : Class := { plain "com/example/haulway/haulway/io/RecordOutputToBytesPinLaw" (some 0) with
  accessFlags := 49
  interfaces := #[]
  cf := some (fileOf pool1 19 #[] #[{ accessFlags := 1, nameIndex := 5, descriptorIndex := 6, attributes := #[] }, { accessFlags := 9, nameIndex := 46, descriptorIndex := 47, attributes := #[] }, { accessFlags := 10, nameIndex := 22, descriptorIndex := 23, attributes := #[] }, { accessFlags := 10, nameIndex := 42, descriptorIndex := 43, attributes := #[] }, { accessFlags := 10, nameIndex := 38, descriptorIndex := 39, attributes := #[] }] 49 2 #[] #[])
  fields := #[]
  methods := #[k1m0, k1m1, k1m2, k1m3, k1m4]
  instanceTypes := #[]
  staticTypes := #[]
  resolved := Array.replicate 53 none
  statics := none }

def pool2 : Array CpInfo := pool [(1, .methodref 2 3), (0, .class_ 4), (0, .nameAndType 5 6), (0, u "java/lang/Object"), (0, u "<init>"), (0, u "()V"), (0, .fieldref 8 9), (0, .class_ 10), (0, .nameAndType 11 12), (0, u "com/example/haulway/haulway/io/RecordOutput"), (0, u "bytes"), (0, u "[B"), (3, u "putLong"), (0, u "(J)Lcom/example/haulway/haulway/io/RecordOutput;"), (2, u "toBytes"), (0, u "()[B"), (2, .methodref 8 25), (0, .nameAndType 26 27), (0, u "room"), (0, u "(I)V"), (2, .fieldref 8 31), (0, .nameAndType 32 33), (0, u "length"), (0, u "I"), (2, .methodref 8 37), (0, .nameAndType 38 39), (0, u "putInt"), (0, u "(I)Lcom/example/haulway/haulway/io/RecordOutput;"), (0, .methodref 41 42), (0, .class_ 43), (0, .nameAndType 44 45), (0, u "java/lang/System"), (0, u "arraycopy"), (0, u "(Ljava/lang/Object;ILjava/lang/Object;II)V"), (14, u "putBytes"), (0, u "([B)Lcom/example/haulway/haulway/io/RecordOutput;"), (0, .methodref 63 64), (0, .class_ 65), (0, .nameAndType 66 67), (0, u "java/util/Arrays"), (0, u "copyOf"), (0, u "([BI)[B"), (0, .methodref 69 70), (0, .class_ 71), (0, .nameAndType 72 73), (0, u "java/lang/Math"), (0, u "max"), (0, u "(II)I"), (5, u "putBoolean"), (0, u "(Z)Lcom/example/haulway/haulway/io/RecordOutput;")] 5

def k2c0 : Code := { maxStack := 2, maxLocals := 1, code := prog_72_method_1_code, exceptionTable := #[], attributes := #[] }
def k2m0 : Method := { name := "<init>", desc := "()V", sig := { parameters := [], returnType := none }, accessFlags := 1, code := some k2c0 }
def k2c1 : Code := { maxStack := 5, maxLocals := 4, code := prog_72_method_3_code, exceptionTable := #[], attributes := #[] }
def k2m1 : Method := { name := "putLong", desc := "(J)Lcom/example/haulway/haulway/io/RecordOutput;", sig := { parameters := [.long], returnType := some (.object "com/example/haulway/haulway/io/RecordOutput") }, accessFlags := 1, code := some k2c1 }
def k2c2 : Code := { maxStack := 5, maxLocals := 3, code := prog_72_method_4_code, exceptionTable := #[], attributes := #[] }
def k2m2 : Method := { name := "putInt", desc := "(I)Lcom/example/haulway/haulway/io/RecordOutput;", sig := { parameters := [.int], returnType := some (.object "com/example/haulway/haulway/io/RecordOutput") }, accessFlags := 1, code := some k2c2 }
def k2c3 : Code := { maxStack := 5, maxLocals := 2, code := prog_72_method_5_code, exceptionTable := #[], attributes := #[] }
def k2m3 : Method := { name := "putBoolean", desc := "(Z)Lcom/example/haulway/haulway/io/RecordOutput;", sig := { parameters := [.boolean], returnType := some (.object "com/example/haulway/haulway/io/RecordOutput") }, accessFlags := 1, code := some k2c3 }
def k2c4 : Code := { maxStack := 5, maxLocals := 2, code := prog_72_method_6_code, exceptionTable := #[], attributes := #[] }
def k2m4 : Method := { name := "putBytes", desc := "([B)Lcom/example/haulway/haulway/io/RecordOutput;", sig := { parameters := [(.array .byte)], returnType := some (.object "com/example/haulway/haulway/io/RecordOutput") }, accessFlags := 1, code := some k2c4 }
def k2c5 : Code := { maxStack := 2, maxLocals := 1, code := prog_72_method_8_code, exceptionTable := #[], attributes := #[] }
def k2m5 : Method := { name := "toBytes", desc := "()[B", sig := { parameters := [], returnType := some (.array .byte) }, accessFlags := 1, code := some k2c5 }
def k2c6 : Code := { maxStack := 5, maxLocals := 2, code := prog_72_method_9_code, exceptionTable := #[], attributes := #[] }
def k2m6 : Method := { name := "room", desc := "(I)V", sig := { parameters := [.int], returnType := none }, accessFlags := 2, code := some k2c6 }
/-- com/example/haulway/haulway/io/RecordOutput -/
def k2 : Class := { plain "com/example/haulway/haulway/io/RecordOutput" (some 0) with
  accessFlags := 49
  interfaces := #[]
  cf := some (fileOf pool2 8 #[] #[{ accessFlags := 1, nameIndex := 5, descriptorIndex := 6, attributes := #[] }, { accessFlags := 1, nameIndex := 16, descriptorIndex := 17, attributes := #[] }, { accessFlags := 1, nameIndex := 38, descriptorIndex := 39, attributes := #[] }, { accessFlags := 1, nameIndex := 79, descriptorIndex := 80, attributes := #[] }, { accessFlags := 1, nameIndex := 60, descriptorIndex := 61, attributes := #[] }, { accessFlags := 1, nameIndex := 20, descriptorIndex := 21, attributes := #[] }, { accessFlags := 2, nameIndex := 26, descriptorIndex := 27, attributes := #[] }] 49 2 #[] #[{ accessFlags := 2, nameIndex := 11, descriptorIndex := 12, attributes := #[] }, { accessFlags := 2, nameIndex := 32, descriptorIndex := 33, attributes := #[] }])
  fields := #[{ name := "bytes", type := (.array .byte), accessFlags := 2, slot := 0, constantValue := 0 }, { name := "length", type := .int, accessFlags := 2, slot := 1, constantValue := 0 }]
  methods := #[k2m0, k2m1, k2m2, k2m3, k2m4, k2m5, k2m6]
  instanceTypes := #[(.array .byte), .int]
  staticTypes := #[]
  resolved := Array.replicate 86 none
  statics := none }

def pool3 : Array CpInfo := pool [(2, .class_ 4), (1, u "java/lang/Object"), (0, u "<init>"), (0, u "()V"), (7, .class_ 16), (1, u "java/util/Arrays"), (57, .class_ 76), (1, u "java/util/Arrays$NaturalOrder"), (32, u "()Ljava/lang/Object;"), (3, .class_ 115), (1, u "java/util/Arrays$LegacyMergeSort"), (1, u "Z"), (10, .nameAndType 129 109), (0, u "clone"), (20, .methodref 151 152), (0, .class_ 153), (0, .nameAndType 154 155), (0, u "java/lang/System"), (0, u "arraycopy"), (0, u "(Ljava/lang/Object;ILjava/lang/Object;II)V"), (146, u "copyOf"), (1, .methodref 305 306), (0, .class_ 307), (0, .nameAndType 308 309), (0, u "java/lang/Math"), (0, u "min"), (0, u "(II)I"), (0, .methodref 311 128), (0, .class_ 312), (0, u "[B"), (62, .class_ 376), (0, u "java/util/Arrays$ArrayList"), (68, u "$assertionsDisabled"), (269, u "MIN_ARRAY_SORT_GRAN"), (0, u "I"), (2, u "INSERTIONSORT_THRESHOLD"), (149, u "([BI)[B"), (105, .class_ 976), (0, u "java/util/Arrays$ArrayItr")] 52

def k3m0 : Method := { name := "<init>", desc := "()V", sig := { parameters := [], returnType := none }, accessFlags := 2, code := none }
def k3c1 : Code := { maxStack := 6, maxLocals := 3, code := jdk_65_method_121_code, exceptionTable := #[], attributes := #[] }
def k3m1 : Method := { name := "copyOf", desc := "([BI)[B", sig := { parameters := [(.array .byte), .int], returnType := some (.array .byte) }, accessFlags := 9, code := some k3c1 }
/-- java/util/Arrays -/
def k3 : Class := { plain "java/util/Arrays" (some 0) with
  accessFlags := 49
  interfaces := #[]
  cf := some (fileOf pool3 14 #[.nestMembers #[975, 375, 113, 74]] #[{ accessFlags := 2, nameIndex := 5, descriptorIndex := 6, attributes := #[] }, { accessFlags := 9, nameIndex := 302, descriptorIndex := 869, attributes := #[] }] 49 2 #[] #[{ accessFlags := 26, nameIndex := 715, descriptorIndex := 716, attributes := #[] }, { accessFlags := 26, nameIndex := 719, descriptorIndex := 716, attributes := #[] }, { accessFlags := 4120, nameIndex := 445, descriptorIndex := 117, attributes := #[] }])
  fields := #[{ name := "MIN_ARRAY_SORT_GRAN", type := .int, accessFlags := 26, slot := 0, constantValue := 0 }, { name := "INSERTIONSORT_THRESHOLD", type := .int, accessFlags := 26, slot := 1, constantValue := 0 }, { name := "$assertionsDisabled", type := .boolean, accessFlags := 4120, slot := 2, constantValue := 0 }]
  methods := #[k3m0, k3m1]
  instanceTypes := #[]
  staticTypes := #[.int, .int, .boolean]
  resolved := Array.replicate 1029 none
  statics := none }

def pool4 : Array CpInfo := pool [(1, .class_ 2), (0, u "java/lang/Math"), (1, .class_ 6), (1, u "java/lang/Object"), (0, u "<init>"), (0, u "()V"), (89, .class_ 100), (1, u "java/lang/Math$RandomNumberGeneratorHolder"), (71, u "negativeZeroFloatBits"), (0, u "J"), (2, u "negativeZeroDoubleBits"), (21, u "max"), (2, u "min"), (43, u "$assertionsDisabled"), (0, u "Z"), (88, u "(II)I"), (2, u "twoToTheDoubleScaleDown"), (0, u "D"), (4, u "twoToTheDoubleScaleUp"), (9, u "E"), (3, u "PI"), (2, u "TAU"), (2, u "DEGREES_TO_RADIANS"), (0, u "RADIANS_TO_DEGREES")] 94

def k4m0 : Method := { name := "<init>", desc := "()V", sig := { parameters := [], returnType := none }, accessFlags := 2, code := none }
def k4c1 : Code := { maxStack := 2, maxLocals := 2, code := jdk_29_method_65_code, exceptionTable := #[], attributes := #[] }
def k4m1 : Method := { name := "max", desc := "(II)I", sig := { parameters := [.int, .int], returnType := some .int }, accessFlags := 9, code := some k4c1 }
def k4c2 : Code := { maxStack := 2, maxLocals := 2, code := jdk_29_method_69_code, exceptionTable := #[], attributes := #[] }
def k4m2 : Method := { name := "min", desc := "(II)I", sig := { parameters := [.int, .int], returnType := some .int }, accessFlags := 9, code := some k4c2 }
/-- java/lang/Math -/
def k4 : Class := { plain "java/lang/Math" (some 0) with
  accessFlags := 49
  interfaces := #[]
  cf := some (fileOf pool4 1 #[.nestMembers #[98]] #[{ accessFlags := 2, nameIndex := 7, descriptorIndex := 8, attributes := #[] }, { accessFlags := 9, nameIndex := 198, descriptorIndex := 335, attributes := #[] }, { accessFlags := 9, nameIndex := 201, descriptorIndex := 335, attributes := #[] }] 49 4 #[] #[{ accessFlags := 25, nameIndex := 354, descriptorIndex := 339, attributes := #[] }, { accessFlags := 25, nameIndex := 358, descriptorIndex := 339, attributes := #[] }, { accessFlags := 25, nameIndex := 361, descriptorIndex := 339, attributes := #[] }, { accessFlags := 26, nameIndex := 364, descriptorIndex := 339, attributes := #[] }, { accessFlags := 26, nameIndex := 365, descriptorIndex := 339, attributes := #[] }, { accessFlags := 26, nameIndex := 172, descriptorIndex := 173, attributes := #[] }, { accessFlags := 26, nameIndex := 176, descriptorIndex := 173, attributes := #[] }, { accessFlags := 8, nameIndex := 344, descriptorIndex := 339, attributes := #[] }, { accessFlags := 8, nameIndex := 338, descriptorIndex := 339, attributes := #[] }, { accessFlags := 4120, nameIndex := 245, descriptorIndex := 246, attributes := #[] }])
  fields := #[{ name := "E", type := .double, accessFlags := 25, slot := 0, constantValue := 0 }, { name := "PI", type := .double, accessFlags := 25, slot := 1, constantValue := 0 }, { name := "TAU", type := .double, accessFlags := 25, slot := 2, constantValue := 0 }, { name := "DEGREES_TO_RADIANS", type := .double, accessFlags := 26, slot := 3, constantValue := 0 }, { name := "RADIANS_TO_DEGREES", type := .double, accessFlags := 26, slot := 4, constantValue := 0 }, { name := "negativeZeroFloatBits", type := .long, accessFlags := 26, slot := 5, constantValue := 0 }, { name := "negativeZeroDoubleBits", type := .long, accessFlags := 26, slot := 6, constantValue := 0 }, { name := "twoToTheDoubleScaleUp", type := .double, accessFlags := 8, slot := 7, constantValue := 0 }, { name := "twoToTheDoubleScaleDown", type := .double, accessFlags := 8, slot := 8, constantValue := 0 }, { name := "$assertionsDisabled", type := .boolean, accessFlags := 4120, slot := 9, constantValue := 0 }]
  methods := #[k4m0, k4m1, k4m2]
  instanceTypes := #[]
  staticTypes := #[.double, .double, .double, .double, .double, .long, .long, .double, .double, .boolean]
  resolved := Array.replicate 460 none
  statics := none }

def pool5 : Array CpInfo := pool [(2, .class_ 4), (1, u "java/lang/Object"), (0, u "<init>"), (0, u "()V"), (1, .class_ 10), (1, u "java/lang/System"), (0, u "allowSecurityManager"), (0, u "I"), (16, u "cons"), (0, u "Ljava/io/Console;"), (77, .class_ 110), (1, u "java/lang/System$CallersHolder"), (43, u "initialErrStream"), (0, u "Ljava/io/PrintStream;"), (19, u "security"), (0, u "Ljava/lang/SecurityManager;"), (31, .class_ 209), (0, u "java/lang/System$1"), (7, u "props"), (0, u "Ljava/util/Properties;"), (2, u "lineSeparator"), (0, u "Ljava/lang/String;"), (96, .class_ 321), (1, u "java/lang/System$LoggerFinder"), (5, .class_ 328), (0, u "java/lang/System$Logger"), (67, u "err"), (2, u "out"), (91, u "notSupportedJnuEncoding"), (15, u "in"), (17, u "initialIn"), (0, u "Ljava/io/InputStream;"), (35, u "bootLayer"), (0, u "Ljava/lang/ModuleLayer;"), (99, .class_ 664), (0, u "java/lang/System$2"), (9, u "NEVER"), (2, u "MAYBE"), (49, u "arraycopy"), (0, u "(Ljava/lang/Object;ILjava/lang/Object;II)V"), (72, .class_ 802), (0, u "java/lang/System$Logger$Level")] 31

def k5m0 : Method := { name := "<init>", desc := "()V", sig := { parameters := [], returnType := none }, accessFlags := 2, code := none }
def k5m1 : Method := { name := "arraycopy", desc := "(Ljava/lang/Object;ILjava/lang/Object;II)V", sig := { parameters := [(.object "java/lang/Object"), .int, (.object "java/lang/Object"), .int, .int], returnType := none }, accessFlags := 265, code := none }
/-- java/lang/System -/
def k5 : Class := { plain "java/lang/System" (some 0) with
  accessFlags := 49
  interfaces := #[]
  cf := some (fileOf pool5 8 #[.nestMembers #[319, 327, 801, 108, 663, 208]] #[{ accessFlags := 2, nameIndex := 5, descriptorIndex := 6, attributes := #[] }, { accessFlags := 265, nameIndex := 727, descriptorIndex := 728, attributes := #[] }] 49 2 #[] #[{ accessFlags := 25, nameIndex := 507, descriptorIndex := 526, attributes := #[] }, { accessFlags := 25, nameIndex := 399, descriptorIndex := 155, attributes := #[] }, { accessFlags := 25, nameIndex := 396, descriptorIndex := 155, attributes := #[] }, { accessFlags := 10, nameIndex := 525, descriptorIndex := 526, attributes := #[] }, { accessFlags := 26, nameIndex := 674, descriptorIndex := 12, attributes := #[] }, { accessFlags := 26, nameIndex := 677, descriptorIndex := 12, attributes := #[] }, { accessFlags := 10, nameIndex := 11, descriptorIndex := 12, attributes := #[] }, { accessFlags := 74, nameIndex := 175, descriptorIndex := 176, attributes := #[] }, { accessFlags := 10, nameIndex := 491, descriptorIndex := 222, attributes := #[] }, { accessFlags := 74, nameIndex := 29, descriptorIndex := 30, attributes := #[] }, { accessFlags := 74, nameIndex := 154, descriptorIndex := 155, attributes := #[] }, { accessFlags := 10, nameIndex := 217, descriptorIndex := 218, attributes := #[] }, { accessFlags := 10, nameIndex := 221, descriptorIndex := 222, attributes := #[] }, { accessFlags := 8, nameIndex := 562, descriptorIndex := 563, attributes := #[] }])
  fields := #[{ name := "in", type := (.object "java/io/InputStream"), accessFlags := 25, slot := 0, constantValue := 0 }, { name := "out", type := (.object "java/io/PrintStream"), accessFlags := 25, slot := 1, constantValue := 0 }, { name := "err", type := (.object "java/io/PrintStream"), accessFlags := 25, slot := 2, constantValue := 0 }, { name := "initialIn", type := (.object "java/io/InputStream"), accessFlags := 10, slot := 3, constantValue := 0 }, { name := "NEVER", type := .int, accessFlags := 26, slot := 4, constantValue := 0 }, { name := "MAYBE", type := .int, accessFlags := 26, slot := 5, constantValue := 0 }, { name := "allowSecurityManager", type := .int, accessFlags := 10, slot := 6, constantValue := 0 }, { name := "security", type := (.object "java/lang/SecurityManager"), accessFlags := 74, slot := 7, constantValue := 0 }, { name := "notSupportedJnuEncoding", type := (.object "java/lang/String"), accessFlags := 10, slot := 8, constantValue := 0 }, { name := "cons", type := (.object "java/io/Console"), accessFlags := 74, slot := 9, constantValue := 0 }, { name := "initialErrStream", type := (.object "java/io/PrintStream"), accessFlags := 74, slot := 10, constantValue := 0 }, { name := "props", type := (.object "java/util/Properties"), accessFlags := 10, slot := 11, constantValue := 0 }, { name := "lineSeparator", type := (.object "java/lang/String"), accessFlags := 10, slot := 12, constantValue := 0 }, { name := "bootLayer", type := (.object "java/lang/ModuleLayer"), accessFlags := 8, slot := 13, constantValue := 0 }]
  methods := #[k5m0, k5m1]
  instanceTypes := #[]
  staticTypes := #[(.object "java/io/InputStream"), (.object "java/io/PrintStream"), (.object "java/io/PrintStream"), (.object "java/io/InputStream"), .int, .int, .int, (.object "java/lang/SecurityManager"), (.object "java/lang/String"), (.object "java/io/Console"), (.object "java/io/PrintStream"), (.object "java/util/Properties"), (.object "java/lang/String"), (.object "java/lang/ModuleLayer")]
  resolved := Array.replicate 834 none
  statics := none }

def pool6 : Array CpInfo := pool [(1, .class_ 2), (0, u "java/lang/Cloneable"), (0, .class_ 4), (0, u "java/lang/Object")] 2

/-- java/lang/Cloneable -/
def k6 : Class := { plain "java/lang/Cloneable" (some 0) with
  accessFlags := 1537
  interfaces := #[]
  cf := some (fileOf pool6 1 #[] #[] 1537 3 #[] #[])
  fields := #[]
  methods := #[]
  instanceTypes := #[]
  staticTypes := #[]
  resolved := Array.replicate 7 none
  statics := none }

def pool7 : Array CpInfo := pool [(1, u "java/io/Serializable"), (0, .class_ 1), (0, u "java/lang/Object"), (0, .class_ 3)] 3

/-- java/io/Serializable -/
def k7 : Class := { plain "java/io/Serializable" (some 0) with
  accessFlags := 1537
  interfaces := #[]
  cf := some (fileOf pool7 2 #[] #[] 1537 4 #[] #[])
  fields := #[]
  methods := #[]
  instanceTypes := #[]
  staticTypes := #[]
  resolved := Array.replicate 8 none
  statics := none }

/-- the primitive byte -/
def k8 : Class := { plain "byte" none with kind := .primitive 'B', accessFlags := 0x411 }
/-- [B -/
def k9 : Class := { plain "[B" (some 0) with kind := .array 8 .byte, interfaces := #[6, 7], accessFlags := 1041 }

/-- the primitive int -/
def k10 : Class := { plain "int" none with kind := .primitive 'I', accessFlags := 0x411 }
/-- [I -/
def k11 : Class := { plain "[I" (some 0) with kind := .array 10 .int, interfaces := #[6, 7], accessFlags := 1041 }

def heap : Heap := #[]
def classes : Array Class := #[k0, k1, k2, k3, k4, k5, k6, k7, k8, k9, k10, k11]
def interned : List (Array UInt16 × Addr) := []
def slotsUsed : Nat := 0
def theMethod : MethodId := ⟨1, 1⟩
def args0 : Array Value := #[.int 5, .int 300, .long 7, .int 9, .int 2]
def aboutOver (below : List Frame) : State where
  vm := { classes := classes, interned := interned.toArray }
  heap := heap
  slotsUsed := slotsUsed
  threads := #[{ frames := .invoking theMethod args0 :: below }]
def below0 : List Frame := [.native { method := ⟨0, 0⟩, args := #[] }]
def about1 : State := aboutOver below0
def p0 : Program := .bare "" "" ""
def e0 : Env := launch0.env 0 0 0
theorem w_frames : about1.frames = Frame.invoking theMethod args0 :: below0 := rfl
set_option maxRecDepth 65536 in
theorem w_args : argsFit about1.vm theMethod args0 = true := by decide +kernel
set_option maxRecDepth 65536 in
theorem w_heap : heapFits about1 = true := by decide +kernel
set_option maxRecDepth 65536 in
theorem w_runnable : about1.curStatus? = some .runnable := by decide +kernel
set_option maxRecDepth 65536 in
theorem w_alone : about1.alone = true := by decide +kernel
set_option maxRecDepth 65536 in
theorem w_named : about1.methodNamed? x = some theMethod := by decide +kernel
set_option maxRecDepth 65536 in
theorem w_hears : about1.hears theMethod below0 = true := by decide +kernel
set_option maxRecDepth 65536 in
theorem w_ripe : about1.ripe theMethod args0 below0 = true := by decide +kernel
theorem w_running : about1.status = .running := rfl
set_option maxRecDepth 65536 in
theorem w_room : about1.hasRoom e0.platform room_1 = true :=
  launch0.hasRoom_least _ room_1 (by decide +kernel) (by decide +kernel) (by decide +kernel) (by decide +kernel) (by decide +kernel) (by decide +kernel)
theorem allAtoms_all (ts : List Jvm.Cond) (a : Array Jvm.Value) (st : Jvm.State) : (allAtoms ts).before a st = ts.all (fun c => c.before a st) := by
  induction ts with
  | nil => rfl
  | cons c t ih =>
    show (Jvm.Cond.and c (allAtoms t)).before a st = _
    rw [Jvm.Cond.before_and, ih, List.all_cons]
def words1 : List Jvm.Cond := Jvm.Cond.code x code maxLocals ret :: tables_1
/-- a 'code' word, met by the world's own term for the bytes: nothing is compared byte by byte -/
theorem code_word {y : MethodName} {bytes : ByteArray} {mx : Nat} {rt : Option FieldType} {a : Array Value} {s : State} {m : MethodId} {meth : Method} {c : Code} (h1 : s.methodNamed? y = some m) (h2 : s.vm.method? m = some meth) (h3 : meth.code = some c) (h4 : c.code = bytes)
    (h5 : (c.maxLocals == mx && c.exceptionTable.isEmpty && decide (c.maxStack ≤ mostOperands) && decide (meth.sig.returnType = rt) && !meth.locks && decide (parseMethodDescriptor y.desc = some meth.sig)) = true) : (Jvm.Cond.code y bytes mx rt).before a s = true := by
  simp only [Bool.and_eq_true, beq_iff_eq, Bool.not_eq_true', decide_eq_true_eq] at h5
  obtain ⟨⟨⟨⟨⟨g1, g2⟩, g3⟩, g4⟩, g5⟩, g6⟩ := h5
  simp [Cond.before, Cond.holds, Cond.value, h1, h2, h3, h4, g1, g2, g3, g4, g5, g6]
def isCode : Jvm.Cond → Bool
  | .code _ _ _ _ => true
  | _ => false
theorem all_split {L : List Jvm.Cond} {P : Jvm.Cond → Bool} (h1 : L.all (fun c => isCode c || P c) = true) (h2 : ∀ c ∈ L.filter isCode, P c = true) : L.all P = true := by
  refine List.all_eq_true.mpr fun c hc => ?_
  have h := List.all_eq_true.mp h1 c hc
  rcases Bool.eq_false_or_eq_true (isCode c) with hi | hi
  · exact h2 c (List.mem_filter.mpr ⟨hc, hi⟩)
  · simpa [hi] using h
set_option maxRecDepth 65536 in
theorem w_c0 : (Jvm.Cond.code x code maxLocals ret).before args0 about1 = true := code_word (m := ⟨1, 1⟩) (meth := k1m1) (c := k1c1) (by decide +kernel) rfl rfl rfl (by decide +kernel)
set_option maxRecDepth 65536 in
theorem w_c1 : (Jvm.Cond.code ({ cls := "com/example/haulway/haulway/io/RecordOutput", name := "<init>", desc := "()V" } : Jvm.MethodName) prog_72_method_1_code (1 : Nat) (Option.none : Option Jvm.ClassFile.FieldType)).before args0 about1 = true := code_word (m := ⟨2, 0⟩) (meth := k2m0) (c := k2c0) (by decide +kernel) rfl rfl rfl (by decide +kernel)
set_option maxRecDepth 65536 in
theorem w_c2 : (Jvm.Cond.code ({ cls := "java/lang/Object", name := "<init>", desc := "()V" } : Jvm.MethodName) object_method_1_code (1 : Nat) (Option.none : Option Jvm.ClassFile.FieldType)).before args0 about1 = true := code_word (m := ⟨0, 0⟩) (meth := k0m0) (c := k0c0) (by decide +kernel) rfl rfl rfl (by decide +kernel)
set_option maxRecDepth 65536 in
theorem w_c3 : (Jvm.Cond.code ({ cls := "com/example/haulway/haulway/io/RecordOutput", name := "toBytes", desc := "()[B" } : Jvm.MethodName) prog_72_method_8_code (1 : Nat) (Option.some (Jvm.ClassFile.FieldType.array Jvm.ClassFile.FieldType.byte))).before args0 about1 = true := code_word (m := ⟨2, 5⟩) (meth := k2m5) (c := k2c5) (by decide +kernel) rfl rfl rfl (by decide +kernel)
set_option maxRecDepth 65536 in
theorem w_c4 : (Jvm.Cond.code ({ cls := "java/util/Arrays", name := "copyOf", desc := "([BI)[B" } : Jvm.MethodName) jdk_65_method_121_code (3 : Nat) (Option.some (Jvm.ClassFile.FieldType.array Jvm.ClassFile.FieldType.byte))).before args0 about1 = true := code_word (m := ⟨3, 1⟩) (meth := k3m1) (c := k3c1) (by decide +kernel) rfl rfl rfl (by decide +kernel)
set_option maxRecDepth 65536 in
theorem w_c5 : (Jvm.Cond.code ({ cls := "java/lang/Math", name := "min", desc := "(II)I" } : Jvm.MethodName) jdk_29_method_69_code (2 : Nat) (Option.some Jvm.ClassFile.FieldType.int)).before args0 about1 = true := code_word (m := ⟨4, 2⟩) (meth := k4m2) (c := k4c2) (by decide +kernel) rfl rfl rfl (by decide +kernel)
set_option maxRecDepth 65536 in
theorem w_c6 : (Jvm.Cond.code ({ cls := "com/example/haulway/haulway/io/RecordOutputToBytesPinLaw", name := "check", desc := "([B[BIZI)Z" } : Jvm.MethodName) method_5_code (5 : Nat) (Option.some Jvm.ClassFile.FieldType.boolean)).before args0 about1 = true := code_word (m := ⟨1, 4⟩) (meth := k1m4) (c := k1c4) (by decide +kernel) rfl rfl rfl (by decide +kernel)
set_option maxRecDepth 65536 in
theorem w_c7 : (Jvm.Cond.code ({ cls := "com/example/haulway/haulway/io/RecordOutputToBytesPinLaw", name := "at", desc := "([B[BII)Z" } : Jvm.MethodName) method_4_code (4 : Nat) (Option.some Jvm.ClassFile.FieldType.boolean)).before args0 about1 = true := code_word (m := ⟨1, 3⟩) (meth := k1m3) (c := k1c3) (by decide +kernel) rfl rfl rfl (by decide +kernel)
set_option maxRecDepth 65536 in
theorem w_c8 : (Jvm.Cond.code ({ cls := "com/example/haulway/haulway/io/RecordOutput", name := "putInt", desc := "(I)Lcom/example/haulway/haulway/io/RecordOutput;" } : Jvm.MethodName) prog_72_method_4_code (3 : Nat) (Option.some (Jvm.ClassFile.FieldType.object "com/example/haulway/haulway/io/RecordOutput"))).before args0 about1 = true := code_word (m := ⟨2, 2⟩) (meth := k2m2) (c := k2c2) (by decide +kernel) rfl rfl rfl (by decide +kernel)
set_option maxRecDepth 65536 in
theorem w_c9 : (Jvm.Cond.code ({ cls := "com/example/haulway/haulway/io/RecordOutput", name := "room", desc := "(I)V" } : Jvm.MethodName) prog_72_method_9_code (2 : Nat) (Option.none : Option Jvm.ClassFile.FieldType)).before args0 about1 = true := code_word (m := ⟨2, 6⟩) (meth := k2m6) (c := k2c6) (by decide +kernel) rfl rfl rfl (by decide +kernel)
set_option maxRecDepth 65536 in
theorem w_c10 : (Jvm.Cond.code ({ cls := "com/example/haulway/haulway/io/RecordOutput", name := "putBoolean", desc := "(Z)Lcom/example/haulway/haulway/io/RecordOutput;" } : Jvm.MethodName) prog_72_method_5_code (2 : Nat) (Option.some (Jvm.ClassFile.FieldType.object "com/example/haulway/haulway/io/RecordOutput"))).before args0 about1 = true := code_word (m := ⟨2, 3⟩) (meth := k2m3) (c := k2c3) (by decide +kernel) rfl rfl rfl (by decide +kernel)
set_option maxRecDepth 65536 in
theorem w_c11 : (Jvm.Cond.code ({ cls := "com/example/haulway/haulway/io/RecordOutputToBytesPinLaw", name := "put4", desc := "([BII)V" } : Jvm.MethodName) method_3_code (3 : Nat) (Option.none : Option Jvm.ClassFile.FieldType)).before args0 about1 = true := code_word (m := ⟨1, 2⟩) (meth := k1m2) (c := k1c2) (by decide +kernel) rfl rfl rfl (by decide +kernel)
set_option maxRecDepth 65536 in
theorem w_c12 : (Jvm.Cond.code ({ cls := "com/example/haulway/haulway/io/RecordOutput", name := "putBytes", desc := "([B)Lcom/example/haulway/haulway/io/RecordOutput;" } : Jvm.MethodName) prog_72_method_6_code (2 : Nat) (Option.some (Jvm.ClassFile.FieldType.object "com/example/haulway/haulway/io/RecordOutput"))).before args0 about1 = true := code_word (m := ⟨2, 4⟩) (meth := k2m4) (c := k2c4) (by decide +kernel) rfl rfl rfl (by decide +kernel)
set_option maxRecDepth 65536 in
theorem w_c13 : (Jvm.Cond.code ({ cls := "java/lang/Math", name := "max", desc := "(II)I" } : Jvm.MethodName) jdk_29_method_65_code (2 : Nat) (Option.some Jvm.ClassFile.FieldType.int)).before args0 about1 = true := code_word (m := ⟨4, 1⟩) (meth := k4m1) (c := k4c1) (by decide +kernel) rfl rfl rfl (by decide +kernel)
set_option maxRecDepth 65536 in
theorem w_c14 : (Jvm.Cond.code ({ cls := "com/example/haulway/haulway/io/RecordOutput", name := "putLong", desc := "(J)Lcom/example/haulway/haulway/io/RecordOutput;" } : Jvm.MethodName) prog_72_method_3_code (4 : Nat) (Option.some (Jvm.ClassFile.FieldType.object "com/example/haulway/haulway/io/RecordOutput"))).before args0 about1 = true := code_word (m := ⟨2, 1⟩) (meth := k2m1) (c := k2c1) (by decide +kernel) rfl rfl rfl (by decide +kernel)
def codes1 : List Jvm.Cond := [Jvm.Cond.code x code maxLocals ret, Jvm.Cond.code ({ cls := "com/example/haulway/haulway/io/RecordOutput", name := "<init>", desc := "()V" } : Jvm.MethodName) prog_72_method_1_code (1 : Nat) (Option.none : Option Jvm.ClassFile.FieldType), Jvm.Cond.code ({ cls := "java/lang/Object", name := "<init>", desc := "()V" } : Jvm.MethodName) object_method_1_code (1 : Nat) (Option.none : Option Jvm.ClassFile.FieldType), Jvm.Cond.code ({ cls := "com/example/haulway/haulway/io/RecordOutput", name := "toBytes", desc := "()[B" } : Jvm.MethodName) prog_72_method_8_code (1 : Nat) (Option.some (Jvm.ClassFile.FieldType.array Jvm.ClassFile.FieldType.byte)), Jvm.Cond.code ({ cls := "java/util/Arrays", name := "copyOf", desc := "([BI)[B" } : Jvm.MethodName) jdk_65_method_121_code (3 : Nat) (Option.some (Jvm.ClassFile.FieldType.array Jvm.ClassFile.FieldType.byte)), Jvm.Cond.code ({ cls := "java/lang/Math", name := "min", desc := "(II)I" } : Jvm.MethodName) jdk_29_method_69_code (2 : Nat) (Option.some Jvm.ClassFile.FieldType.int), Jvm.Cond.code ({ cls := "com/example/haulway/haulway/io/RecordOutputToBytesPinLaw", name := "check", desc := "([B[BIZI)Z" } : Jvm.MethodName) method_5_code (5 : Nat) (Option.some Jvm.ClassFile.FieldType.boolean), Jvm.Cond.code ({ cls := "com/example/haulway/haulway/io/RecordOutputToBytesPinLaw", name := "at", desc := "([B[BII)Z" } : Jvm.MethodName) method_4_code (4 : Nat) (Option.some Jvm.ClassFile.FieldType.boolean), Jvm.Cond.code ({ cls := "com/example/haulway/haulway/io/RecordOutput", name := "putInt", desc := "(I)Lcom/example/haulway/haulway/io/RecordOutput;" } : Jvm.MethodName) prog_72_method_4_code (3 : Nat) (Option.some (Jvm.ClassFile.FieldType.object "com/example/haulway/haulway/io/RecordOutput")), Jvm.Cond.code ({ cls := "com/example/haulway/haulway/io/RecordOutput", name := "room", desc := "(I)V" } : Jvm.MethodName) prog_72_method_9_code (2 : Nat) (Option.none : Option Jvm.ClassFile.FieldType), Jvm.Cond.code ({ cls := "com/example/haulway/haulway/io/RecordOutput", name := "putBoolean", desc := "(Z)Lcom/example/haulway/haulway/io/RecordOutput;" } : Jvm.MethodName) prog_72_method_5_code (2 : Nat) (Option.some (Jvm.ClassFile.FieldType.object "com/example/haulway/haulway/io/RecordOutput")), Jvm.Cond.code ({ cls := "com/example/haulway/haulway/io/RecordOutputToBytesPinLaw", name := "put4", desc := "([BII)V" } : Jvm.MethodName) method_3_code (3 : Nat) (Option.none : Option Jvm.ClassFile.FieldType), Jvm.Cond.code ({ cls := "com/example/haulway/haulway/io/RecordOutput", name := "putBytes", desc := "([B)Lcom/example/haulway/haulway/io/RecordOutput;" } : Jvm.MethodName) prog_72_method_6_code (2 : Nat) (Option.some (Jvm.ClassFile.FieldType.object "com/example/haulway/haulway/io/RecordOutput")), Jvm.Cond.code ({ cls := "java/lang/Math", name := "max", desc := "(II)I" } : Jvm.MethodName) jdk_29_method_65_code (2 : Nat) (Option.some Jvm.ClassFile.FieldType.int), Jvm.Cond.code ({ cls := "com/example/haulway/haulway/io/RecordOutput", name := "putLong", desc := "(J)Lcom/example/haulway/haulway/io/RecordOutput;" } : Jvm.MethodName) prog_72_method_3_code (4 : Nat) (Option.some (Jvm.ClassFile.FieldType.object "com/example/haulway/haulway/io/RecordOutput"))]
set_option maxRecDepth 65536 in
theorem codes_eq : words1.filter isCode = codes1 := rfl
theorem w_codes : ∀ c ∈ words1.filter isCode, c.before args0 about1 = true := by
  rw [codes_eq]
  intro c hc
  simp only [codes1, List.mem_cons, List.not_mem_nil, or_false] at hc
  rcases hc with rfl | rfl | rfl | rfl | rfl | rfl | rfl | rfl | rfl | rfl | rfl | rfl | rfl | rfl | rfl
  · exact w_c0
  · exact w_c1
  · exact w_c2
  · exact w_c3
  · exact w_c4
  · exact w_c5
  · exact w_c6
  · exact w_c7
  · exact w_c8
  · exact w_c9
  · exact w_c10
  · exact w_c11
  · exact w_c12
  · exact w_c13
  · exact w_c14
set_option maxRecDepth 65536 in
theorem w_t1 : (words1.take 24).all (fun c => isCode c || c.before args0 about1) = true := by decide +kernel
set_option maxRecDepth 65536 in
theorem w_t2 : ((words1.drop 24).take 24).all (fun c => isCode c || c.before args0 about1) = true := by decide +kernel
set_option maxRecDepth 65536 in
theorem w_t3 : (((words1.drop 24).drop 24).take 24).all (fun c => isCode c || c.before args0 about1) = true := by decide +kernel
set_option maxRecDepth 65536 in
theorem w_t4 : (((words1.drop 24).drop 24).drop 24).all (fun c => isCode c || c.before args0 about1) = true := by decide +kernel
theorem w_tables : (allAtoms (Jvm.Cond.code x code maxLocals ret :: tables_1)).before args0 about1 = true := by
  rw [allAtoms_all]
  show words1.all (fun c => c.before args0 about1) = true
  refine all_split ?_ w_codes
  rw [← List.take_append_drop 24 words1, List.all_append, w_t1, ← List.take_append_drop 24 (words1.drop 24), List.all_append, w_t2, ← List.take_append_drop 24 ((words1.drop 24).drop 24), List.all_append, w_t3, w_t4]
  rfl
set_option maxRecDepth 65536 in
theorem w_case : (Jvm.Cond.and given_1 narrow_1).before args0 about1 = true := by decide +kernel
theorem w_applies : (headSpec (Jvm.Cond.code x code maxLocals ret :: tables_1) room_1).applies x e0.platform about1 = true :=
  (Spec.applies_iff w_frames).mpr ⟨w_running, w_runnable, w_alone, w_named, w_hears, w_ripe, w_room, w_tables⟩
theorem atStart : AtStart classFile x code maxLocals ret World_1 tables_1 room_1 Calls_1 rest_1 Pre_1 launch0 p0 e0 about1 theMethod args0 below0 :=
  ⟨lists_1, trivial, launch0.admits_env _ _ _, launch0.least_env, fairChoices_fair.cas, fairChoices_fair.clock, w_frames, w_args, w_heap, w_applies, trivial, trivial, w_case⟩
end start1
theorem witness_1 : WitnessClaimed_1 := ⟨start1.p0, start1.e0, start1.about1, start1.theMethod, start1.args0, start1.below0, start1.atStart⟩
end Jvm.Pilot.@@N@@
