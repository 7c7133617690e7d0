import JvmDerived
import JvmDerived.Pilot.@@N@@Statement
import JvmDerived.Pilot.@@N@@Code
set_option linter.unusedVariables false
set_option linter.unusedSimpArgs false
@@BLOCK:NumsL.lean.txt@@
namespace Jvm.RoadKit
open Sem ClassFile Op Lib Jvm.Stand Jvm.Free Jvm.LawKit
section New
variable {p : Program} {l : Launch} {e : Env} {R : Room} {s : State} {m : MethodId} {args : Array Value} {below : List Frame} {meth : Method} {c : Code} {T : State} {locs : List Loc} {cells slots : Nat}
theorem retI (X : Stand p l e R s m args below meth c T locs cells slots) (hx : p.tables.exec = Jvm.exec) {pc : Nat} {Ls : Array Slot} {z : Int32} {rest : List Value} (hret : meth.sig.returnType = some .int) (hd : decode c.code pc = .ok (.ireturn, 1)) {fs : List Frame}
    (hl : ∀ (f : JFrame) (acts : List Action), f.method = m → f.locked = none → f.entered = [] → (doReturn e (T.setTop f) acts (some (.int z))).1 = T.setFrames fs) : Steps p.tables e below (T.setTop (mkF m pc Ls (.int z :: rest))) (T.setFrames fs) := by
  have hm' : T.vm.method? m = some meth := X.method'
  have hn : narrow .int (.int z) = .int z := rfl
  show Steps p.tables e below (T.setTop { method := m, pc := pc, locals := Ls, stack := _ :: rest, locked := none }) _
  jvm_step X.here [X.here.top, hx, hd, hm', hret, hn]
  first | (intro acts; rw [hl _ acts rfl rfl rfl]) | rw [hl _ _ rfl rfl rfl]
  exact Steps.refl _
end New
end Jvm.RoadKit
namespace Jvm.Pilot.@@N@@
open Jvm Jvm.ClassFile Sem Op Lib Jvm.Free Jvm.Stand Jvm.LawKit Jvm.RoadKit Bundle Jvm.Pilot.@@N@@.Jvm.D

def own_A (Z : State) (h : Heap) (a : Addr) (ty : FieldType) (n : Nat) (f : Nat → Int32) : Prop := ∃ c : Cell, Arr Z h a c ty ∧ c.slots.size = n ∧ ∀ j, j < n → c.slots[j]? = some (.int (f j))
theorem own_A_new {Z : State} {h : Heap} {a : Addr} {k : ClassId} {ty : FieldType} {z : Int32} {n : Nat} (A : Arr Z h a (newA k ty z) ty) (hd : defaultValue ty = .int 0) (hn : z.toNatClampNeg = n) : own_A Z h a ty n (fun _ => 0) :=
  ⟨_, A, by rw [sz_new, hn], fun j hj => by simp [newA, hn, hd, hj]⟩
theorem own_A_set {Z : State} {h h' : Heap} {a : Addr} {ty : FieldType} {n i : Nat} {f : Nat → Int32} {v : Int32} (F : own_A Z h a ty n f) (W : Wr h h' a i (.int v)) : own_A Z h' a ty n (upd f i v) := by
  obtain ⟨c, A, S, H⟩ := F
  refine ⟨_, A.same W, by rw [sz_set, S], fun j hj => ?_⟩
  show (c.slots.setIfInBounds i (.int v))[j]? = _
  rw [Array.getElem?_setIfInBounds]
  by_cases e : i = j
  · subst e; rw [if_pos rfl, if_pos (by rw [S]; exact hj)]; simp [upd]
  · rw [if_neg e, H j hj]; simp [upd, Ne.symm e]
theorem own_A_ext {Z : State} {h h' : Heap} {a : Addr} {ty : FieldType} {n : Nat} {f : Nat → Int32} (F : own_A Z h a ty n f) (E : Ext h h') : own_A Z h' a ty n f := by
  obtain ⟨c, A, S, H⟩ := F; exact ⟨c, A.ext E, S, H⟩
theorem own_A_other {Z : State} {h h' : Heap} {a b : Addr} {ty : FieldType} {n sl : Nat} {f : Nat → Int32} {v : Value} (F : own_A Z h a ty n f) (W : Wr h h' b sl v) (q : a ≠ b) : own_A Z h' a ty n f := by
  obtain ⟨c, A, S, H⟩ := F; exact ⟨c, A.other W q, S, H⟩
theorem own_A_keep {Z : State} {h h' : Heap} {a : Addr} {ty : FieldType} {n : Nat} {f : Nat → Int32} {ws : List Addr} (F : own_A Z h a ty n f) (K : Keep h h' ws) (q : a ∉ ws) : own_A Z h' a ty n f := by
  obtain ⟨c, A, S, H⟩ := F; exact ⟨c, ⟨K.2.1 a c A.1 q, A.2⟩, S, H⟩
theorem own_A_lt {Z : State} {h : Heap} {a : Addr} {ty : FieldType} {n : Nat} {f : Nat → Int32} (F : own_A Z h a ty n f) : a < h.size := by obtain ⟨c, A, -⟩ := F; exact A.lt
theorem own_upd_same (f : Nat → Int32) (i : Nat) (v : Int32) : upd f i v i = v := by simp [upd]
theorem own_upd_ne (f : Nat → Int32) {i j : Nat} (v : Int32) (h : j ≠ i) : upd f i v j = f j := by simp [upd, h]
theorem own_toNat (y : Int32) (h : 0 ≤ y.toInt) : y = Int32.ofNat y.toInt.toNat := by
  have a := y.toInt_lt
  rw [← Int32.toInt_inj, toInt_of rfl (by omega)]
  omega
theorem own_mask (x m : Int32) {k : Nat} (hk : k < 32) (hm : m.toBitVec.toNat = 2 ^ k - 1) : ∃ n : Nat, x &&& m = Int32.ofNat n ∧ n < 2 ^ k := by
  have h := Jvm.Kit.i32_mask x m hk hm
  have hp : (0 : Int) < 2 ^ k := Int.pow_pos (by decide)
  have h1 := Int.emod_nonneg x.toInt (b := 2 ^ k) (by omega)
  have h2 := Int.emod_lt_of_pos x.toInt hp
  refine ⟨(x &&& m).toInt.toNat, own_toNat _ (by omega), ?_⟩
  have h3 : ((2 ^ k : Nat) : Int) = 2 ^ k := by simp
  omega
theorem own_lt {i n : Nat} (h : i < n) (hn : n < 2 ^ 31) : Int32.ofNat i < Int32.ofNat n := by
  rw [Int32.lt_iff_toInt_lt, toInt_of rfl (by omega : i < 2 ^ 31), toInt_of rfl hn]; omega
theorem own_nlt {i n : Nat} (h : n ≤ i) (hi : i < 2 ^ 31) : ¬ (Int32.ofNat i < Int32.ofNat n) := by
  rw [Int32.lt_iff_toInt_lt, toInt_of rfl hi, toInt_of rfl (by omega : n < 2 ^ 31)]; omega
theorem own_ne {i n : Nat} (h : i ≠ n) (hi : i < 2 ^ 31) (hn : n < 2 ^ 31) : ¬ (Int32.ofNat i = Int32.ofNat n) := by
  rw [← Int32.toInt_inj, toInt_of rfl hi, toInt_of rfl hn]; omega
theorem own_add (a b : Nat) : Int32.ofNat a + Int32.ofNat b = Int32.ofNat (a + b) := (Int32.ofNat_add a b).symm
theorem own_sub {a b : Nat} (h : b ≤ a) (ha : a < 2 ^ 31) : Int32.ofNat a - Int32.ofNat b = Int32.ofNat (a - b) := by
  rw [← Int32.toInt_inj, toInt_of rfl (by omega : a - b < 2 ^ 31)]
  have h1 : (Int32.ofNat a).toInt = a := toInt_of rfl ha
  have h2 : (Int32.ofNat b).toInt = b := toInt_of rfl (by omega)
  rw [Jvm.Kit.i32_sub (by omega) (by omega)]
  omega
theorem own_rem {a b : Nat} (ha : a < 2 ^ 31) (hb : b < 2 ^ 31) : Int32.ofNat a % Int32.ofNat b = Int32.ofNat (a % b) := by
  have h3 : a % b ≤ a := Nat.mod_le a b
  have h1 : (Int32.ofNat a).toInt = a := toInt_of rfl ha
  have h2 : (Int32.ofNat b).toInt = b := toInt_of rfl hb
  rw [← Int32.toInt_inj, toInt_of rfl (by omega : a % b < 2 ^ 31), Jvm.Kit.i32_rem_nonneg (by omega), h1, h2]
  omega
theorem own_backS {p : Program} {l : Launch} {e : Env} {R : Room} {s : State} {args : Array Value} {below : List Frame} {Z : State} {a0 : Array Value} {h : Heap} {y : MethodName} {bytes : ByteArray} {maxL : Nat} {ret : Option FieldType} {rm : Room} {len W : Nat} {as' : Array Value} {I : Vm → Prop} {Q : Option Value → Heap → Vm → List Loc → Prop}
    (hM : MetFree l y (head1 [Cond.code y bytes maxL ret] rm) (fun a U => a = as' ∧ Z.Warmed39 U.vm ∧ U.heap = h ∧ I U.vm) (fun _ _ _ _ _ => True) (fun _ U o U' => ∃ v L, o = .returned v ∧ Q v U'.heap U'.vm L ∧ ReturnedEndW U o U' L rm.cells rm.slots))
    (hZ : Z.Warmed39 s.vm) (wc : (Cond.code y bytes maxL ret).before a0 Z = true) (wz : (Cond.initialized y.cls).before a0 Z = true) (hf : rm.frames + 1 ≤ R.frames) (hl : W + (maxL + 11) + rm.locals ≤ R.locals) :
    BackS l R p e below s args y len W (fun A a => (a = as' ∧ A.U.heap = h ∧ I A.U.vm) ∧ A.cells + rm.cells ≤ R.cells ∧ A.slots + rm.slots ≤ R.slots)
      (fun A _ v B => ∃ L, Q v B.U.heap B.U.vm L ∧ B.locs = A.locs ++ L ∧ B.cells = A.cells + rm.cells ∧ B.slots = A.slots + rm.slots) := by
  refine BackS.of_freeW (bytes := bytes) (maxL := maxL) (ret := ret) (E := fun _ _ o t L k n => k = rm.cells ∧ n = rm.slots ∧ ∃ v, o = .returned v ∧ Q v t.heap t.vm L) hM hf hl ?_ ?_ ?_ ?_ ?_
  · intro m meth c A a Y hp
    have hU : Z.Warmed39 A.U.vm := wtrans hZ Y.warmed
    refine ⟨?_, mv hU wc, mv hU wz, hp.2.1, hp.2.2⟩
    show (Cond.and _ .tt).before a A.U = true
    rw [Cond.before_and, mv hU wc]; rfl
  · intro m meth c A a g mk Y hp
    exact ⟨hp.1.1, wtrans hZ Y.warmed, hp.1.2.1, hp.1.2.2⟩
  · intros; trivial
  · rintro _ _ _ _ ⟨v, L, h1, h2, h3⟩
    exact ⟨L, _, _, h3, rfl, rfl, v, h1, h2⟩
  · rintro m meth c A a g mk v t L k n Y hp _ _ ⟨e1, e2, v', e3, e4⟩
    cases e3; subst e1 e2; exact ⟨L, e4, rfl, rfl, rfl⟩

theorem own_Sta_keep {Z : State} {h h' : Heap} {C n d : String} {v : Value} (F : Sta Z h C n d v) (K : Keep h h' []) : Sta Z h' C n d v := by
  obtain ⟨cf, i, k, f, st, cell, h1, h2, h3, h4, h5, r⟩ := F; exact ⟨cf, i, k, f, st, cell, h1, h2, h3, h4, K.2.1 st cell h5 nin0, r⟩
theorem own_nneg {n : Nat} (h : n < 2 ^ 31) : ¬ (Int32.ofNat n < (0 : Int32)) := by
  rw [Int32.lt_iff_toInt_lt, toInt_of rfl h]
  have h0 : (0 : Int32).toInt = 0 := by decide
  omega
theorem own_IB_warm {Z s : State} {vm : Vm} {Ts : List String} (I : IB Z s.vm Ts) (h : s.WarmedH vm) : IB Z vm Ts := by
  obtain ⟨more, e, hm⟩ := I; exact ⟨more, h.interned_eq.trans e, hm⟩
theorem own_notzero {args : Array Value} {s : State} {t : Term} {G : Int32} (e : t.eval args s none [] s = some (.int G)) (h : (Cond.not (Cond.eq t (Term.int 0))).before args s = true) : ¬ (G = (0 : Int32)) := by
  intro q
  subst q
  have h2 := Cond.before_iff.mp h
  simp [Cond.value, e, Term.int_eval] at h2
theorem own_A_congr {Z : State} {h : Heap} {a : Addr} {ty : FieldType} {n : Nat} {f g : Nat → Int32} (F : own_A Z h a ty n f) (q : ∀ j, j < n → f j = g j) : own_A Z h a ty n g := by
  obtain ⟨c, A, S, H⟩ := F; exact ⟨c, A, S, fun j hj => by rw [H j hj, q j hj]⟩
theorem own_char {p : Int32} (h1 : 0 ≤ p.toInt) (h2 : p.toInt < 65536) : nar .char p = p := by
  show p.toUInt32.toUInt16.toUInt32.toInt32 = p
  have hb := p.toBitVec.isLt
  have e : p.toInt = (p.toBitVec.toNat : Int) := by
    have : p.toInt = p.toBitVec.toInt := rfl
    rw [this, BitVec.toInt_eq_toNat_cond] at h1 ⊢
    by_cases hc : 2 * p.toBitVec.toNat < 2 ^ 32
    · rw [if_pos hc]
    · rw [if_neg hc] at h1; omega
  have h3 : p.toBitVec.toNat < 65536 := by omega
  apply Int32.toBitVec_inj.mp
  apply BitVec.eq_of_toNat_eq
  simp
  omega
def own_lo (c : Int32) : Int32 := nar .byte ((c >>> ((0 : Int32) &&& 31)).toInt8.toInt32)
def own_hi (c : Int32) : Int32 := nar .byte ((c >>> ((8 : Int32) &&& 31)).toInt8.toInt32)
def own_lt1 (c : Int32) : Int32 := nar .byte (c.toInt8.toInt32)
def own_gc (x y : Int32) : Int32 := nar .char ((((x &&& (255 : Int32)) <<< ((0 : Int32) &&& 31)) ||| ((y &&& (255 : Int32)) <<< ((8 : Int32) &&& 31))).toUInt32.toUInt16.toUInt32.toInt32)
def own_ch5 (x : Int32) : Int32 := nar .char (((x &&& (255 : Int32)).toUInt32.toUInt16.toUInt32.toInt32))
theorem own_low8 (x : Int32) : (nar .byte (x.toInt8.toInt32) &&& (255 : Int32)).toInt = x.toInt % 256 := by
  rw [Jvm.Kit.i32_mask _ 255 (k := 8) (by decide) (by decide)]
  show (x.toInt8.toInt32.toInt8.toInt32).toInt % 2 ^ 8 = _
  simp only [Int8.toInt_toInt32, Int32.toInt_toInt8]
  have e : ∀ z : Int, z.bmod (2 ^ 8) % 256 = z % 256 := fun z => by
    rw [Int.bmod_def]; split <;> omega
  show (x.toInt.bmod (2 ^ 8)).bmod (2 ^ 8) % 256 = _
  rw [e, e]
theorem own_orN {l h : Nat} (hl : l < 256) (hh : h < 256) : (Int32.ofNat l ||| Int32.ofNat (h * 256)) = Int32.ofNat (h * 256 + l) := by
  apply Int32.toBitVec_inj.mp
  apply BitVec.eq_of_toNat_eq
  have e1 : (Int32.ofNat l).toBitVec.toNat = l := by show (BitVec.ofNat 32 l).toNat = l; rw [BitVec.toNat_ofNat]; omega
  have e2 : (Int32.ofNat (h * 256)).toBitVec.toNat = h * 256 := by show (BitVec.ofNat 32 (h * 256)).toNat = _; rw [BitVec.toNat_ofNat]; omega
  have e3 : (Int32.ofNat (h * 256 + l)).toBitVec.toNat = h * 256 + l := by show (BitVec.ofNat 32 (h * 256 + l)).toNat = _; rw [BitVec.toNat_ofNat]; omega
  rw [Int32.toBitVec_or, BitVec.toNat_or, e1, e2, e3, Nat.or_comm]
  have := Nat.shiftLeft_add_eq_or_of_lt (i := 8) (b := l) (by omega) h
  rw [Nat.shiftLeft_eq] at this
  exact this.symm
theorem own_isN {x : Int32} {n : Nat} (h : x.toInt = (n : Int)) (hn : n < 2 ^ 31) : x = Int32.ofNat n := by
  rw [← Int32.toInt_inj, h, toInt_of rfl hn]
theorem own_gc_eq {c : Int32} (h1 : 0 ≤ c.toInt) (h2 : c.toInt < 65536) : own_gc (own_lo c) (own_hi c) = c := by
  obtain ⟨N, hN⟩ : ∃ N : Nat, c.toInt = (N : Int) := ⟨c.toInt.toNat, by omega⟩
  have a : (own_lo c &&& (255 : Int32)).toInt = ((N % 256 : Nat) : Int) := by
    unfold own_lo
    rw [own_low8, Jvm.Kit.i32_shr c _ (k := 0) (by decide), hN]; omega
  have b : (own_hi c &&& (255 : Int32)).toInt = ((N / 256 : Nat) : Int) := by
    unfold own_hi
    rw [own_low8, Jvm.Kit.i32_shr c _ (k := 8) (by decide), hN]; omega
  have a' : ((own_lo c &&& (255 : Int32)) <<< ((0 : Int32) &&& 31)) = Int32.ofNat (N % 256) := own_isN (by rw [Jvm.Kit.i32_shl _ _ (k := 0) (by decide) (by omega) (by omega), a]; omega) (by omega)
  have b' : ((own_hi c &&& (255 : Int32)) <<< ((8 : Int32) &&& 31)) = Int32.ofNat (N / 256 * 256) := own_isN (by rw [Jvm.Kit.i32_shl _ _ (k := 8) (by decide) (by omega) (by omega), b]; omega) (by omega)
  have e : Int32.ofNat (N / 256 * 256 + N % 256) = c := by rw [show N / 256 * 256 + N % 256 = N by omega]; exact (own_isN hN (by omega)).symm
  unfold own_gc
  rw [a', b', own_orN (by omega) (by omega), e]
  show nar .char (nar .char c) = c
  rw [own_char h1 h2, own_char h1 h2]
theorem own_lat_eq {c : Int32} (h1 : 0 ≤ c.toInt) (h2 : ¬ ((255 : Int32) < c)) : nar .char (own_ch5 (own_lt1 c)) = c := by
  have k : (255 : Int32).toInt = 255 := by decide
  rw [Int32.lt_iff_toInt_lt, k] at h2
  have a : (own_lt1 c &&& (255 : Int32)) = c := by
    rw [← Int32.toInt_inj]; unfold own_lt1; rw [own_low8]; omega
  unfold own_ch5
  rw [a]
  show nar .char (nar .char (nar .char c)) = c
  rw [own_char h1 (by omega), own_char h1 (by omega), own_char h1 (by omega)]

theorem own_c16 (x : Int32) : 0 ≤ (x.toUInt32.toUInt16.toUInt32.toInt32).toInt ∧ (x.toUInt32.toUInt16.toUInt32.toInt32).toInt < 65536 := by
  have h : (x.toUInt32.toUInt16.toUInt32.toInt32).toBitVec.toNat < 65536 := by
    have := x.toUInt32.toUInt16.toBitVec.isLt
    simp
    omega
  have e : (x.toUInt32.toUInt16.toUInt32.toInt32).toInt = ((x.toUInt32.toUInt16.toUInt32.toInt32).toBitVec.toNat : Int) := by
    show (x.toUInt32.toUInt16.toUInt32.toInt32).toBitVec.toInt = _
    rw [BitVec.toInt_eq_toNat_cond, if_pos (by omega)]
  omega
def own_utf (f : Nat → Int32) (j : Nat) : Int32 := if j % 2 = 0 then own_lo (f (j / 2)) else own_hi (f (j / 2))
theorem own_utf0 (f : Nat → Int32) (k : Nat) : own_utf f (2 * k) = own_lo (f k) := by
  unfold own_utf; rw [if_pos (by omega), show 2 * k / 2 = k by omega]
theorem own_utf1 (f : Nat → Int32) (k : Nat) : own_utf f (2 * k + 1) = own_hi (f k) := by
  unfold own_utf; rw [if_neg (by omega), show (2 * k + 1) / 2 = k by omega]
def own_pre (f : Nat → Int32) (i j : Nat) : Int32 := if j < i then own_lt1 (f j) else 0
def own_preU (f : Nat → Int32) (i j : Nat) : Int32 := if j < 2 * i then own_utf f j else 0
theorem own_pre_succ (f : Nat → Int32) (i : Nat) : upd (own_pre f i) i (own_lt1 (f i)) = own_pre f (i + 1) := by
  funext j
  unfold upd own_pre
  by_cases h : j = i
  · subst h; rw [if_pos rfl, if_pos (by omega)]
  · rw [if_neg h]
    by_cases h2 : j < i
    · rw [if_pos h2, if_pos (by omega)]
    · rw [if_neg h2, if_neg (by omega)]
theorem own_preU_succ (f : Nat → Int32) (i : Nat) : upd (upd (own_preU f i) (2 * i) (own_lo (f i))) (2 * i + 1) (own_hi (f i)) = own_preU f (i + 1) := by
  funext j
  unfold upd own_preU
  by_cases h : j = 2 * i + 1
  · subst h; rw [if_pos rfl, if_pos (by omega), own_utf1]
  · rw [if_neg h]
    by_cases h1 : j = 2 * i
    · subst h1; rw [if_pos rfl, if_pos (by omega), own_utf0]
    · rw [if_neg h1]
      by_cases h2 : j < 2 * i
      · rw [if_pos h2, if_pos (by omega)]
      · rw [if_neg h2, if_neg (by omega)]
theorem own_half : ∀ n, n < 5 → ((Int32.ofNat (2 * n)) >>> ((1 : Int32) &&& 31)) = Int32.ofNat n := by decide
theorem own_same : ∀ n, n < 5 → ((Int32.ofNat n) >>> ((0 : Int32) &&& 31)) = Int32.ofNat n := by decide
theorem own_dbl : ∀ n, n < 5 → ((Int32.ofNat n) <<< ((1 : Int32) &&& 31)) = Int32.ofNat (2 * n) := by decide
theorem own_os28 {z0 z1 z2 z3 z4 z5 : Value} {s6 : Slot} {v : Int32} (h : One s6) : storeLocals #[.val z0, .val z1, .val z2, .val z3, .val z4, .val z5, s6] 6 (.int v) = some #[.val z0, .val z1, .val z2, .val z3, .val z4, .val z5, .val (.int v)] := by
  rcases h with rfl | ⟨w, rfl, hw⟩
  · rfl
  · cases w <;> first | rfl | (simp [Value.category] at hw)
theorem own_os3 {z0 z1 z2 : Value} {s3 : Slot} {v : Int32} (h : One s3) : storeLocals #[.val z0, .val z1, .val z2, s3] 3 (.int v) = some #[.val z0, .val z1, .val z2, .val (.int v)] := by
  rcases h with rfl | ⟨w, rfl, hw⟩
  · rfl
  · cases w <;> first | rfl | (simp [Value.category] at hw)

def own_StL (Z : State) (h : Heap) (a : Addr) (n : Nat) (f : Nat → Int32) : Prop := ∃ b, Exa Z h a "java/lang/String" ∧ Fld Z h a "java/lang/String" "coder" "B" (.int (0 : Int32)) ∧ Fld Z h a "java/lang/String" "value" "[B" (.ref b) ∧ own_A Z h b .byte n (fun j => own_lt1 (f j)) ∧ ∀ j, j < n → ¬ ((255 : Int32) < f j)
def own_StU (Z : State) (h : Heap) (a : Addr) (n : Nat) (f : Nat → Int32) : Prop := ∃ b, Exa Z h a "java/lang/String" ∧ Fld Z h a "java/lang/String" "coder" "B" (.int (1 : Int32)) ∧ Fld Z h a "java/lang/String" "value" "[B" (.ref b) ∧ own_A Z h b .byte (2 * n) (own_utf f)
def own_St (Z : State) (h : Heap) (a : Addr) (n : Nat) (f : Nat → Int32) : Prop := own_StL Z h a n f ∨ own_StU Z h a n f
theorem pn_1 : plainName "com/example/firm_warden/firmwarden/HeaderFieldsIsTokenPinLaw" = true := by first | (simp [plainName, overriddenIn]; done) | decide +kernel
theorem ef_1 (m : MethodId) (x0 : Int32) : entryFrame m #[(.int x0)] 1 = mkF m 0 #[.val (.int x0)] [] := by first | (simp [entryFrame, mkF, argsToLocals, Value.category]; done) | rfl
theorem d1_0 : decode method_2_code 0 = .ok (.iload_n 0, 1) := by decide +kernel
theorem d1_1 : decode method_2_code 1 = .ok (.bipush 16, 2) := by decide +kernel
theorem d1_3 : decode method_2_code 3 = .ok (.iushr, 1) := by decide +kernel
theorem d1_4 : decode method_2_code 4 = .ok (.iconst 1, 1) := by decide +kernel
theorem d1_5 : decode method_2_code 5 = .ok (.iand, 1) := by decide +kernel
theorem d1_6 : decode method_2_code 6 = .ok (.ifCond .eq 9, 3) := by decide +kernel
theorem d1_15 : decode method_2_code 15 = .ok (.iload_n 0, 1) := by decide +kernel
theorem d1_16 : decode method_2_code 16 = .ok (.sipush 255, 3) := by decide +kernel
theorem d1_19 : decode method_2_code 19 = .ok (.iand, 1) := by decide +kernel
theorem d1_20 : decode method_2_code 20 = .ok (.i2c, 1) := by decide +kernel
theorem d1_21 : decode method_2_code 21 = .ok (.ireturn, 1) := by decide +kernel
theorem d1_9 : decode method_2_code 9 = .ok (.iload_n 0, 1) := by decide +kernel
theorem d1_10 : decode method_2_code 10 = .ok (.ldc 7, 2) := by decide +kernel
theorem d1_12 : decode method_2_code 12 = .ok (.iand, 1) := by decide +kernel
theorem d1_13 : decode method_2_code 13 = .ok (.i2c, 1) := by decide +kernel
theorem d1_14 : decode method_2_code 14 = .ok (.ireturn, 1) := by decide +kernel
def own_draw (p1 : Int32) : Int32 := if (((p1.toUInt32 >>> ((16 : Int32) &&& 31).toUInt32).toInt32) &&& (1 : Int32)) = (0 : Int32) then ((nar .char ((p1 &&& (255 : Int32)).toUInt32.toUInt16.toUInt32.toInt32))) else ((nar .char ((p1 &&& (65535 : Int32)).toUInt32.toUInt16.toUInt32.toInt32)))
def Q1 (Z : State) (p1 : Int32) (h0 : Heap) (n0 : Nat) (v : Option Value) (h : Heap) (L : List Loc) : Prop := v = some (.int (own_draw p1)) ∧ Fr n0 L ∧ h = h0
set_option maxRecDepth 65536 in
set_option maxHeartbeats 40000000 in
theorem rm1 (l : Launch) (Z : State) (a0 : Array Value) (hw : ∀ d ∈ tables_1, d.before a0 Z = true) (ws : List Jvm.Cond) (p1 : Int32) (h0 : Heap) (n0 : Nat) (Z0 : n0 ≤ h0.size) :
    MetFree l (⟨"com/example/firm_warden/firmwarden/HeaderFieldsIsTokenPinLaw", "draw", "(I)C"⟩ : MethodName) (head1 (Jvm.Cond.code (⟨"com/example/firm_warden/firmwarden/HeaderFieldsIsTokenPinLaw", "draw", "(I)C"⟩ : MethodName) method_2_code 1 (some .char) :: ws) ({ frames := 0, cells := 0, slots := 0, locals := 0 } : Room)) (fun aa_ U => aa_ = #[(.int p1)] ∧ Z.Warmed39 U.vm ∧ U.heap = h0) (fun _ _ _ _ _ => True) (fun _ U o U' => ∃ v_ L_, o = .returned v_ ∧ Q1 Z p1 h0 n0 v_ U'.heap L_ ∧ FrameEnd U o U' L_ ({ frames := 0, cells := 0, slots := 0, locals := 0 } : Room).cells ({ frames := 0, cells := 0, slots := 0, locals := 0 } : Room).slots) := by
  refine MetFree.of_bodySF (plainFor_of_name pn_1) hisR ?_
  intro p e s m args below meth c s₁ Bd hml0 hP hK
  obtain ⟨rfl, hZ, hh⟩ := hP
  have hx := Bd.exec
  have hby := Bd.bytes
  have hml : c.maxLocals = 1 := hml0
  have hown : s.vm.findClass "com/example/firm_warden/firmwarden/HeaderFieldsIsTokenPinLaw" = some m.cls := findClass_of_methodNamed Bd.named
  have hnm := (name_of_methodNamed Bd.named Bd.method).1
  have X0 : Stand p l e ({ frames := 0, cells := 0, slots := 0, locals := 0 } : Room) s m #[(.int p1)] below meth c s₁ [] 0 0 := Stand.of_body Bd
  have e0 : s₁.heap = h0 := by rw [← hh, Bd.state]; rfl
  have N0 := Fr.nil n0
  have pre0 : ∀ t, Steps p.tables e below (s₁.setTop (mkF m 0 #[.val (.int p1)] [])) t → Steps p.tables e below (s₁.setTop (entryFrame m #[(.int p1)] 1)) t := fun t k_ => castTop (ef_1 m p1) k_
  have pre1 : ∀ t, Steps p.tables e below (s₁.setTop (mkF m 6 #[.val (.int p1)] [(.int (((p1.toUInt32 >>> ((16 : Int32) &&& 31).toUInt32).toInt32) &&& (1 : Int32)))])) t → Steps p.tables e below _ t := fun t kt => pre0 t (by
    show Steps p.tables e below (s₁.setTop (mkF m 0 #[.val (.int p1)] [])) _
    refine XS.iloadN X0.here hx rfl (hb hby d1_0) rfl ?_
    show Steps p.tables e below (s₁.setTop (mkF m 1 #[.val (.int p1)] [(.int p1)])) _
    refine XS.bipush X0.here hx rfl (hb hby d1_1) ?_
    show Steps p.tables e below (s₁.setTop (mkF m 3 #[.val (.int p1)] [(.int (16 : Int32)), (.int p1)])) _
    refine XS.iushr X0.here hx rfl (hb hby d1_3) rfl ?_
    show Steps p.tables e below (s₁.setTop (mkF m 4 #[.val (.int p1)] [(.int ((p1.toUInt32 >>> ((16 : Int32) &&& 31).toUInt32).toInt32))])) _
    refine XS.iconst X0.here hx rfl (hb hby d1_4) ?_
    show Steps p.tables e below (s₁.setTop (mkF m 5 #[.val (.int p1)] [(.int (1 : Int32)), (.int ((p1.toUInt32 >>> ((16 : Int32) &&& 31).toUInt32).toInt32))])) _
    refine XS.iand X0.here hx rfl (hb hby d1_5) rfl ?_
    exact kt)
  by_cases hc6 : (((p1.toUInt32 >>> ((16 : Int32) &&& 31).toUInt32).toInt32) &&& (1 : Int32)) = (0 : Int32)
  · obtain ⟨fs, hr, hrun, hended, hW, hsame⟩ := X0.leave (v := some (.int (nar .char ((p1 &&& (255 : Int32)).toUInt32.toUInt16.toUInt32.toInt32)))) (fun h => by rw [Bd.returns] at h; cases h)
    refine ⟨_, _, pre1 _ ?_, hrun, hended, _, _, rfl, ?_, ⟨_, rfl⟩, hW, hsame.mono (by decide) (by decide)⟩
    · show Steps p.tables e below (s₁.setTop (mkF m 6 #[.val (.int p1)] [(.int (((p1.toUInt32 >>> ((16 : Int32) &&& 31).toUInt32).toInt32) &&& (1 : Int32)))])) _
      refine XS.ifYes X0.here hx rfl (pc0 := 6) (pc' := 15) rfl (hb hby d1_6) rfl ((if0 _ _).trans (teq hc6).1) (by decide) (by decide) ?_
      show Steps p.tables e below (s₁.setTop (mkF m 15 #[.val (.int p1)] [])) _
      refine XS.iloadN X0.here hx rfl (hb hby d1_15) rfl ?_
      show Steps p.tables e below (s₁.setTop (mkF m 16 #[.val (.int p1)] [(.int p1)])) _
      refine XS.sipush X0.here hx rfl (hb hby d1_16) ?_
      show Steps p.tables e below (s₁.setTop (mkF m 19 #[.val (.int p1)] [(.int (255 : Int32)), (.int p1)])) _
      refine XS.iand X0.here hx rfl (hb hby d1_19) rfl ?_
      show Steps p.tables e below (s₁.setTop (mkF m 20 #[.val (.int p1)] [(.int (p1 &&& (255 : Int32)))])) _
      refine XS.i2c X0.here hx rfl (hb hby d1_20) rfl ?_
      show Steps p.tables e below (s₁.setTop (mkF m 21 #[.val (.int p1)] [(.int ((p1 &&& (255 : Int32)).toUInt32.toUInt16.toUInt32.toInt32))])) _
      exact retN X0 hx (t := .char) Bd.returns (by simp) (hb hby d1_21) hr
    · show Q1 Z p1 h0 n0 _ s₁.heap _
      rw [e0]
      exact ⟨by simp only [own_draw, if_pos hc6], N0, rfl⟩
  · obtain ⟨fs, hr, hrun, hended, hW, hsame⟩ := X0.leave (v := some (.int (nar .char ((p1 &&& (65535 : Int32)).toUInt32.toUInt16.toUInt32.toInt32)))) (fun h => by rw [Bd.returns] at h; cases h)
    refine ⟨_, _, pre1 _ ?_, hrun, hended, _, _, rfl, ?_, ⟨_, rfl⟩, hW, hsame.mono (by decide) (by decide)⟩
    · show Steps p.tables e below (s₁.setTop (mkF m 6 #[.val (.int p1)] [(.int (((p1.toUInt32 >>> ((16 : Int32) &&& 31).toUInt32).toInt32) &&& (1 : Int32)))])) _
      refine XS.ifNo X0.here hx rfl (hb hby d1_6) rfl ((if0 _ _).trans (feq hc6).1) ?_
      show Steps p.tables e below (s₁.setTop (mkF m 9 #[.val (.int p1)] [])) _
      refine XS.iloadN X0.here hx rfl (hb hby d1_9) rfl ?_
      show Steps p.tables e below (s₁.setTop (mkF m 10 #[.val (.int p1)] [(.int p1)])) _
      refine X0.ldcInt hx hown (mvT hZ (hw _ (List.mem_of_getElem? (i := 83) rfl))) (g := (mkF m 10 #[.val (.int p1)] [(.int p1)])) rfl (hb hby d1_10) _ ?_
      show Steps p.tables e below (s₁.setTop (mkF m 12 #[.val (.int p1)] [(.int (65535 : Int32)), (.int p1)])) _
      refine XS.iand X0.here hx rfl (hb hby d1_12) rfl ?_
      show Steps p.tables e below (s₁.setTop (mkF m 13 #[.val (.int p1)] [(.int (p1 &&& (65535 : Int32)))])) _
      refine XS.i2c X0.here hx rfl (hb hby d1_13) rfl ?_
      show Steps p.tables e below (s₁.setTop (mkF m 14 #[.val (.int p1)] [(.int ((p1 &&& (65535 : Int32)).toUInt32.toUInt16.toUInt32.toInt32))])) _
      exact retN X0 hx (t := .char) Bd.returns (by simp) (hb hby d1_14) hr
    · show Q1 Z p1 h0 n0 _ s₁.heap _
      rw [e0]
      exact ⟨by simp only [own_draw, if_neg hc6], N0, rfl⟩
theorem pn_12 : plainName "com/example/firm_warden/firmwarden/HeaderFieldsIsTokenPinLaw" = true := by first | (simp [plainName, overriddenIn]; done) | decide +kernel
theorem ef_12 (m : MethodId) (x0 : Int32) : entryFrame m #[(.int x0)] 1 = mkF m 0 #[.val (.int x0)] [] := by first | (simp [entryFrame, mkF, argsToLocals, Value.category]; done) | rfl
theorem d12_0 : decode method_3_code 0 = .ok (.iload_n 0, 1) := by decide +kernel
theorem d12_1 : decode method_3_code 1 = .ok (.bipush 48, 2) := by decide +kernel
theorem d12_3 : decode method_3_code 3 = .ok (.if_icmp .lt 11, 3) := by decide +kernel
theorem d12_14 : decode method_3_code 14 = .ok (.iload_n 0, 1) := by decide +kernel
theorem d12_15 : decode method_3_code 15 = .ok (.bipush 65, 2) := by decide +kernel
theorem d12_17 : decode method_3_code 17 = .ok (.if_icmp .lt 11, 3) := by decide +kernel
theorem d12_28 : decode method_3_code 28 = .ok (.iload_n 0, 1) := by decide +kernel
theorem d12_29 : decode method_3_code 29 = .ok (.bipush 97, 2) := by decide +kernel
theorem d12_31 : decode method_3_code 31 = .ok (.if_icmp .lt 11, 3) := by decide +kernel
theorem d12_42 : decode method_3_code 42 = .ok (.iload_n 0, 1) := by decide +kernel
theorem d12_43 : decode method_3_code 43 = .ok (.bipush 33, 2) := by decide +kernel
theorem d12_45 : decode method_3_code 45 = .ok (.if_icmp .eq 87, 3) := by decide +kernel
theorem d12_132 : decode method_3_code 132 = .ok (.iconst 1, 1) := by decide +kernel
theorem d12_133 : decode method_3_code 133 = .ok (.goto 4, 3) := by decide +kernel
theorem d12_137 : decode method_3_code 137 = .ok (.ireturn, 1) := by decide +kernel
theorem d12_48 : decode method_3_code 48 = .ok (.iload_n 0, 1) := by decide +kernel
theorem d12_49 : decode method_3_code 49 = .ok (.bipush 35, 2) := by decide +kernel
theorem d12_51 : decode method_3_code 51 = .ok (.if_icmp .eq 81, 3) := by decide +kernel
theorem d12_54 : decode method_3_code 54 = .ok (.iload_n 0, 1) := by decide +kernel
theorem d12_55 : decode method_3_code 55 = .ok (.bipush 36, 2) := by decide +kernel
theorem d12_57 : decode method_3_code 57 = .ok (.if_icmp .eq 75, 3) := by decide +kernel
theorem d12_60 : decode method_3_code 60 = .ok (.iload_n 0, 1) := by decide +kernel
theorem d12_61 : decode method_3_code 61 = .ok (.bipush 37, 2) := by decide +kernel
theorem d12_63 : decode method_3_code 63 = .ok (.if_icmp .eq 69, 3) := by decide +kernel
theorem d12_66 : decode method_3_code 66 = .ok (.iload_n 0, 1) := by decide +kernel
theorem d12_67 : decode method_3_code 67 = .ok (.bipush 38, 2) := by decide +kernel
theorem d12_69 : decode method_3_code 69 = .ok (.if_icmp .eq 63, 3) := by decide +kernel
theorem d12_72 : decode method_3_code 72 = .ok (.iload_n 0, 1) := by decide +kernel
theorem d12_73 : decode method_3_code 73 = .ok (.bipush 39, 2) := by decide +kernel
theorem d12_75 : decode method_3_code 75 = .ok (.if_icmp .eq 57, 3) := by decide +kernel
theorem d12_78 : decode method_3_code 78 = .ok (.iload_n 0, 1) := by decide +kernel
theorem d12_79 : decode method_3_code 79 = .ok (.bipush 42, 2) := by decide +kernel
theorem d12_81 : decode method_3_code 81 = .ok (.if_icmp .eq 51, 3) := by decide +kernel
theorem d12_84 : decode method_3_code 84 = .ok (.iload_n 0, 1) := by decide +kernel
theorem d12_85 : decode method_3_code 85 = .ok (.bipush 43, 2) := by decide +kernel
theorem d12_87 : decode method_3_code 87 = .ok (.if_icmp .eq 45, 3) := by decide +kernel
theorem d12_90 : decode method_3_code 90 = .ok (.iload_n 0, 1) := by decide +kernel
theorem d12_91 : decode method_3_code 91 = .ok (.bipush 45, 2) := by decide +kernel
theorem d12_93 : decode method_3_code 93 = .ok (.if_icmp .eq 39, 3) := by decide +kernel
theorem d12_96 : decode method_3_code 96 = .ok (.iload_n 0, 1) := by decide +kernel
theorem d12_97 : decode method_3_code 97 = .ok (.bipush 46, 2) := by decide +kernel
theorem d12_99 : decode method_3_code 99 = .ok (.if_icmp .eq 33, 3) := by decide +kernel
theorem d12_102 : decode method_3_code 102 = .ok (.iload_n 0, 1) := by decide +kernel
theorem d12_103 : decode method_3_code 103 = .ok (.bipush 94, 2) := by decide +kernel
theorem d12_105 : decode method_3_code 105 = .ok (.if_icmp .eq 27, 3) := by decide +kernel
theorem d12_108 : decode method_3_code 108 = .ok (.iload_n 0, 1) := by decide +kernel
theorem d12_109 : decode method_3_code 109 = .ok (.bipush 95, 2) := by decide +kernel
theorem d12_111 : decode method_3_code 111 = .ok (.if_icmp .eq 21, 3) := by decide +kernel
theorem d12_114 : decode method_3_code 114 = .ok (.iload_n 0, 1) := by decide +kernel
theorem d12_115 : decode method_3_code 115 = .ok (.bipush 96, 2) := by decide +kernel
theorem d12_117 : decode method_3_code 117 = .ok (.if_icmp .eq 15, 3) := by decide +kernel
theorem d12_120 : decode method_3_code 120 = .ok (.iload_n 0, 1) := by decide +kernel
theorem d12_121 : decode method_3_code 121 = .ok (.bipush 124, 2) := by decide +kernel
theorem d12_123 : decode method_3_code 123 = .ok (.if_icmp .eq 9, 3) := by decide +kernel
theorem d12_126 : decode method_3_code 126 = .ok (.iload_n 0, 1) := by decide +kernel
theorem d12_127 : decode method_3_code 127 = .ok (.bipush 126, 2) := by decide +kernel
theorem d12_129 : decode method_3_code 129 = .ok (.if_icmp .ne 7, 3) := by decide +kernel
theorem d12_136 : decode method_3_code 136 = .ok (.iconst 0, 1) := by decide +kernel
theorem d12_34 : decode method_3_code 34 = .ok (.iload_n 0, 1) := by decide +kernel
theorem d12_35 : decode method_3_code 35 = .ok (.bipush 122, 2) := by decide +kernel
theorem d12_37 : decode method_3_code 37 = .ok (.if_icmp .gt 5, 3) := by decide +kernel
theorem d12_40 : decode method_3_code 40 = .ok (.iconst 1, 1) := by decide +kernel
theorem d12_41 : decode method_3_code 41 = .ok (.ireturn, 1) := by decide +kernel
theorem d12_20 : decode method_3_code 20 = .ok (.iload_n 0, 1) := by decide +kernel
theorem d12_21 : decode method_3_code 21 = .ok (.bipush 90, 2) := by decide +kernel
theorem d12_23 : decode method_3_code 23 = .ok (.if_icmp .gt 5, 3) := by decide +kernel
theorem d12_26 : decode method_3_code 26 = .ok (.iconst 1, 1) := by decide +kernel
theorem d12_27 : decode method_3_code 27 = .ok (.ireturn, 1) := by decide +kernel
theorem d12_6 : decode method_3_code 6 = .ok (.iload_n 0, 1) := by decide +kernel
theorem d12_7 : decode method_3_code 7 = .ok (.bipush 57, 2) := by decide +kernel
theorem d12_9 : decode method_3_code 9 = .ok (.if_icmp .gt 5, 3) := by decide +kernel
theorem d12_12 : decode method_3_code 12 = .ok (.iconst 1, 1) := by decide +kernel
theorem d12_13 : decode method_3_code 13 = .ok (.ireturn, 1) := by decide +kernel
def own_tchar (p1 : Int32) : Int32 := if p1 < (48 : Int32) then (if p1 < (65 : Int32) then (if p1 < (97 : Int32) then (if p1 = (33 : Int32) then ((1 : Int32)) else (if p1 = (35 : Int32) then ((1 : Int32)) else (if p1 = (36 : Int32) then ((1 : Int32)) else (if p1 = (37 : Int32) then ((1 : Int32)) else (if p1 = (38 : Int32) then ((1 : Int32)) else (if p1 = (39 : Int32) then ((1 : Int32)) else (if p1 = (42 : Int32) then ((1 : Int32)) else (if p1 = (43 : Int32) then ((1 : Int32)) else (if p1 = (45 : Int32) then ((1 : Int32)) else (if p1 = (46 : Int32) then ((1 : Int32)) else (if p1 = (94 : Int32) then ((1 : Int32)) else (if p1 = (95 : Int32) then ((1 : Int32)) else (if p1 = (96 : Int32) then ((1 : Int32)) else (if p1 = (124 : Int32) then ((1 : Int32)) else (if p1 = (126 : Int32) then ((1 : Int32)) else ((0 : Int32))))))))))))))))) else (if (122 : Int32) < p1 then (if p1 = (33 : Int32) then ((1 : Int32)) else (if p1 = (35 : Int32) then ((1 : Int32)) else (if p1 = (36 : Int32) then ((1 : Int32)) else (if p1 = (37 : Int32) then ((1 : Int32)) else (if p1 = (38 : Int32) then ((1 : Int32)) else (if p1 = (39 : Int32) then ((1 : Int32)) else (if p1 = (42 : Int32) then ((1 : Int32)) else (if p1 = (43 : Int32) then ((1 : Int32)) else (if p1 = (45 : Int32) then ((1 : Int32)) else (if p1 = (46 : Int32) then ((1 : Int32)) else (if p1 = (94 : Int32) then ((1 : Int32)) else (if p1 = (95 : Int32) then ((1 : Int32)) else (if p1 = (96 : Int32) then ((1 : Int32)) else (if p1 = (124 : Int32) then ((1 : Int32)) else (if p1 = (126 : Int32) then ((1 : Int32)) else ((0 : Int32))))))))))))))))) else ((1 : Int32)))) else (if (90 : Int32) < p1 then (if p1 < (97 : Int32) then (if p1 = (33 : Int32) then ((1 : Int32)) else (if p1 = (35 : Int32) then ((1 : Int32)) else (if p1 = (36 : Int32) then ((1 : Int32)) else (if p1 = (37 : Int32) then ((1 : Int32)) else (if p1 = (38 : Int32) then ((1 : Int32)) else (if p1 = (39 : Int32) then ((1 : Int32)) else (if p1 = (42 : Int32) then ((1 : Int32)) else (if p1 = (43 : Int32) then ((1 : Int32)) else (if p1 = (45 : Int32) then ((1 : Int32)) else (if p1 = (46 : Int32) then ((1 : Int32)) else (if p1 = (94 : Int32) then ((1 : Int32)) else (if p1 = (95 : Int32) then ((1 : Int32)) else (if p1 = (96 : Int32) then ((1 : Int32)) else (if p1 = (124 : Int32) then ((1 : Int32)) else (if p1 = (126 : Int32) then ((1 : Int32)) else ((0 : Int32))))))))))))))))) else (if (122 : Int32) < p1 then (if p1 = (33 : Int32) then ((1 : Int32)) else (if p1 = (35 : Int32) then ((1 : Int32)) else (if p1 = (36 : Int32) then ((1 : Int32)) else (if p1 = (37 : Int32) then ((1 : Int32)) else (if p1 = (38 : Int32) then ((1 : Int32)) else (if p1 = (39 : Int32) then ((1 : Int32)) else (if p1 = (42 : Int32) then ((1 : Int32)) else (if p1 = (43 : Int32) then ((1 : Int32)) else (if p1 = (45 : Int32) then ((1 : Int32)) else (if p1 = (46 : Int32) then ((1 : Int32)) else (if p1 = (94 : Int32) then ((1 : Int32)) else (if p1 = (95 : Int32) then ((1 : Int32)) else (if p1 = (96 : Int32) then ((1 : Int32)) else (if p1 = (124 : Int32) then ((1 : Int32)) else (if p1 = (126 : Int32) then ((1 : Int32)) else ((0 : Int32))))))))))))))))) else ((1 : Int32)))) else ((1 : Int32)))) else (if (57 : Int32) < p1 then (if p1 < (65 : Int32) then (if p1 < (97 : Int32) then (if p1 = (33 : Int32) then ((1 : Int32)) else (if p1 = (35 : Int32) then ((1 : Int32)) else (if p1 = (36 : Int32) then ((1 : Int32)) else (if p1 = (37 : Int32) then ((1 : Int32)) else (if p1 = (38 : Int32) then ((1 : Int32)) else (if p1 = (39 : Int32) then ((1 : Int32)) else (if p1 = (42 : Int32) then ((1 : Int32)) else (if p1 = (43 : Int32) then ((1 : Int32)) else (if p1 = (45 : Int32) then ((1 : Int32)) else (if p1 = (46 : Int32) then ((1 : Int32)) else (if p1 = (94 : Int32) then ((1 : Int32)) else (if p1 = (95 : Int32) then ((1 : Int32)) else (if p1 = (96 : Int32) then ((1 : Int32)) else (if p1 = (124 : Int32) then ((1 : Int32)) else (if p1 = (126 : Int32) then ((1 : Int32)) else ((0 : Int32))))))))))))))))) else (if (122 : Int32) < p1 then (if p1 = (33 : Int32) then ((1 : Int32)) else (if p1 = (35 : Int32) then ((1 : Int32)) else (if p1 = (36 : Int32) then ((1 : Int32)) else (if p1 = (37 : Int32) then ((1 : Int32)) else (if p1 = (38 : Int32) then ((1 : Int32)) else (if p1 = (39 : Int32) then ((1 : Int32)) else (if p1 = (42 : Int32) then ((1 : Int32)) else (if p1 = (43 : Int32) then ((1 : Int32)) else (if p1 = (45 : Int32) then ((1 : Int32)) else (if p1 = (46 : Int32) then ((1 : Int32)) else (if p1 = (94 : Int32) then ((1 : Int32)) else (if p1 = (95 : Int32) then ((1 : Int32)) else (if p1 = (96 : Int32) then ((1 : Int32)) else (if p1 = (124 : Int32) then ((1 : Int32)) else (if p1 = (126 : Int32) then ((1 : Int32)) else ((0 : Int32))))))))))))))))) else ((1 : Int32)))) else (if (90 : Int32) < p1 then (if p1 < (97 : Int32) then (if p1 = (33 : Int32) then ((1 : Int32)) else (if p1 = (35 : Int32) then ((1 : Int32)) else (if p1 = (36 : Int32) then ((1 : Int32)) else (if p1 = (37 : Int32) then ((1 : Int32)) else (if p1 = (38 : Int32) then ((1 : Int32)) else (if p1 = (39 : Int32) then ((1 : Int32)) else (if p1 = (42 : Int32) then ((1 : Int32)) else (if p1 = (43 : Int32) then ((1 : Int32)) else (if p1 = (45 : Int32) then ((1 : Int32)) else (if p1 = (46 : Int32) then ((1 : Int32)) else (if p1 = (94 : Int32) then ((1 : Int32)) else (if p1 = (95 : Int32) then ((1 : Int32)) else (if p1 = (96 : Int32) then ((1 : Int32)) else (if p1 = (124 : Int32) then ((1 : Int32)) else (if p1 = (126 : Int32) then ((1 : Int32)) else ((0 : Int32))))))))))))))))) else (if (122 : Int32) < p1 then (if p1 = (33 : Int32) then ((1 : Int32)) else (if p1 = (35 : Int32) then ((1 : Int32)) else (if p1 = (36 : Int32) then ((1 : Int32)) else (if p1 = (37 : Int32) then ((1 : Int32)) else (if p1 = (38 : Int32) then ((1 : Int32)) else (if p1 = (39 : Int32) then ((1 : Int32)) else (if p1 = (42 : Int32) then ((1 : Int32)) else (if p1 = (43 : Int32) then ((1 : Int32)) else (if p1 = (45 : Int32) then ((1 : Int32)) else (if p1 = (46 : Int32) then ((1 : Int32)) else (if p1 = (94 : Int32) then ((1 : Int32)) else (if p1 = (95 : Int32) then ((1 : Int32)) else (if p1 = (96 : Int32) then ((1 : Int32)) else (if p1 = (124 : Int32) then ((1 : Int32)) else (if p1 = (126 : Int32) then ((1 : Int32)) else ((0 : Int32))))))))))))))))) else ((1 : Int32)))) else ((1 : Int32)))) else ((1 : Int32)))
def Q12 (Z : State) (p1 : Int32) (h0 : Heap) (n0 : Nat) (v : Option Value) (h : Heap) (L : List Loc) : Prop := v = some (.int (own_tchar p1)) ∧ Fr n0 L ∧ h = h0
set_option maxRecDepth 65536 in
set_option maxHeartbeats 40000000 in
theorem rm12 (l : Launch) (Z : State) (a0 : Array Value) (hw : ∀ d ∈ tables_1, d.before a0 Z = true) (ws : List Jvm.Cond) (p1 : Int32) (h0 : Heap) (n0 : Nat) (Z0 : n0 ≤ h0.size) :
    MetFree l (⟨"com/example/firm_warden/firmwarden/HeaderFieldsIsTokenPinLaw", "tchar", "(C)Z"⟩ : MethodName) (head1 (Jvm.Cond.code (⟨"com/example/firm_warden/firmwarden/HeaderFieldsIsTokenPinLaw", "tchar", "(C)Z"⟩ : MethodName) method_3_code 1 (some .boolean) :: ws) ({ frames := 0, cells := 0, slots := 0, locals := 0 } : Room)) (fun aa_ U => aa_ = #[(.int p1)] ∧ Z.Warmed39 U.vm ∧ U.heap = h0) (fun _ _ _ _ _ => True) (fun _ U o U' => ∃ v_ L_, o = .returned v_ ∧ Q12 Z p1 h0 n0 v_ U'.heap L_ ∧ FrameEnd U o U' L_ ({ frames := 0, cells := 0, slots := 0, locals := 0 } : Room).cells ({ frames := 0, cells := 0, slots := 0, locals := 0 } : Room).slots) := by
  refine MetFree.of_bodySF (plainFor_of_name pn_12) hisR ?_
  intro p e s m args below meth c s₁ Bd hml0 hP hK
  obtain ⟨rfl, hZ, hh⟩ := hP
  have hx := Bd.exec
  have hby := Bd.bytes
  have hml : c.maxLocals = 1 := hml0
  have hown : s.vm.findClass "com/example/firm_warden/firmwarden/HeaderFieldsIsTokenPinLaw" = some m.cls := findClass_of_methodNamed Bd.named
  have hnm := (name_of_methodNamed Bd.named Bd.method).1
  have X0 : Stand p l e ({ frames := 0, cells := 0, slots := 0, locals := 0 } : Room) s m #[(.int p1)] below meth c s₁ [] 0 0 := Stand.of_body Bd
  have e0 : s₁.heap = h0 := by rw [← hh, Bd.state]; rfl
  have N0 := Fr.nil n0
  have pre0 : ∀ t, Steps p.tables e below (s₁.setTop (mkF m 0 #[.val (.int p1)] [])) t → Steps p.tables e below (s₁.setTop (entryFrame m #[(.int p1)] 1)) t := fun t k_ => castTop (ef_12 m p1) k_
  have pre1 : ∀ t, Steps p.tables e below (s₁.setTop (mkF m 3 #[.val (.int p1)] [(.int (48 : Int32)), (.int p1)])) t → Steps p.tables e below _ t := fun t kt => pre0 t (by
    show Steps p.tables e below (s₁.setTop (mkF m 0 #[.val (.int p1)] [])) _
    refine XS.iloadN X0.here hx rfl (hb hby d12_0) rfl ?_
    refine XS.bipush X0.here hx rfl (hb hby d12_1) ?_
    exact kt)
  by_cases hc3 : p1 < (48 : Int32)
  · have pre2 : ∀ t, Steps p.tables e below (s₁.setTop (mkF m 17 #[.val (.int p1)] [(.int (65 : Int32)), (.int p1)])) t → Steps p.tables e below _ t := fun t kt => pre1 t (by
      show Steps p.tables e below (s₁.setTop (mkF m 3 #[.val (.int p1)] [(.int (48 : Int32)), (.int p1)])) _
      refine XS.icmpYes X0.here hx rfl (pc0 := 3) (pc' := 14) rfl (hb hby d12_3) rfl (tlt hc3).1 (by decide) (by decide) ?_
      refine XS.iloadN X0.here hx rfl (hb hby d12_14) rfl ?_
      refine XS.bipush X0.here hx rfl (hb hby d12_15) ?_
      exact kt)
    by_cases hc17 : p1 < (65 : Int32)
    · have pre3 : ∀ t, Steps p.tables e below (s₁.setTop (mkF m 31 #[.val (.int p1)] [(.int (97 : Int32)), (.int p1)])) t → Steps p.tables e below _ t := fun t kt => pre2 t (by
        show Steps p.tables e below (s₁.setTop (mkF m 17 #[.val (.int p1)] [(.int (65 : Int32)), (.int p1)])) _
        refine XS.icmpYes X0.here hx rfl (pc0 := 17) (pc' := 28) rfl (hb hby d12_17) rfl (tlt hc17).1 (by decide) (by decide) ?_
        refine XS.iloadN X0.here hx rfl (hb hby d12_28) rfl ?_
        refine XS.bipush X0.here hx rfl (hb hby d12_29) ?_
        exact kt)
      by_cases hc31 : p1 < (97 : Int32)
      · have pre4 : ∀ t, Steps p.tables e below (s₁.setTop (mkF m 45 #[.val (.int p1)] [(.int (33 : Int32)), (.int p1)])) t → Steps p.tables e below _ t := fun t kt => pre3 t (by
          show Steps p.tables e below (s₁.setTop (mkF m 31 #[.val (.int p1)] [(.int (97 : Int32)), (.int p1)])) _
          refine XS.icmpYes X0.here hx rfl (pc0 := 31) (pc' := 42) rfl (hb hby d12_31) rfl (tlt hc31).1 (by decide) (by decide) ?_
          refine XS.iloadN X0.here hx rfl (hb hby d12_42) rfl ?_
          refine XS.bipush X0.here hx rfl (hb hby d12_43) ?_
          exact kt)
        by_cases hc45 : p1 = (33 : Int32)
        · obtain ⟨fs, hr, hrun, hended, hW, hsame⟩ := X0.leave (v := some (.int (1 : Int32))) (fun h => by rw [Bd.returns] at h; cases h)
          refine ⟨_, _, pre4 _ ?_, hrun, hended, _, _, rfl, ?_, ⟨_, rfl⟩, hW, hsame.mono (by decide) (by decide)⟩
          · show Steps p.tables e below (s₁.setTop (mkF m 45 #[.val (.int p1)] [(.int (33 : Int32)), (.int p1)])) _
            refine XS.icmpYes X0.here hx rfl (pc0 := 45) (pc' := 132) rfl (hb hby d12_45) rfl (teq hc45).1 (by decide) (by decide) ?_
            refine XS.iconst X0.here hx rfl (hb hby d12_132) ?_
            refine XS.goto X0.here hx rfl (pc0 := 133) (pc' := 137) rfl (hb hby d12_133) (by decide) (by decide) ?_
            show Steps p.tables e below (s₁.setTop (mkF m 137 #[.val (.int p1)] [(.int (1 : Int32))])) _
            exact retN X0 hx (t := .boolean) Bd.returns (by simp) (hb hby d12_137) hr
          · show Q12 Z p1 h0 n0 _ s₁.heap _
            rw [e0]
            exact ⟨by simp only [own_tchar, if_pos hc3, if_pos hc17, if_pos hc31, if_pos hc45], N0, rfl⟩
        · have pre5 : ∀ t, Steps p.tables e below (s₁.setTop (mkF m 51 #[.val (.int p1)] [(.int (35 : Int32)), (.int p1)])) t → Steps p.tables e below _ t := fun t kt => pre4 t (by
            show Steps p.tables e below (s₁.setTop (mkF m 45 #[.val (.int p1)] [(.int (33 : Int32)), (.int p1)])) _
            refine XS.icmpNo X0.here hx rfl (hb hby d12_45) rfl (feq hc45).1 ?_
            refine XS.iloadN X0.here hx rfl (hb hby d12_48) rfl ?_
            refine XS.bipush X0.here hx rfl (hb hby d12_49) ?_
            exact kt)
          by_cases hc51 : p1 = (35 : Int32)
          · obtain ⟨fs, hr, hrun, hended, hW, hsame⟩ := X0.leave (v := some (.int (1 : Int32))) (fun h => by rw [Bd.returns] at h; cases h)
            refine ⟨_, _, pre5 _ ?_, hrun, hended, _, _, rfl, ?_, ⟨_, rfl⟩, hW, hsame.mono (by decide) (by decide)⟩
            · show Steps p.tables e below (s₁.setTop (mkF m 51 #[.val (.int p1)] [(.int (35 : Int32)), (.int p1)])) _
              refine XS.icmpYes X0.here hx rfl (pc0 := 51) (pc' := 132) rfl (hb hby d12_51) rfl (teq hc51).1 (by decide) (by decide) ?_
              refine XS.iconst X0.here hx rfl (hb hby d12_132) ?_
              refine XS.goto X0.here hx rfl (pc0 := 133) (pc' := 137) rfl (hb hby d12_133) (by decide) (by decide) ?_
              show Steps p.tables e below (s₁.setTop (mkF m 137 #[.val (.int p1)] [(.int (1 : Int32))])) _
              exact retN X0 hx (t := .boolean) Bd.returns (by simp) (hb hby d12_137) hr
            · show Q12 Z p1 h0 n0 _ s₁.heap _
              rw [e0]
              exact ⟨by simp only [own_tchar, if_pos hc3, if_pos hc17, if_pos hc31, if_neg hc45, if_pos hc51], N0, rfl⟩
          · have pre6 : ∀ t, Steps p.tables e below (s₁.setTop (mkF m 57 #[.val (.int p1)] [(.int (36 : Int32)), (.int p1)])) t → Steps p.tables e below _ t := fun t kt => pre5 t (by
              show Steps p.tables e below (s₁.setTop (mkF m 51 #[.val (.int p1)] [(.int (35 : Int32)), (.int p1)])) _
              refine XS.icmpNo X0.here hx rfl (hb hby d12_51) rfl (feq hc51).1 ?_
              refine XS.iloadN X0.here hx rfl (hb hby d12_54) rfl ?_
              refine XS.bipush X0.here hx rfl (hb hby d12_55) ?_
              exact kt)
            by_cases hc57 : p1 = (36 : Int32)
            · obtain ⟨fs, hr, hrun, hended, hW, hsame⟩ := X0.leave (v := some (.int (1 : Int32))) (fun h => by rw [Bd.returns] at h; cases h)
              refine ⟨_, _, pre6 _ ?_, hrun, hended, _, _, rfl, ?_, ⟨_, rfl⟩, hW, hsame.mono (by decide) (by decide)⟩
              · show Steps p.tables e below (s₁.setTop (mkF m 57 #[.val (.int p1)] [(.int (36 : Int32)), (.int p1)])) _
                refine XS.icmpYes X0.here hx rfl (pc0 := 57) (pc' := 132) rfl (hb hby d12_57) rfl (teq hc57).1 (by decide) (by decide) ?_
                refine XS.iconst X0.here hx rfl (hb hby d12_132) ?_
                refine XS.goto X0.here hx rfl (pc0 := 133) (pc' := 137) rfl (hb hby d12_133) (by decide) (by decide) ?_
                show Steps p.tables e below (s₁.setTop (mkF m 137 #[.val (.int p1)] [(.int (1 : Int32))])) _
                exact retN X0 hx (t := .boolean) Bd.returns (by simp) (hb hby d12_137) hr
              · show Q12 Z p1 h0 n0 _ s₁.heap _
                rw [e0]
                exact ⟨by simp only [own_tchar, if_pos hc3, if_pos hc17, if_pos hc31, if_neg hc45, if_neg hc51, if_pos hc57], N0, rfl⟩
            · have pre7 : ∀ t, Steps p.tables e below (s₁.setTop (mkF m 63 #[.val (.int p1)] [(.int (37 : Int32)), (.int p1)])) t → Steps p.tables e below _ t := fun t kt => pre6 t (by
                show Steps p.tables e below (s₁.setTop (mkF m 57 #[.val (.int p1)] [(.int (36 : Int32)), (.int p1)])) _
                refine XS.icmpNo X0.here hx rfl (hb hby d12_57) rfl (feq hc57).1 ?_
                refine XS.iloadN X0.here hx rfl (hb hby d12_60) rfl ?_
                refine XS.bipush X0.here hx rfl (hb hby d12_61) ?_
                exact kt)
              by_cases hc63 : p1 = (37 : Int32)
              · obtain ⟨fs, hr, hrun, hended, hW, hsame⟩ := X0.leave (v := some (.int (1 : Int32))) (fun h => by rw [Bd.returns] at h; cases h)
                refine ⟨_, _, pre7 _ ?_, hrun, hended, _, _, rfl, ?_, ⟨_, rfl⟩, hW, hsame.mono (by decide) (by decide)⟩
                · show Steps p.tables e below (s₁.setTop (mkF m 63 #[.val (.int p1)] [(.int (37 : Int32)), (.int p1)])) _
                  refine XS.icmpYes X0.here hx rfl (pc0 := 63) (pc' := 132) rfl (hb hby d12_63) rfl (teq hc63).1 (by decide) (by decide) ?_
                  refine XS.iconst X0.here hx rfl (hb hby d12_132) ?_
                  refine XS.goto X0.here hx rfl (pc0 := 133) (pc' := 137) rfl (hb hby d12_133) (by decide) (by decide) ?_
                  show Steps p.tables e below (s₁.setTop (mkF m 137 #[.val (.int p1)] [(.int (1 : Int32))])) _
                  exact retN X0 hx (t := .boolean) Bd.returns (by simp) (hb hby d12_137) hr
                · show Q12 Z p1 h0 n0 _ s₁.heap _
                  rw [e0]
                  exact ⟨by simp only [own_tchar, if_pos hc3, if_pos hc17, if_pos hc31, if_neg hc45, if_neg hc51, if_neg hc57, if_pos hc63], N0, rfl⟩
              · have pre8 : ∀ t, Steps p.tables e below (s₁.setTop (mkF m 69 #[.val (.int p1)] [(.int (38 : Int32)), (.int p1)])) t → Steps p.tables e below _ t := fun t kt => pre7 t (by
                  show Steps p.tables e below (s₁.setTop (mkF m 63 #[.val (.int p1)] [(.int (37 : Int32)), (.int p1)])) _
                  refine XS.icmpNo X0.here hx rfl (hb hby d12_63) rfl (feq hc63).1 ?_
                  refine XS.iloadN X0.here hx rfl (hb hby d12_66) rfl ?_
                  refine XS.bipush X0.here hx rfl (hb hby d12_67) ?_
                  exact kt)
                by_cases hc69 : p1 = (38 : Int32)
                · obtain ⟨fs, hr, hrun, hended, hW, hsame⟩ := X0.leave (v := some (.int (1 : Int32))) (fun h => by rw [Bd.returns] at h; cases h)
                  refine ⟨_, _, pre8 _ ?_, hrun, hended, _, _, rfl, ?_, ⟨_, rfl⟩, hW, hsame.mono (by decide) (by decide)⟩
                  · show Steps p.tables e below (s₁.setTop (mkF m 69 #[.val (.int p1)] [(.int (38 : Int32)), (.int p1)])) _
                    refine XS.icmpYes X0.here hx rfl (pc0 := 69) (pc' := 132) rfl (hb hby d12_69) rfl (teq hc69).1 (by decide) (by decide) ?_
                    refine XS.iconst X0.here hx rfl (hb hby d12_132) ?_
                    refine XS.goto X0.here hx rfl (pc0 := 133) (pc' := 137) rfl (hb hby d12_133) (by decide) (by decide) ?_
                    show Steps p.tables e below (s₁.setTop (mkF m 137 #[.val (.int p1)] [(.int (1 : Int32))])) _
                    exact retN X0 hx (t := .boolean) Bd.returns (by simp) (hb hby d12_137) hr
                  · show Q12 Z p1 h0 n0 _ s₁.heap _
                    rw [e0]
                    exact ⟨by simp only [own_tchar, if_pos hc3, if_pos hc17, if_pos hc31, if_neg hc45, if_neg hc51, if_neg hc57, if_neg hc63, if_pos hc69], N0, rfl⟩
                · have pre9 : ∀ t, Steps p.tables e below (s₁.setTop (mkF m 75 #[.val (.int p1)] [(.int (39 : Int32)), (.int p1)])) t → Steps p.tables e below _ t := fun t kt => pre8 t (by
                    show Steps p.tables e below (s₁.setTop (mkF m 69 #[.val (.int p1)] [(.int (38 : Int32)), (.int p1)])) _
                    refine XS.icmpNo X0.here hx rfl (hb hby d12_69) rfl (feq hc69).1 ?_
                    refine XS.iloadN X0.here hx rfl (hb hby d12_72) rfl ?_
                    refine XS.bipush X0.here hx rfl (hb hby d12_73) ?_
                    exact kt)
                  by_cases hc75 : p1 = (39 : Int32)
                  · obtain ⟨fs, hr, hrun, hended, hW, hsame⟩ := X0.leave (v := some (.int (1 : Int32))) (fun h => by rw [Bd.returns] at h; cases h)
                    refine ⟨_, _, pre9 _ ?_, hrun, hended, _, _, rfl, ?_, ⟨_, rfl⟩, hW, hsame.mono (by decide) (by decide)⟩
                    · show Steps p.tables e below (s₁.setTop (mkF m 75 #[.val (.int p1)] [(.int (39 : Int32)), (.int p1)])) _
                      refine XS.icmpYes X0.here hx rfl (pc0 := 75) (pc' := 132) rfl (hb hby d12_75) rfl (teq hc75).1 (by decide) (by decide) ?_
                      refine XS.iconst X0.here hx rfl (hb hby d12_132) ?_
                      refine XS.goto X0.here hx rfl (pc0 := 133) (pc' := 137) rfl (hb hby d12_133) (by decide) (by decide) ?_
                      show Steps p.tables e below (s₁.setTop (mkF m 137 #[.val (.int p1)] [(.int (1 : Int32))])) _
                      exact retN X0 hx (t := .boolean) Bd.returns (by simp) (hb hby d12_137) hr
                    · show Q12 Z p1 h0 n0 _ s₁.heap _
                      rw [e0]
                      exact ⟨by simp only [own_tchar, if_pos hc3, if_pos hc17, if_pos hc31, if_neg hc45, if_neg hc51, if_neg hc57, if_neg hc63, if_neg hc69, if_pos hc75], N0, rfl⟩
                  · have pre10 : ∀ t, Steps p.tables e below (s₁.setTop (mkF m 81 #[.val (.int p1)] [(.int (42 : Int32)), (.int p1)])) t → Steps p.tables e below _ t := fun t kt => pre9 t (by
                      show Steps p.tables e below (s₁.setTop (mkF m 75 #[.val (.int p1)] [(.int (39 : Int32)), (.int p1)])) _
                      refine XS.icmpNo X0.here hx rfl (hb hby d12_75) rfl (feq hc75).1 ?_
                      refine XS.iloadN X0.here hx rfl (hb hby d12_78) rfl ?_
                      refine XS.bipush X0.here hx rfl (hb hby d12_79) ?_
                      exact kt)
                    by_cases hc81 : p1 = (42 : Int32)
                    · obtain ⟨fs, hr, hrun, hended, hW, hsame⟩ := X0.leave (v := some (.int (1 : Int32))) (fun h => by rw [Bd.returns] at h; cases h)
                      refine ⟨_, _, pre10 _ ?_, hrun, hended, _, _, rfl, ?_, ⟨_, rfl⟩, hW, hsame.mono (by decide) (by decide)⟩
                      · show Steps p.tables e below (s₁.setTop (mkF m 81 #[.val (.int p1)] [(.int (42 : Int32)), (.int p1)])) _
                        refine XS.icmpYes X0.here hx rfl (pc0 := 81) (pc' := 132) rfl (hb hby d12_81) rfl (teq hc81).1 (by decide) (by decide) ?_
                        refine XS.iconst X0.here hx rfl (hb hby d12_132) ?_
                        refine XS.goto X0.here hx rfl (pc0 := 133) (pc' := 137) rfl (hb hby d12_133) (by decide) (by decide) ?_
                        show Steps p.tables e below (s₁.setTop (mkF m 137 #[.val (.int p1)] [(.int (1 : Int32))])) _
                        exact retN X0 hx (t := .boolean) Bd.returns (by simp) (hb hby d12_137) hr
                      · show Q12 Z p1 h0 n0 _ s₁.heap _
                        rw [e0]
                        exact ⟨by simp only [own_tchar, if_pos hc3, if_pos hc17, if_pos hc31, if_neg hc45, if_neg hc51, if_neg hc57, if_neg hc63, if_neg hc69, if_neg hc75, if_pos hc81], N0, rfl⟩
                    · have pre11 : ∀ t, Steps p.tables e below (s₁.setTop (mkF m 87 #[.val (.int p1)] [(.int (43 : Int32)), (.int p1)])) t → Steps p.tables e below _ t := fun t kt => pre10 t (by
                        show Steps p.tables e below (s₁.setTop (mkF m 81 #[.val (.int p1)] [(.int (42 : Int32)), (.int p1)])) _
                        refine XS.icmpNo X0.here hx rfl (hb hby d12_81) rfl (feq hc81).1 ?_
                        refine XS.iloadN X0.here hx rfl (hb hby d12_84) rfl ?_
                        refine XS.bipush X0.here hx rfl (hb hby d12_85) ?_
                        exact kt)
                      by_cases hc87 : p1 = (43 : Int32)
                      · obtain ⟨fs, hr, hrun, hended, hW, hsame⟩ := X0.leave (v := some (.int (1 : Int32))) (fun h => by rw [Bd.returns] at h; cases h)
                        refine ⟨_, _, pre11 _ ?_, hrun, hended, _, _, rfl, ?_, ⟨_, rfl⟩, hW, hsame.mono (by decide) (by decide)⟩
                        · show Steps p.tables e below (s₁.setTop (mkF m 87 #[.val (.int p1)] [(.int (43 : Int32)), (.int p1)])) _
                          refine XS.icmpYes X0.here hx rfl (pc0 := 87) (pc' := 132) rfl (hb hby d12_87) rfl (teq hc87).1 (by decide) (by decide) ?_
                          refine XS.iconst X0.here hx rfl (hb hby d12_132) ?_
                          refine XS.goto X0.here hx rfl (pc0 := 133) (pc' := 137) rfl (hb hby d12_133) (by decide) (by decide) ?_
                          show Steps p.tables e below (s₁.setTop (mkF m 137 #[.val (.int p1)] [(.int (1 : Int32))])) _
                          exact retN X0 hx (t := .boolean) Bd.returns (by simp) (hb hby d12_137) hr
                        · show Q12 Z p1 h0 n0 _ s₁.heap _
                          rw [e0]
                          exact ⟨by simp only [own_tchar, if_pos hc3, if_pos hc17, if_pos hc31, if_neg hc45, if_neg hc51, if_neg hc57, if_neg hc63, if_neg hc69, if_neg hc75, if_neg hc81, if_pos hc87], N0, rfl⟩
                      · have pre12 : ∀ t, Steps p.tables e below (s₁.setTop (mkF m 93 #[.val (.int p1)] [(.int (45 : Int32)), (.int p1)])) t → Steps p.tables e below _ t := fun t kt => pre11 t (by
                          show Steps p.tables e below (s₁.setTop (mkF m 87 #[.val (.int p1)] [(.int (43 : Int32)), (.int p1)])) _
                          refine XS.icmpNo X0.here hx rfl (hb hby d12_87) rfl (feq hc87).1 ?_
                          refine XS.iloadN X0.here hx rfl (hb hby d12_90) rfl ?_
                          refine XS.bipush X0.here hx rfl (hb hby d12_91) ?_
                          exact kt)
                        by_cases hc93 : p1 = (45 : Int32)
                        · obtain ⟨fs, hr, hrun, hended, hW, hsame⟩ := X0.leave (v := some (.int (1 : Int32))) (fun h => by rw [Bd.returns] at h; cases h)
                          refine ⟨_, _, pre12 _ ?_, hrun, hended, _, _, rfl, ?_, ⟨_, rfl⟩, hW, hsame.mono (by decide) (by decide)⟩
                          · show Steps p.tables e below (s₁.setTop (mkF m 93 #[.val (.int p1)] [(.int (45 : Int32)), (.int p1)])) _
                            refine XS.icmpYes X0.here hx rfl (pc0 := 93) (pc' := 132) rfl (hb hby d12_93) rfl (teq hc93).1 (by decide) (by decide) ?_
                            refine XS.iconst X0.here hx rfl (hb hby d12_132) ?_
                            refine XS.goto X0.here hx rfl (pc0 := 133) (pc' := 137) rfl (hb hby d12_133) (by decide) (by decide) ?_
                            show Steps p.tables e below (s₁.setTop (mkF m 137 #[.val (.int p1)] [(.int (1 : Int32))])) _
                            exact retN X0 hx (t := .boolean) Bd.returns (by simp) (hb hby d12_137) hr
                          · show Q12 Z p1 h0 n0 _ s₁.heap _
                            rw [e0]
                            exact ⟨by simp only [own_tchar, if_pos hc3, if_pos hc17, if_pos hc31, if_neg hc45, if_neg hc51, if_neg hc57, if_neg hc63, if_neg hc69, if_neg hc75, if_neg hc81, if_neg hc87, if_pos hc93], N0, rfl⟩
                        · have pre13 : ∀ t, Steps p.tables e below (s₁.setTop (mkF m 99 #[.val (.int p1)] [(.int (46 : Int32)), (.int p1)])) t → Steps p.tables e below _ t := fun t kt => pre12 t (by
                            show Steps p.tables e below (s₁.setTop (mkF m 93 #[.val (.int p1)] [(.int (45 : Int32)), (.int p1)])) _
                            refine XS.icmpNo X0.here hx rfl (hb hby d12_93) rfl (feq hc93).1 ?_
                            refine XS.iloadN X0.here hx rfl (hb hby d12_96) rfl ?_
                            refine XS.bipush X0.here hx rfl (hb hby d12_97) ?_
                            exact kt)
                          by_cases hc99 : p1 = (46 : Int32)
                          · obtain ⟨fs, hr, hrun, hended, hW, hsame⟩ := X0.leave (v := some (.int (1 : Int32))) (fun h => by rw [Bd.returns] at h; cases h)
                            refine ⟨_, _, pre13 _ ?_, hrun, hended, _, _, rfl, ?_, ⟨_, rfl⟩, hW, hsame.mono (by decide) (by decide)⟩
                            · show Steps p.tables e below (s₁.setTop (mkF m 99 #[.val (.int p1)] [(.int (46 : Int32)), (.int p1)])) _
                              refine XS.icmpYes X0.here hx rfl (pc0 := 99) (pc' := 132) rfl (hb hby d12_99) rfl (teq hc99).1 (by decide) (by decide) ?_
                              refine XS.iconst X0.here hx rfl (hb hby d12_132) ?_
                              refine XS.goto X0.here hx rfl (pc0 := 133) (pc' := 137) rfl (hb hby d12_133) (by decide) (by decide) ?_
                              show Steps p.tables e below (s₁.setTop (mkF m 137 #[.val (.int p1)] [(.int (1 : Int32))])) _
                              exact retN X0 hx (t := .boolean) Bd.returns (by simp) (hb hby d12_137) hr
                            · show Q12 Z p1 h0 n0 _ s₁.heap _
                              rw [e0]
                              exact ⟨by simp only [own_tchar, if_pos hc3, if_pos hc17, if_pos hc31, if_neg hc45, if_neg hc51, if_neg hc57, if_neg hc63, if_neg hc69, if_neg hc75, if_neg hc81, if_neg hc87, if_neg hc93, if_pos hc99], N0, rfl⟩
                          · have pre14 : ∀ t, Steps p.tables e below (s₁.setTop (mkF m 105 #[.val (.int p1)] [(.int (94 : Int32)), (.int p1)])) t → Steps p.tables e below _ t := fun t kt => pre13 t (by
                              show Steps p.tables e below (s₁.setTop (mkF m 99 #[.val (.int p1)] [(.int (46 : Int32)), (.int p1)])) _
                              refine XS.icmpNo X0.here hx rfl (hb hby d12_99) rfl (feq hc99).1 ?_
                              refine XS.iloadN X0.here hx rfl (hb hby d12_102) rfl ?_
                              refine XS.bipush X0.here hx rfl (hb hby d12_103) ?_
                              exact kt)
                            by_cases hc105 : p1 = (94 : Int32)
                            · obtain ⟨fs, hr, hrun, hended, hW, hsame⟩ := X0.leave (v := some (.int (1 : Int32))) (fun h => by rw [Bd.returns] at h; cases h)
                              refine ⟨_, _, pre14 _ ?_, hrun, hended, _, _, rfl, ?_, ⟨_, rfl⟩, hW, hsame.mono (by decide) (by decide)⟩
                              · show Steps p.tables e below (s₁.setTop (mkF m 105 #[.val (.int p1)] [(.int (94 : Int32)), (.int p1)])) _
                                refine XS.icmpYes X0.here hx rfl (pc0 := 105) (pc' := 132) rfl (hb hby d12_105) rfl (teq hc105).1 (by decide) (by decide) ?_
                                refine XS.iconst X0.here hx rfl (hb hby d12_132) ?_
                                refine XS.goto X0.here hx rfl (pc0 := 133) (pc' := 137) rfl (hb hby d12_133) (by decide) (by decide) ?_
                                show Steps p.tables e below (s₁.setTop (mkF m 137 #[.val (.int p1)] [(.int (1 : Int32))])) _
                                exact retN X0 hx (t := .boolean) Bd.returns (by simp) (hb hby d12_137) hr
                              · show Q12 Z p1 h0 n0 _ s₁.heap _
                                rw [e0]
                                exact ⟨by simp only [own_tchar, if_pos hc3, if_pos hc17, if_pos hc31, if_neg hc45, if_neg hc51, if_neg hc57, if_neg hc63, if_neg hc69, if_neg hc75, if_neg hc81, if_neg hc87, if_neg hc93, if_neg hc99, if_pos hc105], N0, rfl⟩
                            · have pre15 : ∀ t, Steps p.tables e below (s₁.setTop (mkF m 111 #[.val (.int p1)] [(.int (95 : Int32)), (.int p1)])) t → Steps p.tables e below _ t := fun t kt => pre14 t (by
                                show Steps p.tables e below (s₁.setTop (mkF m 105 #[.val (.int p1)] [(.int (94 : Int32)), (.int p1)])) _
                                refine XS.icmpNo X0.here hx rfl (hb hby d12_105) rfl (feq hc105).1 ?_
                                refine XS.iloadN X0.here hx rfl (hb hby d12_108) rfl ?_
                                refine XS.bipush X0.here hx rfl (hb hby d12_109) ?_
                                exact kt)
                              by_cases hc111 : p1 = (95 : Int32)
                              · obtain ⟨fs, hr, hrun, hended, hW, hsame⟩ := X0.leave (v := some (.int (1 : Int32))) (fun h => by rw [Bd.returns] at h; cases h)
                                refine ⟨_, _, pre15 _ ?_, hrun, hended, _, _, rfl, ?_, ⟨_, rfl⟩, hW, hsame.mono (by decide) (by decide)⟩
                                · show Steps p.tables e below (s₁.setTop (mkF m 111 #[.val (.int p1)] [(.int (95 : Int32)), (.int p1)])) _
                                  refine XS.icmpYes X0.here hx rfl (pc0 := 111) (pc' := 132) rfl (hb hby d12_111) rfl (teq hc111).1 (by decide) (by decide) ?_
                                  refine XS.iconst X0.here hx rfl (hb hby d12_132) ?_
                                  refine XS.goto X0.here hx rfl (pc0 := 133) (pc' := 137) rfl (hb hby d12_133) (by decide) (by decide) ?_
                                  show Steps p.tables e below (s₁.setTop (mkF m 137 #[.val (.int p1)] [(.int (1 : Int32))])) _
                                  exact retN X0 hx (t := .boolean) Bd.returns (by simp) (hb hby d12_137) hr
                                · show Q12 Z p1 h0 n0 _ s₁.heap _
                                  rw [e0]
                                  exact ⟨by simp only [own_tchar, if_pos hc3, if_pos hc17, if_pos hc31, if_neg hc45, if_neg hc51, if_neg hc57, if_neg hc63, if_neg hc69, if_neg hc75, if_neg hc81, if_neg hc87, if_neg hc93, if_neg hc99, if_neg hc105, if_pos hc111], N0, rfl⟩
                              · have pre16 : ∀ t, Steps p.tables e below (s₁.setTop (mkF m 117 #[.val (.int p1)] [(.int (96 : Int32)), (.int p1)])) t → Steps p.tables e below _ t := fun t kt => pre15 t (by
                                  show Steps p.tables e below (s₁.setTop (mkF m 111 #[.val (.int p1)] [(.int (95 : Int32)), (.int p1)])) _
                                  refine XS.icmpNo X0.here hx rfl (hb hby d12_111) rfl (feq hc111).1 ?_
                                  refine XS.iloadN X0.here hx rfl (hb hby d12_114) rfl ?_
                                  refine XS.bipush X0.here hx rfl (hb hby d12_115) ?_
                                  exact kt)
                                by_cases hc117 : p1 = (96 : Int32)
                                · obtain ⟨fs, hr, hrun, hended, hW, hsame⟩ := X0.leave (v := some (.int (1 : Int32))) (fun h => by rw [Bd.returns] at h; cases h)
                                  refine ⟨_, _, pre16 _ ?_, hrun, hended, _, _, rfl, ?_, ⟨_, rfl⟩, hW, hsame.mono (by decide) (by decide)⟩
                                  · show Steps p.tables e below (s₁.setTop (mkF m 117 #[.val (.int p1)] [(.int (96 : Int32)), (.int p1)])) _
                                    refine XS.icmpYes X0.here hx rfl (pc0 := 117) (pc' := 132) rfl (hb hby d12_117) rfl (teq hc117).1 (by decide) (by decide) ?_
                                    refine XS.iconst X0.here hx rfl (hb hby d12_132) ?_
                                    refine XS.goto X0.here hx rfl (pc0 := 133) (pc' := 137) rfl (hb hby d12_133) (by decide) (by decide) ?_
                                    show Steps p.tables e below (s₁.setTop (mkF m 137 #[.val (.int p1)] [(.int (1 : Int32))])) _
                                    exact retN X0 hx (t := .boolean) Bd.returns (by simp) (hb hby d12_137) hr
                                  · show Q12 Z p1 h0 n0 _ s₁.heap _
                                    rw [e0]
                                    exact ⟨by simp only [own_tchar, if_pos hc3, if_pos hc17, if_pos hc31, if_neg hc45, if_neg hc51, if_neg hc57, if_neg hc63, if_neg hc69, if_neg hc75, if_neg hc81, if_neg hc87, if_neg hc93, if_neg hc99, if_neg hc105, if_neg hc111, if_pos hc117], N0, rfl⟩
                                · have pre17 : ∀ t, Steps p.tables e below (s₁.setTop (mkF m 123 #[.val (.int p1)] [(.int (124 : Int32)), (.int p1)])) t → Steps p.tables e below _ t := fun t kt => pre16 t (by
                                    show Steps p.tables e below (s₁.setTop (mkF m 117 #[.val (.int p1)] [(.int (96 : Int32)), (.int p1)])) _
                                    refine XS.icmpNo X0.here hx rfl (hb hby d12_117) rfl (feq hc117).1 ?_
                                    refine XS.iloadN X0.here hx rfl (hb hby d12_120) rfl ?_
                                    refine XS.bipush X0.here hx rfl (hb hby d12_121) ?_
                                    exact kt)
                                  by_cases hc123 : p1 = (124 : Int32)
                                  · obtain ⟨fs, hr, hrun, hended, hW, hsame⟩ := X0.leave (v := some (.int (1 : Int32))) (fun h => by rw [Bd.returns] at h; cases h)
                                    refine ⟨_, _, pre17 _ ?_, hrun, hended, _, _, rfl, ?_, ⟨_, rfl⟩, hW, hsame.mono (by decide) (by decide)⟩
                                    · show Steps p.tables e below (s₁.setTop (mkF m 123 #[.val (.int p1)] [(.int (124 : Int32)), (.int p1)])) _
                                      refine XS.icmpYes X0.here hx rfl (pc0 := 123) (pc' := 132) rfl (hb hby d12_123) rfl (teq hc123).1 (by decide) (by decide) ?_
                                      refine XS.iconst X0.here hx rfl (hb hby d12_132) ?_
                                      refine XS.goto X0.here hx rfl (pc0 := 133) (pc' := 137) rfl (hb hby d12_133) (by decide) (by decide) ?_
                                      show Steps p.tables e below (s₁.setTop (mkF m 137 #[.val (.int p1)] [(.int (1 : Int32))])) _
                                      exact retN X0 hx (t := .boolean) Bd.returns (by simp) (hb hby d12_137) hr
                                    · show Q12 Z p1 h0 n0 _ s₁.heap _
                                      rw [e0]
                                      exact ⟨by simp only [own_tchar, if_pos hc3, if_pos hc17, if_pos hc31, if_neg hc45, if_neg hc51, if_neg hc57, if_neg hc63, if_neg hc69, if_neg hc75, if_neg hc81, if_neg hc87, if_neg hc93, if_neg hc99, if_neg hc105, if_neg hc111, if_neg hc117, if_pos hc123], N0, rfl⟩
                                  · have pre18 : ∀ t, Steps p.tables e below (s₁.setTop (mkF m 129 #[.val (.int p1)] [(.int (126 : Int32)), (.int p1)])) t → Steps p.tables e below _ t := fun t kt => pre17 t (by
                                      show Steps p.tables e below (s₁.setTop (mkF m 123 #[.val (.int p1)] [(.int (124 : Int32)), (.int p1)])) _
                                      refine XS.icmpNo X0.here hx rfl (hb hby d12_123) rfl (feq hc123).1 ?_
                                      refine XS.iloadN X0.here hx rfl (hb hby d12_126) rfl ?_
                                      refine XS.bipush X0.here hx rfl (hb hby d12_127) ?_
                                      exact kt)
                                    by_cases hc129 : p1 = (126 : Int32)
                                    · obtain ⟨fs, hr, hrun, hended, hW, hsame⟩ := X0.leave (v := some (.int (1 : Int32))) (fun h => by rw [Bd.returns] at h; cases h)
                                      refine ⟨_, _, pre18 _ ?_, hrun, hended, _, _, rfl, ?_, ⟨_, rfl⟩, hW, hsame.mono (by decide) (by decide)⟩
                                      · show Steps p.tables e below (s₁.setTop (mkF m 129 #[.val (.int p1)] [(.int (126 : Int32)), (.int p1)])) _
                                        refine XS.icmpNo X0.here hx rfl (hb hby d12_129) rfl (teq hc129).2 ?_
                                        refine XS.iconst X0.here hx rfl (hb hby d12_132) ?_
                                        refine XS.goto X0.here hx rfl (pc0 := 133) (pc' := 137) rfl (hb hby d12_133) (by decide) (by decide) ?_
                                        show Steps p.tables e below (s₁.setTop (mkF m 137 #[.val (.int p1)] [(.int (1 : Int32))])) _
                                        exact retN X0 hx (t := .boolean) Bd.returns (by simp) (hb hby d12_137) hr
                                      · show Q12 Z p1 h0 n0 _ s₁.heap _
                                        rw [e0]
                                        exact ⟨by simp only [own_tchar, if_pos hc3, if_pos hc17, if_pos hc31, if_neg hc45, if_neg hc51, if_neg hc57, if_neg hc63, if_neg hc69, if_neg hc75, if_neg hc81, if_neg hc87, if_neg hc93, if_neg hc99, if_neg hc105, if_neg hc111, if_neg hc117, if_neg hc123, if_pos hc129], N0, rfl⟩
                                    · obtain ⟨fs, hr, hrun, hended, hW, hsame⟩ := X0.leave (v := some (.int (0 : Int32))) (fun h => by rw [Bd.returns] at h; cases h)
                                      refine ⟨_, _, pre18 _ ?_, hrun, hended, _, _, rfl, ?_, ⟨_, rfl⟩, hW, hsame.mono (by decide) (by decide)⟩
                                      · show Steps p.tables e below (s₁.setTop (mkF m 129 #[.val (.int p1)] [(.int (126 : Int32)), (.int p1)])) _
                                        refine XS.icmpYes X0.here hx rfl (pc0 := 129) (pc' := 136) rfl (hb hby d12_129) rfl (feq hc129).2 (by decide) (by decide) ?_
                                        refine XS.iconst X0.here hx rfl (hb hby d12_136) ?_
                                        show Steps p.tables e below (s₁.setTop (mkF m 137 #[.val (.int p1)] [(.int (0 : Int32))])) _
                                        exact retN X0 hx (t := .boolean) Bd.returns (by simp) (hb hby d12_137) hr
                                      · show Q12 Z p1 h0 n0 _ s₁.heap _
                                        rw [e0]
                                        exact ⟨by simp only [own_tchar, if_pos hc3, if_pos hc17, if_pos hc31, if_neg hc45, if_neg hc51, if_neg hc57, if_neg hc63, if_neg hc69, if_neg hc75, if_neg hc81, if_neg hc87, if_neg hc93, if_neg hc99, if_neg hc105, if_neg hc111, if_neg hc117, if_neg hc123, if_neg hc129], N0, rfl⟩
      · have pre19 : ∀ t, Steps p.tables e below (s₁.setTop (mkF m 37 #[.val (.int p1)] [(.int (122 : Int32)), (.int p1)])) t → Steps p.tables e below _ t := fun t kt => pre3 t (by
          show Steps p.tables e below (s₁.setTop (mkF m 31 #[.val (.int p1)] [(.int (97 : Int32)), (.int p1)])) _
          refine XS.icmpNo X0.here hx rfl (hb hby d12_31) rfl (flt hc31).1 ?_
          refine XS.iloadN X0.here hx rfl (hb hby d12_34) rfl ?_
          refine XS.bipush X0.here hx rfl (hb hby d12_35) ?_
          exact kt)
        by_cases hc37 : (122 : Int32) < p1
        · have pre20 : ∀ t, Steps p.tables e below (s₁.setTop (mkF m 45 #[.val (.int p1)] [(.int (33 : Int32)), (.int p1)])) t → Steps p.tables e below _ t := fun t kt => pre19 t (by
            show Steps p.tables e below (s₁.setTop (mkF m 37 #[.val (.int p1)] [(.int (122 : Int32)), (.int p1)])) _
            refine XS.icmpYes X0.here hx rfl (pc0 := 37) (pc' := 42) rfl (hb hby d12_37) rfl (tlt hc37).2.2.1 (by decide) (by decide) ?_
            refine XS.iloadN X0.here hx rfl (hb hby d12_42) rfl ?_
            refine XS.bipush X0.here hx rfl (hb hby d12_43) ?_
            exact kt)
          by_cases hc45 : p1 = (33 : Int32)
          · obtain ⟨fs, hr, hrun, hended, hW, hsame⟩ := X0.leave (v := some (.int (1 : Int32))) (fun h => by rw [Bd.returns] at h; cases h)
            refine ⟨_, _, pre20 _ ?_, hrun, hended, _, _, rfl, ?_, ⟨_, rfl⟩, hW, hsame.mono (by decide) (by decide)⟩
            · show Steps p.tables e below (s₁.setTop (mkF m 45 #[.val (.int p1)] [(.int (33 : Int32)), (.int p1)])) _
              refine XS.icmpYes X0.here hx rfl (pc0 := 45) (pc' := 132) rfl (hb hby d12_45) rfl (teq hc45).1 (by decide) (by decide) ?_
              refine XS.iconst X0.here hx rfl (hb hby d12_132) ?_
              refine XS.goto X0.here hx rfl (pc0 := 133) (pc' := 137) rfl (hb hby d12_133) (by decide) (by decide) ?_
              show Steps p.tables e below (s₁.setTop (mkF m 137 #[.val (.int p1)] [(.int (1 : Int32))])) _
              exact retN X0 hx (t := .boolean) Bd.returns (by simp) (hb hby d12_137) hr
            · show Q12 Z p1 h0 n0 _ s₁.heap _
              rw [e0]
              exact ⟨by simp only [own_tchar, if_pos hc3, if_pos hc17, if_neg hc31, if_pos hc37, if_pos hc45], N0, rfl⟩
          · have pre21 : ∀ t, Steps p.tables e below (s₁.setTop (mkF m 51 #[.val (.int p1)] [(.int (35 : Int32)), (.int p1)])) t → Steps p.tables e below _ t := fun t kt => pre20 t (by
              show Steps p.tables e below (s₁.setTop (mkF m 45 #[.val (.int p1)] [(.int (33 : Int32)), (.int p1)])) _
              refine XS.icmpNo X0.here hx rfl (hb hby d12_45) rfl (feq hc45).1 ?_
              refine XS.iloadN X0.here hx rfl (hb hby d12_48) rfl ?_
              refine XS.bipush X0.here hx rfl (hb hby d12_49) ?_
              exact kt)
            by_cases hc51 : p1 = (35 : Int32)
            · obtain ⟨fs, hr, hrun, hended, hW, hsame⟩ := X0.leave (v := some (.int (1 : Int32))) (fun h => by rw [Bd.returns] at h; cases h)
              refine ⟨_, _, pre21 _ ?_, hrun, hended, _, _, rfl, ?_, ⟨_, rfl⟩, hW, hsame.mono (by decide) (by decide)⟩
              · show Steps p.tables e below (s₁.setTop (mkF m 51 #[.val (.int p1)] [(.int (35 : Int32)), (.int p1)])) _
                refine XS.icmpYes X0.here hx rfl (pc0 := 51) (pc' := 132) rfl (hb hby d12_51) rfl (teq hc51).1 (by decide) (by decide) ?_
                refine XS.iconst X0.here hx rfl (hb hby d12_132) ?_
                refine XS.goto X0.here hx rfl (pc0 := 133) (pc' := 137) rfl (hb hby d12_133) (by decide) (by decide) ?_
                show Steps p.tables e below (s₁.setTop (mkF m 137 #[.val (.int p1)] [(.int (1 : Int32))])) _
                exact retN X0 hx (t := .boolean) Bd.returns (by simp) (hb hby d12_137) hr
              · show Q12 Z p1 h0 n0 _ s₁.heap _
                rw [e0]
                exact ⟨by simp only [own_tchar, if_pos hc3, if_pos hc17, if_neg hc31, if_pos hc37, if_neg hc45, if_pos hc51], N0, rfl⟩
            · have pre22 : ∀ t, Steps p.tables e below (s₁.setTop (mkF m 57 #[.val (.int p1)] [(.int (36 : Int32)), (.int p1)])) t → Steps p.tables e below _ t := fun t kt => pre21 t (by
                show Steps p.tables e below (s₁.setTop (mkF m 51 #[.val (.int p1)] [(.int (35 : Int32)), (.int p1)])) _
                refine XS.icmpNo X0.here hx rfl (hb hby d12_51) rfl (feq hc51).1 ?_
                refine XS.iloadN X0.here hx rfl (hb hby d12_54) rfl ?_
                refine XS.bipush X0.here hx rfl (hb hby d12_55) ?_
                exact kt)
              by_cases hc57 : p1 = (36 : Int32)
              · obtain ⟨fs, hr, hrun, hended, hW, hsame⟩ := X0.leave (v := some (.int (1 : Int32))) (fun h => by rw [Bd.returns] at h; cases h)
                refine ⟨_, _, pre22 _ ?_, hrun, hended, _, _, rfl, ?_, ⟨_, rfl⟩, hW, hsame.mono (by decide) (by decide)⟩
                · show Steps p.tables e below (s₁.setTop (mkF m 57 #[.val (.int p1)] [(.int (36 : Int32)), (.int p1)])) _
                  refine XS.icmpYes X0.here hx rfl (pc0 := 57) (pc' := 132) rfl (hb hby d12_57) rfl (teq hc57).1 (by decide) (by decide) ?_
                  refine XS.iconst X0.here hx rfl (hb hby d12_132) ?_
                  refine XS.goto X0.here hx rfl (pc0 := 133) (pc' := 137) rfl (hb hby d12_133) (by decide) (by decide) ?_
                  show Steps p.tables e below (s₁.setTop (mkF m 137 #[.val (.int p1)] [(.int (1 : Int32))])) _
                  exact retN X0 hx (t := .boolean) Bd.returns (by simp) (hb hby d12_137) hr
                · show Q12 Z p1 h0 n0 _ s₁.heap _
                  rw [e0]
                  exact ⟨by simp only [own_tchar, if_pos hc3, if_pos hc17, if_neg hc31, if_pos hc37, if_neg hc45, if_neg hc51, if_pos hc57], N0, rfl⟩
              · have pre23 : ∀ t, Steps p.tables e below (s₁.setTop (mkF m 63 #[.val (.int p1)] [(.int (37 : Int32)), (.int p1)])) t → Steps p.tables e below _ t := fun t kt => pre22 t (by
                  show Steps p.tables e below (s₁.setTop (mkF m 57 #[.val (.int p1)] [(.int (36 : Int32)), (.int p1)])) _
                  refine XS.icmpNo X0.here hx rfl (hb hby d12_57) rfl (feq hc57).1 ?_
                  refine XS.iloadN X0.here hx rfl (hb hby d12_60) rfl ?_
                  refine XS.bipush X0.here hx rfl (hb hby d12_61) ?_
                  exact kt)
                by_cases hc63 : p1 = (37 : Int32)
                · obtain ⟨fs, hr, hrun, hended, hW, hsame⟩ := X0.leave (v := some (.int (1 : Int32))) (fun h => by rw [Bd.returns] at h; cases h)
                  refine ⟨_, _, pre23 _ ?_, hrun, hended, _, _, rfl, ?_, ⟨_, rfl⟩, hW, hsame.mono (by decide) (by decide)⟩
                  · show Steps p.tables e below (s₁.setTop (mkF m 63 #[.val (.int p1)] [(.int (37 : Int32)), (.int p1)])) _
                    refine XS.icmpYes X0.here hx rfl (pc0 := 63) (pc' := 132) rfl (hb hby d12_63) rfl (teq hc63).1 (by decide) (by decide) ?_
                    refine XS.iconst X0.here hx rfl (hb hby d12_132) ?_
                    refine XS.goto X0.here hx rfl (pc0 := 133) (pc' := 137) rfl (hb hby d12_133) (by decide) (by decide) ?_
                    show Steps p.tables e below (s₁.setTop (mkF m 137 #[.val (.int p1)] [(.int (1 : Int32))])) _
                    exact retN X0 hx (t := .boolean) Bd.returns (by simp) (hb hby d12_137) hr
                  · show Q12 Z p1 h0 n0 _ s₁.heap _
                    rw [e0]
                    exact ⟨by simp only [own_tchar, if_pos hc3, if_pos hc17, if_neg hc31, if_pos hc37, if_neg hc45, if_neg hc51, if_neg hc57, if_pos hc63], N0, rfl⟩
                · have pre24 : ∀ t, Steps p.tables e below (s₁.setTop (mkF m 69 #[.val (.int p1)] [(.int (38 : Int32)), (.int p1)])) t → Steps p.tables e below _ t := fun t kt => pre23 t (by
                    show Steps p.tables e below (s₁.setTop (mkF m 63 #[.val (.int p1)] [(.int (37 : Int32)), (.int p1)])) _
                    refine XS.icmpNo X0.here hx rfl (hb hby d12_63) rfl (feq hc63).1 ?_
                    refine XS.iloadN X0.here hx rfl (hb hby d12_66) rfl ?_
                    refine XS.bipush X0.here hx rfl (hb hby d12_67) ?_
                    exact kt)
                  by_cases hc69 : p1 = (38 : Int32)
                  · obtain ⟨fs, hr, hrun, hended, hW, hsame⟩ := X0.leave (v := some (.int (1 : Int32))) (fun h => by rw [Bd.returns] at h; cases h)
                    refine ⟨_, _, pre24 _ ?_, hrun, hended, _, _, rfl, ?_, ⟨_, rfl⟩, hW, hsame.mono (by decide) (by decide)⟩
                    · show Steps p.tables e below (s₁.setTop (mkF m 69 #[.val (.int p1)] [(.int (38 : Int32)), (.int p1)])) _
                      refine XS.icmpYes X0.here hx rfl (pc0 := 69) (pc' := 132) rfl (hb hby d12_69) rfl (teq hc69).1 (by decide) (by decide) ?_
                      refine XS.iconst X0.here hx rfl (hb hby d12_132) ?_
                      refine XS.goto X0.here hx rfl (pc0 := 133) (pc' := 137) rfl (hb hby d12_133) (by decide) (by decide) ?_
                      show Steps p.tables e below (s₁.setTop (mkF m 137 #[.val (.int p1)] [(.int (1 : Int32))])) _
                      exact retN X0 hx (t := .boolean) Bd.returns (by simp) (hb hby d12_137) hr
                    · show Q12 Z p1 h0 n0 _ s₁.heap _
                      rw [e0]
                      exact ⟨by simp only [own_tchar, if_pos hc3, if_pos hc17, if_neg hc31, if_pos hc37, if_neg hc45, if_neg hc51, if_neg hc57, if_neg hc63, if_pos hc69], N0, rfl⟩
                  · have pre25 : ∀ t, Steps p.tables e below (s₁.setTop (mkF m 75 #[.val (.int p1)] [(.int (39 : Int32)), (.int p1)])) t → Steps p.tables e below _ t := fun t kt => pre24 t (by
                      show Steps p.tables e below (s₁.setTop (mkF m 69 #[.val (.int p1)] [(.int (38 : Int32)), (.int p1)])) _
                      refine XS.icmpNo X0.here hx rfl (hb hby d12_69) rfl (feq hc69).1 ?_
                      refine XS.iloadN X0.here hx rfl (hb hby d12_72) rfl ?_
                      refine XS.bipush X0.here hx rfl (hb hby d12_73) ?_
                      exact kt)
                    by_cases hc75 : p1 = (39 : Int32)
                    · obtain ⟨fs, hr, hrun, hended, hW, hsame⟩ := X0.leave (v := some (.int (1 : Int32))) (fun h => by rw [Bd.returns] at h; cases h)
                      refine ⟨_, _, pre25 _ ?_, hrun, hended, _, _, rfl, ?_, ⟨_, rfl⟩, hW, hsame.mono (by decide) (by decide)⟩
                      · show Steps p.tables e below (s₁.setTop (mkF m 75 #[.val (.int p1)] [(.int (39 : Int32)), (.int p1)])) _
                        refine XS.icmpYes X0.here hx rfl (pc0 := 75) (pc' := 132) rfl (hb hby d12_75) rfl (teq hc75).1 (by decide) (by decide) ?_
                        refine XS.iconst X0.here hx rfl (hb hby d12_132) ?_
                        refine XS.goto X0.here hx rfl (pc0 := 133) (pc' := 137) rfl (hb hby d12_133) (by decide) (by decide) ?_
                        show Steps p.tables e below (s₁.setTop (mkF m 137 #[.val (.int p1)] [(.int (1 : Int32))])) _
                        exact retN X0 hx (t := .boolean) Bd.returns (by simp) (hb hby d12_137) hr
                      · show Q12 Z p1 h0 n0 _ s₁.heap _
                        rw [e0]
                        exact ⟨by simp only [own_tchar, if_pos hc3, if_pos hc17, if_neg hc31, if_pos hc37, if_neg hc45, if_neg hc51, if_neg hc57, if_neg hc63, if_neg hc69, if_pos hc75], N0, rfl⟩
                    · have pre26 : ∀ t, Steps p.tables e below (s₁.setTop (mkF m 81 #[.val (.int p1)] [(.int (42 : Int32)), (.int p1)])) t → Steps p.tables e below _ t := fun t kt => pre25 t (by
                        show Steps p.tables e below (s₁.setTop (mkF m 75 #[.val (.int p1)] [(.int (39 : Int32)), (.int p1)])) _
                        refine XS.icmpNo X0.here hx rfl (hb hby d12_75) rfl (feq hc75).1 ?_
                        refine XS.iloadN X0.here hx rfl (hb hby d12_78) rfl ?_
                        refine XS.bipush X0.here hx rfl (hb hby d12_79) ?_
                        exact kt)
                      by_cases hc81 : p1 = (42 : Int32)
                      · obtain ⟨fs, hr, hrun, hended, hW, hsame⟩ := X0.leave (v := some (.int (1 : Int32))) (fun h => by rw [Bd.returns] at h; cases h)
                        refine ⟨_, _, pre26 _ ?_, hrun, hended, _, _, rfl, ?_, ⟨_, rfl⟩, hW, hsame.mono (by decide) (by decide)⟩
                        · show Steps p.tables e below (s₁.setTop (mkF m 81 #[.val (.int p1)] [(.int (42 : Int32)), (.int p1)])) _
                          refine XS.icmpYes X0.here hx rfl (pc0 := 81) (pc' := 132) rfl (hb hby d12_81) rfl (teq hc81).1 (by decide) (by decide) ?_
                          refine XS.iconst X0.here hx rfl (hb hby d12_132) ?_
                          refine XS.goto X0.here hx rfl (pc0 := 133) (pc' := 137) rfl (hb hby d12_133) (by decide) (by decide) ?_
                          show Steps p.tables e below (s₁.setTop (mkF m 137 #[.val (.int p1)] [(.int (1 : Int32))])) _
                          exact retN X0 hx (t := .boolean) Bd.returns (by simp) (hb hby d12_137) hr
                        · show Q12 Z p1 h0 n0 _ s₁.heap _
                          rw [e0]
                          exact ⟨by simp only [own_tchar, if_pos hc3, if_pos hc17, if_neg hc31, if_pos hc37, if_neg hc45, if_neg hc51, if_neg hc57, if_neg hc63, if_neg hc69, if_neg hc75, if_pos hc81], N0, rfl⟩
                      · have pre27 : ∀ t, Steps p.tables e below (s₁.setTop (mkF m 87 #[.val (.int p1)] [(.int (43 : Int32)), (.int p1)])) t → Steps p.tables e below _ t := fun t kt => pre26 t (by
                          show Steps p.tables e below (s₁.setTop (mkF m 81 #[.val (.int p1)] [(.int (42 : Int32)), (.int p1)])) _
                          refine XS.icmpNo X0.here hx rfl (hb hby d12_81) rfl (feq hc81).1 ?_
                          refine XS.iloadN X0.here hx rfl (hb hby d12_84) rfl ?_
                          refine XS.bipush X0.here hx rfl (hb hby d12_85) ?_
                          exact kt)
                        by_cases hc87 : p1 = (43 : Int32)
                        · obtain ⟨fs, hr, hrun, hended, hW, hsame⟩ := X0.leave (v := some (.int (1 : Int32))) (fun h => by rw [Bd.returns] at h; cases h)
                          refine ⟨_, _, pre27 _ ?_, hrun, hended, _, _, rfl, ?_, ⟨_, rfl⟩, hW, hsame.mono (by decide) (by decide)⟩
                          · show Steps p.tables e below (s₁.setTop (mkF m 87 #[.val (.int p1)] [(.int (43 : Int32)), (.int p1)])) _
                            refine XS.icmpYes X0.here hx rfl (pc0 := 87) (pc' := 132) rfl (hb hby d12_87) rfl (teq hc87).1 (by decide) (by decide) ?_
                            refine XS.iconst X0.here hx rfl (hb hby d12_132) ?_
                            refine XS.goto X0.here hx rfl (pc0 := 133) (pc' := 137) rfl (hb hby d12_133) (by decide) (by decide) ?_
                            show Steps p.tables e below (s₁.setTop (mkF m 137 #[.val (.int p1)] [(.int (1 : Int32))])) _
                            exact retN X0 hx (t := .boolean) Bd.returns (by simp) (hb hby d12_137) hr
                          · show Q12 Z p1 h0 n0 _ s₁.heap _
                            rw [e0]
                            exact ⟨by simp only [own_tchar, if_pos hc3, if_pos hc17, if_neg hc31, if_pos hc37, if_neg hc45, if_neg hc51, if_neg hc57, if_neg hc63, if_neg hc69, if_neg hc75, if_neg hc81, if_pos hc87], N0, rfl⟩
                        · have pre28 : ∀ t, Steps p.tables e below (s₁.setTop (mkF m 93 #[.val (.int p1)] [(.int (45 : Int32)), (.int p1)])) t → Steps p.tables e below _ t := fun t kt => pre27 t (by
                            show Steps p.tables e below (s₁.setTop (mkF m 87 #[.val (.int p1)] [(.int (43 : Int32)), (.int p1)])) _
                            refine XS.icmpNo X0.here hx rfl (hb hby d12_87) rfl (feq hc87).1 ?_
                            refine XS.iloadN X0.here hx rfl (hb hby d12_90) rfl ?_
                            refine XS.bipush X0.here hx rfl (hb hby d12_91) ?_
                            exact kt)
                          by_cases hc93 : p1 = (45 : Int32)
                          · obtain ⟨fs, hr, hrun, hended, hW, hsame⟩ := X0.leave (v := some (.int (1 : Int32))) (fun h => by rw [Bd.returns] at h; cases h)
                            refine ⟨_, _, pre28 _ ?_, hrun, hended, _, _, rfl, ?_, ⟨_, rfl⟩, hW, hsame.mono (by decide) (by decide)⟩
                            · show Steps p.tables e below (s₁.setTop (mkF m 93 #[.val (.int p1)] [(.int (45 : Int32)), (.int p1)])) _
                              refine XS.icmpYes X0.here hx rfl (pc0 := 93) (pc' := 132) rfl (hb hby d12_93) rfl (teq hc93).1 (by decide) (by decide) ?_
                              refine XS.iconst X0.here hx rfl (hb hby d12_132) ?_
                              refine XS.goto X0.here hx rfl (pc0 := 133) (pc' := 137) rfl (hb hby d12_133) (by decide) (by decide) ?_
                              show Steps p.tables e below (s₁.setTop (mkF m 137 #[.val (.int p1)] [(.int (1 : Int32))])) _
                              exact retN X0 hx (t := .boolean) Bd.returns (by simp) (hb hby d12_137) hr
                            · show Q12 Z p1 h0 n0 _ s₁.heap _
                              rw [e0]
                              exact ⟨by simp only [own_tchar, if_pos hc3, if_pos hc17, if_neg hc31, if_pos hc37, if_neg hc45, if_neg hc51, if_neg hc57, if_neg hc63, if_neg hc69, if_neg hc75, if_neg hc81, if_neg hc87, if_pos hc93], N0, rfl⟩
                          · have pre29 : ∀ t, Steps p.tables e below (s₁.setTop (mkF m 99 #[.val (.int p1)] [(.int (46 : Int32)), (.int p1)])) t → Steps p.tables e below _ t := fun t kt => pre28 t (by
                              show Steps p.tables e below (s₁.setTop (mkF m 93 #[.val (.int p1)] [(.int (45 : Int32)), (.int p1)])) _
                              refine XS.icmpNo X0.here hx rfl (hb hby d12_93) rfl (feq hc93).1 ?_
                              refine XS.iloadN X0.here hx rfl (hb hby d12_96) rfl ?_
                              refine XS.bipush X0.here hx rfl (hb hby d12_97) ?_
                              exact kt)
                            by_cases hc99 : p1 = (46 : Int32)
                            · obtain ⟨fs, hr, hrun, hended, hW, hsame⟩ := X0.leave (v := some (.int (1 : Int32))) (fun h => by rw [Bd.returns] at h; cases h)
                              refine ⟨_, _, pre29 _ ?_, hrun, hended, _, _, rfl, ?_, ⟨_, rfl⟩, hW, hsame.mono (by decide) (by decide)⟩
                              · show Steps p.tables e below (s₁.setTop (mkF m 99 #[.val (.int p1)] [(.int (46 : Int32)), (.int p1)])) _
                                refine XS.icmpYes X0.here hx rfl (pc0 := 99) (pc' := 132) rfl (hb hby d12_99) rfl (teq hc99).1 (by decide) (by decide) ?_
                                refine XS.iconst X0.here hx rfl (hb hby d12_132) ?_
                                refine XS.goto X0.here hx rfl (pc0 := 133) (pc' := 137) rfl (hb hby d12_133) (by decide) (by decide) ?_
                                show Steps p.tables e below (s₁.setTop (mkF m 137 #[.val (.int p1)] [(.int (1 : Int32))])) _
                                exact retN X0 hx (t := .boolean) Bd.returns (by simp) (hb hby d12_137) hr
                              · show Q12 Z p1 h0 n0 _ s₁.heap _
                                rw [e0]
                                exact ⟨by simp only [own_tchar, if_pos hc3, if_pos hc17, if_neg hc31, if_pos hc37, if_neg hc45, if_neg hc51, if_neg hc57, if_neg hc63, if_neg hc69, if_neg hc75, if_neg hc81, if_neg hc87, if_neg hc93, if_pos hc99], N0, rfl⟩
                            · have pre30 : ∀ t, Steps p.tables e below (s₁.setTop (mkF m 105 #[.val (.int p1)] [(.int (94 : Int32)), (.int p1)])) t → Steps p.tables e below _ t := fun t kt => pre29 t (by
                                show Steps p.tables e below (s₁.setTop (mkF m 99 #[.val (.int p1)] [(.int (46 : Int32)), (.int p1)])) _
                                refine XS.icmpNo X0.here hx rfl (hb hby d12_99) rfl (feq hc99).1 ?_
                                refine XS.iloadN X0.here hx rfl (hb hby d12_102) rfl ?_
                                refine XS.bipush X0.here hx rfl (hb hby d12_103) ?_
                                exact kt)
                              by_cases hc105 : p1 = (94 : Int32)
                              · obtain ⟨fs, hr, hrun, hended, hW, hsame⟩ := X0.leave (v := some (.int (1 : Int32))) (fun h => by rw [Bd.returns] at h; cases h)
                                refine ⟨_, _, pre30 _ ?_, hrun, hended, _, _, rfl, ?_, ⟨_, rfl⟩, hW, hsame.mono (by decide) (by decide)⟩
                                · show Steps p.tables e below (s₁.setTop (mkF m 105 #[.val (.int p1)] [(.int (94 : Int32)), (.int p1)])) _
                                  refine XS.icmpYes X0.here hx rfl (pc0 := 105) (pc' := 132) rfl (hb hby d12_105) rfl (teq hc105).1 (by decide) (by decide) ?_
                                  refine XS.iconst X0.here hx rfl (hb hby d12_132) ?_
                                  refine XS.goto X0.here hx rfl (pc0 := 133) (pc' := 137) rfl (hb hby d12_133) (by decide) (by decide) ?_
                                  show Steps p.tables e below (s₁.setTop (mkF m 137 #[.val (.int p1)] [(.int (1 : Int32))])) _
                                  exact retN X0 hx (t := .boolean) Bd.returns (by simp) (hb hby d12_137) hr
                                · show Q12 Z p1 h0 n0 _ s₁.heap _
                                  rw [e0]
                                  exact ⟨by simp only [own_tchar, if_pos hc3, if_pos hc17, if_neg hc31, if_pos hc37, if_neg hc45, if_neg hc51, if_neg hc57, if_neg hc63, if_neg hc69, if_neg hc75, if_neg hc81, if_neg hc87, if_neg hc93, if_neg hc99, if_pos hc105], N0, rfl⟩
                              · have pre31 : ∀ t, Steps p.tables e below (s₁.setTop (mkF m 111 #[.val (.int p1)] [(.int (95 : Int32)), (.int p1)])) t → Steps p.tables e below _ t := fun t kt => pre30 t (by
                                  show Steps p.tables e below (s₁.setTop (mkF m 105 #[.val (.int p1)] [(.int (94 : Int32)), (.int p1)])) _
                                  refine XS.icmpNo X0.here hx rfl (hb hby d12_105) rfl (feq hc105).1 ?_
                                  refine XS.iloadN X0.here hx rfl (hb hby d12_108) rfl ?_
                                  refine XS.bipush X0.here hx rfl (hb hby d12_109) ?_
                                  exact kt)
                                by_cases hc111 : p1 = (95 : Int32)
                                · obtain ⟨fs, hr, hrun, hended, hW, hsame⟩ := X0.leave (v := some (.int (1 : Int32))) (fun h => by rw [Bd.returns] at h; cases h)
                                  refine ⟨_, _, pre31 _ ?_, hrun, hended, _, _, rfl, ?_, ⟨_, rfl⟩, hW, hsame.mono (by decide) (by decide)⟩
                                  · show Steps p.tables e below (s₁.setTop (mkF m 111 #[.val (.int p1)] [(.int (95 : Int32)), (.int p1)])) _
                                    refine XS.icmpYes X0.here hx rfl (pc0 := 111) (pc' := 132) rfl (hb hby d12_111) rfl (teq hc111).1 (by decide) (by decide) ?_
                                    refine XS.iconst X0.here hx rfl (hb hby d12_132) ?_
                                    refine XS.goto X0.here hx rfl (pc0 := 133) (pc' := 137) rfl (hb hby d12_133) (by decide) (by decide) ?_
                                    show Steps p.tables e below (s₁.setTop (mkF m 137 #[.val (.int p1)] [(.int (1 : Int32))])) _
                                    exact retN X0 hx (t := .boolean) Bd.returns (by simp) (hb hby d12_137) hr
                                  · show Q12 Z p1 h0 n0 _ s₁.heap _
                                    rw [e0]
                                    exact ⟨by simp only [own_tchar, if_pos hc3, if_pos hc17, if_neg hc31, if_pos hc37, if_neg hc45, if_neg hc51, if_neg hc57, if_neg hc63, if_neg hc69, if_neg hc75, if_neg hc81, if_neg hc87, if_neg hc93, if_neg hc99, if_neg hc105, if_pos hc111], N0, rfl⟩
                                · have pre32 : ∀ t, Steps p.tables e below (s₁.setTop (mkF m 117 #[.val (.int p1)] [(.int (96 : Int32)), (.int p1)])) t → Steps p.tables e below _ t := fun t kt => pre31 t (by
                                    show Steps p.tables e below (s₁.setTop (mkF m 111 #[.val (.int p1)] [(.int (95 : Int32)), (.int p1)])) _
                                    refine XS.icmpNo X0.here hx rfl (hb hby d12_111) rfl (feq hc111).1 ?_
                                    refine XS.iloadN X0.here hx rfl (hb hby d12_114) rfl ?_
                                    refine XS.bipush X0.here hx rfl (hb hby d12_115) ?_
                                    exact kt)
                                  by_cases hc117 : p1 = (96 : Int32)
                                  · obtain ⟨fs, hr, hrun, hended, hW, hsame⟩ := X0.leave (v := some (.int (1 : Int32))) (fun h => by rw [Bd.returns] at h; cases h)
                                    refine ⟨_, _, pre32 _ ?_, hrun, hended, _, _, rfl, ?_, ⟨_, rfl⟩, hW, hsame.mono (by decide) (by decide)⟩
                                    · show Steps p.tables e below (s₁.setTop (mkF m 117 #[.val (.int p1)] [(.int (96 : Int32)), (.int p1)])) _
                                      refine XS.icmpYes X0.here hx rfl (pc0 := 117) (pc' := 132) rfl (hb hby d12_117) rfl (teq hc117).1 (by decide) (by decide) ?_
                                      refine XS.iconst X0.here hx rfl (hb hby d12_132) ?_
                                      refine XS.goto X0.here hx rfl (pc0 := 133) (pc' := 137) rfl (hb hby d12_133) (by decide) (by decide) ?_
                                      show Steps p.tables e below (s₁.setTop (mkF m 137 #[.val (.int p1)] [(.int (1 : Int32))])) _
                                      exact retN X0 hx (t := .boolean) Bd.returns (by simp) (hb hby d12_137) hr
                                    · show Q12 Z p1 h0 n0 _ s₁.heap _
                                      rw [e0]
                                      exact ⟨by simp only [own_tchar, if_pos hc3, if_pos hc17, if_neg hc31, if_pos hc37, if_neg hc45, if_neg hc51, if_neg hc57, if_neg hc63, if_neg hc69, if_neg hc75, if_neg hc81, if_neg hc87, if_neg hc93, if_neg hc99, if_neg hc105, if_neg hc111, if_pos hc117], N0, rfl⟩
                                  · have pre33 : ∀ t, Steps p.tables e below (s₁.setTop (mkF m 123 #[.val (.int p1)] [(.int (124 : Int32)), (.int p1)])) t → Steps p.tables e below _ t := fun t kt => pre32 t (by
                                      show Steps p.tables e below (s₁.setTop (mkF m 117 #[.val (.int p1)] [(.int (96 : Int32)), (.int p1)])) _
                                      refine XS.icmpNo X0.here hx rfl (hb hby d12_117) rfl (feq hc117).1 ?_
                                      refine XS.iloadN X0.here hx rfl (hb hby d12_120) rfl ?_
                                      refine XS.bipush X0.here hx rfl (hb hby d12_121) ?_
                                      exact kt)
                                    by_cases hc123 : p1 = (124 : Int32)
                                    · obtain ⟨fs, hr, hrun, hended, hW, hsame⟩ := X0.leave (v := some (.int (1 : Int32))) (fun h => by rw [Bd.returns] at h; cases h)
                                      refine ⟨_, _, pre33 _ ?_, hrun, hended, _, _, rfl, ?_, ⟨_, rfl⟩, hW, hsame.mono (by decide) (by decide)⟩
                                      · show Steps p.tables e below (s₁.setTop (mkF m 123 #[.val (.int p1)] [(.int (124 : Int32)), (.int p1)])) _
                                        refine XS.icmpYes X0.here hx rfl (pc0 := 123) (pc' := 132) rfl (hb hby d12_123) rfl (teq hc123).1 (by decide) (by decide) ?_
                                        refine XS.iconst X0.here hx rfl (hb hby d12_132) ?_
                                        refine XS.goto X0.here hx rfl (pc0 := 133) (pc' := 137) rfl (hb hby d12_133) (by decide) (by decide) ?_
                                        show Steps p.tables e below (s₁.setTop (mkF m 137 #[.val (.int p1)] [(.int (1 : Int32))])) _
                                        exact retN X0 hx (t := .boolean) Bd.returns (by simp) (hb hby d12_137) hr
                                      · show Q12 Z p1 h0 n0 _ s₁.heap _
                                        rw [e0]
                                        exact ⟨by simp only [own_tchar, if_pos hc3, if_pos hc17, if_neg hc31, if_pos hc37, if_neg hc45, if_neg hc51, if_neg hc57, if_neg hc63, if_neg hc69, if_neg hc75, if_neg hc81, if_neg hc87, if_neg hc93, if_neg hc99, if_neg hc105, if_neg hc111, if_neg hc117, if_pos hc123], N0, rfl⟩
                                    · have pre34 : ∀ t, Steps p.tables e below (s₁.setTop (mkF m 129 #[.val (.int p1)] [(.int (126 : Int32)), (.int p1)])) t → Steps p.tables e below _ t := fun t kt => pre33 t (by
                                        show Steps p.tables e below (s₁.setTop (mkF m 123 #[.val (.int p1)] [(.int (124 : Int32)), (.int p1)])) _
                                        refine XS.icmpNo X0.here hx rfl (hb hby d12_123) rfl (feq hc123).1 ?_
                                        refine XS.iloadN X0.here hx rfl (hb hby d12_126) rfl ?_
                                        refine XS.bipush X0.here hx rfl (hb hby d12_127) ?_
                                        exact kt)
                                      by_cases hc129 : p1 = (126 : Int32)
                                      · obtain ⟨fs, hr, hrun, hended, hW, hsame⟩ := X0.leave (v := some (.int (1 : Int32))) (fun h => by rw [Bd.returns] at h; cases h)
                                        refine ⟨_, _, pre34 _ ?_, hrun, hended, _, _, rfl, ?_, ⟨_, rfl⟩, hW, hsame.mono (by decide) (by decide)⟩
                                        · show Steps p.tables e below (s₁.setTop (mkF m 129 #[.val (.int p1)] [(.int (126 : Int32)), (.int p1)])) _
                                          refine XS.icmpNo X0.here hx rfl (hb hby d12_129) rfl (teq hc129).2 ?_
                                          refine XS.iconst X0.here hx rfl (hb hby d12_132) ?_
                                          refine XS.goto X0.here hx rfl (pc0 := 133) (pc' := 137) rfl (hb hby d12_133) (by decide) (by decide) ?_
                                          show Steps p.tables e below (s₁.setTop (mkF m 137 #[.val (.int p1)] [(.int (1 : Int32))])) _
                                          exact retN X0 hx (t := .boolean) Bd.returns (by simp) (hb hby d12_137) hr
                                        · show Q12 Z p1 h0 n0 _ s₁.heap _
                                          rw [e0]
                                          exact ⟨by simp only [own_tchar, if_pos hc3, if_pos hc17, if_neg hc31, if_pos hc37, if_neg hc45, if_neg hc51, if_neg hc57, if_neg hc63, if_neg hc69, if_neg hc75, if_neg hc81, if_neg hc87, if_neg hc93, if_neg hc99, if_neg hc105, if_neg hc111, if_neg hc117, if_neg hc123, if_pos hc129], N0, rfl⟩
                                      · obtain ⟨fs, hr, hrun, hended, hW, hsame⟩ := X0.leave (v := some (.int (0 : Int32))) (fun h => by rw [Bd.returns] at h; cases h)
                                        refine ⟨_, _, pre34 _ ?_, hrun, hended, _, _, rfl, ?_, ⟨_, rfl⟩, hW, hsame.mono (by decide) (by decide)⟩
                                        · show Steps p.tables e below (s₁.setTop (mkF m 129 #[.val (.int p1)] [(.int (126 : Int32)), (.int p1)])) _
                                          refine XS.icmpYes X0.here hx rfl (pc0 := 129) (pc' := 136) rfl (hb hby d12_129) rfl (feq hc129).2 (by decide) (by decide) ?_
                                          refine XS.iconst X0.here hx rfl (hb hby d12_136) ?_
                                          show Steps p.tables e below (s₁.setTop (mkF m 137 #[.val (.int p1)] [(.int (0 : Int32))])) _
                                          exact retN X0 hx (t := .boolean) Bd.returns (by simp) (hb hby d12_137) hr
                                        · show Q12 Z p1 h0 n0 _ s₁.heap _
                                          rw [e0]
                                          exact ⟨by simp only [own_tchar, if_pos hc3, if_pos hc17, if_neg hc31, if_pos hc37, if_neg hc45, if_neg hc51, if_neg hc57, if_neg hc63, if_neg hc69, if_neg hc75, if_neg hc81, if_neg hc87, if_neg hc93, if_neg hc99, if_neg hc105, if_neg hc111, if_neg hc117, if_neg hc123, if_neg hc129], N0, rfl⟩
        · obtain ⟨fs, hr, hrun, hended, hW, hsame⟩ := X0.leave (v := some (.int (1 : Int32))) (fun h => by rw [Bd.returns] at h; cases h)
          refine ⟨_, _, pre19 _ ?_, hrun, hended, _, _, rfl, ?_, ⟨_, rfl⟩, hW, hsame.mono (by decide) (by decide)⟩
          · show Steps p.tables e below (s₁.setTop (mkF m 37 #[.val (.int p1)] [(.int (122 : Int32)), (.int p1)])) _
            refine XS.icmpNo X0.here hx rfl (hb hby d12_37) rfl (flt hc37).2.2.1 ?_
            refine XS.iconst X0.here hx rfl (hb hby d12_40) ?_
            show Steps p.tables e below (s₁.setTop (mkF m 41 #[.val (.int p1)] [(.int (1 : Int32))])) _
            exact retN X0 hx (t := .boolean) Bd.returns (by simp) (hb hby d12_41) hr
          · show Q12 Z p1 h0 n0 _ s₁.heap _
            rw [e0]
            exact ⟨by simp only [own_tchar, if_pos hc3, if_pos hc17, if_neg hc31, if_neg hc37], N0, rfl⟩
    · have pre35 : ∀ t, Steps p.tables e below (s₁.setTop (mkF m 23 #[.val (.int p1)] [(.int (90 : Int32)), (.int p1)])) t → Steps p.tables e below _ t := fun t kt => pre2 t (by
        show Steps p.tables e below (s₁.setTop (mkF m 17 #[.val (.int p1)] [(.int (65 : Int32)), (.int p1)])) _
        refine XS.icmpNo X0.here hx rfl (hb hby d12_17) rfl (flt hc17).1 ?_
        refine XS.iloadN X0.here hx rfl (hb hby d12_20) rfl ?_
        refine XS.bipush X0.here hx rfl (hb hby d12_21) ?_
        exact kt)
      by_cases hc23 : (90 : Int32) < p1
      · have pre36 : ∀ t, Steps p.tables e below (s₁.setTop (mkF m 31 #[.val (.int p1)] [(.int (97 : Int32)), (.int p1)])) t → Steps p.tables e below _ t := fun t kt => pre35 t (by
          show Steps p.tables e below (s₁.setTop (mkF m 23 #[.val (.int p1)] [(.int (90 : Int32)), (.int p1)])) _
          refine XS.icmpYes X0.here hx rfl (pc0 := 23) (pc' := 28) rfl (hb hby d12_23) rfl (tlt hc23).2.2.1 (by decide) (by decide) ?_
          refine XS.iloadN X0.here hx rfl (hb hby d12_28) rfl ?_
          refine XS.bipush X0.here hx rfl (hb hby d12_29) ?_
          exact kt)
        by_cases hc31 : p1 < (97 : Int32)
        · have pre37 : ∀ t, Steps p.tables e below (s₁.setTop (mkF m 45 #[.val (.int p1)] [(.int (33 : Int32)), (.int p1)])) t → Steps p.tables e below _ t := fun t kt => pre36 t (by
            show Steps p.tables e below (s₁.setTop (mkF m 31 #[.val (.int p1)] [(.int (97 : Int32)), (.int p1)])) _
            refine XS.icmpYes X0.here hx rfl (pc0 := 31) (pc' := 42) rfl (hb hby d12_31) rfl (tlt hc31).1 (by decide) (by decide) ?_
            refine XS.iloadN X0.here hx rfl (hb hby d12_42) rfl ?_
            refine XS.bipush X0.here hx rfl (hb hby d12_43) ?_
            exact kt)
          by_cases hc45 : p1 = (33 : Int32)
          · obtain ⟨fs, hr, hrun, hended, hW, hsame⟩ := X0.leave (v := some (.int (1 : Int32))) (fun h => by rw [Bd.returns] at h; cases h)
            refine ⟨_, _, pre37 _ ?_, hrun, hended, _, _, rfl, ?_, ⟨_, rfl⟩, hW, hsame.mono (by decide) (by decide)⟩
            · show Steps p.tables e below (s₁.setTop (mkF m 45 #[.val (.int p1)] [(.int (33 : Int32)), (.int p1)])) _
              refine XS.icmpYes X0.here hx rfl (pc0 := 45) (pc' := 132) rfl (hb hby d12_45) rfl (teq hc45).1 (by decide) (by decide) ?_
              refine XS.iconst X0.here hx rfl (hb hby d12_132) ?_
              refine XS.goto X0.here hx rfl (pc0 := 133) (pc' := 137) rfl (hb hby d12_133) (by decide) (by decide) ?_
              show Steps p.tables e below (s₁.setTop (mkF m 137 #[.val (.int p1)] [(.int (1 : Int32))])) _
              exact retN X0 hx (t := .boolean) Bd.returns (by simp) (hb hby d12_137) hr
            · show Q12 Z p1 h0 n0 _ s₁.heap _
              rw [e0]
              exact ⟨by simp only [own_tchar, if_pos hc3, if_neg hc17, if_pos hc23, if_pos hc31, if_pos hc45], N0, rfl⟩
          · have pre38 : ∀ t, Steps p.tables e below (s₁.setTop (mkF m 51 #[.val (.int p1)] [(.int (35 : Int32)), (.int p1)])) t → Steps p.tables e below _ t := fun t kt => pre37 t (by
              show Steps p.tables e below (s₁.setTop (mkF m 45 #[.val (.int p1)] [(.int (33 : Int32)), (.int p1)])) _
              refine XS.icmpNo X0.here hx rfl (hb hby d12_45) rfl (feq hc45).1 ?_
              refine XS.iloadN X0.here hx rfl (hb hby d12_48) rfl ?_
              refine XS.bipush X0.here hx rfl (hb hby d12_49) ?_
              exact kt)
            by_cases hc51 : p1 = (35 : Int32)
            · obtain ⟨fs, hr, hrun, hended, hW, hsame⟩ := X0.leave (v := some (.int (1 : Int32))) (fun h => by rw [Bd.returns] at h; cases h)
              refine ⟨_, _, pre38 _ ?_, hrun, hended, _, _, rfl, ?_, ⟨_, rfl⟩, hW, hsame.mono (by decide) (by decide)⟩
              · show Steps p.tables e below (s₁.setTop (mkF m 51 #[.val (.int p1)] [(.int (35 : Int32)), (.int p1)])) _
                refine XS.icmpYes X0.here hx rfl (pc0 := 51) (pc' := 132) rfl (hb hby d12_51) rfl (teq hc51).1 (by decide) (by decide) ?_
                refine XS.iconst X0.here hx rfl (hb hby d12_132) ?_
                refine XS.goto X0.here hx rfl (pc0 := 133) (pc' := 137) rfl (hb hby d12_133) (by decide) (by decide) ?_
                show Steps p.tables e below (s₁.setTop (mkF m 137 #[.val (.int p1)] [(.int (1 : Int32))])) _
                exact retN X0 hx (t := .boolean) Bd.returns (by simp) (hb hby d12_137) hr
              · show Q12 Z p1 h0 n0 _ s₁.heap _
                rw [e0]
                exact ⟨by simp only [own_tchar, if_pos hc3, if_neg hc17, if_pos hc23, if_pos hc31, if_neg hc45, if_pos hc51], N0, rfl⟩
            · have pre39 : ∀ t, Steps p.tables e below (s₁.setTop (mkF m 57 #[.val (.int p1)] [(.int (36 : Int32)), (.int p1)])) t → Steps p.tables e below _ t := fun t kt => pre38 t (by
                show Steps p.tables e below (s₁.setTop (mkF m 51 #[.val (.int p1)] [(.int (35 : Int32)), (.int p1)])) _
                refine XS.icmpNo X0.here hx rfl (hb hby d12_51) rfl (feq hc51).1 ?_
                refine XS.iloadN X0.here hx rfl (hb hby d12_54) rfl ?_
                refine XS.bipush X0.here hx rfl (hb hby d12_55) ?_
                exact kt)
              by_cases hc57 : p1 = (36 : Int32)
              · obtain ⟨fs, hr, hrun, hended, hW, hsame⟩ := X0.leave (v := some (.int (1 : Int32))) (fun h => by rw [Bd.returns] at h; cases h)
                refine ⟨_, _, pre39 _ ?_, hrun, hended, _, _, rfl, ?_, ⟨_, rfl⟩, hW, hsame.mono (by decide) (by decide)⟩
                · show Steps p.tables e below (s₁.setTop (mkF m 57 #[.val (.int p1)] [(.int (36 : Int32)), (.int p1)])) _
                  refine XS.icmpYes X0.here hx rfl (pc0 := 57) (pc' := 132) rfl (hb hby d12_57) rfl (teq hc57).1 (by decide) (by decide) ?_
                  refine XS.iconst X0.here hx rfl (hb hby d12_132) ?_
                  refine XS.goto X0.here hx rfl (pc0 := 133) (pc' := 137) rfl (hb hby d12_133) (by decide) (by decide) ?_
                  show Steps p.tables e below (s₁.setTop (mkF m 137 #[.val (.int p1)] [(.int (1 : Int32))])) _
                  exact retN X0 hx (t := .boolean) Bd.returns (by simp) (hb hby d12_137) hr
                · show Q12 Z p1 h0 n0 _ s₁.heap _
                  rw [e0]
                  exact ⟨by simp only [own_tchar, if_pos hc3, if_neg hc17, if_pos hc23, if_pos hc31, if_neg hc45, if_neg hc51, if_pos hc57], N0, rfl⟩
              · have pre40 : ∀ t, Steps p.tables e below (s₁.setTop (mkF m 63 #[.val (.int p1)] [(.int (37 : Int32)), (.int p1)])) t → Steps p.tables e below _ t := fun t kt => pre39 t (by
                  show Steps p.tables e below (s₁.setTop (mkF m 57 #[.val (.int p1)] [(.int (36 : Int32)), (.int p1)])) _
                  refine XS.icmpNo X0.here hx rfl (hb hby d12_57) rfl (feq hc57).1 ?_
                  refine XS.iloadN X0.here hx rfl (hb hby d12_60) rfl ?_
                  refine XS.bipush X0.here hx rfl (hb hby d12_61) ?_
                  exact kt)
                by_cases hc63 : p1 = (37 : Int32)
                · obtain ⟨fs, hr, hrun, hended, hW, hsame⟩ := X0.leave (v := some (.int (1 : Int32))) (fun h => by rw [Bd.returns] at h; cases h)
                  refine ⟨_, _, pre40 _ ?_, hrun, hended, _, _, rfl, ?_, ⟨_, rfl⟩, hW, hsame.mono (by decide) (by decide)⟩
                  · show Steps p.tables e below (s₁.setTop (mkF m 63 #[.val (.int p1)] [(.int (37 : Int32)), (.int p1)])) _
                    refine XS.icmpYes X0.here hx rfl (pc0 := 63) (pc' := 132) rfl (hb hby d12_63) rfl (teq hc63).1 (by decide) (by decide) ?_
                    refine XS.iconst X0.here hx rfl (hb hby d12_132) ?_
                    refine XS.goto X0.here hx rfl (pc0 := 133) (pc' := 137) rfl (hb hby d12_133) (by decide) (by decide) ?_
                    show Steps p.tables e below (s₁.setTop (mkF m 137 #[.val (.int p1)] [(.int (1 : Int32))])) _
                    exact retN X0 hx (t := .boolean) Bd.returns (by simp) (hb hby d12_137) hr
                  · show Q12 Z p1 h0 n0 _ s₁.heap _
                    rw [e0]
                    exact ⟨by simp only [own_tchar, if_pos hc3, if_neg hc17, if_pos hc23, if_pos hc31, if_neg hc45, if_neg hc51, if_neg hc57, if_pos hc63], N0, rfl⟩
                · have pre41 : ∀ t, Steps p.tables e below (s₁.setTop (mkF m 69 #[.val (.int p1)] [(.int (38 : Int32)), (.int p1)])) t → Steps p.tables e below _ t := fun t kt => pre40 t (by
                    show Steps p.tables e below (s₁.setTop (mkF m 63 #[.val (.int p1)] [(.int (37 : Int32)), (.int p1)])) _
                    refine XS.icmpNo X0.here hx rfl (hb hby d12_63) rfl (feq hc63).1 ?_
                    refine XS.iloadN X0.here hx rfl (hb hby d12_66) rfl ?_
                    refine XS.bipush X0.here hx rfl (hb hby d12_67) ?_
                    exact kt)
                  by_cases hc69 : p1 = (38 : Int32)
                  · obtain ⟨fs, hr, hrun, hended, hW, hsame⟩ := X0.leave (v := some (.int (1 : Int32))) (fun h => by rw [Bd.returns] at h; cases h)
                    refine ⟨_, _, pre41 _ ?_, hrun, hended, _, _, rfl, ?_, ⟨_, rfl⟩, hW, hsame.mono (by decide) (by decide)⟩
                    · show Steps p.tables e below (s₁.setTop (mkF m 69 #[.val (.int p1)] [(.int (38 : Int32)), (.int p1)])) _
                      refine XS.icmpYes X0.here hx rfl (pc0 := 69) (pc' := 132) rfl (hb hby d12_69) rfl (teq hc69).1 (by decide) (by decide) ?_
                      refine XS.iconst X0.here hx rfl (hb hby d12_132) ?_
                      refine XS.goto X0.here hx rfl (pc0 := 133) (pc' := 137) rfl (hb hby d12_133) (by decide) (by decide) ?_
                      show Steps p.tables e below (s₁.setTop (mkF m 137 #[.val (.int p1)] [(.int (1 : Int32))])) _
                      exact retN X0 hx (t := .boolean) Bd.returns (by simp) (hb hby d12_137) hr
                    · show Q12 Z p1 h0 n0 _ s₁.heap _
                      rw [e0]
                      exact ⟨by simp only [own_tchar, if_pos hc3, if_neg hc17, if_pos hc23, if_pos hc31, if_neg hc45, if_neg hc51, if_neg hc57, if_neg hc63, if_pos hc69], N0, rfl⟩
                  · have pre42 : ∀ t, Steps p.tables e below (s₁.setTop (mkF m 75 #[.val (.int p1)] [(.int (39 : Int32)), (.int p1)])) t → Steps p.tables e below _ t := fun t kt => pre41 t (by
                      show Steps p.tables e below (s₁.setTop (mkF m 69 #[.val (.int p1)] [(.int (38 : Int32)), (.int p1)])) _
                      refine XS.icmpNo X0.here hx rfl (hb hby d12_69) rfl (feq hc69).1 ?_
                      refine XS.iloadN X0.here hx rfl (hb hby d12_72) rfl ?_
                      refine XS.bipush X0.here hx rfl (hb hby d12_73) ?_
                      exact kt)
                    by_cases hc75 : p1 = (39 : Int32)
                    · obtain ⟨fs, hr, hrun, hended, hW, hsame⟩ := X0.leave (v := some (.int (1 : Int32))) (fun h => by rw [Bd.returns] at h; cases h)
                      refine ⟨_, _, pre42 _ ?_, hrun, hended, _, _, rfl, ?_, ⟨_, rfl⟩, hW, hsame.mono (by decide) (by decide)⟩
                      · show Steps p.tables e below (s₁.setTop (mkF m 75 #[.val (.int p1)] [(.int (39 : Int32)), (.int p1)])) _
                        refine XS.icmpYes X0.here hx rfl (pc0 := 75) (pc' := 132) rfl (hb hby d12_75) rfl (teq hc75).1 (by decide) (by decide) ?_
                        refine XS.iconst X0.here hx rfl (hb hby d12_132) ?_
                        refine XS.goto X0.here hx rfl (pc0 := 133) (pc' := 137) rfl (hb hby d12_133) (by decide) (by decide) ?_
                        show Steps p.tables e below (s₁.setTop (mkF m 137 #[.val (.int p1)] [(.int (1 : Int32))])) _
                        exact retN X0 hx (t := .boolean) Bd.returns (by simp) (hb hby d12_137) hr
                      · show Q12 Z p1 h0 n0 _ s₁.heap _
                        rw [e0]
                        exact ⟨by simp only [own_tchar, if_pos hc3, if_neg hc17, if_pos hc23, if_pos hc31, if_neg hc45, if_neg hc51, if_neg hc57, if_neg hc63, if_neg hc69, if_pos hc75], N0, rfl⟩
                    · have pre43 : ∀ t, Steps p.tables e below (s₁.setTop (mkF m 81 #[.val (.int p1)] [(.int (42 : Int32)), (.int p1)])) t → Steps p.tables e below _ t := fun t kt => pre42 t (by
                        show Steps p.tables e below (s₁.setTop (mkF m 75 #[.val (.int p1)] [(.int (39 : Int32)), (.int p1)])) _
                        refine XS.icmpNo X0.here hx rfl (hb hby d12_75) rfl (feq hc75).1 ?_
                        refine XS.iloadN X0.here hx rfl (hb hby d12_78) rfl ?_
                        refine XS.bipush X0.here hx rfl (hb hby d12_79) ?_
                        exact kt)
                      by_cases hc81 : p1 = (42 : Int32)
                      · obtain ⟨fs, hr, hrun, hended, hW, hsame⟩ := X0.leave (v := some (.int (1 : Int32))) (fun h => by rw [Bd.returns] at h; cases h)
                        refine ⟨_, _, pre43 _ ?_, hrun, hended, _, _, rfl, ?_, ⟨_, rfl⟩, hW, hsame.mono (by decide) (by decide)⟩
                        · show Steps p.tables e below (s₁.setTop (mkF m 81 #[.val (.int p1)] [(.int (42 : Int32)), (.int p1)])) _
                          refine XS.icmpYes X0.here hx rfl (pc0 := 81) (pc' := 132) rfl (hb hby d12_81) rfl (teq hc81).1 (by decide) (by decide) ?_
                          refine XS.iconst X0.here hx rfl (hb hby d12_132) ?_
                          refine XS.goto X0.here hx rfl (pc0 := 133) (pc' := 137) rfl (hb hby d12_133) (by decide) (by decide) ?_
                          show Steps p.tables e below (s₁.setTop (mkF m 137 #[.val (.int p1)] [(.int (1 : Int32))])) _
                          exact retN X0 hx (t := .boolean) Bd.returns (by simp) (hb hby d12_137) hr
                        · show Q12 Z p1 h0 n0 _ s₁.heap _
                          rw [e0]
                          exact ⟨by simp only [own_tchar, if_pos hc3, if_neg hc17, if_pos hc23, if_pos hc31, if_neg hc45, if_neg hc51, if_neg hc57, if_neg hc63, if_neg hc69, if_neg hc75, if_pos hc81], N0, rfl⟩
                      · have pre44 : ∀ t, Steps p.tables e below (s₁.setTop (mkF m 87 #[.val (.int p1)] [(.int (43 : Int32)), (.int p1)])) t → Steps p.tables e below _ t := fun t kt => pre43 t (by
                          show Steps p.tables e below (s₁.setTop (mkF m 81 #[.val (.int p1)] [(.int (42 : Int32)), (.int p1)])) _
                          refine XS.icmpNo X0.here hx rfl (hb hby d12_81) rfl (feq hc81).1 ?_
                          refine XS.iloadN X0.here hx rfl (hb hby d12_84) rfl ?_
                          refine XS.bipush X0.here hx rfl (hb hby d12_85) ?_
                          exact kt)
                        by_cases hc87 : p1 = (43 : Int32)
                        · obtain ⟨fs, hr, hrun, hended, hW, hsame⟩ := X0.leave (v := some (.int (1 : Int32))) (fun h => by rw [Bd.returns] at h; cases h)
                          refine ⟨_, _, pre44 _ ?_, hrun, hended, _, _, rfl, ?_, ⟨_, rfl⟩, hW, hsame.mono (by decide) (by decide)⟩
                          · show Steps p.tables e below (s₁.setTop (mkF m 87 #[.val (.int p1)] [(.int (43 : Int32)), (.int p1)])) _
                            refine XS.icmpYes X0.here hx rfl (pc0 := 87) (pc' := 132) rfl (hb hby d12_87) rfl (teq hc87).1 (by decide) (by decide) ?_
                            refine XS.iconst X0.here hx rfl (hb hby d12_132) ?_
                            refine XS.goto X0.here hx rfl (pc0 := 133) (pc' := 137) rfl (hb hby d12_133) (by decide) (by decide) ?_
                            show Steps p.tables e below (s₁.setTop (mkF m 137 #[.val (.int p1)] [(.int (1 : Int32))])) _
                            exact retN X0 hx (t := .boolean) Bd.returns (by simp) (hb hby d12_137) hr
                          · show Q12 Z p1 h0 n0 _ s₁.heap _
                            rw [e0]
                            exact ⟨by simp only [own_tchar, if_pos hc3, if_neg hc17, if_pos hc23, if_pos hc31, if_neg hc45, if_neg hc51, if_neg hc57, if_neg hc63, if_neg hc69, if_neg hc75, if_neg hc81, if_pos hc87], N0, rfl⟩
                        · have pre45 : ∀ t, Steps p.tables e below (s₁.setTop (mkF m 93 #[.val (.int p1)] [(.int (45 : Int32)), (.int p1)])) t → Steps p.tables e below _ t := fun t kt => pre44 t (by
                            show Steps p.tables e below (s₁.setTop (mkF m 87 #[.val (.int p1)] [(.int (43 : Int32)), (.int p1)])) _
                            refine XS.icmpNo X0.here hx rfl (hb hby d12_87) rfl (feq hc87).1 ?_
                            refine XS.iloadN X0.here hx rfl (hb hby d12_90) rfl ?_
                            refine XS.bipush X0.here hx rfl (hb hby d12_91) ?_
                            exact kt)
                          by_cases hc93 : p1 = (45 : Int32)
                          · obtain ⟨fs, hr, hrun, hended, hW, hsame⟩ := X0.leave (v := some (.int (1 : Int32))) (fun h => by rw [Bd.returns] at h; cases h)
                            refine ⟨_, _, pre45 _ ?_, hrun, hended, _, _, rfl, ?_, ⟨_, rfl⟩, hW, hsame.mono (by decide) (by decide)⟩
                            · show Steps p.tables e below (s₁.setTop (mkF m 93 #[.val (.int p1)] [(.int (45 : Int32)), (.int p1)])) _
                              refine XS.icmpYes X0.here hx rfl (pc0 := 93) (pc' := 132) rfl (hb hby d12_93) rfl (teq hc93).1 (by decide) (by decide) ?_
                              refine XS.iconst X0.here hx rfl (hb hby d12_132) ?_
                              refine XS.goto X0.here hx rfl (pc0 := 133) (pc' := 137) rfl (hb hby d12_133) (by decide) (by decide) ?_
                              show Steps p.tables e below (s₁.setTop (mkF m 137 #[.val (.int p1)] [(.int (1 : Int32))])) _
                              exact retN X0 hx (t := .boolean) Bd.returns (by simp) (hb hby d12_137) hr
                            · show Q12 Z p1 h0 n0 _ s₁.heap _
                              rw [e0]
                              exact ⟨by simp only [own_tchar, if_pos hc3, if_neg hc17, if_pos hc23, if_pos hc31, if_neg hc45, if_neg hc51, if_neg hc57, if_neg hc63, if_neg hc69, if_neg hc75, if_neg hc81, if_neg hc87, if_pos hc93], N0, rfl⟩
                          · have pre46 : ∀ t, Steps p.tables e below (s₁.setTop (mkF m 99 #[.val (.int p1)] [(.int (46 : Int32)), (.int p1)])) t → Steps p.tables e below _ t := fun t kt => pre45 t (by
                              show Steps p.tables e below (s₁.setTop (mkF m 93 #[.val (.int p1)] [(.int (45 : Int32)), (.int p1)])) _
                              refine XS.icmpNo X0.here hx rfl (hb hby d12_93) rfl (feq hc93).1 ?_
                              refine XS.iloadN X0.here hx rfl (hb hby d12_96) rfl ?_
                              refine XS.bipush X0.here hx rfl (hb hby d12_97) ?_
                              exact kt)
                            by_cases hc99 : p1 = (46 : Int32)
                            · obtain ⟨fs, hr, hrun, hended, hW, hsame⟩ := X0.leave (v := some (.int (1 : Int32))) (fun h => by rw [Bd.returns] at h; cases h)
                              refine ⟨_, _, pre46 _ ?_, hrun, hended, _, _, rfl, ?_, ⟨_, rfl⟩, hW, hsame.mono (by decide) (by decide)⟩
                              · show Steps p.tables e below (s₁.setTop (mkF m 99 #[.val (.int p1)] [(.int (46 : Int32)), (.int p1)])) _
                                refine XS.icmpYes X0.here hx rfl (pc0 := 99) (pc' := 132) rfl (hb hby d12_99) rfl (teq hc99).1 (by decide) (by decide) ?_
                                refine XS.iconst X0.here hx rfl (hb hby d12_132) ?_
                                refine XS.goto X0.here hx rfl (pc0 := 133) (pc' := 137) rfl (hb hby d12_133) (by decide) (by decide) ?_
                                show Steps p.tables e below (s₁.setTop (mkF m 137 #[.val (.int p1)] [(.int (1 : Int32))])) _
                                exact retN X0 hx (t := .boolean) Bd.returns (by simp) (hb hby d12_137) hr
                              · show Q12 Z p1 h0 n0 _ s₁.heap _
                                rw [e0]
                                exact ⟨by simp only [own_tchar, if_pos hc3, if_neg hc17, if_pos hc23, if_pos hc31, if_neg hc45, if_neg hc51, if_neg hc57, if_neg hc63, if_neg hc69, if_neg hc75, if_neg hc81, if_neg hc87, if_neg hc93, if_pos hc99], N0, rfl⟩
                            · have pre47 : ∀ t, Steps p.tables e below (s₁.setTop (mkF m 105 #[.val (.int p1)] [(.int (94 : Int32)), (.int p1)])) t → Steps p.tables e below _ t := fun t kt => pre46 t (by
                                show Steps p.tables e below (s₁.setTop (mkF m 99 #[.val (.int p1)] [(.int (46 : Int32)), (.int p1)])) _
                                refine XS.icmpNo X0.here hx rfl (hb hby d12_99) rfl (feq hc99).1 ?_
                                refine XS.iloadN X0.here hx rfl (hb hby d12_102) rfl ?_
                                refine XS.bipush X0.here hx rfl (hb hby d12_103) ?_
                                exact kt)
                              by_cases hc105 : p1 = (94 : Int32)
                              · obtain ⟨fs, hr, hrun, hended, hW, hsame⟩ := X0.leave (v := some (.int (1 : Int32))) (fun h => by rw [Bd.returns] at h; cases h)
                                refine ⟨_, _, pre47 _ ?_, hrun, hended, _, _, rfl, ?_, ⟨_, rfl⟩, hW, hsame.mono (by decide) (by decide)⟩
                                · show Steps p.tables e below (s₁.setTop (mkF m 105 #[.val (.int p1)] [(.int (94 : Int32)), (.int p1)])) _
                                  refine XS.icmpYes X0.here hx rfl (pc0 := 105) (pc' := 132) rfl (hb hby d12_105) rfl (teq hc105).1 (by decide) (by decide) ?_
                                  refine XS.iconst X0.here hx rfl (hb hby d12_132) ?_
                                  refine XS.goto X0.here hx rfl (pc0 := 133) (pc' := 137) rfl (hb hby d12_133) (by decide) (by decide) ?_
                                  show Steps p.tables e below (s₁.setTop (mkF m 137 #[.val (.int p1)] [(.int (1 : Int32))])) _
                                  exact retN X0 hx (t := .boolean) Bd.returns (by simp) (hb hby d12_137) hr
                                · show Q12 Z p1 h0 n0 _ s₁.heap _
                                  rw [e0]
                                  exact ⟨by simp only [own_tchar, if_pos hc3, if_neg hc17, if_pos hc23, if_pos hc31, if_neg hc45, if_neg hc51, if_neg hc57, if_neg hc63, if_neg hc69, if_neg hc75, if_neg hc81, if_neg hc87, if_neg hc93, if_neg hc99, if_pos hc105], N0, rfl⟩
                              · have pre48 : ∀ t, Steps p.tables e below (s₁.setTop (mkF m 111 #[.val (.int p1)] [(.int (95 : Int32)), (.int p1)])) t → Steps p.tables e below _ t := fun t kt => pre47 t (by
                                  show Steps p.tables e below (s₁.setTop (mkF m 105 #[.val (.int p1)] [(.int (94 : Int32)), (.int p1)])) _
                                  refine XS.icmpNo X0.here hx rfl (hb hby d12_105) rfl (feq hc105).1 ?_
                                  refine XS.iloadN X0.here hx rfl (hb hby d12_108) rfl ?_
                                  refine XS.bipush X0.here hx rfl (hb hby d12_109) ?_
                                  exact kt)
                                by_cases hc111 : p1 = (95 : Int32)
                                · obtain ⟨fs, hr, hrun, hended, hW, hsame⟩ := X0.leave (v := some (.int (1 : Int32))) (fun h => by rw [Bd.returns] at h; cases h)
                                  refine ⟨_, _, pre48 _ ?_, hrun, hended, _, _, rfl, ?_, ⟨_, rfl⟩, hW, hsame.mono (by decide) (by decide)⟩
                                  · show Steps p.tables e below (s₁.setTop (mkF m 111 #[.val (.int p1)] [(.int (95 : Int32)), (.int p1)])) _
                                    refine XS.icmpYes X0.here hx rfl (pc0 := 111) (pc' := 132) rfl (hb hby d12_111) rfl (teq hc111).1 (by decide) (by decide) ?_
                                    refine XS.iconst X0.here hx rfl (hb hby d12_132) ?_
                                    refine XS.goto X0.here hx rfl (pc0 := 133) (pc' := 137) rfl (hb hby d12_133) (by decide) (by decide) ?_
                                    show Steps p.tables e below (s₁.setTop (mkF m 137 #[.val (.int p1)] [(.int (1 : Int32))])) _
                                    exact retN X0 hx (t := .boolean) Bd.returns (by simp) (hb hby d12_137) hr
                                  · show Q12 Z p1 h0 n0 _ s₁.heap _
                                    rw [e0]
                                    exact ⟨by simp only [own_tchar, if_pos hc3, if_neg hc17, if_pos hc23, if_pos hc31, if_neg hc45, if_neg hc51, if_neg hc57, if_neg hc63, if_neg hc69, if_neg hc75, if_neg hc81, if_neg hc87, if_neg hc93, if_neg hc99, if_neg hc105, if_pos hc111], N0, rfl⟩
                                · have pre49 : ∀ t, Steps p.tables e below (s₁.setTop (mkF m 117 #[.val (.int p1)] [(.int (96 : Int32)), (.int p1)])) t → Steps p.tables e below _ t := fun t kt => pre48 t (by
                                    show Steps p.tables e below (s₁.setTop (mkF m 111 #[.val (.int p1)] [(.int (95 : Int32)), (.int p1)])) _
                                    refine XS.icmpNo X0.here hx rfl (hb hby d12_111) rfl (feq hc111).1 ?_
                                    refine XS.iloadN X0.here hx rfl (hb hby d12_114) rfl ?_
                                    refine XS.bipush X0.here hx rfl (hb hby d12_115) ?_
                                    exact kt)
                                  by_cases hc117 : p1 = (96 : Int32)
                                  · obtain ⟨fs, hr, hrun, hended, hW, hsame⟩ := X0.leave (v := some (.int (1 : Int32))) (fun h => by rw [Bd.returns] at h; cases h)
                                    refine ⟨_, _, pre49 _ ?_, hrun, hended, _, _, rfl, ?_, ⟨_, rfl⟩, hW, hsame.mono (by decide) (by decide)⟩
                                    · show Steps p.tables e below (s₁.setTop (mkF m 117 #[.val (.int p1)] [(.int (96 : Int32)), (.int p1)])) _
                                      refine XS.icmpYes X0.here hx rfl (pc0 := 117) (pc' := 132) rfl (hb hby d12_117) rfl (teq hc117).1 (by decide) (by decide) ?_
                                      refine XS.iconst X0.here hx rfl (hb hby d12_132) ?_
                                      refine XS.goto X0.here hx rfl (pc0 := 133) (pc' := 137) rfl (hb hby d12_133) (by decide) (by decide) ?_
                                      show Steps p.tables e below (s₁.setTop (mkF m 137 #[.val (.int p1)] [(.int (1 : Int32))])) _
                                      exact retN X0 hx (t := .boolean) Bd.returns (by simp) (hb hby d12_137) hr
                                    · show Q12 Z p1 h0 n0 _ s₁.heap _
                                      rw [e0]
                                      exact ⟨by simp only [own_tchar, if_pos hc3, if_neg hc17, if_pos hc23, if_pos hc31, if_neg hc45, if_neg hc51, if_neg hc57, if_neg hc63, if_neg hc69, if_neg hc75, if_neg hc81, if_neg hc87, if_neg hc93, if_neg hc99, if_neg hc105, if_neg hc111, if_pos hc117], N0, rfl⟩
                                  · have pre50 : ∀ t, Steps p.tables e below (s₁.setTop (mkF m 123 #[.val (.int p1)] [(.int (124 : Int32)), (.int p1)])) t → Steps p.tables e below _ t := fun t kt => pre49 t (by
                                      show Steps p.tables e below (s₁.setTop (mkF m 117 #[.val (.int p1)] [(.int (96 : Int32)), (.int p1)])) _
                                      refine XS.icmpNo X0.here hx rfl (hb hby d12_117) rfl (feq hc117).1 ?_
                                      refine XS.iloadN X0.here hx rfl (hb hby d12_120) rfl ?_
                                      refine XS.bipush X0.here hx rfl (hb hby d12_121) ?_
                                      exact kt)
                                    by_cases hc123 : p1 = (124 : Int32)
                                    · obtain ⟨fs, hr, hrun, hended, hW, hsame⟩ := X0.leave (v := some (.int (1 : Int32))) (fun h => by rw [Bd.returns] at h; cases h)
                                      refine ⟨_, _, pre50 _ ?_, hrun, hended, _, _, rfl, ?_, ⟨_, rfl⟩, hW, hsame.mono (by decide) (by decide)⟩
                                      · show Steps p.tables e below (s₁.setTop (mkF m 123 #[.val (.int p1)] [(.int (124 : Int32)), (.int p1)])) _
                                        refine XS.icmpYes X0.here hx rfl (pc0 := 123) (pc' := 132) rfl (hb hby d12_123) rfl (teq hc123).1 (by decide) (by decide) ?_
                                        refine XS.iconst X0.here hx rfl (hb hby d12_132) ?_
                                        refine XS.goto X0.here hx rfl (pc0 := 133) (pc' := 137) rfl (hb hby d12_133) (by decide) (by decide) ?_
                                        show Steps p.tables e below (s₁.setTop (mkF m 137 #[.val (.int p1)] [(.int (1 : Int32))])) _
                                        exact retN X0 hx (t := .boolean) Bd.returns (by simp) (hb hby d12_137) hr
                                      · show Q12 Z p1 h0 n0 _ s₁.heap _
                                        rw [e0]
                                        exact ⟨by simp only [own_tchar, if_pos hc3, if_neg hc17, if_pos hc23, if_pos hc31, if_neg hc45, if_neg hc51, if_neg hc57, if_neg hc63, if_neg hc69, if_neg hc75, if_neg hc81, if_neg hc87, if_neg hc93, if_neg hc99, if_neg hc105, if_neg hc111, if_neg hc117, if_pos hc123], N0, rfl⟩
                                    · have pre51 : ∀ t, Steps p.tables e below (s₁.setTop (mkF m 129 #[.val (.int p1)] [(.int (126 : Int32)), (.int p1)])) t → Steps p.tables e below _ t := fun t kt => pre50 t (by
                                        show Steps p.tables e below (s₁.setTop (mkF m 123 #[.val (.int p1)] [(.int (124 : Int32)), (.int p1)])) _
                                        refine XS.icmpNo X0.here hx rfl (hb hby d12_123) rfl (feq hc123).1 ?_
                                        refine XS.iloadN X0.here hx rfl (hb hby d12_126) rfl ?_
                                        refine XS.bipush X0.here hx rfl (hb hby d12_127) ?_
                                        exact kt)
                                      by_cases hc129 : p1 = (126 : Int32)
                                      · obtain ⟨fs, hr, hrun, hended, hW, hsame⟩ := X0.leave (v := some (.int (1 : Int32))) (fun h => by rw [Bd.returns] at h; cases h)
                                        refine ⟨_, _, pre51 _ ?_, hrun, hended, _, _, rfl, ?_, ⟨_, rfl⟩, hW, hsame.mono (by decide) (by decide)⟩
                                        · show Steps p.tables e below (s₁.setTop (mkF m 129 #[.val (.int p1)] [(.int (126 : Int32)), (.int p1)])) _
                                          refine XS.icmpNo X0.here hx rfl (hb hby d12_129) rfl (teq hc129).2 ?_
                                          refine XS.iconst X0.here hx rfl (hb hby d12_132) ?_
                                          refine XS.goto X0.here hx rfl (pc0 := 133) (pc' := 137) rfl (hb hby d12_133) (by decide) (by decide) ?_
                                          show Steps p.tables e below (s₁.setTop (mkF m 137 #[.val (.int p1)] [(.int (1 : Int32))])) _
                                          exact retN X0 hx (t := .boolean) Bd.returns (by simp) (hb hby d12_137) hr
                                        · show Q12 Z p1 h0 n0 _ s₁.heap _
                                          rw [e0]
                                          exact ⟨by simp only [own_tchar, if_pos hc3, if_neg hc17, if_pos hc23, if_pos hc31, if_neg hc45, if_neg hc51, if_neg hc57, if_neg hc63, if_neg hc69, if_neg hc75, if_neg hc81, if_neg hc87, if_neg hc93, if_neg hc99, if_neg hc105, if_neg hc111, if_neg hc117, if_neg hc123, if_pos hc129], N0, rfl⟩
                                      · obtain ⟨fs, hr, hrun, hended, hW, hsame⟩ := X0.leave (v := some (.int (0 : Int32))) (fun h => by rw [Bd.returns] at h; cases h)
                                        refine ⟨_, _, pre51 _ ?_, hrun, hended, _, _, rfl, ?_, ⟨_, rfl⟩, hW, hsame.mono (by decide) (by decide)⟩
                                        · show Steps p.tables e below (s₁.setTop (mkF m 129 #[.val (.int p1)] [(.int (126 : Int32)), (.int p1)])) _
                                          refine XS.icmpYes X0.here hx rfl (pc0 := 129) (pc' := 136) rfl (hb hby d12_129) rfl (feq hc129).2 (by decide) (by decide) ?_
                                          refine XS.iconst X0.here hx rfl (hb hby d12_136) ?_
                                          show Steps p.tables e below (s₁.setTop (mkF m 137 #[.val (.int p1)] [(.int (0 : Int32))])) _
                                          exact retN X0 hx (t := .boolean) Bd.returns (by simp) (hb hby d12_137) hr
                                        · show Q12 Z p1 h0 n0 _ s₁.heap _
                                          rw [e0]
                                          exact ⟨by simp only [own_tchar, if_pos hc3, if_neg hc17, if_pos hc23, if_pos hc31, if_neg hc45, if_neg hc51, if_neg hc57, if_neg hc63, if_neg hc69, if_neg hc75, if_neg hc81, if_neg hc87, if_neg hc93, if_neg hc99, if_neg hc105, if_neg hc111, if_neg hc117, if_neg hc123, if_neg hc129], N0, rfl⟩
        · have pre52 : ∀ t, Steps p.tables e below (s₁.setTop (mkF m 37 #[.val (.int p1)] [(.int (122 : Int32)), (.int p1)])) t → Steps p.tables e below _ t := fun t kt => pre36 t (by
            show Steps p.tables e below (s₁.setTop (mkF m 31 #[.val (.int p1)] [(.int (97 : Int32)), (.int p1)])) _
            refine XS.icmpNo X0.here hx rfl (hb hby d12_31) rfl (flt hc31).1 ?_
            refine XS.iloadN X0.here hx rfl (hb hby d12_34) rfl ?_
            refine XS.bipush X0.here hx rfl (hb hby d12_35) ?_
            exact kt)
          by_cases hc37 : (122 : Int32) < p1
          · have pre53 : ∀ t, Steps p.tables e below (s₁.setTop (mkF m 45 #[.val (.int p1)] [(.int (33 : Int32)), (.int p1)])) t → Steps p.tables e below _ t := fun t kt => pre52 t (by
              show Steps p.tables e below (s₁.setTop (mkF m 37 #[.val (.int p1)] [(.int (122 : Int32)), (.int p1)])) _
              refine XS.icmpYes X0.here hx rfl (pc0 := 37) (pc' := 42) rfl (hb hby d12_37) rfl (tlt hc37).2.2.1 (by decide) (by decide) ?_
              refine XS.iloadN X0.here hx rfl (hb hby d12_42) rfl ?_
              refine XS.bipush X0.here hx rfl (hb hby d12_43) ?_
              exact kt)
            by_cases hc45 : p1 = (33 : Int32)
            · obtain ⟨fs, hr, hrun, hended, hW, hsame⟩ := X0.leave (v := some (.int (1 : Int32))) (fun h => by rw [Bd.returns] at h; cases h)
              refine ⟨_, _, pre53 _ ?_, hrun, hended, _, _, rfl, ?_, ⟨_, rfl⟩, hW, hsame.mono (by decide) (by decide)⟩
              · show Steps p.tables e below (s₁.setTop (mkF m 45 #[.val (.int p1)] [(.int (33 : Int32)), (.int p1)])) _
                refine XS.icmpYes X0.here hx rfl (pc0 := 45) (pc' := 132) rfl (hb hby d12_45) rfl (teq hc45).1 (by decide) (by decide) ?_
                refine XS.iconst X0.here hx rfl (hb hby d12_132) ?_
                refine XS.goto X0.here hx rfl (pc0 := 133) (pc' := 137) rfl (hb hby d12_133) (by decide) (by decide) ?_
                show Steps p.tables e below (s₁.setTop (mkF m 137 #[.val (.int p1)] [(.int (1 : Int32))])) _
                exact retN X0 hx (t := .boolean) Bd.returns (by simp) (hb hby d12_137) hr
              · show Q12 Z p1 h0 n0 _ s₁.heap _
                rw [e0]
                exact ⟨by simp only [own_tchar, if_pos hc3, if_neg hc17, if_pos hc23, if_neg hc31, if_pos hc37, if_pos hc45], N0, rfl⟩
            · have pre54 : ∀ t, Steps p.tables e below (s₁.setTop (mkF m 51 #[.val (.int p1)] [(.int (35 : Int32)), (.int p1)])) t → Steps p.tables e below _ t := fun t kt => pre53 t (by
                show Steps p.tables e below (s₁.setTop (mkF m 45 #[.val (.int p1)] [(.int (33 : Int32)), (.int p1)])) _
                refine XS.icmpNo X0.here hx rfl (hb hby d12_45) rfl (feq hc45).1 ?_
                refine XS.iloadN X0.here hx rfl (hb hby d12_48) rfl ?_
                refine XS.bipush X0.here hx rfl (hb hby d12_49) ?_
                exact kt)
              by_cases hc51 : p1 = (35 : Int32)
              · obtain ⟨fs, hr, hrun, hended, hW, hsame⟩ := X0.leave (v := some (.int (1 : Int32))) (fun h => by rw [Bd.returns] at h; cases h)
                refine ⟨_, _, pre54 _ ?_, hrun, hended, _, _, rfl, ?_, ⟨_, rfl⟩, hW, hsame.mono (by decide) (by decide)⟩
                · show Steps p.tables e below (s₁.setTop (mkF m 51 #[.val (.int p1)] [(.int (35 : Int32)), (.int p1)])) _
                  refine XS.icmpYes X0.here hx rfl (pc0 := 51) (pc' := 132) rfl (hb hby d12_51) rfl (teq hc51).1 (by decide) (by decide) ?_
                  refine XS.iconst X0.here hx rfl (hb hby d12_132) ?_
                  refine XS.goto X0.here hx rfl (pc0 := 133) (pc' := 137) rfl (hb hby d12_133) (by decide) (by decide) ?_
                  show Steps p.tables e below (s₁.setTop (mkF m 137 #[.val (.int p1)] [(.int (1 : Int32))])) _
                  exact retN X0 hx (t := .boolean) Bd.returns (by simp) (hb hby d12_137) hr
                · show Q12 Z p1 h0 n0 _ s₁.heap _
                  rw [e0]
                  exact ⟨by simp only [own_tchar, if_pos hc3, if_neg hc17, if_pos hc23, if_neg hc31, if_pos hc37, if_neg hc45, if_pos hc51], N0, rfl⟩
              · have pre55 : ∀ t, Steps p.tables e below (s₁.setTop (mkF m 57 #[.val (.int p1)] [(.int (36 : Int32)), (.int p1)])) t → Steps p.tables e below _ t := fun t kt => pre54 t (by
                  show Steps p.tables e below (s₁.setTop (mkF m 51 #[.val (.int p1)] [(.int (35 : Int32)), (.int p1)])) _
                  refine XS.icmpNo X0.here hx rfl (hb hby d12_51) rfl (feq hc51).1 ?_
                  refine XS.iloadN X0.here hx rfl (hb hby d12_54) rfl ?_
                  refine XS.bipush X0.here hx rfl (hb hby d12_55) ?_
                  exact kt)
                by_cases hc57 : p1 = (36 : Int32)
                · obtain ⟨fs, hr, hrun, hended, hW, hsame⟩ := X0.leave (v := some (.int (1 : Int32))) (fun h => by rw [Bd.returns] at h; cases h)
                  refine ⟨_, _, pre55 _ ?_, hrun, hended, _, _, rfl, ?_, ⟨_, rfl⟩, hW, hsame.mono (by decide) (by decide)⟩
                  · show Steps p.tables e below (s₁.setTop (mkF m 57 #[.val (.int p1)] [(.int (36 : Int32)), (.int p1)])) _
                    refine XS.icmpYes X0.here hx rfl (pc0 := 57) (pc' := 132) rfl (hb hby d12_57) rfl (teq hc57).1 (by decide) (by decide) ?_
                    refine XS.iconst X0.here hx rfl (hb hby d12_132) ?_
                    refine XS.goto X0.here hx rfl (pc0 := 133) (pc' := 137) rfl (hb hby d12_133) (by decide) (by decide) ?_
                    show Steps p.tables e below (s₁.setTop (mkF m 137 #[.val (.int p1)] [(.int (1 : Int32))])) _
                    exact retN X0 hx (t := .boolean) Bd.returns (by simp) (hb hby d12_137) hr
                  · show Q12 Z p1 h0 n0 _ s₁.heap _
                    rw [e0]
                    exact ⟨by simp only [own_tchar, if_pos hc3, if_neg hc17, if_pos hc23, if_neg hc31, if_pos hc37, if_neg hc45, if_neg hc51, if_pos hc57], N0, rfl⟩
                · have pre56 : ∀ t, Steps p.tables e below (s₁.setTop (mkF m 63 #[.val (.int p1)] [(.int (37 : Int32)), (.int p1)])) t → Steps p.tables e below _ t := fun t kt => pre55 t (by
                    show Steps p.tables e below (s₁.setTop (mkF m 57 #[.val (.int p1)] [(.int (36 : Int32)), (.int p1)])) _
                    refine XS.icmpNo X0.here hx rfl (hb hby d12_57) rfl (feq hc57).1 ?_
                    refine XS.iloadN X0.here hx rfl (hb hby d12_60) rfl ?_
                    refine XS.bipush X0.here hx rfl (hb hby d12_61) ?_
                    exact kt)
                  by_cases hc63 : p1 = (37 : Int32)
                  · obtain ⟨fs, hr, hrun, hended, hW, hsame⟩ := X0.leave (v := some (.int (1 : Int32))) (fun h => by rw [Bd.returns] at h; cases h)
                    refine ⟨_, _, pre56 _ ?_, hrun, hended, _, _, rfl, ?_, ⟨_, rfl⟩, hW, hsame.mono (by decide) (by decide)⟩
                    · show Steps p.tables e below (s₁.setTop (mkF m 63 #[.val (.int p1)] [(.int (37 : Int32)), (.int p1)])) _
                      refine XS.icmpYes X0.here hx rfl (pc0 := 63) (pc' := 132) rfl (hb hby d12_63) rfl (teq hc63).1 (by decide) (by decide) ?_
                      refine XS.iconst X0.here hx rfl (hb hby d12_132) ?_
                      refine XS.goto X0.here hx rfl (pc0 := 133) (pc' := 137) rfl (hb hby d12_133) (by decide) (by decide) ?_
                      show Steps p.tables e below (s₁.setTop (mkF m 137 #[.val (.int p1)] [(.int (1 : Int32))])) _
                      exact retN X0 hx (t := .boolean) Bd.returns (by simp) (hb hby d12_137) hr
                    · show Q12 Z p1 h0 n0 _ s₁.heap _
                      rw [e0]
                      exact ⟨by simp only [own_tchar, if_pos hc3, if_neg hc17, if_pos hc23, if_neg hc31, if_pos hc37, if_neg hc45, if_neg hc51, if_neg hc57, if_pos hc63], N0, rfl⟩
                  · have pre57 : ∀ t, Steps p.tables e below (s₁.setTop (mkF m 69 #[.val (.int p1)] [(.int (38 : Int32)), (.int p1)])) t → Steps p.tables e below _ t := fun t kt => pre56 t (by
                      show Steps p.tables e below (s₁.setTop (mkF m 63 #[.val (.int p1)] [(.int (37 : Int32)), (.int p1)])) _
                      refine XS.icmpNo X0.here hx rfl (hb hby d12_63) rfl (feq hc63).1 ?_
                      refine XS.iloadN X0.here hx rfl (hb hby d12_66) rfl ?_
                      refine XS.bipush X0.here hx rfl (hb hby d12_67) ?_
                      exact kt)
                    by_cases hc69 : p1 = (38 : Int32)
                    · obtain ⟨fs, hr, hrun, hended, hW, hsame⟩ := X0.leave (v := some (.int (1 : Int32))) (fun h => by rw [Bd.returns] at h; cases h)
                      refine ⟨_, _, pre57 _ ?_, hrun, hended, _, _, rfl, ?_, ⟨_, rfl⟩, hW, hsame.mono (by decide) (by decide)⟩
                      · show Steps p.tables e below (s₁.setTop (mkF m 69 #[.val (.int p1)] [(.int (38 : Int32)), (.int p1)])) _
                        refine XS.icmpYes X0.here hx rfl (pc0 := 69) (pc' := 132) rfl (hb hby d12_69) rfl (teq hc69).1 (by decide) (by decide) ?_
                        refine XS.iconst X0.here hx rfl (hb hby d12_132) ?_
                        refine XS.goto X0.here hx rfl (pc0 := 133) (pc' := 137) rfl (hb hby d12_133) (by decide) (by decide) ?_
                        show Steps p.tables e below (s₁.setTop (mkF m 137 #[.val (.int p1)] [(.int (1 : Int32))])) _
                        exact retN X0 hx (t := .boolean) Bd.returns (by simp) (hb hby d12_137) hr
                      · show Q12 Z p1 h0 n0 _ s₁.heap _
                        rw [e0]
                        exact ⟨by simp only [own_tchar, if_pos hc3, if_neg hc17, if_pos hc23, if_neg hc31, if_pos hc37, if_neg hc45, if_neg hc51, if_neg hc57, if_neg hc63, if_pos hc69], N0, rfl⟩
                    · have pre58 : ∀ t, Steps p.tables e below (s₁.setTop (mkF m 75 #[.val (.int p1)] [(.int (39 : Int32)), (.int p1)])) t → Steps p.tables e below _ t := fun t kt => pre57 t (by
                        show Steps p.tables e below (s₁.setTop (mkF m 69 #[.val (.int p1)] [(.int (38 : Int32)), (.int p1)])) _
                        refine XS.icmpNo X0.here hx rfl (hb hby d12_69) rfl (feq hc69).1 ?_
                        refine XS.iloadN X0.here hx rfl (hb hby d12_72) rfl ?_
                        refine XS.bipush X0.here hx rfl (hb hby d12_73) ?_
                        exact kt)
                      by_cases hc75 : p1 = (39 : Int32)
                      · obtain ⟨fs, hr, hrun, hended, hW, hsame⟩ := X0.leave (v := some (.int (1 : Int32))) (fun h => by rw [Bd.returns] at h; cases h)
                        refine ⟨_, _, pre58 _ ?_, hrun, hended, _, _, rfl, ?_, ⟨_, rfl⟩, hW, hsame.mono (by decide) (by decide)⟩
                        · show Steps p.tables e below (s₁.setTop (mkF m 75 #[.val (.int p1)] [(.int (39 : Int32)), (.int p1)])) _
                          refine XS.icmpYes X0.here hx rfl (pc0 := 75) (pc' := 132) rfl (hb hby d12_75) rfl (teq hc75).1 (by decide) (by decide) ?_
                          refine XS.iconst X0.here hx rfl (hb hby d12_132) ?_
                          refine XS.goto X0.here hx rfl (pc0 := 133) (pc' := 137) rfl (hb hby d12_133) (by decide) (by decide) ?_
                          show Steps p.tables e below (s₁.setTop (mkF m 137 #[.val (.int p1)] [(.int (1 : Int32))])) _
                          exact retN X0 hx (t := .boolean) Bd.returns (by simp) (hb hby d12_137) hr
                        · show Q12 Z p1 h0 n0 _ s₁.heap _
                          rw [e0]
                          exact ⟨by simp only [own_tchar, if_pos hc3, if_neg hc17, if_pos hc23, if_neg hc31, if_pos hc37, if_neg hc45, if_neg hc51, if_neg hc57, if_neg hc63, if_neg hc69, if_pos hc75], N0, rfl⟩
                      · have pre59 : ∀ t, Steps p.tables e below (s₁.setTop (mkF m 81 #[.val (.int p1)] [(.int (42 : Int32)), (.int p1)])) t → Steps p.tables e below _ t := fun t kt => pre58 t (by
                          show Steps p.tables e below (s₁.setTop (mkF m 75 #[.val (.int p1)] [(.int (39 : Int32)), (.int p1)])) _
                          refine XS.icmpNo X0.here hx rfl (hb hby d12_75) rfl (feq hc75).1 ?_
                          refine XS.iloadN X0.here hx rfl (hb hby d12_78) rfl ?_
                          refine XS.bipush X0.here hx rfl (hb hby d12_79) ?_
                          exact kt)
                        by_cases hc81 : p1 = (42 : Int32)
                        · obtain ⟨fs, hr, hrun, hended, hW, hsame⟩ := X0.leave (v := some (.int (1 : Int32))) (fun h => by rw [Bd.returns] at h; cases h)
                          refine ⟨_, _, pre59 _ ?_, hrun, hended, _, _, rfl, ?_, ⟨_, rfl⟩, hW, hsame.mono (by decide) (by decide)⟩
                          · show Steps p.tables e below (s₁.setTop (mkF m 81 #[.val (.int p1)] [(.int (42 : Int32)), (.int p1)])) _
                            refine XS.icmpYes X0.here hx rfl (pc0 := 81) (pc' := 132) rfl (hb hby d12_81) rfl (teq hc81).1 (by decide) (by decide) ?_
                            refine XS.iconst X0.here hx rfl (hb hby d12_132) ?_
                            refine XS.goto X0.here hx rfl (pc0 := 133) (pc' := 137) rfl (hb hby d12_133) (by decide) (by decide) ?_
                            show Steps p.tables e below (s₁.setTop (mkF m 137 #[.val (.int p1)] [(.int (1 : Int32))])) _
                            exact retN X0 hx (t := .boolean) Bd.returns (by simp) (hb hby d12_137) hr
                          · show Q12 Z p1 h0 n0 _ s₁.heap _
                            rw [e0]
                            exact ⟨by simp only [own_tchar, if_pos hc3, if_neg hc17, if_pos hc23, if_neg hc31, if_pos hc37, if_neg hc45, if_neg hc51, if_neg hc57, if_neg hc63, if_neg hc69, if_neg hc75, if_pos hc81], N0, rfl⟩
                        · have pre60 : ∀ t, Steps p.tables e below (s₁.setTop (mkF m 87 #[.val (.int p1)] [(.int (43 : Int32)), (.int p1)])) t → Steps p.tables e below _ t := fun t kt => pre59 t (by
                            show Steps p.tables e below (s₁.setTop (mkF m 81 #[.val (.int p1)] [(.int (42 : Int32)), (.int p1)])) _
                            refine XS.icmpNo X0.here hx rfl (hb hby d12_81) rfl (feq hc81).1 ?_
                            refine XS.iloadN X0.here hx rfl (hb hby d12_84) rfl ?_
                            refine XS.bipush X0.here hx rfl (hb hby d12_85) ?_
                            exact kt)
                          by_cases hc87 : p1 = (43 : Int32)
                          · obtain ⟨fs, hr, hrun, hended, hW, hsame⟩ := X0.leave (v := some (.int (1 : Int32))) (fun h => by rw [Bd.returns] at h; cases h)
                            refine ⟨_, _, pre60 _ ?_, hrun, hended, _, _, rfl, ?_, ⟨_, rfl⟩, hW, hsame.mono (by decide) (by decide)⟩
                            · show Steps p.tables e below (s₁.setTop (mkF m 87 #[.val (.int p1)] [(.int (43 : Int32)), (.int p1)])) _
                              refine XS.icmpYes X0.here hx rfl (pc0 := 87) (pc' := 132) rfl (hb hby d12_87) rfl (teq hc87).1 (by decide) (by decide) ?_
                              refine XS.iconst X0.here hx rfl (hb hby d12_132) ?_
                              refine XS.goto X0.here hx rfl (pc0 := 133) (pc' := 137) rfl (hb hby d12_133) (by decide) (by decide) ?_
                              show Steps p.tables e below (s₁.setTop (mkF m 137 #[.val (.int p1)] [(.int (1 : Int32))])) _
                              exact retN X0 hx (t := .boolean) Bd.returns (by simp) (hb hby d12_137) hr
                            · show Q12 Z p1 h0 n0 _ s₁.heap _
                              rw [e0]
                              exact ⟨by simp only [own_tchar, if_pos hc3, if_neg hc17, if_pos hc23, if_neg hc31, if_pos hc37, if_neg hc45, if_neg hc51, if_neg hc57, if_neg hc63, if_neg hc69, if_neg hc75, if_neg hc81, if_pos hc87], N0, rfl⟩
                          · have pre61 : ∀ t, Steps p.tables e below (s₁.setTop (mkF m 93 #[.val (.int p1)] [(.int (45 : Int32)), (.int p1)])) t → Steps p.tables e below _ t := fun t kt => pre60 t (by
                              show Steps p.tables e below (s₁.setTop (mkF m 87 #[.val (.int p1)] [(.int (43 : Int32)), (.int p1)])) _
                              refine XS.icmpNo X0.here hx rfl (hb hby d12_87) rfl (feq hc87).1 ?_
                              refine XS.iloadN X0.here hx rfl (hb hby d12_90) rfl ?_
                              refine XS.bipush X0.here hx rfl (hb hby d12_91) ?_
                              exact kt)
                            by_cases hc93 : p1 = (45 : Int32)
                            · obtain ⟨fs, hr, hrun, hended, hW, hsame⟩ := X0.leave (v := some (.int (1 : Int32))) (fun h => by rw [Bd.returns] at h; cases h)
                              refine ⟨_, _, pre61 _ ?_, hrun, hended, _, _, rfl, ?_, ⟨_, rfl⟩, hW, hsame.mono (by decide) (by decide)⟩
                              · show Steps p.tables e below (s₁.setTop (mkF m 93 #[.val (.int p1)] [(.int (45 : Int32)), (.int p1)])) _
                                refine XS.icmpYes X0.here hx rfl (pc0 := 93) (pc' := 132) rfl (hb hby d12_93) rfl (teq hc93).1 (by decide) (by decide) ?_
                                refine XS.iconst X0.here hx rfl (hb hby d12_132) ?_
                                refine XS.goto X0.here hx rfl (pc0 := 133) (pc' := 137) rfl (hb hby d12_133) (by decide) (by decide) ?_
                                show Steps p.tables e below (s₁.setTop (mkF m 137 #[.val (.int p1)] [(.int (1 : Int32))])) _
                                exact retN X0 hx (t := .boolean) Bd.returns (by simp) (hb hby d12_137) hr
                              · show Q12 Z p1 h0 n0 _ s₁.heap _
                                rw [e0]
                                exact ⟨by simp only [own_tchar, if_pos hc3, if_neg hc17, if_pos hc23, if_neg hc31, if_pos hc37, if_neg hc45, if_neg hc51, if_neg hc57, if_neg hc63, if_neg hc69, if_neg hc75, if_neg hc81, if_neg hc87, if_pos hc93], N0, rfl⟩
                            · have pre62 : ∀ t, Steps p.tables e below (s₁.setTop (mkF m 99 #[.val (.int p1)] [(.int (46 : Int32)), (.int p1)])) t → Steps p.tables e below _ t := fun t kt => pre61 t (by
                                show Steps p.tables e below (s₁.setTop (mkF m 93 #[.val (.int p1)] [(.int (45 : Int32)), (.int p1)])) _
                                refine XS.icmpNo X0.here hx rfl (hb hby d12_93) rfl (feq hc93).1 ?_
                                refine XS.iloadN X0.here hx rfl (hb hby d12_96) rfl ?_
                                refine XS.bipush X0.here hx rfl (hb hby d12_97) ?_
                                exact kt)
                              by_cases hc99 : p1 = (46 : Int32)
                              · obtain ⟨fs, hr, hrun, hended, hW, hsame⟩ := X0.leave (v := some (.int (1 : Int32))) (fun h => by rw [Bd.returns] at h; cases h)
                                refine ⟨_, _, pre62 _ ?_, hrun, hended, _, _, rfl, ?_, ⟨_, rfl⟩, hW, hsame.mono (by decide) (by decide)⟩
                                · show Steps p.tables e below (s₁.setTop (mkF m 99 #[.val (.int p1)] [(.int (46 : Int32)), (.int p1)])) _
                                  refine XS.icmpYes X0.here hx rfl (pc0 := 99) (pc' := 132) rfl (hb hby d12_99) rfl (teq hc99).1 (by decide) (by decide) ?_
                                  refine XS.iconst X0.here hx rfl (hb hby d12_132) ?_
                                  refine XS.goto X0.here hx rfl (pc0 := 133) (pc' := 137) rfl (hb hby d12_133) (by decide) (by decide) ?_
                                  show Steps p.tables e below (s₁.setTop (mkF m 137 #[.val (.int p1)] [(.int (1 : Int32))])) _
                                  exact retN X0 hx (t := .boolean) Bd.returns (by simp) (hb hby d12_137) hr
                                · show Q12 Z p1 h0 n0 _ s₁.heap _
                                  rw [e0]
                                  exact ⟨by simp only [own_tchar, if_pos hc3, if_neg hc17, if_pos hc23, if_neg hc31, if_pos hc37, if_neg hc45, if_neg hc51, if_neg hc57, if_neg hc63, if_neg hc69, if_neg hc75, if_neg hc81, if_neg hc87, if_neg hc93, if_pos hc99], N0, rfl⟩
                              · have pre63 : ∀ t, Steps p.tables e below (s₁.setTop (mkF m 105 #[.val (.int p1)] [(.int (94 : Int32)), (.int p1)])) t → Steps p.tables e below _ t := fun t kt => pre62 t (by
                                  show Steps p.tables e below (s₁.setTop (mkF m 99 #[.val (.int p1)] [(.int (46 : Int32)), (.int p1)])) _
                                  refine XS.icmpNo X0.here hx rfl (hb hby d12_99) rfl (feq hc99).1 ?_
                                  refine XS.iloadN X0.here hx rfl (hb hby d12_102) rfl ?_
                                  refine XS.bipush X0.here hx rfl (hb hby d12_103) ?_
                                  exact kt)
                                by_cases hc105 : p1 = (94 : Int32)
                                · obtain ⟨fs, hr, hrun, hended, hW, hsame⟩ := X0.leave (v := some (.int (1 : Int32))) (fun h => by rw [Bd.returns] at h; cases h)
                                  refine ⟨_, _, pre63 _ ?_, hrun, hended, _, _, rfl, ?_, ⟨_, rfl⟩, hW, hsame.mono (by decide) (by decide)⟩
                                  · show Steps p.tables e below (s₁.setTop (mkF m 105 #[.val (.int p1)] [(.int (94 : Int32)), (.int p1)])) _
                                    refine XS.icmpYes X0.here hx rfl (pc0 := 105) (pc' := 132) rfl (hb hby d12_105) rfl (teq hc105).1 (by decide) (by decide) ?_
                                    refine XS.iconst X0.here hx rfl (hb hby d12_132) ?_
                                    refine XS.goto X0.here hx rfl (pc0 := 133) (pc' := 137) rfl (hb hby d12_133) (by decide) (by decide) ?_
                                    show Steps p.tables e below (s₁.setTop (mkF m 137 #[.val (.int p1)] [(.int (1 : Int32))])) _
                                    exact retN X0 hx (t := .boolean) Bd.returns (by simp) (hb hby d12_137) hr
                                  · show Q12 Z p1 h0 n0 _ s₁.heap _
                                    rw [e0]
                                    exact ⟨by simp only [own_tchar, if_pos hc3, if_neg hc17, if_pos hc23, if_neg hc31, if_pos hc37, if_neg hc45, if_neg hc51, if_neg hc57, if_neg hc63, if_neg hc69, if_neg hc75, if_neg hc81, if_neg hc87, if_neg hc93, if_neg hc99, if_pos hc105], N0, rfl⟩
                                · have pre64 : ∀ t, Steps p.tables e below (s₁.setTop (mkF m 111 #[.val (.int p1)] [(.int (95 : Int32)), (.int p1)])) t → Steps p.tables e below _ t := fun t kt => pre63 t (by
                                    show Steps p.tables e below (s₁.setTop (mkF m 105 #[.val (.int p1)] [(.int (94 : Int32)), (.int p1)])) _
                                    refine XS.icmpNo X0.here hx rfl (hb hby d12_105) rfl (feq hc105).1 ?_
                                    refine XS.iloadN X0.here hx rfl (hb hby d12_108) rfl ?_
                                    refine XS.bipush X0.here hx rfl (hb hby d12_109) ?_
                                    exact kt)
                                  by_cases hc111 : p1 = (95 : Int32)
                                  · obtain ⟨fs, hr, hrun, hended, hW, hsame⟩ := X0.leave (v := some (.int (1 : Int32))) (fun h => by rw [Bd.returns] at h; cases h)
                                    refine ⟨_, _, pre64 _ ?_, hrun, hended, _, _, rfl, ?_, ⟨_, rfl⟩, hW, hsame.mono (by decide) (by decide)⟩
                                    · show Steps p.tables e below (s₁.setTop (mkF m 111 #[.val (.int p1)] [(.int (95 : Int32)), (.int p1)])) _
                                      refine XS.icmpYes X0.here hx rfl (pc0 := 111) (pc' := 132) rfl (hb hby d12_111) rfl (teq hc111).1 (by decide) (by decide) ?_
                                      refine XS.iconst X0.here hx rfl (hb hby d12_132) ?_
                                      refine XS.goto X0.here hx rfl (pc0 := 133) (pc' := 137) rfl (hb hby d12_133) (by decide) (by decide) ?_
                                      show Steps p.tables e below (s₁.setTop (mkF m 137 #[.val (.int p1)] [(.int (1 : Int32))])) _
                                      exact retN X0 hx (t := .boolean) Bd.returns (by simp) (hb hby d12_137) hr
                                    · show Q12 Z p1 h0 n0 _ s₁.heap _
                                      rw [e0]
                                      exact ⟨by simp only [own_tchar, if_pos hc3, if_neg hc17, if_pos hc23, if_neg hc31, if_pos hc37, if_neg hc45, if_neg hc51, if_neg hc57, if_neg hc63, if_neg hc69, if_neg hc75, if_neg hc81, if_neg hc87, if_neg hc93, if_neg hc99, if_neg hc105, if_pos hc111], N0, rfl⟩
                                  · have pre65 : ∀ t, Steps p.tables e below (s₁.setTop (mkF m 117 #[.val (.int p1)] [(.int (96 : Int32)), (.int p1)])) t → Steps p.tables e below _ t := fun t kt => pre64 t (by
                                      show Steps p.tables e below (s₁.setTop (mkF m 111 #[.val (.int p1)] [(.int (95 : Int32)), (.int p1)])) _
                                      refine XS.icmpNo X0.here hx rfl (hb hby d12_111) rfl (feq hc111).1 ?_
                                      refine XS.iloadN X0.here hx rfl (hb hby d12_114) rfl ?_
                                      refine XS.bipush X0.here hx rfl (hb hby d12_115) ?_
                                      exact kt)
                                    by_cases hc117 : p1 = (96 : Int32)
                                    · obtain ⟨fs, hr, hrun, hended, hW, hsame⟩ := X0.leave (v := some (.int (1 : Int32))) (fun h => by rw [Bd.returns] at h; cases h)
                                      refine ⟨_, _, pre65 _ ?_, hrun, hended, _, _, rfl, ?_, ⟨_, rfl⟩, hW, hsame.mono (by decide) (by decide)⟩
                                      · show Steps p.tables e below (s₁.setTop (mkF m 117 #[.val (.int p1)] [(.int (96 : Int32)), (.int p1)])) _
                                        refine XS.icmpYes X0.here hx rfl (pc0 := 117) (pc' := 132) rfl (hb hby d12_117) rfl (teq hc117).1 (by decide) (by decide) ?_
                                        refine XS.iconst X0.here hx rfl (hb hby d12_132) ?_
                                        refine XS.goto X0.here hx rfl (pc0 := 133) (pc' := 137) rfl (hb hby d12_133) (by decide) (by decide) ?_
                                        show Steps p.tables e below (s₁.setTop (mkF m 137 #[.val (.int p1)] [(.int (1 : Int32))])) _
                                        exact retN X0 hx (t := .boolean) Bd.returns (by simp) (hb hby d12_137) hr
                                      · show Q12 Z p1 h0 n0 _ s₁.heap _
                                        rw [e0]
                                        exact ⟨by simp only [own_tchar, if_pos hc3, if_neg hc17, if_pos hc23, if_neg hc31, if_pos hc37, if_neg hc45, if_neg hc51, if_neg hc57, if_neg hc63, if_neg hc69, if_neg hc75, if_neg hc81, if_neg hc87, if_neg hc93, if_neg hc99, if_neg hc105, if_neg hc111, if_pos hc117], N0, rfl⟩
                                    · have pre66 : ∀ t, Steps p.tables e below (s₁.setTop (mkF m 123 #[.val (.int p1)] [(.int (124 : Int32)), (.int p1)])) t → Steps p.tables e below _ t := fun t kt => pre65 t (by
                                        show Steps p.tables e below (s₁.setTop (mkF m 117 #[.val (.int p1)] [(.int (96 : Int32)), (.int p1)])) _
                                        refine XS.icmpNo X0.here hx rfl (hb hby d12_117) rfl (feq hc117).1 ?_
                                        refine XS.iloadN X0.here hx rfl (hb hby d12_120) rfl ?_
                                        refine XS.bipush X0.here hx rfl (hb hby d12_121) ?_
                                        exact kt)
                                      by_cases hc123 : p1 = (124 : Int32)
                                      · obtain ⟨fs, hr, hrun, hended, hW, hsame⟩ := X0.leave (v := some (.int (1 : Int32))) (fun h => by rw [Bd.returns] at h; cases h)
                                        refine ⟨_, _, pre66 _ ?_, hrun, hended, _, _, rfl, ?_, ⟨_, rfl⟩, hW, hsame.mono (by decide) (by decide)⟩
                                        · show Steps p.tables e below (s₁.setTop (mkF m 123 #[.val (.int p1)] [(.int (124 : Int32)), (.int p1)])) _
                                          refine XS.icmpYes X0.here hx rfl (pc0 := 123) (pc' := 132) rfl (hb hby d12_123) rfl (teq hc123).1 (by decide) (by decide) ?_
                                          refine XS.iconst X0.here hx rfl (hb hby d12_132) ?_
                                          refine XS.goto X0.here hx rfl (pc0 := 133) (pc' := 137) rfl (hb hby d12_133) (by decide) (by decide) ?_
                                          show Steps p.tables e below (s₁.setTop (mkF m 137 #[.val (.int p1)] [(.int (1 : Int32))])) _
                                          exact retN X0 hx (t := .boolean) Bd.returns (by simp) (hb hby d12_137) hr
                                        · show Q12 Z p1 h0 n0 _ s₁.heap _
                                          rw [e0]
                                          exact ⟨by simp only [own_tchar, if_pos hc3, if_neg hc17, if_pos hc23, if_neg hc31, if_pos hc37, if_neg hc45, if_neg hc51, if_neg hc57, if_neg hc63, if_neg hc69, if_neg hc75, if_neg hc81, if_neg hc87, if_neg hc93, if_neg hc99, if_neg hc105, if_neg hc111, if_neg hc117, if_pos hc123], N0, rfl⟩
                                      · have pre67 : ∀ t, Steps p.tables e below (s₁.setTop (mkF m 129 #[.val (.int p1)] [(.int (126 : Int32)), (.int p1)])) t → Steps p.tables e below _ t := fun t kt => pre66 t (by
                                          show Steps p.tables e below (s₁.setTop (mkF m 123 #[.val (.int p1)] [(.int (124 : Int32)), (.int p1)])) _
                                          refine XS.icmpNo X0.here hx rfl (hb hby d12_123) rfl (feq hc123).1 ?_
                                          refine XS.iloadN X0.here hx rfl (hb hby d12_126) rfl ?_
                                          refine XS.bipush X0.here hx rfl (hb hby d12_127) ?_
                                          exact kt)
                                        by_cases hc129 : p1 = (126 : Int32)
                                        · obtain ⟨fs, hr, hrun, hended, hW, hsame⟩ := X0.leave (v := some (.int (1 : Int32))) (fun h => by rw [Bd.returns] at h; cases h)
                                          refine ⟨_, _, pre67 _ ?_, hrun, hended, _, _, rfl, ?_, ⟨_, rfl⟩, hW, hsame.mono (by decide) (by decide)⟩
                                          · show Steps p.tables e below (s₁.setTop (mkF m 129 #[.val (.int p1)] [(.int (126 : Int32)), (.int p1)])) _
                                            refine XS.icmpNo X0.here hx rfl (hb hby d12_129) rfl (teq hc129).2 ?_
                                            refine XS.iconst X0.here hx rfl (hb hby d12_132) ?_
                                            refine XS.goto X0.here hx rfl (pc0 := 133) (pc' := 137) rfl (hb hby d12_133) (by decide) (by decide) ?_
                                            show Steps p.tables e below (s₁.setTop (mkF m 137 #[.val (.int p1)] [(.int (1 : Int32))])) _
                                            exact retN X0 hx (t := .boolean) Bd.returns (by simp) (hb hby d12_137) hr
                                          · show Q12 Z p1 h0 n0 _ s₁.heap _
                                            rw [e0]
                                            exact ⟨by simp only [own_tchar, if_pos hc3, if_neg hc17, if_pos hc23, if_neg hc31, if_pos hc37, if_neg hc45, if_neg hc51, if_neg hc57, if_neg hc63, if_neg hc69, if_neg hc75, if_neg hc81, if_neg hc87, if_neg hc93, if_neg hc99, if_neg hc105, if_neg hc111, if_neg hc117, if_neg hc123, if_pos hc129], N0, rfl⟩
                                        · obtain ⟨fs, hr, hrun, hended, hW, hsame⟩ := X0.leave (v := some (.int (0 : Int32))) (fun h => by rw [Bd.returns] at h; cases h)
                                          refine ⟨_, _, pre67 _ ?_, hrun, hended, _, _, rfl, ?_, ⟨_, rfl⟩, hW, hsame.mono (by decide) (by decide)⟩
                                          · show Steps p.tables e below (s₁.setTop (mkF m 129 #[.val (.int p1)] [(.int (126 : Int32)), (.int p1)])) _
                                            refine XS.icmpYes X0.here hx rfl (pc0 := 129) (pc' := 136) rfl (hb hby d12_129) rfl (feq hc129).2 (by decide) (by decide) ?_
                                            refine XS.iconst X0.here hx rfl (hb hby d12_136) ?_
                                            show Steps p.tables e below (s₁.setTop (mkF m 137 #[.val (.int p1)] [(.int (0 : Int32))])) _
                                            exact retN X0 hx (t := .boolean) Bd.returns (by simp) (hb hby d12_137) hr
                                          · show Q12 Z p1 h0 n0 _ s₁.heap _
                                            rw [e0]
                                            exact ⟨by simp only [own_tchar, if_pos hc3, if_neg hc17, if_pos hc23, if_neg hc31, if_pos hc37, if_neg hc45, if_neg hc51, if_neg hc57, if_neg hc63, if_neg hc69, if_neg hc75, if_neg hc81, if_neg hc87, if_neg hc93, if_neg hc99, if_neg hc105, if_neg hc111, if_neg hc117, if_neg hc123, if_neg hc129], N0, rfl⟩
          · obtain ⟨fs, hr, hrun, hended, hW, hsame⟩ := X0.leave (v := some (.int (1 : Int32))) (fun h => by rw [Bd.returns] at h; cases h)
            refine ⟨_, _, pre52 _ ?_, hrun, hended, _, _, rfl, ?_, ⟨_, rfl⟩, hW, hsame.mono (by decide) (by decide)⟩
            · show Steps p.tables e below (s₁.setTop (mkF m 37 #[.val (.int p1)] [(.int (122 : Int32)), (.int p1)])) _
              refine XS.icmpNo X0.here hx rfl (hb hby d12_37) rfl (flt hc37).2.2.1 ?_
              refine XS.iconst X0.here hx rfl (hb hby d12_40) ?_
              show Steps p.tables e below (s₁.setTop (mkF m 41 #[.val (.int p1)] [(.int (1 : Int32))])) _
              exact retN X0 hx (t := .boolean) Bd.returns (by simp) (hb hby d12_41) hr
            · show Q12 Z p1 h0 n0 _ s₁.heap _
              rw [e0]
              exact ⟨by simp only [own_tchar, if_pos hc3, if_neg hc17, if_pos hc23, if_neg hc31, if_neg hc37], N0, rfl⟩
      · obtain ⟨fs, hr, hrun, hended, hW, hsame⟩ := X0.leave (v := some (.int (1 : Int32))) (fun h => by rw [Bd.returns] at h; cases h)
        refine ⟨_, _, pre35 _ ?_, hrun, hended, _, _, rfl, ?_, ⟨_, rfl⟩, hW, hsame.mono (by decide) (by decide)⟩
        · show Steps p.tables e below (s₁.setTop (mkF m 23 #[.val (.int p1)] [(.int (90 : Int32)), (.int p1)])) _
          refine XS.icmpNo X0.here hx rfl (hb hby d12_23) rfl (flt hc23).2.2.1 ?_
          refine XS.iconst X0.here hx rfl (hb hby d12_26) ?_
          show Steps p.tables e below (s₁.setTop (mkF m 27 #[.val (.int p1)] [(.int (1 : Int32))])) _
          exact retN X0 hx (t := .boolean) Bd.returns (by simp) (hb hby d12_27) hr
        · show Q12 Z p1 h0 n0 _ s₁.heap _
          rw [e0]
          exact ⟨by simp only [own_tchar, if_pos hc3, if_neg hc17, if_neg hc23], N0, rfl⟩
  · have pre68 : ∀ t, Steps p.tables e below (s₁.setTop (mkF m 9 #[.val (.int p1)] [(.int (57 : Int32)), (.int p1)])) t → Steps p.tables e below _ t := fun t kt => pre1 t (by
      show Steps p.tables e below (s₁.setTop (mkF m 3 #[.val (.int p1)] [(.int (48 : Int32)), (.int p1)])) _
      refine XS.icmpNo X0.here hx rfl (hb hby d12_3) rfl (flt hc3).1 ?_
      refine XS.iloadN X0.here hx rfl (hb hby d12_6) rfl ?_
      refine XS.bipush X0.here hx rfl (hb hby d12_7) ?_
      exact kt)
    by_cases hc9 : (57 : Int32) < p1
    · have pre69 : ∀ t, Steps p.tables e below (s₁.setTop (mkF m 17 #[.val (.int p1)] [(.int (65 : Int32)), (.int p1)])) t → Steps p.tables e below _ t := fun t kt => pre68 t (by
        show Steps p.tables e below (s₁.setTop (mkF m 9 #[.val (.int p1)] [(.int (57 : Int32)), (.int p1)])) _
        refine XS.icmpYes X0.here hx rfl (pc0 := 9) (pc' := 14) rfl (hb hby d12_9) rfl (tlt hc9).2.2.1 (by decide) (by decide) ?_
        refine XS.iloadN X0.here hx rfl (hb hby d12_14) rfl ?_
        refine XS.bipush X0.here hx rfl (hb hby d12_15) ?_
        exact kt)
      by_cases hc17 : p1 < (65 : Int32)
      · have pre70 : ∀ t, Steps p.tables e below (s₁.setTop (mkF m 31 #[.val (.int p1)] [(.int (97 : Int32)), (.int p1)])) t → Steps p.tables e below _ t := fun t kt => pre69 t (by
          show Steps p.tables e below (s₁.setTop (mkF m 17 #[.val (.int p1)] [(.int (65 : Int32)), (.int p1)])) _
          refine XS.icmpYes X0.here hx rfl (pc0 := 17) (pc' := 28) rfl (hb hby d12_17) rfl (tlt hc17).1 (by decide) (by decide) ?_
          refine XS.iloadN X0.here hx rfl (hb hby d12_28) rfl ?_
          refine XS.bipush X0.here hx rfl (hb hby d12_29) ?_
          exact kt)
        by_cases hc31 : p1 < (97 : Int32)
        · have pre71 : ∀ t, Steps p.tables e below (s₁.setTop (mkF m 45 #[.val (.int p1)] [(.int (33 : Int32)), (.int p1)])) t → Steps p.tables e below _ t := fun t kt => pre70 t (by
            show Steps p.tables e below (s₁.setTop (mkF m 31 #[.val (.int p1)] [(.int (97 : Int32)), (.int p1)])) _
            refine XS.icmpYes X0.here hx rfl (pc0 := 31) (pc' := 42) rfl (hb hby d12_31) rfl (tlt hc31).1 (by decide) (by decide) ?_
            refine XS.iloadN X0.here hx rfl (hb hby d12_42) rfl ?_
            refine XS.bipush X0.here hx rfl (hb hby d12_43) ?_
            exact kt)
          by_cases hc45 : p1 = (33 : Int32)
          · obtain ⟨fs, hr, hrun, hended, hW, hsame⟩ := X0.leave (v := some (.int (1 : Int32))) (fun h => by rw [Bd.returns] at h; cases h)
            refine ⟨_, _, pre71 _ ?_, hrun, hended, _, _, rfl, ?_, ⟨_, rfl⟩, hW, hsame.mono (by decide) (by decide)⟩
            · show Steps p.tables e below (s₁.setTop (mkF m 45 #[.val (.int p1)] [(.int (33 : Int32)), (.int p1)])) _
              refine XS.icmpYes X0.here hx rfl (pc0 := 45) (pc' := 132) rfl (hb hby d12_45) rfl (teq hc45).1 (by decide) (by decide) ?_
              refine XS.iconst X0.here hx rfl (hb hby d12_132) ?_
              refine XS.goto X0.here hx rfl (pc0 := 133) (pc' := 137) rfl (hb hby d12_133) (by decide) (by decide) ?_
              show Steps p.tables e below (s₁.setTop (mkF m 137 #[.val (.int p1)] [(.int (1 : Int32))])) _
              exact retN X0 hx (t := .boolean) Bd.returns (by simp) (hb hby d12_137) hr
            · show Q12 Z p1 h0 n0 _ s₁.heap _
              rw [e0]
              exact ⟨by simp only [own_tchar, if_neg hc3, if_pos hc9, if_pos hc17, if_pos hc31, if_pos hc45], N0, rfl⟩
          · have pre72 : ∀ t, Steps p.tables e below (s₁.setTop (mkF m 51 #[.val (.int p1)] [(.int (35 : Int32)), (.int p1)])) t → Steps p.tables e below _ t := fun t kt => pre71 t (by
              show Steps p.tables e below (s₁.setTop (mkF m 45 #[.val (.int p1)] [(.int (33 : Int32)), (.int p1)])) _
              refine XS.icmpNo X0.here hx rfl (hb hby d12_45) rfl (feq hc45).1 ?_
              refine XS.iloadN X0.here hx rfl (hb hby d12_48) rfl ?_
              refine XS.bipush X0.here hx rfl (hb hby d12_49) ?_
              exact kt)
            by_cases hc51 : p1 = (35 : Int32)
            · obtain ⟨fs, hr, hrun, hended, hW, hsame⟩ := X0.leave (v := some (.int (1 : Int32))) (fun h => by rw [Bd.returns] at h; cases h)
              refine ⟨_, _, pre72 _ ?_, hrun, hended, _, _, rfl, ?_, ⟨_, rfl⟩, hW, hsame.mono (by decide) (by decide)⟩
              · show Steps p.tables e below (s₁.setTop (mkF m 51 #[.val (.int p1)] [(.int (35 : Int32)), (.int p1)])) _
                refine XS.icmpYes X0.here hx rfl (pc0 := 51) (pc' := 132) rfl (hb hby d12_51) rfl (teq hc51).1 (by decide) (by decide) ?_
                refine XS.iconst X0.here hx rfl (hb hby d12_132) ?_
                refine XS.goto X0.here hx rfl (pc0 := 133) (pc' := 137) rfl (hb hby d12_133) (by decide) (by decide) ?_
                show Steps p.tables e below (s₁.setTop (mkF m 137 #[.val (.int p1)] [(.int (1 : Int32))])) _
                exact retN X0 hx (t := .boolean) Bd.returns (by simp) (hb hby d12_137) hr
              · show Q12 Z p1 h0 n0 _ s₁.heap _
                rw [e0]
                exact ⟨by simp only [own_tchar, if_neg hc3, if_pos hc9, if_pos hc17, if_pos hc31, if_neg hc45, if_pos hc51], N0, rfl⟩
            · have pre73 : ∀ t, Steps p.tables e below (s₁.setTop (mkF m 57 #[.val (.int p1)] [(.int (36 : Int32)), (.int p1)])) t → Steps p.tables e below _ t := fun t kt => pre72 t (by
                show Steps p.tables e below (s₁.setTop (mkF m 51 #[.val (.int p1)] [(.int (35 : Int32)), (.int p1)])) _
                refine XS.icmpNo X0.here hx rfl (hb hby d12_51) rfl (feq hc51).1 ?_
                refine XS.iloadN X0.here hx rfl (hb hby d12_54) rfl ?_
                refine XS.bipush X0.here hx rfl (hb hby d12_55) ?_
                exact kt)
              by_cases hc57 : p1 = (36 : Int32)
              · obtain ⟨fs, hr, hrun, hended, hW, hsame⟩ := X0.leave (v := some (.int (1 : Int32))) (fun h => by rw [Bd.returns] at h; cases h)
                refine ⟨_, _, pre73 _ ?_, hrun, hended, _, _, rfl, ?_, ⟨_, rfl⟩, hW, hsame.mono (by decide) (by decide)⟩
                · show Steps p.tables e below (s₁.setTop (mkF m 57 #[.val (.int p1)] [(.int (36 : Int32)), (.int p1)])) _
                  refine XS.icmpYes X0.here hx rfl (pc0 := 57) (pc' := 132) rfl (hb hby d12_57) rfl (teq hc57).1 (by decide) (by decide) ?_
                  refine XS.iconst X0.here hx rfl (hb hby d12_132) ?_
                  refine XS.goto X0.here hx rfl (pc0 := 133) (pc' := 137) rfl (hb hby d12_133) (by decide) (by decide) ?_
                  show Steps p.tables e below (s₁.setTop (mkF m 137 #[.val (.int p1)] [(.int (1 : Int32))])) _
                  exact retN X0 hx (t := .boolean) Bd.returns (by simp) (hb hby d12_137) hr
                · show Q12 Z p1 h0 n0 _ s₁.heap _
                  rw [e0]
                  exact ⟨by simp only [own_tchar, if_neg hc3, if_pos hc9, if_pos hc17, if_pos hc31, if_neg hc45, if_neg hc51, if_pos hc57], N0, rfl⟩
              · have pre74 : ∀ t, Steps p.tables e below (s₁.setTop (mkF m 63 #[.val (.int p1)] [(.int (37 : Int32)), (.int p1)])) t → Steps p.tables e below _ t := fun t kt => pre73 t (by
                  show Steps p.tables e below (s₁.setTop (mkF m 57 #[.val (.int p1)] [(.int (36 : Int32)), (.int p1)])) _
                  refine XS.icmpNo X0.here hx rfl (hb hby d12_57) rfl (feq hc57).1 ?_
                  refine XS.iloadN X0.here hx rfl (hb hby d12_60) rfl ?_
                  refine XS.bipush X0.here hx rfl (hb hby d12_61) ?_
                  exact kt)
                by_cases hc63 : p1 = (37 : Int32)
                · obtain ⟨fs, hr, hrun, hended, hW, hsame⟩ := X0.leave (v := some (.int (1 : Int32))) (fun h => by rw [Bd.returns] at h; cases h)
                  refine ⟨_, _, pre74 _ ?_, hrun, hended, _, _, rfl, ?_, ⟨_, rfl⟩, hW, hsame.mono (by decide) (by decide)⟩
                  · show Steps p.tables e below (s₁.setTop (mkF m 63 #[.val (.int p1)] [(.int (37 : Int32)), (.int p1)])) _
                    refine XS.icmpYes X0.here hx rfl (pc0 := 63) (pc' := 132) rfl (hb hby d12_63) rfl (teq hc63).1 (by decide) (by decide) ?_
                    refine XS.iconst X0.here hx rfl (hb hby d12_132) ?_
                    refine XS.goto X0.here hx rfl (pc0 := 133) (pc' := 137) rfl (hb hby d12_133) (by decide) (by decide) ?_
                    show Steps p.tables e below (s₁.setTop (mkF m 137 #[.val (.int p1)] [(.int (1 : Int32))])) _
                    exact retN X0 hx (t := .boolean) Bd.returns (by simp) (hb hby d12_137) hr
                  · show Q12 Z p1 h0 n0 _ s₁.heap _
                    rw [e0]
                    exact ⟨by simp only [own_tchar, if_neg hc3, if_pos hc9, if_pos hc17, if_pos hc31, if_neg hc45, if_neg hc51, if_neg hc57, if_pos hc63], N0, rfl⟩
                · have pre75 : ∀ t, Steps p.tables e below (s₁.setTop (mkF m 69 #[.val (.int p1)] [(.int (38 : Int32)), (.int p1)])) t → Steps p.tables e below _ t := fun t kt => pre74 t (by
                    show Steps p.tables e below (s₁.setTop (mkF m 63 #[.val (.int p1)] [(.int (37 : Int32)), (.int p1)])) _
                    refine XS.icmpNo X0.here hx rfl (hb hby d12_63) rfl (feq hc63).1 ?_
                    refine XS.iloadN X0.here hx rfl (hb hby d12_66) rfl ?_
                    refine XS.bipush X0.here hx rfl (hb hby d12_67) ?_
                    exact kt)
                  by_cases hc69 : p1 = (38 : Int32)
                  · obtain ⟨fs, hr, hrun, hended, hW, hsame⟩ := X0.leave (v := some (.int (1 : Int32))) (fun h => by rw [Bd.returns] at h; cases h)
                    refine ⟨_, _, pre75 _ ?_, hrun, hended, _, _, rfl, ?_, ⟨_, rfl⟩, hW, hsame.mono (by decide) (by decide)⟩
                    · show Steps p.tables e below (s₁.setTop (mkF m 69 #[.val (.int p1)] [(.int (38 : Int32)), (.int p1)])) _
                      refine XS.icmpYes X0.here hx rfl (pc0 := 69) (pc' := 132) rfl (hb hby d12_69) rfl (teq hc69).1 (by decide) (by decide) ?_
                      refine XS.iconst X0.here hx rfl (hb hby d12_132) ?_
                      refine XS.goto X0.here hx rfl (pc0 := 133) (pc' := 137) rfl (hb hby d12_133) (by decide) (by decide) ?_
                      show Steps p.tables e below (s₁.setTop (mkF m 137 #[.val (.int p1)] [(.int (1 : Int32))])) _
                      exact retN X0 hx (t := .boolean) Bd.returns (by simp) (hb hby d12_137) hr
                    · show Q12 Z p1 h0 n0 _ s₁.heap _
                      rw [e0]
                      exact ⟨by simp only [own_tchar, if_neg hc3, if_pos hc9, if_pos hc17, if_pos hc31, if_neg hc45, if_neg hc51, if_neg hc57, if_neg hc63, if_pos hc69], N0, rfl⟩
                  · have pre76 : ∀ t, Steps p.tables e below (s₁.setTop (mkF m 75 #[.val (.int p1)] [(.int (39 : Int32)), (.int p1)])) t → Steps p.tables e below _ t := fun t kt => pre75 t (by
                      show Steps p.tables e below (s₁.setTop (mkF m 69 #[.val (.int p1)] [(.int (38 : Int32)), (.int p1)])) _
                      refine XS.icmpNo X0.here hx rfl (hb hby d12_69) rfl (feq hc69).1 ?_
                      refine XS.iloadN X0.here hx rfl (hb hby d12_72) rfl ?_
                      refine XS.bipush X0.here hx rfl (hb hby d12_73) ?_
                      exact kt)
                    by_cases hc75 : p1 = (39 : Int32)
                    · obtain ⟨fs, hr, hrun, hended, hW, hsame⟩ := X0.leave (v := some (.int (1 : Int32))) (fun h => by rw [Bd.returns] at h; cases h)
                      refine ⟨_, _, pre76 _ ?_, hrun, hended, _, _, rfl, ?_, ⟨_, rfl⟩, hW, hsame.mono (by decide) (by decide)⟩
                      · show Steps p.tables e below (s₁.setTop (mkF m 75 #[.val (.int p1)] [(.int (39 : Int32)), (.int p1)])) _
                        refine XS.icmpYes X0.here hx rfl (pc0 := 75) (pc' := 132) rfl (hb hby d12_75) rfl (teq hc75).1 (by decide) (by decide) ?_
                        refine XS.iconst X0.here hx rfl (hb hby d12_132) ?_
                        refine XS.goto X0.here hx rfl (pc0 := 133) (pc' := 137) rfl (hb hby d12_133) (by decide) (by decide) ?_
                        show Steps p.tables e below (s₁.setTop (mkF m 137 #[.val (.int p1)] [(.int (1 : Int32))])) _
                        exact retN X0 hx (t := .boolean) Bd.returns (by simp) (hb hby d12_137) hr
                      · show Q12 Z p1 h0 n0 _ s₁.heap _
                        rw [e0]
                        exact ⟨by simp only [own_tchar, if_neg hc3, if_pos hc9, if_pos hc17, if_pos hc31, if_neg hc45, if_neg hc51, if_neg hc57, if_neg hc63, if_neg hc69, if_pos hc75], N0, rfl⟩
                    · have pre77 : ∀ t, Steps p.tables e below (s₁.setTop (mkF m 81 #[.val (.int p1)] [(.int (42 : Int32)), (.int p1)])) t → Steps p.tables e below _ t := fun t kt => pre76 t (by
                        show Steps p.tables e below (s₁.setTop (mkF m 75 #[.val (.int p1)] [(.int (39 : Int32)), (.int p1)])) _
                        refine XS.icmpNo X0.here hx rfl (hb hby d12_75) rfl (feq hc75).1 ?_
                        refine XS.iloadN X0.here hx rfl (hb hby d12_78) rfl ?_
                        refine XS.bipush X0.here hx rfl (hb hby d12_79) ?_
                        exact kt)
                      by_cases hc81 : p1 = (42 : Int32)
                      · obtain ⟨fs, hr, hrun, hended, hW, hsame⟩ := X0.leave (v := some (.int (1 : Int32))) (fun h => by rw [Bd.returns] at h; cases h)
                        refine ⟨_, _, pre77 _ ?_, hrun, hended, _, _, rfl, ?_, ⟨_, rfl⟩, hW, hsame.mono (by decide) (by decide)⟩
                        · show Steps p.tables e below (s₁.setTop (mkF m 81 #[.val (.int p1)] [(.int (42 : Int32)), (.int p1)])) _
                          refine XS.icmpYes X0.here hx rfl (pc0 := 81) (pc' := 132) rfl (hb hby d12_81) rfl (teq hc81).1 (by decide) (by decide) ?_
                          refine XS.iconst X0.here hx rfl (hb hby d12_132) ?_
                          refine XS.goto X0.here hx rfl (pc0 := 133) (pc' := 137) rfl (hb hby d12_133) (by decide) (by decide) ?_
                          show Steps p.tables e below (s₁.setTop (mkF m 137 #[.val (.int p1)] [(.int (1 : Int32))])) _
                          exact retN X0 hx (t := .boolean) Bd.returns (by simp) (hb hby d12_137) hr
                        · show Q12 Z p1 h0 n0 _ s₁.heap _
                          rw [e0]
                          exact ⟨by simp only [own_tchar, if_neg hc3, if_pos hc9, if_pos hc17, if_pos hc31, if_neg hc45, if_neg hc51, if_neg hc57, if_neg hc63, if_neg hc69, if_neg hc75, if_pos hc81], N0, rfl⟩
                      · have pre78 : ∀ t, Steps p.tables e below (s₁.setTop (mkF m 87 #[.val (.int p1)] [(.int (43 : Int32)), (.int p1)])) t → Steps p.tables e below _ t := fun t kt => pre77 t (by
                          show Steps p.tables e below (s₁.setTop (mkF m 81 #[.val (.int p1)] [(.int (42 : Int32)), (.int p1)])) _
                          refine XS.icmpNo X0.here hx rfl (hb hby d12_81) rfl (feq hc81).1 ?_
                          refine XS.iloadN X0.here hx rfl (hb hby d12_84) rfl ?_
                          refine XS.bipush X0.here hx rfl (hb hby d12_85) ?_
                          exact kt)
                        by_cases hc87 : p1 = (43 : Int32)
                        · obtain ⟨fs, hr, hrun, hended, hW, hsame⟩ := X0.leave (v := some (.int (1 : Int32))) (fun h => by rw [Bd.returns] at h; cases h)
                          refine ⟨_, _, pre78 _ ?_, hrun, hended, _, _, rfl, ?_, ⟨_, rfl⟩, hW, hsame.mono (by decide) (by decide)⟩
                          · show Steps p.tables e below (s₁.setTop (mkF m 87 #[.val (.int p1)] [(.int (43 : Int32)), (.int p1)])) _
                            refine XS.icmpYes X0.here hx rfl (pc0 := 87) (pc' := 132) rfl (hb hby d12_87) rfl (teq hc87).1 (by decide) (by decide) ?_
                            refine XS.iconst X0.here hx rfl (hb hby d12_132) ?_
                            refine XS.goto X0.here hx rfl (pc0 := 133) (pc' := 137) rfl (hb hby d12_133) (by decide) (by decide) ?_
                            show Steps p.tables e below (s₁.setTop (mkF m 137 #[.val (.int p1)] [(.int (1 : Int32))])) _
                            exact retN X0 hx (t := .boolean) Bd.returns (by simp) (hb hby d12_137) hr
                          · show Q12 Z p1 h0 n0 _ s₁.heap _
                            rw [e0]
                            exact ⟨by simp only [own_tchar, if_neg hc3, if_pos hc9, if_pos hc17, if_pos hc31, if_neg hc45, if_neg hc51, if_neg hc57, if_neg hc63, if_neg hc69, if_neg hc75, if_neg hc81, if_pos hc87], N0, rfl⟩
                        · have pre79 : ∀ t, Steps p.tables e below (s₁.setTop (mkF m 93 #[.val (.int p1)] [(.int (45 : Int32)), (.int p1)])) t → Steps p.tables e below _ t := fun t kt => pre78 t (by
                            show Steps p.tables e below (s₁.setTop (mkF m 87 #[.val (.int p1)] [(.int (43 : Int32)), (.int p1)])) _
                            refine XS.icmpNo X0.here hx rfl (hb hby d12_87) rfl (feq hc87).1 ?_
                            refine XS.iloadN X0.here hx rfl (hb hby d12_90) rfl ?_
                            refine XS.bipush X0.here hx rfl (hb hby d12_91) ?_
                            exact kt)
                          by_cases hc93 : p1 = (45 : Int32)
                          · obtain ⟨fs, hr, hrun, hended, hW, hsame⟩ := X0.leave (v := some (.int (1 : Int32))) (fun h => by rw [Bd.returns] at h; cases h)
                            refine ⟨_, _, pre79 _ ?_, hrun, hended, _, _, rfl, ?_, ⟨_, rfl⟩, hW, hsame.mono (by decide) (by decide)⟩
                            · show Steps p.tables e below (s₁.setTop (mkF m 93 #[.val (.int p1)] [(.int (45 : Int32)), (.int p1)])) _
                              refine XS.icmpYes X0.here hx rfl (pc0 := 93) (pc' := 132) rfl (hb hby d12_93) rfl (teq hc93).1 (by decide) (by decide) ?_
                              refine XS.iconst X0.here hx rfl (hb hby d12_132) ?_
                              refine XS.goto X0.here hx rfl (pc0 := 133) (pc' := 137) rfl (hb hby d12_133) (by decide) (by decide) ?_
                              show Steps p.tables e below (s₁.setTop (mkF m 137 #[.val (.int p1)] [(.int (1 : Int32))])) _
                              exact retN X0 hx (t := .boolean) Bd.returns (by simp) (hb hby d12_137) hr
                            · show Q12 Z p1 h0 n0 _ s₁.heap _
                              rw [e0]
                              exact ⟨by simp only [own_tchar, if_neg hc3, if_pos hc9, if_pos hc17, if_pos hc31, if_neg hc45, if_neg hc51, if_neg hc57, if_neg hc63, if_neg hc69, if_neg hc75, if_neg hc81, if_neg hc87, if_pos hc93], N0, rfl⟩
                          · have pre80 : ∀ t, Steps p.tables e below (s₁.setTop (mkF m 99 #[.val (.int p1)] [(.int (46 : Int32)), (.int p1)])) t → Steps p.tables e below _ t := fun t kt => pre79 t (by
                              show Steps p.tables e below (s₁.setTop (mkF m 93 #[.val (.int p1)] [(.int (45 : Int32)), (.int p1)])) _
                              refine XS.icmpNo X0.here hx rfl (hb hby d12_93) rfl (feq hc93).1 ?_
                              refine XS.iloadN X0.here hx rfl (hb hby d12_96) rfl ?_
                              refine XS.bipush X0.here hx rfl (hb hby d12_97) ?_
                              exact kt)
                            by_cases hc99 : p1 = (46 : Int32)
                            · obtain ⟨fs, hr, hrun, hended, hW, hsame⟩ := X0.leave (v := some (.int (1 : Int32))) (fun h => by rw [Bd.returns] at h; cases h)
                              refine ⟨_, _, pre80 _ ?_, hrun, hended, _, _, rfl, ?_, ⟨_, rfl⟩, hW, hsame.mono (by decide) (by decide)⟩
                              · show Steps p.tables e below (s₁.setTop (mkF m 99 #[.val (.int p1)] [(.int (46 : Int32)), (.int p1)])) _
                                refine XS.icmpYes X0.here hx rfl (pc0 := 99) (pc' := 132) rfl (hb hby d12_99) rfl (teq hc99).1 (by decide) (by decide) ?_
                                refine XS.iconst X0.here hx rfl (hb hby d12_132) ?_
                                refine XS.goto X0.here hx rfl (pc0 := 133) (pc' := 137) rfl (hb hby d12_133) (by decide) (by decide) ?_
                                show Steps p.tables e below (s₁.setTop (mkF m 137 #[.val (.int p1)] [(.int (1 : Int32))])) _
                                exact retN X0 hx (t := .boolean) Bd.returns (by simp) (hb hby d12_137) hr
                              · show Q12 Z p1 h0 n0 _ s₁.heap _
                                rw [e0]
                                exact ⟨by simp only [own_tchar, if_neg hc3, if_pos hc9, if_pos hc17, if_pos hc31, if_neg hc45, if_neg hc51, if_neg hc57, if_neg hc63, if_neg hc69, if_neg hc75, if_neg hc81, if_neg hc87, if_neg hc93, if_pos hc99], N0, rfl⟩
                            · have pre81 : ∀ t, Steps p.tables e below (s₁.setTop (mkF m 105 #[.val (.int p1)] [(.int (94 : Int32)), (.int p1)])) t → Steps p.tables e below _ t := fun t kt => pre80 t (by
                                show Steps p.tables e below (s₁.setTop (mkF m 99 #[.val (.int p1)] [(.int (46 : Int32)), (.int p1)])) _
                                refine XS.icmpNo X0.here hx rfl (hb hby d12_99) rfl (feq hc99).1 ?_
                                refine XS.iloadN X0.here hx rfl (hb hby d12_102) rfl ?_
                                refine XS.bipush X0.here hx rfl (hb hby d12_103) ?_
                                exact kt)
                              by_cases hc105 : p1 = (94 : Int32)
                              · obtain ⟨fs, hr, hrun, hended, hW, hsame⟩ := X0.leave (v := some (.int (1 : Int32))) (fun h => by rw [Bd.returns] at h; cases h)
                                refine ⟨_, _, pre81 _ ?_, hrun, hended, _, _, rfl, ?_, ⟨_, rfl⟩, hW, hsame.mono (by decide) (by decide)⟩
                                · show Steps p.tables e below (s₁.setTop (mkF m 105 #[.val (.int p1)] [(.int (94 : Int32)), (.int p1)])) _
                                  refine XS.icmpYes X0.here hx rfl (pc0 := 105) (pc' := 132) rfl (hb hby d12_105) rfl (teq hc105).1 (by decide) (by decide) ?_
                                  refine XS.iconst X0.here hx rfl (hb hby d12_132) ?_
                                  refine XS.goto X0.here hx rfl (pc0 := 133) (pc' := 137) rfl (hb hby d12_133) (by decide) (by decide) ?_
                                  show Steps p.tables e below (s₁.setTop (mkF m 137 #[.val (.int p1)] [(.int (1 : Int32))])) _
                                  exact retN X0 hx (t := .boolean) Bd.returns (by simp) (hb hby d12_137) hr
                                · show Q12 Z p1 h0 n0 _ s₁.heap _
                                  rw [e0]
                                  exact ⟨by simp only [own_tchar, if_neg hc3, if_pos hc9, if_pos hc17, if_pos hc31, if_neg hc45, if_neg hc51, if_neg hc57, if_neg hc63, if_neg hc69, if_neg hc75, if_neg hc81, if_neg hc87, if_neg hc93, if_neg hc99, if_pos hc105], N0, rfl⟩
                              · have pre82 : ∀ t, Steps p.tables e below (s₁.setTop (mkF m 111 #[.val (.int p1)] [(.int (95 : Int32)), (.int p1)])) t → Steps p.tables e below _ t := fun t kt => pre81 t (by
                                  show Steps p.tables e below (s₁.setTop (mkF m 105 #[.val (.int p1)] [(.int (94 : Int32)), (.int p1)])) _
                                  refine XS.icmpNo X0.here hx rfl (hb hby d12_105) rfl (feq hc105).1 ?_
                                  refine XS.iloadN X0.here hx rfl (hb hby d12_108) rfl ?_
                                  refine XS.bipush X0.here hx rfl (hb hby d12_109) ?_
                                  exact kt)
                                by_cases hc111 : p1 = (95 : Int32)
                                · obtain ⟨fs, hr, hrun, hended, hW, hsame⟩ := X0.leave (v := some (.int (1 : Int32))) (fun h => by rw [Bd.returns] at h; cases h)
                                  refine ⟨_, _, pre82 _ ?_, hrun, hended, _, _, rfl, ?_, ⟨_, rfl⟩, hW, hsame.mono (by decide) (by decide)⟩
                                  · show Steps p.tables e below (s₁.setTop (mkF m 111 #[.val (.int p1)] [(.int (95 : Int32)), (.int p1)])) _
                                    refine XS.icmpYes X0.here hx rfl (pc0 := 111) (pc' := 132) rfl (hb hby d12_111) rfl (teq hc111).1 (by decide) (by decide) ?_
                                    refine XS.iconst X0.here hx rfl (hb hby d12_132) ?_
                                    refine XS.goto X0.here hx rfl (pc0 := 133) (pc' := 137) rfl (hb hby d12_133) (by decide) (by decide) ?_
                                    show Steps p.tables e below (s₁.setTop (mkF m 137 #[.val (.int p1)] [(.int (1 : Int32))])) _
                                    exact retN X0 hx (t := .boolean) Bd.returns (by simp) (hb hby d12_137) hr
                                  · show Q12 Z p1 h0 n0 _ s₁.heap _
                                    rw [e0]
                                    exact ⟨by simp only [own_tchar, if_neg hc3, if_pos hc9, if_pos hc17, if_pos hc31, if_neg hc45, if_neg hc51, if_neg hc57, if_neg hc63, if_neg hc69, if_neg hc75, if_neg hc81, if_neg hc87, if_neg hc93, if_neg hc99, if_neg hc105, if_pos hc111], N0, rfl⟩
                                · have pre83 : ∀ t, Steps p.tables e below (s₁.setTop (mkF m 117 #[.val (.int p1)] [(.int (96 : Int32)), (.int p1)])) t → Steps p.tables e below _ t := fun t kt => pre82 t (by
                                    show Steps p.tables e below (s₁.setTop (mkF m 111 #[.val (.int p1)] [(.int (95 : Int32)), (.int p1)])) _
                                    refine XS.icmpNo X0.here hx rfl (hb hby d12_111) rfl (feq hc111).1 ?_
                                    refine XS.iloadN X0.here hx rfl (hb hby d12_114) rfl ?_
                                    refine XS.bipush X0.here hx rfl (hb hby d12_115) ?_
                                    exact kt)
                                  by_cases hc117 : p1 = (96 : Int32)
                                  · obtain ⟨fs, hr, hrun, hended, hW, hsame⟩ := X0.leave (v := some (.int (1 : Int32))) (fun h => by rw [Bd.returns] at h; cases h)
                                    refine ⟨_, _, pre83 _ ?_, hrun, hended, _, _, rfl, ?_, ⟨_, rfl⟩, hW, hsame.mono (by decide) (by decide)⟩
                                    · show Steps p.tables e below (s₁.setTop (mkF m 117 #[.val (.int p1)] [(.int (96 : Int32)), (.int p1)])) _
                                      refine XS.icmpYes X0.here hx rfl (pc0 := 117) (pc' := 132) rfl (hb hby d12_117) rfl (teq hc117).1 (by decide) (by decide) ?_
                                      refine XS.iconst X0.here hx rfl (hb hby d12_132) ?_
                                      refine XS.goto X0.here hx rfl (pc0 := 133) (pc' := 137) rfl (hb hby d12_133) (by decide) (by decide) ?_
                                      show Steps p.tables e below (s₁.setTop (mkF m 137 #[.val (.int p1)] [(.int (1 : Int32))])) _
                                      exact retN X0 hx (t := .boolean) Bd.returns (by simp) (hb hby d12_137) hr
                                    · show Q12 Z p1 h0 n0 _ s₁.heap _
                                      rw [e0]
                                      exact ⟨by simp only [own_tchar, if_neg hc3, if_pos hc9, if_pos hc17, if_pos hc31, if_neg hc45, if_neg hc51, if_neg hc57, if_neg hc63, if_neg hc69, if_neg hc75, if_neg hc81, if_neg hc87, if_neg hc93, if_neg hc99, if_neg hc105, if_neg hc111, if_pos hc117], N0, rfl⟩
                                  · have pre84 : ∀ t, Steps p.tables e below (s₁.setTop (mkF m 123 #[.val (.int p1)] [(.int (124 : Int32)), (.int p1)])) t → Steps p.tables e below _ t := fun t kt => pre83 t (by
                                      show Steps p.tables e below (s₁.setTop (mkF m 117 #[.val (.int p1)] [(.int (96 : Int32)), (.int p1)])) _
                                      refine XS.icmpNo X0.here hx rfl (hb hby d12_117) rfl (feq hc117).1 ?_
                                      refine XS.iloadN X0.here hx rfl (hb hby d12_120) rfl ?_
                                      refine XS.bipush X0.here hx rfl (hb hby d12_121) ?_
                                      exact kt)
                                    by_cases hc123 : p1 = (124 : Int32)
                                    · obtain ⟨fs, hr, hrun, hended, hW, hsame⟩ := X0.leave (v := some (.int (1 : Int32))) (fun h => by rw [Bd.returns] at h; cases h)
                                      refine ⟨_, _, pre84 _ ?_, hrun, hended, _, _, rfl, ?_, ⟨_, rfl⟩, hW, hsame.mono (by decide) (by decide)⟩
                                      · show Steps p.tables e below (s₁.setTop (mkF m 123 #[.val (.int p1)] [(.int (124 : Int32)), (.int p1)])) _
                                        refine XS.icmpYes X0.here hx rfl (pc0 := 123) (pc' := 132) rfl (hb hby d12_123) rfl (teq hc123).1 (by decide) (by decide) ?_
                                        refine XS.iconst X0.here hx rfl (hb hby d12_132) ?_
                                        refine XS.goto X0.here hx rfl (pc0 := 133) (pc' := 137) rfl (hb hby d12_133) (by decide) (by decide) ?_
                                        show Steps p.tables e below (s₁.setTop (mkF m 137 #[.val (.int p1)] [(.int (1 : Int32))])) _
                                        exact retN X0 hx (t := .boolean) Bd.returns (by simp) (hb hby d12_137) hr
                                      · show Q12 Z p1 h0 n0 _ s₁.heap _
                                        rw [e0]
                                        exact ⟨by simp only [own_tchar, if_neg hc3, if_pos hc9, if_pos hc17, if_pos hc31, if_neg hc45, if_neg hc51, if_neg hc57, if_neg hc63, if_neg hc69, if_neg hc75, if_neg hc81, if_neg hc87, if_neg hc93, if_neg hc99, if_neg hc105, if_neg hc111, if_neg hc117, if_pos hc123], N0, rfl⟩
                                    · have pre85 : ∀ t, Steps p.tables e below (s₁.setTop (mkF m 129 #[.val (.int p1)] [(.int (126 : Int32)), (.int p1)])) t → Steps p.tables e below _ t := fun t kt => pre84 t (by
                                        show Steps p.tables e below (s₁.setTop (mkF m 123 #[.val (.int p1)] [(.int (124 : Int32)), (.int p1)])) _
                                        refine XS.icmpNo X0.here hx rfl (hb hby d12_123) rfl (feq hc123).1 ?_
                                        refine XS.iloadN X0.here hx rfl (hb hby d12_126) rfl ?_
                                        refine XS.bipush X0.here hx rfl (hb hby d12_127) ?_
                                        exact kt)
                                      by_cases hc129 : p1 = (126 : Int32)
                                      · obtain ⟨fs, hr, hrun, hended, hW, hsame⟩ := X0.leave (v := some (.int (1 : Int32))) (fun h => by rw [Bd.returns] at h; cases h)
                                        refine ⟨_, _, pre85 _ ?_, hrun, hended, _, _, rfl, ?_, ⟨_, rfl⟩, hW, hsame.mono (by decide) (by decide)⟩
                                        · show Steps p.tables e below (s₁.setTop (mkF m 129 #[.val (.int p1)] [(.int (126 : Int32)), (.int p1)])) _
                                          refine XS.icmpNo X0.here hx rfl (hb hby d12_129) rfl (teq hc129).2 ?_
                                          refine XS.iconst X0.here hx rfl (hb hby d12_132) ?_
                                          refine XS.goto X0.here hx rfl (pc0 := 133) (pc' := 137) rfl (hb hby d12_133) (by decide) (by decide) ?_
                                          show Steps p.tables e below (s₁.setTop (mkF m 137 #[.val (.int p1)] [(.int (1 : Int32))])) _
                                          exact retN X0 hx (t := .boolean) Bd.returns (by simp) (hb hby d12_137) hr
                                        · show Q12 Z p1 h0 n0 _ s₁.heap _
                                          rw [e0]
                                          exact ⟨by simp only [own_tchar, if_neg hc3, if_pos hc9, if_pos hc17, if_pos hc31, if_neg hc45, if_neg hc51, if_neg hc57, if_neg hc63, if_neg hc69, if_neg hc75, if_neg hc81, if_neg hc87, if_neg hc93, if_neg hc99, if_neg hc105, if_neg hc111, if_neg hc117, if_neg hc123, if_pos hc129], N0, rfl⟩
                                      · obtain ⟨fs, hr, hrun, hended, hW, hsame⟩ := X0.leave (v := some (.int (0 : Int32))) (fun h => by rw [Bd.returns] at h; cases h)
                                        refine ⟨_, _, pre85 _ ?_, hrun, hended, _, _, rfl, ?_, ⟨_, rfl⟩, hW, hsame.mono (by decide) (by decide)⟩
                                        · show Steps p.tables e below (s₁.setTop (mkF m 129 #[.val (.int p1)] [(.int (126 : Int32)), (.int p1)])) _
                                          refine XS.icmpYes X0.here hx rfl (pc0 := 129) (pc' := 136) rfl (hb hby d12_129) rfl (feq hc129).2 (by decide) (by decide) ?_
                                          refine XS.iconst X0.here hx rfl (hb hby d12_136) ?_
                                          show Steps p.tables e below (s₁.setTop (mkF m 137 #[.val (.int p1)] [(.int (0 : Int32))])) _
                                          exact retN X0 hx (t := .boolean) Bd.returns (by simp) (hb hby d12_137) hr
                                        · show Q12 Z p1 h0 n0 _ s₁.heap _
                                          rw [e0]
                                          exact ⟨by simp only [own_tchar, if_neg hc3, if_pos hc9, if_pos hc17, if_pos hc31, if_neg hc45, if_neg hc51, if_neg hc57, if_neg hc63, if_neg hc69, if_neg hc75, if_neg hc81, if_neg hc87, if_neg hc93, if_neg hc99, if_neg hc105, if_neg hc111, if_neg hc117, if_neg hc123, if_neg hc129], N0, rfl⟩
        · have pre86 : ∀ t, Steps p.tables e below (s₁.setTop (mkF m 37 #[.val (.int p1)] [(.int (122 : Int32)), (.int p1)])) t → Steps p.tables e below _ t := fun t kt => pre70 t (by
            show Steps p.tables e below (s₁.setTop (mkF m 31 #[.val (.int p1)] [(.int (97 : Int32)), (.int p1)])) _
            refine XS.icmpNo X0.here hx rfl (hb hby d12_31) rfl (flt hc31).1 ?_
            refine XS.iloadN X0.here hx rfl (hb hby d12_34) rfl ?_
            refine XS.bipush X0.here hx rfl (hb hby d12_35) ?_
            exact kt)
          by_cases hc37 : (122 : Int32) < p1
          · have pre87 : ∀ t, Steps p.tables e below (s₁.setTop (mkF m 45 #[.val (.int p1)] [(.int (33 : Int32)), (.int p1)])) t → Steps p.tables e below _ t := fun t kt => pre86 t (by
              show Steps p.tables e below (s₁.setTop (mkF m 37 #[.val (.int p1)] [(.int (122 : Int32)), (.int p1)])) _
              refine XS.icmpYes X0.here hx rfl (pc0 := 37) (pc' := 42) rfl (hb hby d12_37) rfl (tlt hc37).2.2.1 (by decide) (by decide) ?_
              refine XS.iloadN X0.here hx rfl (hb hby d12_42) rfl ?_
              refine XS.bipush X0.here hx rfl (hb hby d12_43) ?_
              exact kt)
            by_cases hc45 : p1 = (33 : Int32)
            · obtain ⟨fs, hr, hrun, hended, hW, hsame⟩ := X0.leave (v := some (.int (1 : Int32))) (fun h => by rw [Bd.returns] at h; cases h)
              refine ⟨_, _, pre87 _ ?_, hrun, hended, _, _, rfl, ?_, ⟨_, rfl⟩, hW, hsame.mono (by decide) (by decide)⟩
              · show Steps p.tables e below (s₁.setTop (mkF m 45 #[.val (.int p1)] [(.int (33 : Int32)), (.int p1)])) _
                refine XS.icmpYes X0.here hx rfl (pc0 := 45) (pc' := 132) rfl (hb hby d12_45) rfl (teq hc45).1 (by decide) (by decide) ?_
                refine XS.iconst X0.here hx rfl (hb hby d12_132) ?_
                refine XS.goto X0.here hx rfl (pc0 := 133) (pc' := 137) rfl (hb hby d12_133) (by decide) (by decide) ?_
                show Steps p.tables e below (s₁.setTop (mkF m 137 #[.val (.int p1)] [(.int (1 : Int32))])) _
                exact retN X0 hx (t := .boolean) Bd.returns (by simp) (hb hby d12_137) hr
              · show Q12 Z p1 h0 n0 _ s₁.heap _
                rw [e0]
                exact ⟨by simp only [own_tchar, if_neg hc3, if_pos hc9, if_pos hc17, if_neg hc31, if_pos hc37, if_pos hc45], N0, rfl⟩
            · have pre88 : ∀ t, Steps p.tables e below (s₁.setTop (mkF m 51 #[.val (.int p1)] [(.int (35 : Int32)), (.int p1)])) t → Steps p.tables e below _ t := fun t kt => pre87 t (by
                show Steps p.tables e below (s₁.setTop (mkF m 45 #[.val (.int p1)] [(.int (33 : Int32)), (.int p1)])) _
                refine XS.icmpNo X0.here hx rfl (hb hby d12_45) rfl (feq hc45).1 ?_
                refine XS.iloadN X0.here hx rfl (hb hby d12_48) rfl ?_
                refine XS.bipush X0.here hx rfl (hb hby d12_49) ?_
                exact kt)
              by_cases hc51 : p1 = (35 : Int32)
              · obtain ⟨fs, hr, hrun, hended, hW, hsame⟩ := X0.leave (v := some (.int (1 : Int32))) (fun h => by rw [Bd.returns] at h; cases h)
                refine ⟨_, _, pre88 _ ?_, hrun, hended, _, _, rfl, ?_, ⟨_, rfl⟩, hW, hsame.mono (by decide) (by decide)⟩
                · show Steps p.tables e below (s₁.setTop (mkF m 51 #[.val (.int p1)] [(.int (35 : Int32)), (.int p1)])) _
                  refine XS.icmpYes X0.here hx rfl (pc0 := 51) (pc' := 132) rfl (hb hby d12_51) rfl (teq hc51).1 (by decide) (by decide) ?_
                  refine XS.iconst X0.here hx rfl (hb hby d12_132) ?_
                  refine XS.goto X0.here hx rfl (pc0 := 133) (pc' := 137) rfl (hb hby d12_133) (by decide) (by decide) ?_
                  show Steps p.tables e below (s₁.setTop (mkF m 137 #[.val (.int p1)] [(.int (1 : Int32))])) _
                  exact retN X0 hx (t := .boolean) Bd.returns (by simp) (hb hby d12_137) hr
                · show Q12 Z p1 h0 n0 _ s₁.heap _
                  rw [e0]
                  exact ⟨by simp only [own_tchar, if_neg hc3, if_pos hc9, if_pos hc17, if_neg hc31, if_pos hc37, if_neg hc45, if_pos hc51], N0, rfl⟩
              · have pre89 : ∀ t, Steps p.tables e below (s₁.setTop (mkF m 57 #[.val (.int p1)] [(.int (36 : Int32)), (.int p1)])) t → Steps p.tables e below _ t := fun t kt => pre88 t (by
                  show Steps p.tables e below (s₁.setTop (mkF m 51 #[.val (.int p1)] [(.int (35 : Int32)), (.int p1)])) _
                  refine XS.icmpNo X0.here hx rfl (hb hby d12_51) rfl (feq hc51).1 ?_
                  refine XS.iloadN X0.here hx rfl (hb hby d12_54) rfl ?_
                  refine XS.bipush X0.here hx rfl (hb hby d12_55) ?_
                  exact kt)
                by_cases hc57 : p1 = (36 : Int32)
                · obtain ⟨fs, hr, hrun, hended, hW, hsame⟩ := X0.leave (v := some (.int (1 : Int32))) (fun h => by rw [Bd.returns] at h; cases h)
                  refine ⟨_, _, pre89 _ ?_, hrun, hended, _, _, rfl, ?_, ⟨_, rfl⟩, hW, hsame.mono (by decide) (by decide)⟩
                  · show Steps p.tables e below (s₁.setTop (mkF m 57 #[.val (.int p1)] [(.int (36 : Int32)), (.int p1)])) _
                    refine XS.icmpYes X0.here hx rfl (pc0 := 57) (pc' := 132) rfl (hb hby d12_57) rfl (teq hc57).1 (by decide) (by decide) ?_
                    refine XS.iconst X0.here hx rfl (hb hby d12_132) ?_
                    refine XS.goto X0.here hx rfl (pc0 := 133) (pc' := 137) rfl (hb hby d12_133) (by decide) (by decide) ?_
                    show Steps p.tables e below (s₁.setTop (mkF m 137 #[.val (.int p1)] [(.int (1 : Int32))])) _
                    exact retN X0 hx (t := .boolean) Bd.returns (by simp) (hb hby d12_137) hr
                  · show Q12 Z p1 h0 n0 _ s₁.heap _
                    rw [e0]
                    exact ⟨by simp only [own_tchar, if_neg hc3, if_pos hc9, if_pos hc17, if_neg hc31, if_pos hc37, if_neg hc45, if_neg hc51, if_pos hc57], N0, rfl⟩
                · have pre90 : ∀ t, Steps p.tables e below (s₁.setTop (mkF m 63 #[.val (.int p1)] [(.int (37 : Int32)), (.int p1)])) t → Steps p.tables e below _ t := fun t kt => pre89 t (by
                    show Steps p.tables e below (s₁.setTop (mkF m 57 #[.val (.int p1)] [(.int (36 : Int32)), (.int p1)])) _
                    refine XS.icmpNo X0.here hx rfl (hb hby d12_57) rfl (feq hc57).1 ?_
                    refine XS.iloadN X0.here hx rfl (hb hby d12_60) rfl ?_
                    refine XS.bipush X0.here hx rfl (hb hby d12_61) ?_
                    exact kt)
                  by_cases hc63 : p1 = (37 : Int32)
                  · obtain ⟨fs, hr, hrun, hended, hW, hsame⟩ := X0.leave (v := some (.int (1 : Int32))) (fun h => by rw [Bd.returns] at h; cases h)
                    refine ⟨_, _, pre90 _ ?_, hrun, hended, _, _, rfl, ?_, ⟨_, rfl⟩, hW, hsame.mono (by decide) (by decide)⟩
                    · show Steps p.tables e below (s₁.setTop (mkF m 63 #[.val (.int p1)] [(.int (37 : Int32)), (.int p1)])) _
                      refine XS.icmpYes X0.here hx rfl (pc0 := 63) (pc' := 132) rfl (hb hby d12_63) rfl (teq hc63).1 (by decide) (by decide) ?_
                      refine XS.iconst X0.here hx rfl (hb hby d12_132) ?_
                      refine XS.goto X0.here hx rfl (pc0 := 133) (pc' := 137) rfl (hb hby d12_133) (by decide) (by decide) ?_
                      show Steps p.tables e below (s₁.setTop (mkF m 137 #[.val (.int p1)] [(.int (1 : Int32))])) _
                      exact retN X0 hx (t := .boolean) Bd.returns (by simp) (hb hby d12_137) hr
                    · show Q12 Z p1 h0 n0 _ s₁.heap _
                      rw [e0]
                      exact ⟨by simp only [own_tchar, if_neg hc3, if_pos hc9, if_pos hc17, if_neg hc31, if_pos hc37, if_neg hc45, if_neg hc51, if_neg hc57, if_pos hc63], N0, rfl⟩
                  · have pre91 : ∀ t, Steps p.tables e below (s₁.setTop (mkF m 69 #[.val (.int p1)] [(.int (38 : Int32)), (.int p1)])) t → Steps p.tables e below _ t := fun t kt => pre90 t (by
                      show Steps p.tables e below (s₁.setTop (mkF m 63 #[.val (.int p1)] [(.int (37 : Int32)), (.int p1)])) _
                      refine XS.icmpNo X0.here hx rfl (hb hby d12_63) rfl (feq hc63).1 ?_
                      refine XS.iloadN X0.here hx rfl (hb hby d12_66) rfl ?_
                      refine XS.bipush X0.here hx rfl (hb hby d12_67) ?_
                      exact kt)
                    by_cases hc69 : p1 = (38 : Int32)
                    · obtain ⟨fs, hr, hrun, hended, hW, hsame⟩ := X0.leave (v := some (.int (1 : Int32))) (fun h => by rw [Bd.returns] at h; cases h)
                      refine ⟨_, _, pre91 _ ?_, hrun, hended, _, _, rfl, ?_, ⟨_, rfl⟩, hW, hsame.mono (by decide) (by decide)⟩
                      · show Steps p.tables e below (s₁.setTop (mkF m 69 #[.val (.int p1)] [(.int (38 : Int32)), (.int p1)])) _
                        refine XS.icmpYes X0.here hx rfl (pc0 := 69) (pc' := 132) rfl (hb hby d12_69) rfl (teq hc69).1 (by decide) (by decide) ?_
                        refine XS.iconst X0.here hx rfl (hb hby d12_132) ?_
                        refine XS.goto X0.here hx rfl (pc0 := 133) (pc' := 137) rfl (hb hby d12_133) (by decide) (by decide) ?_
                        show Steps p.tables e below (s₁.setTop (mkF m 137 #[.val (.int p1)] [(.int (1 : Int32))])) _
                        exact retN X0 hx (t := .boolean) Bd.returns (by simp) (hb hby d12_137) hr
                      · show Q12 Z p1 h0 n0 _ s₁.heap _
                        rw [e0]
                        exact ⟨by simp only [own_tchar, if_neg hc3, if_pos hc9, if_pos hc17, if_neg hc31, if_pos hc37, if_neg hc45, if_neg hc51, if_neg hc57, if_neg hc63, if_pos hc69], N0, rfl⟩
                    · have pre92 : ∀ t, Steps p.tables e below (s₁.setTop (mkF m 75 #[.val (.int p1)] [(.int (39 : Int32)), (.int p1)])) t → Steps p.tables e below _ t := fun t kt => pre91 t (by
                        show Steps p.tables e below (s₁.setTop (mkF m 69 #[.val (.int p1)] [(.int (38 : Int32)), (.int p1)])) _
                        refine XS.icmpNo X0.here hx rfl (hb hby d12_69) rfl (feq hc69).1 ?_
                        refine XS.iloadN X0.here hx rfl (hb hby d12_72) rfl ?_
                        refine XS.bipush X0.here hx rfl (hb hby d12_73) ?_
                        exact kt)
                      by_cases hc75 : p1 = (39 : Int32)
                      · obtain ⟨fs, hr, hrun, hended, hW, hsame⟩ := X0.leave (v := some (.int (1 : Int32))) (fun h => by rw [Bd.returns] at h; cases h)
                        refine ⟨_, _, pre92 _ ?_, hrun, hended, _, _, rfl, ?_, ⟨_, rfl⟩, hW, hsame.mono (by decide) (by decide)⟩
                        · show Steps p.tables e below (s₁.setTop (mkF m 75 #[.val (.int p1)] [(.int (39 : Int32)), (.int p1)])) _
                          refine XS.icmpYes X0.here hx rfl (pc0 := 75) (pc' := 132) rfl (hb hby d12_75) rfl (teq hc75).1 (by decide) (by decide) ?_
                          refine XS.iconst X0.here hx rfl (hb hby d12_132) ?_
                          refine XS.goto X0.here hx rfl (pc0 := 133) (pc' := 137) rfl (hb hby d12_133) (by decide) (by decide) ?_
                          show Steps p.tables e below (s₁.setTop (mkF m 137 #[.val (.int p1)] [(.int (1 : Int32))])) _
                          exact retN X0 hx (t := .boolean) Bd.returns (by simp) (hb hby d12_137) hr
                        · show Q12 Z p1 h0 n0 _ s₁.heap _
                          rw [e0]
                          exact ⟨by simp only [own_tchar, if_neg hc3, if_pos hc9, if_pos hc17, if_neg hc31, if_pos hc37, if_neg hc45, if_neg hc51, if_neg hc57, if_neg hc63, if_neg hc69, if_pos hc75], N0, rfl⟩
                      · have pre93 : ∀ t, Steps p.tables e below (s₁.setTop (mkF m 81 #[.val (.int p1)] [(.int (42 : Int32)), (.int p1)])) t → Steps p.tables e below _ t := fun t kt => pre92 t (by
                          show Steps p.tables e below (s₁.setTop (mkF m 75 #[.val (.int p1)] [(.int (39 : Int32)), (.int p1)])) _
                          refine XS.icmpNo X0.here hx rfl (hb hby d12_75) rfl (feq hc75).1 ?_
                          refine XS.iloadN X0.here hx rfl (hb hby d12_78) rfl ?_
                          refine XS.bipush X0.here hx rfl (hb hby d12_79) ?_
                          exact kt)
                        by_cases hc81 : p1 = (42 : Int32)
                        · obtain ⟨fs, hr, hrun, hended, hW, hsame⟩ := X0.leave (v := some (.int (1 : Int32))) (fun h => by rw [Bd.returns] at h; cases h)
                          refine ⟨_, _, pre93 _ ?_, hrun, hended, _, _, rfl, ?_, ⟨_, rfl⟩, hW, hsame.mono (by decide) (by decide)⟩
                          · show Steps p.tables e below (s₁.setTop (mkF m 81 #[.val (.int p1)] [(.int (42 : Int32)), (.int p1)])) _
                            refine XS.icmpYes X0.here hx rfl (pc0 := 81) (pc' := 132) rfl (hb hby d12_81) rfl (teq hc81).1 (by decide) (by decide) ?_
                            refine XS.iconst X0.here hx rfl (hb hby d12_132) ?_
                            refine XS.goto X0.here hx rfl (pc0 := 133) (pc' := 137) rfl (hb hby d12_133) (by decide) (by decide) ?_
                            show Steps p.tables e below (s₁.setTop (mkF m 137 #[.val (.int p1)] [(.int (1 : Int32))])) _
                            exact retN X0 hx (t := .boolean) Bd.returns (by simp) (hb hby d12_137) hr
                          · show Q12 Z p1 h0 n0 _ s₁.heap _
                            rw [e0]
                            exact ⟨by simp only [own_tchar, if_neg hc3, if_pos hc9, if_pos hc17, if_neg hc31, if_pos hc37, if_neg hc45, if_neg hc51, if_neg hc57, if_neg hc63, if_neg hc69, if_neg hc75, if_pos hc81], N0, rfl⟩
                        · have pre94 : ∀ t, Steps p.tables e below (s₁.setTop (mkF m 87 #[.val (.int p1)] [(.int (43 : Int32)), (.int p1)])) t → Steps p.tables e below _ t := fun t kt => pre93 t (by
                            show Steps p.tables e below (s₁.setTop (mkF m 81 #[.val (.int p1)] [(.int (42 : Int32)), (.int p1)])) _
                            refine XS.icmpNo X0.here hx rfl (hb hby d12_81) rfl (feq hc81).1 ?_
                            refine XS.iloadN X0.here hx rfl (hb hby d12_84) rfl ?_
                            refine XS.bipush X0.here hx rfl (hb hby d12_85) ?_
                            exact kt)
                          by_cases hc87 : p1 = (43 : Int32)
                          · obtain ⟨fs, hr, hrun, hended, hW, hsame⟩ := X0.leave (v := some (.int (1 : Int32))) (fun h => by rw [Bd.returns] at h; cases h)
                            refine ⟨_, _, pre94 _ ?_, hrun, hended, _, _, rfl, ?_, ⟨_, rfl⟩, hW, hsame.mono (by decide) (by decide)⟩
                            · show Steps p.tables e below (s₁.setTop (mkF m 87 #[.val (.int p1)] [(.int (43 : Int32)), (.int p1)])) _
                              refine XS.icmpYes X0.here hx rfl (pc0 := 87) (pc' := 132) rfl (hb hby d12_87) rfl (teq hc87).1 (by decide) (by decide) ?_
                              refine XS.iconst X0.here hx rfl (hb hby d12_132) ?_
                              refine XS.goto X0.here hx rfl (pc0 := 133) (pc' := 137) rfl (hb hby d12_133) (by decide) (by decide) ?_
                              show Steps p.tables e below (s₁.setTop (mkF m 137 #[.val (.int p1)] [(.int (1 : Int32))])) _
                              exact retN X0 hx (t := .boolean) Bd.returns (by simp) (hb hby d12_137) hr
                            · show Q12 Z p1 h0 n0 _ s₁.heap _
                              rw [e0]
                              exact ⟨by simp only [own_tchar, if_neg hc3, if_pos hc9, if_pos hc17, if_neg hc31, if_pos hc37, if_neg hc45, if_neg hc51, if_neg hc57, if_neg hc63, if_neg hc69, if_neg hc75, if_neg hc81, if_pos hc87], N0, rfl⟩
                          · have pre95 : ∀ t, Steps p.tables e below (s₁.setTop (mkF m 93 #[.val (.int p1)] [(.int (45 : Int32)), (.int p1)])) t → Steps p.tables e below _ t := fun t kt => pre94 t (by
                              show Steps p.tables e below (s₁.setTop (mkF m 87 #[.val (.int p1)] [(.int (43 : Int32)), (.int p1)])) _
                              refine XS.icmpNo X0.here hx rfl (hb hby d12_87) rfl (feq hc87).1 ?_
                              refine XS.iloadN X0.here hx rfl (hb hby d12_90) rfl ?_
                              refine XS.bipush X0.here hx rfl (hb hby d12_91) ?_
                              exact kt)
                            by_cases hc93 : p1 = (45 : Int32)
                            · obtain ⟨fs, hr, hrun, hended, hW, hsame⟩ := X0.leave (v := some (.int (1 : Int32))) (fun h => by rw [Bd.returns] at h; cases h)
                              refine ⟨_, _, pre95 _ ?_, hrun, hended, _, _, rfl, ?_, ⟨_, rfl⟩, hW, hsame.mono (by decide) (by decide)⟩
                              · show Steps p.tables e below (s₁.setTop (mkF m 93 #[.val (.int p1)] [(.int (45 : Int32)), (.int p1)])) _
                                refine XS.icmpYes X0.here hx rfl (pc0 := 93) (pc' := 132) rfl (hb hby d12_93) rfl (teq hc93).1 (by decide) (by decide) ?_
                                refine XS.iconst X0.here hx rfl (hb hby d12_132) ?_
                                refine XS.goto X0.here hx rfl (pc0 := 133) (pc' := 137) rfl (hb hby d12_133) (by decide) (by decide) ?_
                                show Steps p.tables e below (s₁.setTop (mkF m 137 #[.val (.int p1)] [(.int (1 : Int32))])) _
                                exact retN X0 hx (t := .boolean) Bd.returns (by simp) (hb hby d12_137) hr
                              · show Q12 Z p1 h0 n0 _ s₁.heap _
                                rw [e0]
                                exact ⟨by simp only [own_tchar, if_neg hc3, if_pos hc9, if_pos hc17, if_neg hc31, if_pos hc37, if_neg hc45, if_neg hc51, if_neg hc57, if_neg hc63, if_neg hc69, if_neg hc75, if_neg hc81, if_neg hc87, if_pos hc93], N0, rfl⟩
                            · have pre96 : ∀ t, Steps p.tables e below (s₁.setTop (mkF m 99 #[.val (.int p1)] [(.int (46 : Int32)), (.int p1)])) t → Steps p.tables e below _ t := fun t kt => pre95 t (by
                                show Steps p.tables e below (s₁.setTop (mkF m 93 #[.val (.int p1)] [(.int (45 : Int32)), (.int p1)])) _
                                refine XS.icmpNo X0.here hx rfl (hb hby d12_93) rfl (feq hc93).1 ?_
                                refine XS.iloadN X0.here hx rfl (hb hby d12_96) rfl ?_
                                refine XS.bipush X0.here hx rfl (hb hby d12_97) ?_
                                exact kt)
                              by_cases hc99 : p1 = (46 : Int32)
                              · obtain ⟨fs, hr, hrun, hended, hW, hsame⟩ := X0.leave (v := some (.int (1 : Int32))) (fun h => by rw [Bd.returns] at h; cases h)
                                refine ⟨_, _, pre96 _ ?_, hrun, hended, _, _, rfl, ?_, ⟨_, rfl⟩, hW, hsame.mono (by decide) (by decide)⟩
                                · show Steps p.tables e below (s₁.setTop (mkF m 99 #[.val (.int p1)] [(.int (46 : Int32)), (.int p1)])) _
                                  refine XS.icmpYes X0.here hx rfl (pc0 := 99) (pc' := 132) rfl (hb hby d12_99) rfl (teq hc99).1 (by decide) (by decide) ?_
                                  refine XS.iconst X0.here hx rfl (hb hby d12_132) ?_
                                  refine XS.goto X0.here hx rfl (pc0 := 133) (pc' := 137) rfl (hb hby d12_133) (by decide) (by decide) ?_
                                  show Steps p.tables e below (s₁.setTop (mkF m 137 #[.val (.int p1)] [(.int (1 : Int32))])) _
                                  exact retN X0 hx (t := .boolean) Bd.returns (by simp) (hb hby d12_137) hr
                                · show Q12 Z p1 h0 n0 _ s₁.heap _
                                  rw [e0]
                                  exact ⟨by simp only [own_tchar, if_neg hc3, if_pos hc9, if_pos hc17, if_neg hc31, if_pos hc37, if_neg hc45, if_neg hc51, if_neg hc57, if_neg hc63, if_neg hc69, if_neg hc75, if_neg hc81, if_neg hc87, if_neg hc93, if_pos hc99], N0, rfl⟩
                              · have pre97 : ∀ t, Steps p.tables e below (s₁.setTop (mkF m 105 #[.val (.int p1)] [(.int (94 : Int32)), (.int p1)])) t → Steps p.tables e below _ t := fun t kt => pre96 t (by
                                  show Steps p.tables e below (s₁.setTop (mkF m 99 #[.val (.int p1)] [(.int (46 : Int32)), (.int p1)])) _
                                  refine XS.icmpNo X0.here hx rfl (hb hby d12_99) rfl (feq hc99).1 ?_
                                  refine XS.iloadN X0.here hx rfl (hb hby d12_102) rfl ?_
                                  refine XS.bipush X0.here hx rfl (hb hby d12_103) ?_
                                  exact kt)
                                by_cases hc105 : p1 = (94 : Int32)
                                · obtain ⟨fs, hr, hrun, hended, hW, hsame⟩ := X0.leave (v := some (.int (1 : Int32))) (fun h => by rw [Bd.returns] at h; cases h)
                                  refine ⟨_, _, pre97 _ ?_, hrun, hended, _, _, rfl, ?_, ⟨_, rfl⟩, hW, hsame.mono (by decide) (by decide)⟩
                                  · show Steps p.tables e below (s₁.setTop (mkF m 105 #[.val (.int p1)] [(.int (94 : Int32)), (.int p1)])) _
                                    refine XS.icmpYes X0.here hx rfl (pc0 := 105) (pc' := 132) rfl (hb hby d12_105) rfl (teq hc105).1 (by decide) (by decide) ?_
                                    refine XS.iconst X0.here hx rfl (hb hby d12_132) ?_
                                    refine XS.goto X0.here hx rfl (pc0 := 133) (pc' := 137) rfl (hb hby d12_133) (by decide) (by decide) ?_
                                    show Steps p.tables e below (s₁.setTop (mkF m 137 #[.val (.int p1)] [(.int (1 : Int32))])) _
                                    exact retN X0 hx (t := .boolean) Bd.returns (by simp) (hb hby d12_137) hr
                                  · show Q12 Z p1 h0 n0 _ s₁.heap _
                                    rw [e0]
                                    exact ⟨by simp only [own_tchar, if_neg hc3, if_pos hc9, if_pos hc17, if_neg hc31, if_pos hc37, if_neg hc45, if_neg hc51, if_neg hc57, if_neg hc63, if_neg hc69, if_neg hc75, if_neg hc81, if_neg hc87, if_neg hc93, if_neg hc99, if_pos hc105], N0, rfl⟩
                                · have pre98 : ∀ t, Steps p.tables e below (s₁.setTop (mkF m 111 #[.val (.int p1)] [(.int (95 : Int32)), (.int p1)])) t → Steps p.tables e below _ t := fun t kt => pre97 t (by
                                    show Steps p.tables e below (s₁.setTop (mkF m 105 #[.val (.int p1)] [(.int (94 : Int32)), (.int p1)])) _
                                    refine XS.icmpNo X0.here hx rfl (hb hby d12_105) rfl (feq hc105).1 ?_
                                    refine XS.iloadN X0.here hx rfl (hb hby d12_108) rfl ?_
                                    refine XS.bipush X0.here hx rfl (hb hby d12_109) ?_
                                    exact kt)
                                  by_cases hc111 : p1 = (95 : Int32)
                                  · obtain ⟨fs, hr, hrun, hended, hW, hsame⟩ := X0.leave (v := some (.int (1 : Int32))) (fun h => by rw [Bd.returns] at h; cases h)
                                    refine ⟨_, _, pre98 _ ?_, hrun, hended, _, _, rfl, ?_, ⟨_, rfl⟩, hW, hsame.mono (by decide) (by decide)⟩
                                    · show Steps p.tables e below (s₁.setTop (mkF m 111 #[.val (.int p1)] [(.int (95 : Int32)), (.int p1)])) _
                                      refine XS.icmpYes X0.here hx rfl (pc0 := 111) (pc' := 132) rfl (hb hby d12_111) rfl (teq hc111).1 (by decide) (by decide) ?_
                                      refine XS.iconst X0.here hx rfl (hb hby d12_132) ?_
                                      refine XS.goto X0.here hx rfl (pc0 := 133) (pc' := 137) rfl (hb hby d12_133) (by decide) (by decide) ?_
                                      show Steps p.tables e below (s₁.setTop (mkF m 137 #[.val (.int p1)] [(.int (1 : Int32))])) _
                                      exact retN X0 hx (t := .boolean) Bd.returns (by simp) (hb hby d12_137) hr
                                    · show Q12 Z p1 h0 n0 _ s₁.heap _
                                      rw [e0]
                                      exact ⟨by simp only [own_tchar, if_neg hc3, if_pos hc9, if_pos hc17, if_neg hc31, if_pos hc37, if_neg hc45, if_neg hc51, if_neg hc57, if_neg hc63, if_neg hc69, if_neg hc75, if_neg hc81, if_neg hc87, if_neg hc93, if_neg hc99, if_neg hc105, if_pos hc111], N0, rfl⟩
                                  · have pre99 : ∀ t, Steps p.tables e below (s₁.setTop (mkF m 117 #[.val (.int p1)] [(.int (96 : Int32)), (.int p1)])) t → Steps p.tables e below _ t := fun t kt => pre98 t (by
                                      show Steps p.tables e below (s₁.setTop (mkF m 111 #[.val (.int p1)] [(.int (95 : Int32)), (.int p1)])) _
                                      refine XS.icmpNo X0.here hx rfl (hb hby d12_111) rfl (feq hc111).1 ?_
                                      refine XS.iloadN X0.here hx rfl (hb hby d12_114) rfl ?_
                                      refine XS.bipush X0.here hx rfl (hb hby d12_115) ?_
                                      exact kt)
                                    by_cases hc117 : p1 = (96 : Int32)
                                    · obtain ⟨fs, hr, hrun, hended, hW, hsame⟩ := X0.leave (v := some (.int (1 : Int32))) (fun h => by rw [Bd.returns] at h; cases h)
                                      refine ⟨_, _, pre99 _ ?_, hrun, hended, _, _, rfl, ?_, ⟨_, rfl⟩, hW, hsame.mono (by decide) (by decide)⟩
                                      · show Steps p.tables e below (s₁.setTop (mkF m 117 #[.val (.int p1)] [(.int (96 : Int32)), (.int p1)])) _
                                        refine XS.icmpYes X0.here hx rfl (pc0 := 117) (pc' := 132) rfl (hb hby d12_117) rfl (teq hc117).1 (by decide) (by decide) ?_
                                        refine XS.iconst X0.here hx rfl (hb hby d12_132) ?_
                                        refine XS.goto X0.here hx rfl (pc0 := 133) (pc' := 137) rfl (hb hby d12_133) (by decide) (by decide) ?_
                                        show Steps p.tables e below (s₁.setTop (mkF m 137 #[.val (.int p1)] [(.int (1 : Int32))])) _
                                        exact retN X0 hx (t := .boolean) Bd.returns (by simp) (hb hby d12_137) hr
                                      · show Q12 Z p1 h0 n0 _ s₁.heap _
                                        rw [e0]
                                        exact ⟨by simp only [own_tchar, if_neg hc3, if_pos hc9, if_pos hc17, if_neg hc31, if_pos hc37, if_neg hc45, if_neg hc51, if_neg hc57, if_neg hc63, if_neg hc69, if_neg hc75, if_neg hc81, if_neg hc87, if_neg hc93, if_neg hc99, if_neg hc105, if_neg hc111, if_pos hc117], N0, rfl⟩
                                    · have pre100 : ∀ t, Steps p.tables e below (s₁.setTop (mkF m 123 #[.val (.int p1)] [(.int (124 : Int32)), (.int p1)])) t → Steps p.tables e below _ t := fun t kt => pre99 t (by
                                        show Steps p.tables e below (s₁.setTop (mkF m 117 #[.val (.int p1)] [(.int (96 : Int32)), (.int p1)])) _
                                        refine XS.icmpNo X0.here hx rfl (hb hby d12_117) rfl (feq hc117).1 ?_
                                        refine XS.iloadN X0.here hx rfl (hb hby d12_120) rfl ?_
                                        refine XS.bipush X0.here hx rfl (hb hby d12_121) ?_
                                        exact kt)
                                      by_cases hc123 : p1 = (124 : Int32)
                                      · obtain ⟨fs, hr, hrun, hended, hW, hsame⟩ := X0.leave (v := some (.int (1 : Int32))) (fun h => by rw [Bd.returns] at h; cases h)
                                        refine ⟨_, _, pre100 _ ?_, hrun, hended, _, _, rfl, ?_, ⟨_, rfl⟩, hW, hsame.mono (by decide) (by decide)⟩
                                        · show Steps p.tables e below (s₁.setTop (mkF m 123 #[.val (.int p1)] [(.int (124 : Int32)), (.int p1)])) _
                                          refine XS.icmpYes X0.here hx rfl (pc0 := 123) (pc' := 132) rfl (hb hby d12_123) rfl (teq hc123).1 (by decide) (by decide) ?_
                                          refine XS.iconst X0.here hx rfl (hb hby d12_132) ?_
                                          refine XS.goto X0.here hx rfl (pc0 := 133) (pc' := 137) rfl (hb hby d12_133) (by decide) (by decide) ?_
                                          show Steps p.tables e below (s₁.setTop (mkF m 137 #[.val (.int p1)] [(.int (1 : Int32))])) _
                                          exact retN X0 hx (t := .boolean) Bd.returns (by simp) (hb hby d12_137) hr
                                        · show Q12 Z p1 h0 n0 _ s₁.heap _
                                          rw [e0]
                                          exact ⟨by simp only [own_tchar, if_neg hc3, if_pos hc9, if_pos hc17, if_neg hc31, if_pos hc37, if_neg hc45, if_neg hc51, if_neg hc57, if_neg hc63, if_neg hc69, if_neg hc75, if_neg hc81, if_neg hc87, if_neg hc93, if_neg hc99, if_neg hc105, if_neg hc111, if_neg hc117, if_pos hc123], N0, rfl⟩
                                      · have pre101 : ∀ t, Steps p.tables e below (s₁.setTop (mkF m 129 #[.val (.int p1)] [(.int (126 : Int32)), (.int p1)])) t → Steps p.tables e below _ t := fun t kt => pre100 t (by
                                          show Steps p.tables e below (s₁.setTop (mkF m 123 #[.val (.int p1)] [(.int (124 : Int32)), (.int p1)])) _
                                          refine XS.icmpNo X0.here hx rfl (hb hby d12_123) rfl (feq hc123).1 ?_
                                          refine XS.iloadN X0.here hx rfl (hb hby d12_126) rfl ?_
                                          refine XS.bipush X0.here hx rfl (hb hby d12_127) ?_
                                          exact kt)
                                        by_cases hc129 : p1 = (126 : Int32)
                                        · obtain ⟨fs, hr, hrun, hended, hW, hsame⟩ := X0.leave (v := some (.int (1 : Int32))) (fun h => by rw [Bd.returns] at h; cases h)
                                          refine ⟨_, _, pre101 _ ?_, hrun, hended, _, _, rfl, ?_, ⟨_, rfl⟩, hW, hsame.mono (by decide) (by decide)⟩
                                          · show Steps p.tables e below (s₁.setTop (mkF m 129 #[.val (.int p1)] [(.int (126 : Int32)), (.int p1)])) _
                                            refine XS.icmpNo X0.here hx rfl (hb hby d12_129) rfl (teq hc129).2 ?_
                                            refine XS.iconst X0.here hx rfl (hb hby d12_132) ?_
                                            refine XS.goto X0.here hx rfl (pc0 := 133) (pc' := 137) rfl (hb hby d12_133) (by decide) (by decide) ?_
                                            show Steps p.tables e below (s₁.setTop (mkF m 137 #[.val (.int p1)] [(.int (1 : Int32))])) _
                                            exact retN X0 hx (t := .boolean) Bd.returns (by simp) (hb hby d12_137) hr
                                          · show Q12 Z p1 h0 n0 _ s₁.heap _
                                            rw [e0]
                                            exact ⟨by simp only [own_tchar, if_neg hc3, if_pos hc9, if_pos hc17, if_neg hc31, if_pos hc37, if_neg hc45, if_neg hc51, if_neg hc57, if_neg hc63, if_neg hc69, if_neg hc75, if_neg hc81, if_neg hc87, if_neg hc93, if_neg hc99, if_neg hc105, if_neg hc111, if_neg hc117, if_neg hc123, if_pos hc129], N0, rfl⟩
                                        · obtain ⟨fs, hr, hrun, hended, hW, hsame⟩ := X0.leave (v := some (.int (0 : Int32))) (fun h => by rw [Bd.returns] at h; cases h)
                                          refine ⟨_, _, pre101 _ ?_, hrun, hended, _, _, rfl, ?_, ⟨_, rfl⟩, hW, hsame.mono (by decide) (by decide)⟩
                                          · show Steps p.tables e below (s₁.setTop (mkF m 129 #[.val (.int p1)] [(.int (126 : Int32)), (.int p1)])) _
                                            refine XS.icmpYes X0.here hx rfl (pc0 := 129) (pc' := 136) rfl (hb hby d12_129) rfl (feq hc129).2 (by decide) (by decide) ?_
                                            refine XS.iconst X0.here hx rfl (hb hby d12_136) ?_
                                            show Steps p.tables e below (s₁.setTop (mkF m 137 #[.val (.int p1)] [(.int (0 : Int32))])) _
                                            exact retN X0 hx (t := .boolean) Bd.returns (by simp) (hb hby d12_137) hr
                                          · show Q12 Z p1 h0 n0 _ s₁.heap _
                                            rw [e0]
                                            exact ⟨by simp only [own_tchar, if_neg hc3, if_pos hc9, if_pos hc17, if_neg hc31, if_pos hc37, if_neg hc45, if_neg hc51, if_neg hc57, if_neg hc63, if_neg hc69, if_neg hc75, if_neg hc81, if_neg hc87, if_neg hc93, if_neg hc99, if_neg hc105, if_neg hc111, if_neg hc117, if_neg hc123, if_neg hc129], N0, rfl⟩
          · obtain ⟨fs, hr, hrun, hended, hW, hsame⟩ := X0.leave (v := some (.int (1 : Int32))) (fun h => by rw [Bd.returns] at h; cases h)
            refine ⟨_, _, pre86 _ ?_, hrun, hended, _, _, rfl, ?_, ⟨_, rfl⟩, hW, hsame.mono (by decide) (by decide)⟩
            · show Steps p.tables e below (s₁.setTop (mkF m 37 #[.val (.int p1)] [(.int (122 : Int32)), (.int p1)])) _
              refine XS.icmpNo X0.here hx rfl (hb hby d12_37) rfl (flt hc37).2.2.1 ?_
              refine XS.iconst X0.here hx rfl (hb hby d12_40) ?_
              show Steps p.tables e below (s₁.setTop (mkF m 41 #[.val (.int p1)] [(.int (1 : Int32))])) _
              exact retN X0 hx (t := .boolean) Bd.returns (by simp) (hb hby d12_41) hr
            · show Q12 Z p1 h0 n0 _ s₁.heap _
              rw [e0]
              exact ⟨by simp only [own_tchar, if_neg hc3, if_pos hc9, if_pos hc17, if_neg hc31, if_neg hc37], N0, rfl⟩
      · have pre102 : ∀ t, Steps p.tables e below (s₁.setTop (mkF m 23 #[.val (.int p1)] [(.int (90 : Int32)), (.int p1)])) t → Steps p.tables e below _ t := fun t kt => pre69 t (by
          show Steps p.tables e below (s₁.setTop (mkF m 17 #[.val (.int p1)] [(.int (65 : Int32)), (.int p1)])) _
          refine XS.icmpNo X0.here hx rfl (hb hby d12_17) rfl (flt hc17).1 ?_
          refine XS.iloadN X0.here hx rfl (hb hby d12_20) rfl ?_
          refine XS.bipush X0.here hx rfl (hb hby d12_21) ?_
          exact kt)
        by_cases hc23 : (90 : Int32) < p1
        · have pre103 : ∀ t, Steps p.tables e below (s₁.setTop (mkF m 31 #[.val (.int p1)] [(.int (97 : Int32)), (.int p1)])) t → Steps p.tables e below _ t := fun t kt => pre102 t (by
            show Steps p.tables e below (s₁.setTop (mkF m 23 #[.val (.int p1)] [(.int (90 : Int32)), (.int p1)])) _
            refine XS.icmpYes X0.here hx rfl (pc0 := 23) (pc' := 28) rfl (hb hby d12_23) rfl (tlt hc23).2.2.1 (by decide) (by decide) ?_
            refine XS.iloadN X0.here hx rfl (hb hby d12_28) rfl ?_
            refine XS.bipush X0.here hx rfl (hb hby d12_29) ?_
            exact kt)
          by_cases hc31 : p1 < (97 : Int32)
          · have pre104 : ∀ t, Steps p.tables e below (s₁.setTop (mkF m 45 #[.val (.int p1)] [(.int (33 : Int32)), (.int p1)])) t → Steps p.tables e below _ t := fun t kt => pre103 t (by
              show Steps p.tables e below (s₁.setTop (mkF m 31 #[.val (.int p1)] [(.int (97 : Int32)), (.int p1)])) _
              refine XS.icmpYes X0.here hx rfl (pc0 := 31) (pc' := 42) rfl (hb hby d12_31) rfl (tlt hc31).1 (by decide) (by decide) ?_
              refine XS.iloadN X0.here hx rfl (hb hby d12_42) rfl ?_
              refine XS.bipush X0.here hx rfl (hb hby d12_43) ?_
              exact kt)
            by_cases hc45 : p1 = (33 : Int32)
            · obtain ⟨fs, hr, hrun, hended, hW, hsame⟩ := X0.leave (v := some (.int (1 : Int32))) (fun h => by rw [Bd.returns] at h; cases h)
              refine ⟨_, _, pre104 _ ?_, hrun, hended, _, _, rfl, ?_, ⟨_, rfl⟩, hW, hsame.mono (by decide) (by decide)⟩
              · show Steps p.tables e below (s₁.setTop (mkF m 45 #[.val (.int p1)] [(.int (33 : Int32)), (.int p1)])) _
                refine XS.icmpYes X0.here hx rfl (pc0 := 45) (pc' := 132) rfl (hb hby d12_45) rfl (teq hc45).1 (by decide) (by decide) ?_
                refine XS.iconst X0.here hx rfl (hb hby d12_132) ?_
                refine XS.goto X0.here hx rfl (pc0 := 133) (pc' := 137) rfl (hb hby d12_133) (by decide) (by decide) ?_
                show Steps p.tables e below (s₁.setTop (mkF m 137 #[.val (.int p1)] [(.int (1 : Int32))])) _
                exact retN X0 hx (t := .boolean) Bd.returns (by simp) (hb hby d12_137) hr
              · show Q12 Z p1 h0 n0 _ s₁.heap _
                rw [e0]
                exact ⟨by simp only [own_tchar, if_neg hc3, if_pos hc9, if_neg hc17, if_pos hc23, if_pos hc31, if_pos hc45], N0, rfl⟩
            · have pre105 : ∀ t, Steps p.tables e below (s₁.setTop (mkF m 51 #[.val (.int p1)] [(.int (35 : Int32)), (.int p1)])) t → Steps p.tables e below _ t := fun t kt => pre104 t (by
                show Steps p.tables e below (s₁.setTop (mkF m 45 #[.val (.int p1)] [(.int (33 : Int32)), (.int p1)])) _
                refine XS.icmpNo X0.here hx rfl (hb hby d12_45) rfl (feq hc45).1 ?_
                refine XS.iloadN X0.here hx rfl (hb hby d12_48) rfl ?_
                refine XS.bipush X0.here hx rfl (hb hby d12_49) ?_
                exact kt)
              by_cases hc51 : p1 = (35 : Int32)
              · obtain ⟨fs, hr, hrun, hended, hW, hsame⟩ := X0.leave (v := some (.int (1 : Int32))) (fun h => by rw [Bd.returns] at h; cases h)
                refine ⟨_, _, pre105 _ ?_, hrun, hended, _, _, rfl, ?_, ⟨_, rfl⟩, hW, hsame.mono (by decide) (by decide)⟩
                · show Steps p.tables e below (s₁.setTop (mkF m 51 #[.val (.int p1)] [(.int (35 : Int32)), (.int p1)])) _
                  refine XS.icmpYes X0.here hx rfl (pc0 := 51) (pc' := 132) rfl (hb hby d12_51) rfl (teq hc51).1 (by decide) (by decide) ?_
                  refine XS.iconst X0.here hx rfl (hb hby d12_132) ?_
                  refine XS.goto X0.here hx rfl (pc0 := 133) (pc' := 137) rfl (hb hby d12_133) (by decide) (by decide) ?_
                  show Steps p.tables e below (s₁.setTop (mkF m 137 #[.val (.int p1)] [(.int (1 : Int32))])) _
                  exact retN X0 hx (t := .boolean) Bd.returns (by simp) (hb hby d12_137) hr
                · show Q12 Z p1 h0 n0 _ s₁.heap _
                  rw [e0]
                  exact ⟨by simp only [own_tchar, if_neg hc3, if_pos hc9, if_neg hc17, if_pos hc23, if_pos hc31, if_neg hc45, if_pos hc51], N0, rfl⟩
              · have pre106 : ∀ t, Steps p.tables e below (s₁.setTop (mkF m 57 #[.val (.int p1)] [(.int (36 : Int32)), (.int p1)])) t → Steps p.tables e below _ t := fun t kt => pre105 t (by
                  show Steps p.tables e below (s₁.setTop (mkF m 51 #[.val (.int p1)] [(.int (35 : Int32)), (.int p1)])) _
                  refine XS.icmpNo X0.here hx rfl (hb hby d12_51) rfl (feq hc51).1 ?_
                  refine XS.iloadN X0.here hx rfl (hb hby d12_54) rfl ?_
                  refine XS.bipush X0.here hx rfl (hb hby d12_55) ?_
                  exact kt)
                by_cases hc57 : p1 = (36 : Int32)
                · obtain ⟨fs, hr, hrun, hended, hW, hsame⟩ := X0.leave (v := some (.int (1 : Int32))) (fun h => by rw [Bd.returns] at h; cases h)
                  refine ⟨_, _, pre106 _ ?_, hrun, hended, _, _, rfl, ?_, ⟨_, rfl⟩, hW, hsame.mono (by decide) (by decide)⟩
                  · show Steps p.tables e below (s₁.setTop (mkF m 57 #[.val (.int p1)] [(.int (36 : Int32)), (.int p1)])) _
                    refine XS.icmpYes X0.here hx rfl (pc0 := 57) (pc' := 132) rfl (hb hby d12_57) rfl (teq hc57).1 (by decide) (by decide) ?_
                    refine XS.iconst X0.here hx rfl (hb hby d12_132) ?_
                    refine XS.goto X0.here hx rfl (pc0 := 133) (pc' := 137) rfl (hb hby d12_133) (by decide) (by decide) ?_
                    show Steps p.tables e below (s₁.setTop (mkF m 137 #[.val (.int p1)] [(.int (1 : Int32))])) _
                    exact retN X0 hx (t := .boolean) Bd.returns (by simp) (hb hby d12_137) hr
                  · show Q12 Z p1 h0 n0 _ s₁.heap _
                    rw [e0]
                    exact ⟨by simp only [own_tchar, if_neg hc3, if_pos hc9, if_neg hc17, if_pos hc23, if_pos hc31, if_neg hc45, if_neg hc51, if_pos hc57], N0, rfl⟩
                · have pre107 : ∀ t, Steps p.tables e below (s₁.setTop (mkF m 63 #[.val (.int p1)] [(.int (37 : Int32)), (.int p1)])) t → Steps p.tables e below _ t := fun t kt => pre106 t (by
                    show Steps p.tables e below (s₁.setTop (mkF m 57 #[.val (.int p1)] [(.int (36 : Int32)), (.int p1)])) _
                    refine XS.icmpNo X0.here hx rfl (hb hby d12_57) rfl (feq hc57).1 ?_
                    refine XS.iloadN X0.here hx rfl (hb hby d12_60) rfl ?_
                    refine XS.bipush X0.here hx rfl (hb hby d12_61) ?_
                    exact kt)
                  by_cases hc63 : p1 = (37 : Int32)
                  · obtain ⟨fs, hr, hrun, hended, hW, hsame⟩ := X0.leave (v := some (.int (1 : Int32))) (fun h => by rw [Bd.returns] at h; cases h)
                    refine ⟨_, _, pre107 _ ?_, hrun, hended, _, _, rfl, ?_, ⟨_, rfl⟩, hW, hsame.mono (by decide) (by decide)⟩
                    · show Steps p.tables e below (s₁.setTop (mkF m 63 #[.val (.int p1)] [(.int (37 : Int32)), (.int p1)])) _
                      refine XS.icmpYes X0.here hx rfl (pc0 := 63) (pc' := 132) rfl (hb hby d12_63) rfl (teq hc63).1 (by decide) (by decide) ?_
                      refine XS.iconst X0.here hx rfl (hb hby d12_132) ?_
                      refine XS.goto X0.here hx rfl (pc0 := 133) (pc' := 137) rfl (hb hby d12_133) (by decide) (by decide) ?_
                      show Steps p.tables e below (s₁.setTop (mkF m 137 #[.val (.int p1)] [(.int (1 : Int32))])) _
                      exact retN X0 hx (t := .boolean) Bd.returns (by simp) (hb hby d12_137) hr
                    · show Q12 Z p1 h0 n0 _ s₁.heap _
                      rw [e0]
                      exact ⟨by simp only [own_tchar, if_neg hc3, if_pos hc9, if_neg hc17, if_pos hc23, if_pos hc31, if_neg hc45, if_neg hc51, if_neg hc57, if_pos hc63], N0, rfl⟩
                  · have pre108 : ∀ t, Steps p.tables e below (s₁.setTop (mkF m 69 #[.val (.int p1)] [(.int (38 : Int32)), (.int p1)])) t → Steps p.tables e below _ t := fun t kt => pre107 t (by
                      show Steps p.tables e below (s₁.setTop (mkF m 63 #[.val (.int p1)] [(.int (37 : Int32)), (.int p1)])) _
                      refine XS.icmpNo X0.here hx rfl (hb hby d12_63) rfl (feq hc63).1 ?_
                      refine XS.iloadN X0.here hx rfl (hb hby d12_66) rfl ?_
                      refine XS.bipush X0.here hx rfl (hb hby d12_67) ?_
                      exact kt)
                    by_cases hc69 : p1 = (38 : Int32)
                    · obtain ⟨fs, hr, hrun, hended, hW, hsame⟩ := X0.leave (v := some (.int (1 : Int32))) (fun h => by rw [Bd.returns] at h; cases h)
                      refine ⟨_, _, pre108 _ ?_, hrun, hended, _, _, rfl, ?_, ⟨_, rfl⟩, hW, hsame.mono (by decide) (by decide)⟩
                      · show Steps p.tables e below (s₁.setTop (mkF m 69 #[.val (.int p1)] [(.int (38 : Int32)), (.int p1)])) _
                        refine XS.icmpYes X0.here hx rfl (pc0 := 69) (pc' := 132) rfl (hb hby d12_69) rfl (teq hc69).1 (by decide) (by decide) ?_
                        refine XS.iconst X0.here hx rfl (hb hby d12_132) ?_
                        refine XS.goto X0.here hx rfl (pc0 := 133) (pc' := 137) rfl (hb hby d12_133) (by decide) (by decide) ?_
                        show Steps p.tables e below (s₁.setTop (mkF m 137 #[.val (.int p1)] [(.int (1 : Int32))])) _
                        exact retN X0 hx (t := .boolean) Bd.returns (by simp) (hb hby d12_137) hr
                      · show Q12 Z p1 h0 n0 _ s₁.heap _
                        rw [e0]
                        exact ⟨by simp only [own_tchar, if_neg hc3, if_pos hc9, if_neg hc17, if_pos hc23, if_pos hc31, if_neg hc45, if_neg hc51, if_neg hc57, if_neg hc63, if_pos hc69], N0, rfl⟩
                    · have pre109 : ∀ t, Steps p.tables e below (s₁.setTop (mkF m 75 #[.val (.int p1)] [(.int (39 : Int32)), (.int p1)])) t → Steps p.tables e below _ t := fun t kt => pre108 t (by
                        show Steps p.tables e below (s₁.setTop (mkF m 69 #[.val (.int p1)] [(.int (38 : Int32)), (.int p1)])) _
                        refine XS.icmpNo X0.here hx rfl (hb hby d12_69) rfl (feq hc69).1 ?_
                        refine XS.iloadN X0.here hx rfl (hb hby d12_72) rfl ?_
                        refine XS.bipush X0.here hx rfl (hb hby d12_73) ?_
                        exact kt)
                      by_cases hc75 : p1 = (39 : Int32)
                      · obtain ⟨fs, hr, hrun, hended, hW, hsame⟩ := X0.leave (v := some (.int (1 : Int32))) (fun h => by rw [Bd.returns] at h; cases h)
                        refine ⟨_, _, pre109 _ ?_, hrun, hended, _, _, rfl, ?_, ⟨_, rfl⟩, hW, hsame.mono (by decide) (by decide)⟩
                        · show Steps p.tables e below (s₁.setTop (mkF m 75 #[.val (.int p1)] [(.int (39 : Int32)), (.int p1)])) _
                          refine XS.icmpYes X0.here hx rfl (pc0 := 75) (pc' := 132) rfl (hb hby d12_75) rfl (teq hc75).1 (by decide) (by decide) ?_
                          refine XS.iconst X0.here hx rfl (hb hby d12_132) ?_
                          refine XS.goto X0.here hx rfl (pc0 := 133) (pc' := 137) rfl (hb hby d12_133) (by decide) (by decide) ?_
                          show Steps p.tables e below (s₁.setTop (mkF m 137 #[.val (.int p1)] [(.int (1 : Int32))])) _
                          exact retN X0 hx (t := .boolean) Bd.returns (by simp) (hb hby d12_137) hr
                        · show Q12 Z p1 h0 n0 _ s₁.heap _
                          rw [e0]
                          exact ⟨by simp only [own_tchar, if_neg hc3, if_pos hc9, if_neg hc17, if_pos hc23, if_pos hc31, if_neg hc45, if_neg hc51, if_neg hc57, if_neg hc63, if_neg hc69, if_pos hc75], N0, rfl⟩
                      · have pre110 : ∀ t, Steps p.tables e below (s₁.setTop (mkF m 81 #[.val (.int p1)] [(.int (42 : Int32)), (.int p1)])) t → Steps p.tables e below _ t := fun t kt => pre109 t (by
                          show Steps p.tables e below (s₁.setTop (mkF m 75 #[.val (.int p1)] [(.int (39 : Int32)), (.int p1)])) _
                          refine XS.icmpNo X0.here hx rfl (hb hby d12_75) rfl (feq hc75).1 ?_
                          refine XS.iloadN X0.here hx rfl (hb hby d12_78) rfl ?_
                          refine XS.bipush X0.here hx rfl (hb hby d12_79) ?_
                          exact kt)
                        by_cases hc81 : p1 = (42 : Int32)
                        · obtain ⟨fs, hr, hrun, hended, hW, hsame⟩ := X0.leave (v := some (.int (1 : Int32))) (fun h => by rw [Bd.returns] at h; cases h)
                          refine ⟨_, _, pre110 _ ?_, hrun, hended, _, _, rfl, ?_, ⟨_, rfl⟩, hW, hsame.mono (by decide) (by decide)⟩
                          · show Steps p.tables e below (s₁.setTop (mkF m 81 #[.val (.int p1)] [(.int (42 : Int32)), (.int p1)])) _
                            refine XS.icmpYes X0.here hx rfl (pc0 := 81) (pc' := 132) rfl (hb hby d12_81) rfl (teq hc81).1 (by decide) (by decide) ?_
                            refine XS.iconst X0.here hx rfl (hb hby d12_132) ?_
                            refine XS.goto X0.here hx rfl (pc0 := 133) (pc' := 137) rfl (hb hby d12_133) (by decide) (by decide) ?_
                            show Steps p.tables e below (s₁.setTop (mkF m 137 #[.val (.int p1)] [(.int (1 : Int32))])) _
                            exact retN X0 hx (t := .boolean) Bd.returns (by simp) (hb hby d12_137) hr
                          · show Q12 Z p1 h0 n0 _ s₁.heap _
                            rw [e0]
                            exact ⟨by simp only [own_tchar, if_neg hc3, if_pos hc9, if_neg hc17, if_pos hc23, if_pos hc31, if_neg hc45, if_neg hc51, if_neg hc57, if_neg hc63, if_neg hc69, if_neg hc75, if_pos hc81], N0, rfl⟩
                        · have pre111 : ∀ t, Steps p.tables e below (s₁.setTop (mkF m 87 #[.val (.int p1)] [(.int (43 : Int32)), (.int p1)])) t → Steps p.tables e below _ t := fun t kt => pre110 t (by
                            show Steps p.tables e below (s₁.setTop (mkF m 81 #[.val (.int p1)] [(.int (42 : Int32)), (.int p1)])) _
                            refine XS.icmpNo X0.here hx rfl (hb hby d12_81) rfl (feq hc81).1 ?_
                            refine XS.iloadN X0.here hx rfl (hb hby d12_84) rfl ?_
                            refine XS.bipush X0.here hx rfl (hb hby d12_85) ?_
                            exact kt)
                          by_cases hc87 : p1 = (43 : Int32)
                          · obtain ⟨fs, hr, hrun, hended, hW, hsame⟩ := X0.leave (v := some (.int (1 : Int32))) (fun h => by rw [Bd.returns] at h; cases h)
                            refine ⟨_, _, pre111 _ ?_, hrun, hended, _, _, rfl, ?_, ⟨_, rfl⟩, hW, hsame.mono (by decide) (by decide)⟩
                            · show Steps p.tables e below (s₁.setTop (mkF m 87 #[.val (.int p1)] [(.int (43 : Int32)), (.int p1)])) _
                              refine XS.icmpYes X0.here hx rfl (pc0 := 87) (pc' := 132) rfl (hb hby d12_87) rfl (teq hc87).1 (by decide) (by decide) ?_
                              refine XS.iconst X0.here hx rfl (hb hby d12_132) ?_
                              refine XS.goto X0.here hx rfl (pc0 := 133) (pc' := 137) rfl (hb hby d12_133) (by decide) (by decide) ?_
                              show Steps p.tables e below (s₁.setTop (mkF m 137 #[.val (.int p1)] [(.int (1 : Int32))])) _
                              exact retN X0 hx (t := .boolean) Bd.returns (by simp) (hb hby d12_137) hr
                            · show Q12 Z p1 h0 n0 _ s₁.heap _
                              rw [e0]
                              exact ⟨by simp only [own_tchar, if_neg hc3, if_pos hc9, if_neg hc17, if_pos hc23, if_pos hc31, if_neg hc45, if_neg hc51, if_neg hc57, if_neg hc63, if_neg hc69, if_neg hc75, if_neg hc81, if_pos hc87], N0, rfl⟩
                          · have pre112 : ∀ t, Steps p.tables e below (s₁.setTop (mkF m 93 #[.val (.int p1)] [(.int (45 : Int32)), (.int p1)])) t → Steps p.tables e below _ t := fun t kt => pre111 t (by
                              show Steps p.tables e below (s₁.setTop (mkF m 87 #[.val (.int p1)] [(.int (43 : Int32)), (.int p1)])) _
                              refine XS.icmpNo X0.here hx rfl (hb hby d12_87) rfl (feq hc87).1 ?_
                              refine XS.iloadN X0.here hx rfl (hb hby d12_90) rfl ?_
                              refine XS.bipush X0.here hx rfl (hb hby d12_91) ?_
                              exact kt)
                            by_cases hc93 : p1 = (45 : Int32)
                            · obtain ⟨fs, hr, hrun, hended, hW, hsame⟩ := X0.leave (v := some (.int (1 : Int32))) (fun h => by rw [Bd.returns] at h; cases h)
                              refine ⟨_, _, pre112 _ ?_, hrun, hended, _, _, rfl, ?_, ⟨_, rfl⟩, hW, hsame.mono (by decide) (by decide)⟩
                              · show Steps p.tables e below (s₁.setTop (mkF m 93 #[.val (.int p1)] [(.int (45 : Int32)), (.int p1)])) _
                                refine XS.icmpYes X0.here hx rfl (pc0 := 93) (pc' := 132) rfl (hb hby d12_93) rfl (teq hc93).1 (by decide) (by decide) ?_
                                refine XS.iconst X0.here hx rfl (hb hby d12_132) ?_
                                refine XS.goto X0.here hx rfl (pc0 := 133) (pc' := 137) rfl (hb hby d12_133) (by decide) (by decide) ?_
                                show Steps p.tables e below (s₁.setTop (mkF m 137 #[.val (.int p1)] [(.int (1 : Int32))])) _
                                exact retN X0 hx (t := .boolean) Bd.returns (by simp) (hb hby d12_137) hr
                              · show Q12 Z p1 h0 n0 _ s₁.heap _
                                rw [e0]
                                exact ⟨by simp only [own_tchar, if_neg hc3, if_pos hc9, if_neg hc17, if_pos hc23, if_pos hc31, if_neg hc45, if_neg hc51, if_neg hc57, if_neg hc63, if_neg hc69, if_neg hc75, if_neg hc81, if_neg hc87, if_pos hc93], N0, rfl⟩
                            · have pre113 : ∀ t, Steps p.tables e below (s₁.setTop (mkF m 99 #[.val (.int p1)] [(.int (46 : Int32)), (.int p1)])) t → Steps p.tables e below _ t := fun t kt => pre112 t (by
                                show Steps p.tables e below (s₁.setTop (mkF m 93 #[.val (.int p1)] [(.int (45 : Int32)), (.int p1)])) _
                                refine XS.icmpNo X0.here hx rfl (hb hby d12_93) rfl (feq hc93).1 ?_
                                refine XS.iloadN X0.here hx rfl (hb hby d12_96) rfl ?_
                                refine XS.bipush X0.here hx rfl (hb hby d12_97) ?_
                                exact kt)
                              by_cases hc99 : p1 = (46 : Int32)
                              · obtain ⟨fs, hr, hrun, hended, hW, hsame⟩ := X0.leave (v := some (.int (1 : Int32))) (fun h => by rw [Bd.returns] at h; cases h)
                                refine ⟨_, _, pre113 _ ?_, hrun, hended, _, _, rfl, ?_, ⟨_, rfl⟩, hW, hsame.mono (by decide) (by decide)⟩
                                · show Steps p.tables e below (s₁.setTop (mkF m 99 #[.val (.int p1)] [(.int (46 : Int32)), (.int p1)])) _
                                  refine XS.icmpYes X0.here hx rfl (pc0 := 99) (pc' := 132) rfl (hb hby d12_99) rfl (teq hc99).1 (by decide) (by decide) ?_
                                  refine XS.iconst X0.here hx rfl (hb hby d12_132) ?_
                                  refine XS.goto X0.here hx rfl (pc0 := 133) (pc' := 137) rfl (hb hby d12_133) (by decide) (by decide) ?_
                                  show Steps p.tables e below (s₁.setTop (mkF m 137 #[.val (.int p1)] [(.int (1 : Int32))])) _
                                  exact retN X0 hx (t := .boolean) Bd.returns (by simp) (hb hby d12_137) hr
                                · show Q12 Z p1 h0 n0 _ s₁.heap _
                                  rw [e0]
                                  exact ⟨by simp only [own_tchar, if_neg hc3, if_pos hc9, if_neg hc17, if_pos hc23, if_pos hc31, if_neg hc45, if_neg hc51, if_neg hc57, if_neg hc63, if_neg hc69, if_neg hc75, if_neg hc81, if_neg hc87, if_neg hc93, if_pos hc99], N0, rfl⟩
                              · have pre114 : ∀ t, Steps p.tables e below (s₁.setTop (mkF m 105 #[.val (.int p1)] [(.int (94 : Int32)), (.int p1)])) t → Steps p.tables e below _ t := fun t kt => pre113 t (by
                                  show Steps p.tables e below (s₁.setTop (mkF m 99 #[.val (.int p1)] [(.int (46 : Int32)), (.int p1)])) _
                                  refine XS.icmpNo X0.here hx rfl (hb hby d12_99) rfl (feq hc99).1 ?_
                                  refine XS.iloadN X0.here hx rfl (hb hby d12_102) rfl ?_
                                  refine XS.bipush X0.here hx rfl (hb hby d12_103) ?_
                                  exact kt)
                                by_cases hc105 : p1 = (94 : Int32)
                                · obtain ⟨fs, hr, hrun, hended, hW, hsame⟩ := X0.leave (v := some (.int (1 : Int32))) (fun h => by rw [Bd.returns] at h; cases h)
                                  refine ⟨_, _, pre114 _ ?_, hrun, hended, _, _, rfl, ?_, ⟨_, rfl⟩, hW, hsame.mono (by decide) (by decide)⟩
                                  · show Steps p.tables e below (s₁.setTop (mkF m 105 #[.val (.int p1)] [(.int (94 : Int32)), (.int p1)])) _
                                    refine XS.icmpYes X0.here hx rfl (pc0 := 105) (pc' := 132) rfl (hb hby d12_105) rfl (teq hc105).1 (by decide) (by decide) ?_
                                    refine XS.iconst X0.here hx rfl (hb hby d12_132) ?_
                                    refine XS.goto X0.here hx rfl (pc0 := 133) (pc' := 137) rfl (hb hby d12_133) (by decide) (by decide) ?_
                                    show Steps p.tables e below (s₁.setTop (mkF m 137 #[.val (.int p1)] [(.int (1 : Int32))])) _
                                    exact retN X0 hx (t := .boolean) Bd.returns (by simp) (hb hby d12_137) hr
                                  · show Q12 Z p1 h0 n0 _ s₁.heap _
                                    rw [e0]
                                    exact ⟨by simp only [own_tchar, if_neg hc3, if_pos hc9, if_neg hc17, if_pos hc23, if_pos hc31, if_neg hc45, if_neg hc51, if_neg hc57, if_neg hc63, if_neg hc69, if_neg hc75, if_neg hc81, if_neg hc87, if_neg hc93, if_neg hc99, if_pos hc105], N0, rfl⟩
                                · have pre115 : ∀ t, Steps p.tables e below (s₁.setTop (mkF m 111 #[.val (.int p1)] [(.int (95 : Int32)), (.int p1)])) t → Steps p.tables e below _ t := fun t kt => pre114 t (by
                                    show Steps p.tables e below (s₁.setTop (mkF m 105 #[.val (.int p1)] [(.int (94 : Int32)), (.int p1)])) _
                                    refine XS.icmpNo X0.here hx rfl (hb hby d12_105) rfl (feq hc105).1 ?_
                                    refine XS.iloadN X0.here hx rfl (hb hby d12_108) rfl ?_
                                    refine XS.bipush X0.here hx rfl (hb hby d12_109) ?_
                                    exact kt)
                                  by_cases hc111 : p1 = (95 : Int32)
                                  · obtain ⟨fs, hr, hrun, hended, hW, hsame⟩ := X0.leave (v := some (.int (1 : Int32))) (fun h => by rw [Bd.returns] at h; cases h)
                                    refine ⟨_, _, pre115 _ ?_, hrun, hended, _, _, rfl, ?_, ⟨_, rfl⟩, hW, hsame.mono (by decide) (by decide)⟩
                                    · show Steps p.tables e below (s₁.setTop (mkF m 111 #[.val (.int p1)] [(.int (95 : Int32)), (.int p1)])) _
                                      refine XS.icmpYes X0.here hx rfl (pc0 := 111) (pc' := 132) rfl (hb hby d12_111) rfl (teq hc111).1 (by decide) (by decide) ?_
                                      refine XS.iconst X0.here hx rfl (hb hby d12_132) ?_
                                      refine XS.goto X0.here hx rfl (pc0 := 133) (pc' := 137) rfl (hb hby d12_133) (by decide) (by decide) ?_
                                      show Steps p.tables e below (s₁.setTop (mkF m 137 #[.val (.int p1)] [(.int (1 : Int32))])) _
                                      exact retN X0 hx (t := .boolean) Bd.returns (by simp) (hb hby d12_137) hr
                                    · show Q12 Z p1 h0 n0 _ s₁.heap _
                                      rw [e0]
                                      exact ⟨by simp only [own_tchar, if_neg hc3, if_pos hc9, if_neg hc17, if_pos hc23, if_pos hc31, if_neg hc45, if_neg hc51, if_neg hc57, if_neg hc63, if_neg hc69, if_neg hc75, if_neg hc81, if_neg hc87, if_neg hc93, if_neg hc99, if_neg hc105, if_pos hc111], N0, rfl⟩
                                  · have pre116 : ∀ t, Steps p.tables e below (s₁.setTop (mkF m 117 #[.val (.int p1)] [(.int (96 : Int32)), (.int p1)])) t → Steps p.tables e below _ t := fun t kt => pre115 t (by
                                      show Steps p.tables e below (s₁.setTop (mkF m 111 #[.val (.int p1)] [(.int (95 : Int32)), (.int p1)])) _
                                      refine XS.icmpNo X0.here hx rfl (hb hby d12_111) rfl (feq hc111).1 ?_
                                      refine XS.iloadN X0.here hx rfl (hb hby d12_114) rfl ?_
                                      refine XS.bipush X0.here hx rfl (hb hby d12_115) ?_
                                      exact kt)
                                    by_cases hc117 : p1 = (96 : Int32)
                                    · obtain ⟨fs, hr, hrun, hended, hW, hsame⟩ := X0.leave (v := some (.int (1 : Int32))) (fun h => by rw [Bd.returns] at h; cases h)
                                      refine ⟨_, _, pre116 _ ?_, hrun, hended, _, _, rfl, ?_, ⟨_, rfl⟩, hW, hsame.mono (by decide) (by decide)⟩
                                      · show Steps p.tables e below (s₁.setTop (mkF m 117 #[.val (.int p1)] [(.int (96 : Int32)), (.int p1)])) _
                                        refine XS.icmpYes X0.here hx rfl (pc0 := 117) (pc' := 132) rfl (hb hby d12_117) rfl (teq hc117).1 (by decide) (by decide) ?_
                                        refine XS.iconst X0.here hx rfl (hb hby d12_132) ?_
                                        refine XS.goto X0.here hx rfl (pc0 := 133) (pc' := 137) rfl (hb hby d12_133) (by decide) (by decide) ?_
                                        show Steps p.tables e below (s₁.setTop (mkF m 137 #[.val (.int p1)] [(.int (1 : Int32))])) _
                                        exact retN X0 hx (t := .boolean) Bd.returns (by simp) (hb hby d12_137) hr
                                      · show Q12 Z p1 h0 n0 _ s₁.heap _
                                        rw [e0]
                                        exact ⟨by simp only [own_tchar, if_neg hc3, if_pos hc9, if_neg hc17, if_pos hc23, if_pos hc31, if_neg hc45, if_neg hc51, if_neg hc57, if_neg hc63, if_neg hc69, if_neg hc75, if_neg hc81, if_neg hc87, if_neg hc93, if_neg hc99, if_neg hc105, if_neg hc111, if_pos hc117], N0, rfl⟩
                                    · have pre117 : ∀ t, Steps p.tables e below (s₁.setTop (mkF m 123 #[.val (.int p1)] [(.int (124 : Int32)), (.int p1)])) t → Steps p.tables e below _ t := fun t kt => pre116 t (by
                                        show Steps p.tables e below (s₁.setTop (mkF m 117 #[.val (.int p1)] [(.int (96 : Int32)), (.int p1)])) _
                                        refine XS.icmpNo X0.here hx rfl (hb hby d12_117) rfl (feq hc117).1 ?_
                                        refine XS.iloadN X0.here hx rfl (hb hby d12_120) rfl ?_
                                        refine XS.bipush X0.here hx rfl (hb hby d12_121) ?_
                                        exact kt)
                                      by_cases hc123 : p1 = (124 : Int32)
                                      · obtain ⟨fs, hr, hrun, hended, hW, hsame⟩ := X0.leave (v := some (.int (1 : Int32))) (fun h => by rw [Bd.returns] at h; cases h)
                                        refine ⟨_, _, pre117 _ ?_, hrun, hended, _, _, rfl, ?_, ⟨_, rfl⟩, hW, hsame.mono (by decide) (by decide)⟩
                                        · show Steps p.tables e below (s₁.setTop (mkF m 123 #[.val (.int p1)] [(.int (124 : Int32)), (.int p1)])) _
                                          refine XS.icmpYes X0.here hx rfl (pc0 := 123) (pc' := 132) rfl (hb hby d12_123) rfl (teq hc123).1 (by decide) (by decide) ?_
                                          refine XS.iconst X0.here hx rfl (hb hby d12_132) ?_
                                          refine XS.goto X0.here hx rfl (pc0 := 133) (pc' := 137) rfl (hb hby d12_133) (by decide) (by decide) ?_
                                          show Steps p.tables e below (s₁.setTop (mkF m 137 #[.val (.int p1)] [(.int (1 : Int32))])) _
                                          exact retN X0 hx (t := .boolean) Bd.returns (by simp) (hb hby d12_137) hr
                                        · show Q12 Z p1 h0 n0 _ s₁.heap _
                                          rw [e0]
                                          exact ⟨by simp only [own_tchar, if_neg hc3, if_pos hc9, if_neg hc17, if_pos hc23, if_pos hc31, if_neg hc45, if_neg hc51, if_neg hc57, if_neg hc63, if_neg hc69, if_neg hc75, if_neg hc81, if_neg hc87, if_neg hc93, if_neg hc99, if_neg hc105, if_neg hc111, if_neg hc117, if_pos hc123], N0, rfl⟩
                                      · have pre118 : ∀ t, Steps p.tables e below (s₁.setTop (mkF m 129 #[.val (.int p1)] [(.int (126 : Int32)), (.int p1)])) t → Steps p.tables e below _ t := fun t kt => pre117 t (by
                                          show Steps p.tables e below (s₁.setTop (mkF m 123 #[.val (.int p1)] [(.int (124 : Int32)), (.int p1)])) _
                                          refine XS.icmpNo X0.here hx rfl (hb hby d12_123) rfl (feq hc123).1 ?_
                                          refine XS.iloadN X0.here hx rfl (hb hby d12_126) rfl ?_
                                          refine XS.bipush X0.here hx rfl (hb hby d12_127) ?_
                                          exact kt)
                                        by_cases hc129 : p1 = (126 : Int32)
                                        · obtain ⟨fs, hr, hrun, hended, hW, hsame⟩ := X0.leave (v := some (.int (1 : Int32))) (fun h => by rw [Bd.returns] at h; cases h)
                                          refine ⟨_, _, pre118 _ ?_, hrun, hended, _, _, rfl, ?_, ⟨_, rfl⟩, hW, hsame.mono (by decide) (by decide)⟩
                                          · show Steps p.tables e below (s₁.setTop (mkF m 129 #[.val (.int p1)] [(.int (126 : Int32)), (.int p1)])) _
                                            refine XS.icmpNo X0.here hx rfl (hb hby d12_129) rfl (teq hc129).2 ?_
                                            refine XS.iconst X0.here hx rfl (hb hby d12_132) ?_
                                            refine XS.goto X0.here hx rfl (pc0 := 133) (pc' := 137) rfl (hb hby d12_133) (by decide) (by decide) ?_
                                            show Steps p.tables e below (s₁.setTop (mkF m 137 #[.val (.int p1)] [(.int (1 : Int32))])) _
                                            exact retN X0 hx (t := .boolean) Bd.returns (by simp) (hb hby d12_137) hr
                                          · show Q12 Z p1 h0 n0 _ s₁.heap _
                                            rw [e0]
                                            exact ⟨by simp only [own_tchar, if_neg hc3, if_pos hc9, if_neg hc17, if_pos hc23, if_pos hc31, if_neg hc45, if_neg hc51, if_neg hc57, if_neg hc63, if_neg hc69, if_neg hc75, if_neg hc81, if_neg hc87, if_neg hc93, if_neg hc99, if_neg hc105, if_neg hc111, if_neg hc117, if_neg hc123, if_pos hc129], N0, rfl⟩
                                        · obtain ⟨fs, hr, hrun, hended, hW, hsame⟩ := X0.leave (v := some (.int (0 : Int32))) (fun h => by rw [Bd.returns] at h; cases h)
                                          refine ⟨_, _, pre118 _ ?_, hrun, hended, _, _, rfl, ?_, ⟨_, rfl⟩, hW, hsame.mono (by decide) (by decide)⟩
                                          · show Steps p.tables e below (s₁.setTop (mkF m 129 #[.val (.int p1)] [(.int (126 : Int32)), (.int p1)])) _
                                            refine XS.icmpYes X0.here hx rfl (pc0 := 129) (pc' := 136) rfl (hb hby d12_129) rfl (feq hc129).2 (by decide) (by decide) ?_
                                            refine XS.iconst X0.here hx rfl (hb hby d12_136) ?_
                                            show Steps p.tables e below (s₁.setTop (mkF m 137 #[.val (.int p1)] [(.int (0 : Int32))])) _
                                            exact retN X0 hx (t := .boolean) Bd.returns (by simp) (hb hby d12_137) hr
                                          · show Q12 Z p1 h0 n0 _ s₁.heap _
                                            rw [e0]
                                            exact ⟨by simp only [own_tchar, if_neg hc3, if_pos hc9, if_neg hc17, if_pos hc23, if_pos hc31, if_neg hc45, if_neg hc51, if_neg hc57, if_neg hc63, if_neg hc69, if_neg hc75, if_neg hc81, if_neg hc87, if_neg hc93, if_neg hc99, if_neg hc105, if_neg hc111, if_neg hc117, if_neg hc123, if_neg hc129], N0, rfl⟩
          · have pre119 : ∀ t, Steps p.tables e below (s₁.setTop (mkF m 37 #[.val (.int p1)] [(.int (122 : Int32)), (.int p1)])) t → Steps p.tables e below _ t := fun t kt => pre103 t (by
              show Steps p.tables e below (s₁.setTop (mkF m 31 #[.val (.int p1)] [(.int (97 : Int32)), (.int p1)])) _
              refine XS.icmpNo X0.here hx rfl (hb hby d12_31) rfl (flt hc31).1 ?_
              refine XS.iloadN X0.here hx rfl (hb hby d12_34) rfl ?_
              refine XS.bipush X0.here hx rfl (hb hby d12_35) ?_
              exact kt)
            by_cases hc37 : (122 : Int32) < p1
            · have pre120 : ∀ t, Steps p.tables e below (s₁.setTop (mkF m 45 #[.val (.int p1)] [(.int (33 : Int32)), (.int p1)])) t → Steps p.tables e below _ t := fun t kt => pre119 t (by
                show Steps p.tables e below (s₁.setTop (mkF m 37 #[.val (.int p1)] [(.int (122 : Int32)), (.int p1)])) _
                refine XS.icmpYes X0.here hx rfl (pc0 := 37) (pc' := 42) rfl (hb hby d12_37) rfl (tlt hc37).2.2.1 (by decide) (by decide) ?_
                refine XS.iloadN X0.here hx rfl (hb hby d12_42) rfl ?_
                refine XS.bipush X0.here hx rfl (hb hby d12_43) ?_
                exact kt)
              by_cases hc45 : p1 = (33 : Int32)
              · obtain ⟨fs, hr, hrun, hended, hW, hsame⟩ := X0.leave (v := some (.int (1 : Int32))) (fun h => by rw [Bd.returns] at h; cases h)
                refine ⟨_, _, pre120 _ ?_, hrun, hended, _, _, rfl, ?_, ⟨_, rfl⟩, hW, hsame.mono (by decide) (by decide)⟩
                · show Steps p.tables e below (s₁.setTop (mkF m 45 #[.val (.int p1)] [(.int (33 : Int32)), (.int p1)])) _
                  refine XS.icmpYes X0.here hx rfl (pc0 := 45) (pc' := 132) rfl (hb hby d12_45) rfl (teq hc45).1 (by decide) (by decide) ?_
                  refine XS.iconst X0.here hx rfl (hb hby d12_132) ?_
                  refine XS.goto X0.here hx rfl (pc0 := 133) (pc' := 137) rfl (hb hby d12_133) (by decide) (by decide) ?_
                  show Steps p.tables e below (s₁.setTop (mkF m 137 #[.val (.int p1)] [(.int (1 : Int32))])) _
                  exact retN X0 hx (t := .boolean) Bd.returns (by simp) (hb hby d12_137) hr
                · show Q12 Z p1 h0 n0 _ s₁.heap _
                  rw [e0]
                  exact ⟨by simp only [own_tchar, if_neg hc3, if_pos hc9, if_neg hc17, if_pos hc23, if_neg hc31, if_pos hc37, if_pos hc45], N0, rfl⟩
              · have pre121 : ∀ t, Steps p.tables e below (s₁.setTop (mkF m 51 #[.val (.int p1)] [(.int (35 : Int32)), (.int p1)])) t → Steps p.tables e below _ t := fun t kt => pre120 t (by
                  show Steps p.tables e below (s₁.setTop (mkF m 45 #[.val (.int p1)] [(.int (33 : Int32)), (.int p1)])) _
                  refine XS.icmpNo X0.here hx rfl (hb hby d12_45) rfl (feq hc45).1 ?_
                  refine XS.iloadN X0.here hx rfl (hb hby d12_48) rfl ?_
                  refine XS.bipush X0.here hx rfl (hb hby d12_49) ?_
                  exact kt)
                by_cases hc51 : p1 = (35 : Int32)
                · obtain ⟨fs, hr, hrun, hended, hW, hsame⟩ := X0.leave (v := some (.int (1 : Int32))) (fun h => by rw [Bd.returns] at h; cases h)
                  refine ⟨_, _, pre121 _ ?_, hrun, hended, _, _, rfl, ?_, ⟨_, rfl⟩, hW, hsame.mono (by decide) (by decide)⟩
                  · show Steps p.tables e below (s₁.setTop (mkF m 51 #[.val (.int p1)] [(.int (35 : Int32)), (.int p1)])) _
                    refine XS.icmpYes X0.here hx rfl (pc0 := 51) (pc' := 132) rfl (hb hby d12_51) rfl (teq hc51).1 (by decide) (by decide) ?_
                    refine XS.iconst X0.here hx rfl (hb hby d12_132) ?_
                    refine XS.goto X0.here hx rfl (pc0 := 133) (pc' := 137) rfl (hb hby d12_133) (by decide) (by decide) ?_
                    show Steps p.tables e below (s₁.setTop (mkF m 137 #[.val (.int p1)] [(.int (1 : Int32))])) _
                    exact retN X0 hx (t := .boolean) Bd.returns (by simp) (hb hby d12_137) hr
                  · show Q12 Z p1 h0 n0 _ s₁.heap _
                    rw [e0]
                    exact ⟨by simp only [own_tchar, if_neg hc3, if_pos hc9, if_neg hc17, if_pos hc23, if_neg hc31, if_pos hc37, if_neg hc45, if_pos hc51], N0, rfl⟩
                · have pre122 : ∀ t, Steps p.tables e below (s₁.setTop (mkF m 57 #[.val (.int p1)] [(.int (36 : Int32)), (.int p1)])) t → Steps p.tables e below _ t := fun t kt => pre121 t (by
                    show Steps p.tables e below (s₁.setTop (mkF m 51 #[.val (.int p1)] [(.int (35 : Int32)), (.int p1)])) _
                    refine XS.icmpNo X0.here hx rfl (hb hby d12_51) rfl (feq hc51).1 ?_
                    refine XS.iloadN X0.here hx rfl (hb hby d12_54) rfl ?_
                    refine XS.bipush X0.here hx rfl (hb hby d12_55) ?_
                    exact kt)
                  by_cases hc57 : p1 = (36 : Int32)
                  · obtain ⟨fs, hr, hrun, hended, hW, hsame⟩ := X0.leave (v := some (.int (1 : Int32))) (fun h => by rw [Bd.returns] at h; cases h)
                    refine ⟨_, _, pre122 _ ?_, hrun, hended, _, _, rfl, ?_, ⟨_, rfl⟩, hW, hsame.mono (by decide) (by decide)⟩
                    · show Steps p.tables e below (s₁.setTop (mkF m 57 #[.val (.int p1)] [(.int (36 : Int32)), (.int p1)])) _
                      refine XS.icmpYes X0.here hx rfl (pc0 := 57) (pc' := 132) rfl (hb hby d12_57) rfl (teq hc57).1 (by decide) (by decide) ?_
                      refine XS.iconst X0.here hx rfl (hb hby d12_132) ?_
                      refine XS.goto X0.here hx rfl (pc0 := 133) (pc' := 137) rfl (hb hby d12_133) (by decide) (by decide) ?_
                      show Steps p.tables e below (s₁.setTop (mkF m 137 #[.val (.int p1)] [(.int (1 : Int32))])) _
                      exact retN X0 hx (t := .boolean) Bd.returns (by simp) (hb hby d12_137) hr
                    · show Q12 Z p1 h0 n0 _ s₁.heap _
                      rw [e0]
                      exact ⟨by simp only [own_tchar, if_neg hc3, if_pos hc9, if_neg hc17, if_pos hc23, if_neg hc31, if_pos hc37, if_neg hc45, if_neg hc51, if_pos hc57], N0, rfl⟩
                  · have pre123 : ∀ t, Steps p.tables e below (s₁.setTop (mkF m 63 #[.val (.int p1)] [(.int (37 : Int32)), (.int p1)])) t → Steps p.tables e below _ t := fun t kt => pre122 t (by
                      show Steps p.tables e below (s₁.setTop (mkF m 57 #[.val (.int p1)] [(.int (36 : Int32)), (.int p1)])) _
                      refine XS.icmpNo X0.here hx rfl (hb hby d12_57) rfl (feq hc57).1 ?_
                      refine XS.iloadN X0.here hx rfl (hb hby d12_60) rfl ?_
                      refine XS.bipush X0.here hx rfl (hb hby d12_61) ?_
                      exact kt)
                    by_cases hc63 : p1 = (37 : Int32)
                    · obtain ⟨fs, hr, hrun, hended, hW, hsame⟩ := X0.leave (v := some (.int (1 : Int32))) (fun h => by rw [Bd.returns] at h; cases h)
                      refine ⟨_, _, pre123 _ ?_, hrun, hended, _, _, rfl, ?_, ⟨_, rfl⟩, hW, hsame.mono (by decide) (by decide)⟩
                      · show Steps p.tables e below (s₁.setTop (mkF m 63 #[.val (.int p1)] [(.int (37 : Int32)), (.int p1)])) _
                        refine XS.icmpYes X0.here hx rfl (pc0 := 63) (pc' := 132) rfl (hb hby d12_63) rfl (teq hc63).1 (by decide) (by decide) ?_
                        refine XS.iconst X0.here hx rfl (hb hby d12_132) ?_
                        refine XS.goto X0.here hx rfl (pc0 := 133) (pc' := 137) rfl (hb hby d12_133) (by decide) (by decide) ?_
                        show Steps p.tables e below (s₁.setTop (mkF m 137 #[.val (.int p1)] [(.int (1 : Int32))])) _
                        exact retN X0 hx (t := .boolean) Bd.returns (by simp) (hb hby d12_137) hr
                      · show Q12 Z p1 h0 n0 _ s₁.heap _
                        rw [e0]
                        exact ⟨by simp only [own_tchar, if_neg hc3, if_pos hc9, if_neg hc17, if_pos hc23, if_neg hc31, if_pos hc37, if_neg hc45, if_neg hc51, if_neg hc57, if_pos hc63], N0, rfl⟩
                    · have pre124 : ∀ t, Steps p.tables e below (s₁.setTop (mkF m 69 #[.val (.int p1)] [(.int (38 : Int32)), (.int p1)])) t → Steps p.tables e below _ t := fun t kt => pre123 t (by
                        show Steps p.tables e below (s₁.setTop (mkF m 63 #[.val (.int p1)] [(.int (37 : Int32)), (.int p1)])) _
                        refine XS.icmpNo X0.here hx rfl (hb hby d12_63) rfl (feq hc63).1 ?_
                        refine XS.iloadN X0.here hx rfl (hb hby d12_66) rfl ?_
                        refine XS.bipush X0.here hx rfl (hb hby d12_67) ?_
                        exact kt)
                      by_cases hc69 : p1 = (38 : Int32)
                      · obtain ⟨fs, hr, hrun, hended, hW, hsame⟩ := X0.leave (v := some (.int (1 : Int32))) (fun h => by rw [Bd.returns] at h; cases h)
                        refine ⟨_, _, pre124 _ ?_, hrun, hended, _, _, rfl, ?_, ⟨_, rfl⟩, hW, hsame.mono (by decide) (by decide)⟩
                        · show Steps p.tables e below (s₁.setTop (mkF m 69 #[.val (.int p1)] [(.int (38 : Int32)), (.int p1)])) _
                          refine XS.icmpYes X0.here hx rfl (pc0 := 69) (pc' := 132) rfl (hb hby d12_69) rfl (teq hc69).1 (by decide) (by decide) ?_
                          refine XS.iconst X0.here hx rfl (hb hby d12_132) ?_
                          refine XS.goto X0.here hx rfl (pc0 := 133) (pc' := 137) rfl (hb hby d12_133) (by decide) (by decide) ?_
                          show Steps p.tables e below (s₁.setTop (mkF m 137 #[.val (.int p1)] [(.int (1 : Int32))])) _
                          exact retN X0 hx (t := .boolean) Bd.returns (by simp) (hb hby d12_137) hr
                        · show Q12 Z p1 h0 n0 _ s₁.heap _
                          rw [e0]
                          exact ⟨by simp only [own_tchar, if_neg hc3, if_pos hc9, if_neg hc17, if_pos hc23, if_neg hc31, if_pos hc37, if_neg hc45, if_neg hc51, if_neg hc57, if_neg hc63, if_pos hc69], N0, rfl⟩
                      · have pre125 : ∀ t, Steps p.tables e below (s₁.setTop (mkF m 75 #[.val (.int p1)] [(.int (39 : Int32)), (.int p1)])) t → Steps p.tables e below _ t := fun t kt => pre124 t (by
                          show Steps p.tables e below (s₁.setTop (mkF m 69 #[.val (.int p1)] [(.int (38 : Int32)), (.int p1)])) _
                          refine XS.icmpNo X0.here hx rfl (hb hby d12_69) rfl (feq hc69).1 ?_
                          refine XS.iloadN X0.here hx rfl (hb hby d12_72) rfl ?_
                          refine XS.bipush X0.here hx rfl (hb hby d12_73) ?_
                          exact kt)
                        by_cases hc75 : p1 = (39 : Int32)
                        · obtain ⟨fs, hr, hrun, hended, hW, hsame⟩ := X0.leave (v := some (.int (1 : Int32))) (fun h => by rw [Bd.returns] at h; cases h)
                          refine ⟨_, _, pre125 _ ?_, hrun, hended, _, _, rfl, ?_, ⟨_, rfl⟩, hW, hsame.mono (by decide) (by decide)⟩
                          · show Steps p.tables e below (s₁.setTop (mkF m 75 #[.val (.int p1)] [(.int (39 : Int32)), (.int p1)])) _
                            refine XS.icmpYes X0.here hx rfl (pc0 := 75) (pc' := 132) rfl (hb hby d12_75) rfl (teq hc75).1 (by decide) (by decide) ?_
                            refine XS.iconst X0.here hx rfl (hb hby d12_132) ?_
                            refine XS.goto X0.here hx rfl (pc0 := 133) (pc' := 137) rfl (hb hby d12_133) (by decide) (by decide) ?_
                            show Steps p.tables e below (s₁.setTop (mkF m 137 #[.val (.int p1)] [(.int (1 : Int32))])) _
                            exact retN X0 hx (t := .boolean) Bd.returns (by simp) (hb hby d12_137) hr
                          · show Q12 Z p1 h0 n0 _ s₁.heap _
                            rw [e0]
                            exact ⟨by simp only [own_tchar, if_neg hc3, if_pos hc9, if_neg hc17, if_pos hc23, if_neg hc31, if_pos hc37, if_neg hc45, if_neg hc51, if_neg hc57, if_neg hc63, if_neg hc69, if_pos hc75], N0, rfl⟩
                        · have pre126 : ∀ t, Steps p.tables e below (s₁.setTop (mkF m 81 #[.val (.int p1)] [(.int (42 : Int32)), (.int p1)])) t → Steps p.tables e below _ t := fun t kt => pre125 t (by
                            show Steps p.tables e below (s₁.setTop (mkF m 75 #[.val (.int p1)] [(.int (39 : Int32)), (.int p1)])) _
                            refine XS.icmpNo X0.here hx rfl (hb hby d12_75) rfl (feq hc75).1 ?_
                            refine XS.iloadN X0.here hx rfl (hb hby d12_78) rfl ?_
                            refine XS.bipush X0.here hx rfl (hb hby d12_79) ?_
                            exact kt)
                          by_cases hc81 : p1 = (42 : Int32)
                          · obtain ⟨fs, hr, hrun, hended, hW, hsame⟩ := X0.leave (v := some (.int (1 : Int32))) (fun h => by rw [Bd.returns] at h; cases h)
                            refine ⟨_, _, pre126 _ ?_, hrun, hended, _, _, rfl, ?_, ⟨_, rfl⟩, hW, hsame.mono (by decide) (by decide)⟩
                            · show Steps p.tables e below (s₁.setTop (mkF m 81 #[.val (.int p1)] [(.int (42 : Int32)), (.int p1)])) _
                              refine XS.icmpYes X0.here hx rfl (pc0 := 81) (pc' := 132) rfl (hb hby d12_81) rfl (teq hc81).1 (by decide) (by decide) ?_
                              refine XS.iconst X0.here hx rfl (hb hby d12_132) ?_
                              refine XS.goto X0.here hx rfl (pc0 := 133) (pc' := 137) rfl (hb hby d12_133) (by decide) (by decide) ?_
                              show Steps p.tables e below (s₁.setTop (mkF m 137 #[.val (.int p1)] [(.int (1 : Int32))])) _
                              exact retN X0 hx (t := .boolean) Bd.returns (by simp) (hb hby d12_137) hr
                            · show Q12 Z p1 h0 n0 _ s₁.heap _
                              rw [e0]
                              exact ⟨by simp only [own_tchar, if_neg hc3, if_pos hc9, if_neg hc17, if_pos hc23, if_neg hc31, if_pos hc37, if_neg hc45, if_neg hc51, if_neg hc57, if_neg hc63, if_neg hc69, if_neg hc75, if_pos hc81], N0, rfl⟩
                          · have pre127 : ∀ t, Steps p.tables e below (s₁.setTop (mkF m 87 #[.val (.int p1)] [(.int (43 : Int32)), (.int p1)])) t → Steps p.tables e below _ t := fun t kt => pre126 t (by
                              show Steps p.tables e below (s₁.setTop (mkF m 81 #[.val (.int p1)] [(.int (42 : Int32)), (.int p1)])) _
                              refine XS.icmpNo X0.here hx rfl (hb hby d12_81) rfl (feq hc81).1 ?_
                              refine XS.iloadN X0.here hx rfl (hb hby d12_84) rfl ?_
                              refine XS.bipush X0.here hx rfl (hb hby d12_85) ?_
                              exact kt)
                            by_cases hc87 : p1 = (43 : Int32)
                            · obtain ⟨fs, hr, hrun, hended, hW, hsame⟩ := X0.leave (v := some (.int (1 : Int32))) (fun h => by rw [Bd.returns] at h; cases h)
                              refine ⟨_, _, pre127 _ ?_, hrun, hended, _, _, rfl, ?_, ⟨_, rfl⟩, hW, hsame.mono (by decide) (by decide)⟩
                              · show Steps p.tables e below (s₁.setTop (mkF m 87 #[.val (.int p1)] [(.int (43 : Int32)), (.int p1)])) _
                                refine XS.icmpYes X0.here hx rfl (pc0 := 87) (pc' := 132) rfl (hb hby d12_87) rfl (teq hc87).1 (by decide) (by decide) ?_
                                refine XS.iconst X0.here hx rfl (hb hby d12_132) ?_
                                refine XS.goto X0.here hx rfl (pc0 := 133) (pc' := 137) rfl (hb hby d12_133) (by decide) (by decide) ?_
                                show Steps p.tables e below (s₁.setTop (mkF m 137 #[.val (.int p1)] [(.int (1 : Int32))])) _
                                exact retN X0 hx (t := .boolean) Bd.returns (by simp) (hb hby d12_137) hr
                              · show Q12 Z p1 h0 n0 _ s₁.heap _
                                rw [e0]
                                exact ⟨by simp only [own_tchar, if_neg hc3, if_pos hc9, if_neg hc17, if_pos hc23, if_neg hc31, if_pos hc37, if_neg hc45, if_neg hc51, if_neg hc57, if_neg hc63, if_neg hc69, if_neg hc75, if_neg hc81, if_pos hc87], N0, rfl⟩
                            · have pre128 : ∀ t, Steps p.tables e below (s₁.setTop (mkF m 93 #[.val (.int p1)] [(.int (45 : Int32)), (.int p1)])) t → Steps p.tables e below _ t := fun t kt => pre127 t (by
                                show Steps p.tables e below (s₁.setTop (mkF m 87 #[.val (.int p1)] [(.int (43 : Int32)), (.int p1)])) _
                                refine XS.icmpNo X0.here hx rfl (hb hby d12_87) rfl (feq hc87).1 ?_
                                refine XS.iloadN X0.here hx rfl (hb hby d12_90) rfl ?_
                                refine XS.bipush X0.here hx rfl (hb hby d12_91) ?_
                                exact kt)
                              by_cases hc93 : p1 = (45 : Int32)
                              · obtain ⟨fs, hr, hrun, hended, hW, hsame⟩ := X0.leave (v := some (.int (1 : Int32))) (fun h => by rw [Bd.returns] at h; cases h)
                                refine ⟨_, _, pre128 _ ?_, hrun, hended, _, _, rfl, ?_, ⟨_, rfl⟩, hW, hsame.mono (by decide) (by decide)⟩
                                · show Steps p.tables e below (s₁.setTop (mkF m 93 #[.val (.int p1)] [(.int (45 : Int32)), (.int p1)])) _
                                  refine XS.icmpYes X0.here hx rfl (pc0 := 93) (pc' := 132) rfl (hb hby d12_93) rfl (teq hc93).1 (by decide) (by decide) ?_
                                  refine XS.iconst X0.here hx rfl (hb hby d12_132) ?_
                                  refine XS.goto X0.here hx rfl (pc0 := 133) (pc' := 137) rfl (hb hby d12_133) (by decide) (by decide) ?_
                                  show Steps p.tables e below (s₁.setTop (mkF m 137 #[.val (.int p1)] [(.int (1 : Int32))])) _
                                  exact retN X0 hx (t := .boolean) Bd.returns (by simp) (hb hby d12_137) hr
                                · show Q12 Z p1 h0 n0 _ s₁.heap _
                                  rw [e0]
                                  exact ⟨by simp only [own_tchar, if_neg hc3, if_pos hc9, if_neg hc17, if_pos hc23, if_neg hc31, if_pos hc37, if_neg hc45, if_neg hc51, if_neg hc57, if_neg hc63, if_neg hc69, if_neg hc75, if_neg hc81, if_neg hc87, if_pos hc93], N0, rfl⟩
                              · have pre129 : ∀ t, Steps p.tables e below (s₁.setTop (mkF m 99 #[.val (.int p1)] [(.int (46 : Int32)), (.int p1)])) t → Steps p.tables e below _ t := fun t kt => pre128 t (by
                                  show Steps p.tables e below (s₁.setTop (mkF m 93 #[.val (.int p1)] [(.int (45 : Int32)), (.int p1)])) _
                                  refine XS.icmpNo X0.here hx rfl (hb hby d12_93) rfl (feq hc93).1 ?_
                                  refine XS.iloadN X0.here hx rfl (hb hby d12_96) rfl ?_
                                  refine XS.bipush X0.here hx rfl (hb hby d12_97) ?_
                                  exact kt)
                                by_cases hc99 : p1 = (46 : Int32)
                                · obtain ⟨fs, hr, hrun, hended, hW, hsame⟩ := X0.leave (v := some (.int (1 : Int32))) (fun h => by rw [Bd.returns] at h; cases h)
                                  refine ⟨_, _, pre129 _ ?_, hrun, hended, _, _, rfl, ?_, ⟨_, rfl⟩, hW, hsame.mono (by decide) (by decide)⟩
                                  · show Steps p.tables e below (s₁.setTop (mkF m 99 #[.val (.int p1)] [(.int (46 : Int32)), (.int p1)])) _
                                    refine XS.icmpYes X0.here hx rfl (pc0 := 99) (pc' := 132) rfl (hb hby d12_99) rfl (teq hc99).1 (by decide) (by decide) ?_
                                    refine XS.iconst X0.here hx rfl (hb hby d12_132) ?_
                                    refine XS.goto X0.here hx rfl (pc0 := 133) (pc' := 137) rfl (hb hby d12_133) (by decide) (by decide) ?_
                                    show Steps p.tables e below (s₁.setTop (mkF m 137 #[.val (.int p1)] [(.int (1 : Int32))])) _
                                    exact retN X0 hx (t := .boolean) Bd.returns (by simp) (hb hby d12_137) hr
                                  · show Q12 Z p1 h0 n0 _ s₁.heap _
                                    rw [e0]
                                    exact ⟨by simp only [own_tchar, if_neg hc3, if_pos hc9, if_neg hc17, if_pos hc23, if_neg hc31, if_pos hc37, if_neg hc45, if_neg hc51, if_neg hc57, if_neg hc63, if_neg hc69, if_neg hc75, if_neg hc81, if_neg hc87, if_neg hc93, if_pos hc99], N0, rfl⟩
                                · have pre130 : ∀ t, Steps p.tables e below (s₁.setTop (mkF m 105 #[.val (.int p1)] [(.int (94 : Int32)), (.int p1)])) t → Steps p.tables e below _ t := fun t kt => pre129 t (by
                                    show Steps p.tables e below (s₁.setTop (mkF m 99 #[.val (.int p1)] [(.int (46 : Int32)), (.int p1)])) _
                                    refine XS.icmpNo X0.here hx rfl (hb hby d12_99) rfl (feq hc99).1 ?_
                                    refine XS.iloadN X0.here hx rfl (hb hby d12_102) rfl ?_
                                    refine XS.bipush X0.here hx rfl (hb hby d12_103) ?_
                                    exact kt)
                                  by_cases hc105 : p1 = (94 : Int32)
                                  · obtain ⟨fs, hr, hrun, hended, hW, hsame⟩ := X0.leave (v := some (.int (1 : Int32))) (fun h => by rw [Bd.returns] at h; cases h)
                                    refine ⟨_, _, pre130 _ ?_, hrun, hended, _, _, rfl, ?_, ⟨_, rfl⟩, hW, hsame.mono (by decide) (by decide)⟩
                                    · show Steps p.tables e below (s₁.setTop (mkF m 105 #[.val (.int p1)] [(.int (94 : Int32)), (.int p1)])) _
                                      refine XS.icmpYes X0.here hx rfl (pc0 := 105) (pc' := 132) rfl (hb hby d12_105) rfl (teq hc105).1 (by decide) (by decide) ?_
                                      refine XS.iconst X0.here hx rfl (hb hby d12_132) ?_
                                      refine XS.goto X0.here hx rfl (pc0 := 133) (pc' := 137) rfl (hb hby d12_133) (by decide) (by decide) ?_
                                      show Steps p.tables e below (s₁.setTop (mkF m 137 #[.val (.int p1)] [(.int (1 : Int32))])) _
                                      exact retN X0 hx (t := .boolean) Bd.returns (by simp) (hb hby d12_137) hr
                                    · show Q12 Z p1 h0 n0 _ s₁.heap _
                                      rw [e0]
                                      exact ⟨by simp only [own_tchar, if_neg hc3, if_pos hc9, if_neg hc17, if_pos hc23, if_neg hc31, if_pos hc37, if_neg hc45, if_neg hc51, if_neg hc57, if_neg hc63, if_neg hc69, if_neg hc75, if_neg hc81, if_neg hc87, if_neg hc93, if_neg hc99, if_pos hc105], N0, rfl⟩
                                  · have pre131 : ∀ t, Steps p.tables e below (s₁.setTop (mkF m 111 #[.val (.int p1)] [(.int (95 : Int32)), (.int p1)])) t → Steps p.tables e below _ t := fun t kt => pre130 t (by
                                      show Steps p.tables e below (s₁.setTop (mkF m 105 #[.val (.int p1)] [(.int (94 : Int32)), (.int p1)])) _
                                      refine XS.icmpNo X0.here hx rfl (hb hby d12_105) rfl (feq hc105).1 ?_
                                      refine XS.iloadN X0.here hx rfl (hb hby d12_108) rfl ?_
                                      refine XS.bipush X0.here hx rfl (hb hby d12_109) ?_
                                      exact kt)
                                    by_cases hc111 : p1 = (95 : Int32)
                                    · obtain ⟨fs, hr, hrun, hended, hW, hsame⟩ := X0.leave (v := some (.int (1 : Int32))) (fun h => by rw [Bd.returns] at h; cases h)
                                      refine ⟨_, _, pre131 _ ?_, hrun, hended, _, _, rfl, ?_, ⟨_, rfl⟩, hW, hsame.mono (by decide) (by decide)⟩
                                      · show Steps p.tables e below (s₁.setTop (mkF m 111 #[.val (.int p1)] [(.int (95 : Int32)), (.int p1)])) _
                                        refine XS.icmpYes X0.here hx rfl (pc0 := 111) (pc' := 132) rfl (hb hby d12_111) rfl (teq hc111).1 (by decide) (by decide) ?_
                                        refine XS.iconst X0.here hx rfl (hb hby d12_132) ?_
                                        refine XS.goto X0.here hx rfl (pc0 := 133) (pc' := 137) rfl (hb hby d12_133) (by decide) (by decide) ?_
                                        show Steps p.tables e below (s₁.setTop (mkF m 137 #[.val (.int p1)] [(.int (1 : Int32))])) _
                                        exact retN X0 hx (t := .boolean) Bd.returns (by simp) (hb hby d12_137) hr
                                      · show Q12 Z p1 h0 n0 _ s₁.heap _
                                        rw [e0]
                                        exact ⟨by simp only [own_tchar, if_neg hc3, if_pos hc9, if_neg hc17, if_pos hc23, if_neg hc31, if_pos hc37, if_neg hc45, if_neg hc51, if_neg hc57, if_neg hc63, if_neg hc69, if_neg hc75, if_neg hc81, if_neg hc87, if_neg hc93, if_neg hc99, if_neg hc105, if_pos hc111], N0, rfl⟩
                                    · have pre132 : ∀ t, Steps p.tables e below (s₁.setTop (mkF m 117 #[.val (.int p1)] [(.int (96 : Int32)), (.int p1)])) t → Steps p.tables e below _ t := fun t kt => pre131 t (by
                                        show Steps p.tables e below (s₁.setTop (mkF m 111 #[.val (.int p1)] [(.int (95 : Int32)), (.int p1)])) _
                                        refine XS.icmpNo X0.here hx rfl (hb hby d12_111) rfl (feq hc111).1 ?_
                                        refine XS.iloadN X0.here hx rfl (hb hby d12_114) rfl ?_
                                        refine XS.bipush X0.here hx rfl (hb hby d12_115) ?_
                                        exact kt)
                                      by_cases hc117 : p1 = (96 : Int32)
                                      · obtain ⟨fs, hr, hrun, hended, hW, hsame⟩ := X0.leave (v := some (.int (1 : Int32))) (fun h => by rw [Bd.returns] at h; cases h)
                                        refine ⟨_, _, pre132 _ ?_, hrun, hended, _, _, rfl, ?_, ⟨_, rfl⟩, hW, hsame.mono (by decide) (by decide)⟩
                                        · show Steps p.tables e below (s₁.setTop (mkF m 117 #[.val (.int p1)] [(.int (96 : Int32)), (.int p1)])) _
                                          refine XS.icmpYes X0.here hx rfl (pc0 := 117) (pc' := 132) rfl (hb hby d12_117) rfl (teq hc117).1 (by decide) (by decide) ?_
                                          refine XS.iconst X0.here hx rfl (hb hby d12_132) ?_
                                          refine XS.goto X0.here hx rfl (pc0 := 133) (pc' := 137) rfl (hb hby d12_133) (by decide) (by decide) ?_
                                          show Steps p.tables e below (s₁.setTop (mkF m 137 #[.val (.int p1)] [(.int (1 : Int32))])) _
                                          exact retN X0 hx (t := .boolean) Bd.returns (by simp) (hb hby d12_137) hr
                                        · show Q12 Z p1 h0 n0 _ s₁.heap _
                                          rw [e0]
                                          exact ⟨by simp only [own_tchar, if_neg hc3, if_pos hc9, if_neg hc17, if_pos hc23, if_neg hc31, if_pos hc37, if_neg hc45, if_neg hc51, if_neg hc57, if_neg hc63, if_neg hc69, if_neg hc75, if_neg hc81, if_neg hc87, if_neg hc93, if_neg hc99, if_neg hc105, if_neg hc111, if_pos hc117], N0, rfl⟩
                                      · have pre133 : ∀ t, Steps p.tables e below (s₁.setTop (mkF m 123 #[.val (.int p1)] [(.int (124 : Int32)), (.int p1)])) t → Steps p.tables e below _ t := fun t kt => pre132 t (by
                                          show Steps p.tables e below (s₁.setTop (mkF m 117 #[.val (.int p1)] [(.int (96 : Int32)), (.int p1)])) _
                                          refine XS.icmpNo X0.here hx rfl (hb hby d12_117) rfl (feq hc117).1 ?_
                                          refine XS.iloadN X0.here hx rfl (hb hby d12_120) rfl ?_
                                          refine XS.bipush X0.here hx rfl (hb hby d12_121) ?_
                                          exact kt)
                                        by_cases hc123 : p1 = (124 : Int32)
                                        · obtain ⟨fs, hr, hrun, hended, hW, hsame⟩ := X0.leave (v := some (.int (1 : Int32))) (fun h => by rw [Bd.returns] at h; cases h)
                                          refine ⟨_, _, pre133 _ ?_, hrun, hended, _, _, rfl, ?_, ⟨_, rfl⟩, hW, hsame.mono (by decide) (by decide)⟩
                                          · show Steps p.tables e below (s₁.setTop (mkF m 123 #[.val (.int p1)] [(.int (124 : Int32)), (.int p1)])) _
                                            refine XS.icmpYes X0.here hx rfl (pc0 := 123) (pc' := 132) rfl (hb hby d12_123) rfl (teq hc123).1 (by decide) (by decide) ?_
                                            refine XS.iconst X0.here hx rfl (hb hby d12_132) ?_
                                            refine XS.goto X0.here hx rfl (pc0 := 133) (pc' := 137) rfl (hb hby d12_133) (by decide) (by decide) ?_
                                            show Steps p.tables e below (s₁.setTop (mkF m 137 #[.val (.int p1)] [(.int (1 : Int32))])) _
                                            exact retN X0 hx (t := .boolean) Bd.returns (by simp) (hb hby d12_137) hr
                                          · show Q12 Z p1 h0 n0 _ s₁.heap _
                                            rw [e0]
                                            exact ⟨by simp only [own_tchar, if_neg hc3, if_pos hc9, if_neg hc17, if_pos hc23, if_neg hc31, if_pos hc37, if_neg hc45, if_neg hc51, if_neg hc57, if_neg hc63, if_neg hc69, if_neg hc75, if_neg hc81, if_neg hc87, if_neg hc93, if_neg hc99, if_neg hc105, if_neg hc111, if_neg hc117, if_pos hc123], N0, rfl⟩
                                        · have pre134 : ∀ t, Steps p.tables e below (s₁.setTop (mkF m 129 #[.val (.int p1)] [(.int (126 : Int32)), (.int p1)])) t → Steps p.tables e below _ t := fun t kt => pre133 t (by
                                            show Steps p.tables e below (s₁.setTop (mkF m 123 #[.val (.int p1)] [(.int (124 : Int32)), (.int p1)])) _
                                            refine XS.icmpNo X0.here hx rfl (hb hby d12_123) rfl (feq hc123).1 ?_
                                            refine XS.iloadN X0.here hx rfl (hb hby d12_126) rfl ?_
                                            refine XS.bipush X0.here hx rfl (hb hby d12_127) ?_
                                            exact kt)
                                          by_cases hc129 : p1 = (126 : Int32)
                                          · obtain ⟨fs, hr, hrun, hended, hW, hsame⟩ := X0.leave (v := some (.int (1 : Int32))) (fun h => by rw [Bd.returns] at h; cases h)
                                            refine ⟨_, _, pre134 _ ?_, hrun, hended, _, _, rfl, ?_, ⟨_, rfl⟩, hW, hsame.mono (by decide) (by decide)⟩
                                            · show Steps p.tables e below (s₁.setTop (mkF m 129 #[.val (.int p1)] [(.int (126 : Int32)), (.int p1)])) _
                                              refine XS.icmpNo X0.here hx rfl (hb hby d12_129) rfl (teq hc129).2 ?_
                                              refine XS.iconst X0.here hx rfl (hb hby d12_132) ?_
                                              refine XS.goto X0.here hx rfl (pc0 := 133) (pc' := 137) rfl (hb hby d12_133) (by decide) (by decide) ?_
                                              show Steps p.tables e below (s₁.setTop (mkF m 137 #[.val (.int p1)] [(.int (1 : Int32))])) _
                                              exact retN X0 hx (t := .boolean) Bd.returns (by simp) (hb hby d12_137) hr
                                            · show Q12 Z p1 h0 n0 _ s₁.heap _
                                              rw [e0]
                                              exact ⟨by simp only [own_tchar, if_neg hc3, if_pos hc9, if_neg hc17, if_pos hc23, if_neg hc31, if_pos hc37, if_neg hc45, if_neg hc51, if_neg hc57, if_neg hc63, if_neg hc69, if_neg hc75, if_neg hc81, if_neg hc87, if_neg hc93, if_neg hc99, if_neg hc105, if_neg hc111, if_neg hc117, if_neg hc123, if_pos hc129], N0, rfl⟩
                                          · obtain ⟨fs, hr, hrun, hended, hW, hsame⟩ := X0.leave (v := some (.int (0 : Int32))) (fun h => by rw [Bd.returns] at h; cases h)
                                            refine ⟨_, _, pre134 _ ?_, hrun, hended, _, _, rfl, ?_, ⟨_, rfl⟩, hW, hsame.mono (by decide) (by decide)⟩
                                            · show Steps p.tables e below (s₁.setTop (mkF m 129 #[.val (.int p1)] [(.int (126 : Int32)), (.int p1)])) _
                                              refine XS.icmpYes X0.here hx rfl (pc0 := 129) (pc' := 136) rfl (hb hby d12_129) rfl (feq hc129).2 (by decide) (by decide) ?_
                                              refine XS.iconst X0.here hx rfl (hb hby d12_136) ?_
                                              show Steps p.tables e below (s₁.setTop (mkF m 137 #[.val (.int p1)] [(.int (0 : Int32))])) _
                                              exact retN X0 hx (t := .boolean) Bd.returns (by simp) (hb hby d12_137) hr
                                            · show Q12 Z p1 h0 n0 _ s₁.heap _
                                              rw [e0]
                                              exact ⟨by simp only [own_tchar, if_neg hc3, if_pos hc9, if_neg hc17, if_pos hc23, if_neg hc31, if_pos hc37, if_neg hc45, if_neg hc51, if_neg hc57, if_neg hc63, if_neg hc69, if_neg hc75, if_neg hc81, if_neg hc87, if_neg hc93, if_neg hc99, if_neg hc105, if_neg hc111, if_neg hc117, if_neg hc123, if_neg hc129], N0, rfl⟩
            · obtain ⟨fs, hr, hrun, hended, hW, hsame⟩ := X0.leave (v := some (.int (1 : Int32))) (fun h => by rw [Bd.returns] at h; cases h)
              refine ⟨_, _, pre119 _ ?_, hrun, hended, _, _, rfl, ?_, ⟨_, rfl⟩, hW, hsame.mono (by decide) (by decide)⟩
              · show Steps p.tables e below (s₁.setTop (mkF m 37 #[.val (.int p1)] [(.int (122 : Int32)), (.int p1)])) _
                refine XS.icmpNo X0.here hx rfl (hb hby d12_37) rfl (flt hc37).2.2.1 ?_
                refine XS.iconst X0.here hx rfl (hb hby d12_40) ?_
                show Steps p.tables e below (s₁.setTop (mkF m 41 #[.val (.int p1)] [(.int (1 : Int32))])) _
                exact retN X0 hx (t := .boolean) Bd.returns (by simp) (hb hby d12_41) hr
              · show Q12 Z p1 h0 n0 _ s₁.heap _
                rw [e0]
                exact ⟨by simp only [own_tchar, if_neg hc3, if_pos hc9, if_neg hc17, if_pos hc23, if_neg hc31, if_neg hc37], N0, rfl⟩
        · obtain ⟨fs, hr, hrun, hended, hW, hsame⟩ := X0.leave (v := some (.int (1 : Int32))) (fun h => by rw [Bd.returns] at h; cases h)
          refine ⟨_, _, pre102 _ ?_, hrun, hended, _, _, rfl, ?_, ⟨_, rfl⟩, hW, hsame.mono (by decide) (by decide)⟩
          · show Steps p.tables e below (s₁.setTop (mkF m 23 #[.val (.int p1)] [(.int (90 : Int32)), (.int p1)])) _
            refine XS.icmpNo X0.here hx rfl (hb hby d12_23) rfl (flt hc23).2.2.1 ?_
            refine XS.iconst X0.here hx rfl (hb hby d12_26) ?_
            show Steps p.tables e below (s₁.setTop (mkF m 27 #[.val (.int p1)] [(.int (1 : Int32))])) _
            exact retN X0 hx (t := .boolean) Bd.returns (by simp) (hb hby d12_27) hr
          · show Q12 Z p1 h0 n0 _ s₁.heap _
            rw [e0]
            exact ⟨by simp only [own_tchar, if_neg hc3, if_pos hc9, if_neg hc17, if_neg hc23], N0, rfl⟩
    · obtain ⟨fs, hr, hrun, hended, hW, hsame⟩ := X0.leave (v := some (.int (1 : Int32))) (fun h => by rw [Bd.returns] at h; cases h)
      refine ⟨_, _, pre68 _ ?_, hrun, hended, _, _, rfl, ?_, ⟨_, rfl⟩, hW, hsame.mono (by decide) (by decide)⟩
      · show Steps p.tables e below (s₁.setTop (mkF m 9 #[.val (.int p1)] [(.int (57 : Int32)), (.int p1)])) _
        refine XS.icmpNo X0.here hx rfl (hb hby d12_9) rfl (flt hc9).2.2.1 ?_
        refine XS.iconst X0.here hx rfl (hb hby d12_12) ?_
        show Steps p.tables e below (s₁.setTop (mkF m 13 #[.val (.int p1)] [(.int (1 : Int32))])) _
        exact retN X0 hx (t := .boolean) Bd.returns (by simp) (hb hby d12_13) hr
      · show Q12 Z p1 h0 n0 _ s₁.heap _
        rw [e0]
        exact ⟨by simp only [own_tchar, if_neg hc3, if_neg hc9], N0, rfl⟩
theorem pn_17 : plainName "jdk/internal/util/Preconditions" = true := by first | (simp [plainName, overriddenIn]; done) | decide +kernel
theorem ef_17 (m : MethodId) (x0 : Int32) (x1 : Int32) (x2 : Value) (r2 : x2.isRef = true) : entryFrame m #[(.int x0), (.int x1), x2] 3 = mkF m 0 #[.val (.int x0), .val (.int x1), .val x2] [] := by
  rcases ref_cases r2 with rfl | ⟨z2, rfl⟩ <;> rfl
theorem d17_0 : decode jdk_41_method_11_code 0 = .ok (.iload_n 0, 1) := by decide +kernel
theorem d17_1 : decode jdk_41_method_11_code 1 = .ok (.ifCond .lt 8, 3) := by decide +kernel
theorem d17_4 : decode jdk_41_method_11_code 4 = .ok (.iload_n 0, 1) := by decide +kernel
theorem d17_5 : decode jdk_41_method_11_code 5 = .ok (.iload_n 1, 1) := by decide +kernel
theorem d17_6 : decode jdk_41_method_11_code 6 = .ok (.if_icmp .lt 10, 3) := by decide +kernel
theorem d17_16 : decode jdk_41_method_11_code 16 = .ok (.iload_n 0, 1) := by decide +kernel
theorem d17_17 : decode jdk_41_method_11_code 17 = .ok (.ireturn, 1) := by decide +kernel
def Q17 (Z : State) (p1 : Int32) (h0 : Heap) (n0 : Nat) (v : Option Value) (h : Heap) (L : List Loc) : Prop := v = some (.int p1) ∧ Fr n0 L ∧ h = h0
set_option maxRecDepth 65536 in
set_option maxHeartbeats 40000000 in
theorem rm17 (l : Launch) (Z : State) (a0 : Array Value) (hw : ∀ d ∈ tables_1, d.before a0 Z = true) (ws : List Jvm.Cond) (p1 : Int32) (p2 : Int32) (G3 : Value) (h0 : Heap) (n0 : Nat) (Z0 : n0 ≤ h0.size) (rG3 : G3.isRef = true) (hq1 : ¬ (p1 < (0 : Int32))) (hq6 : p1 < p2) :
    MetFree l (⟨"jdk/internal/util/Preconditions", "checkIndex", "(IILjava/util/function/BiFunction;)I"⟩ : MethodName) (head1 (Jvm.Cond.code (⟨"jdk/internal/util/Preconditions", "checkIndex", "(IILjava/util/function/BiFunction;)I"⟩ : MethodName) jdk_41_method_11_code 3 (some .int) :: ws) ({ frames := 0, cells := 0, slots := 0, locals := 0 } : Room)) (fun aa_ U => aa_ = #[(.int p1), (.int p2), G3] ∧ Z.Warmed39 U.vm ∧ U.heap = h0) (fun _ _ _ _ _ => True) (fun _ U o U' => ∃ v_ L_, o = .returned v_ ∧ Q17 Z p1 h0 n0 v_ U'.heap L_ ∧ FrameEnd U o U' L_ ({ frames := 0, cells := 0, slots := 0, locals := 0 } : Room).cells ({ frames := 0, cells := 0, slots := 0, locals := 0 } : Room).slots) := by
  refine MetFree.of_bodySF (plainFor_of_name pn_17) hisR ?_
  intro p e s m args below meth c s₁ Bd hml0 hP hK
  obtain ⟨rfl, hZ, hh⟩ := hP
  have hx := Bd.exec
  have hby := Bd.bytes
  have hml : c.maxLocals = 3 := hml0
  have hown : s.vm.findClass "jdk/internal/util/Preconditions" = some m.cls := findClass_of_methodNamed Bd.named
  have hnm := (name_of_methodNamed Bd.named Bd.method).1
  have X0 : Stand p l e ({ frames := 0, cells := 0, slots := 0, locals := 0 } : Room) s m #[(.int p1), (.int p2), G3] below meth c s₁ [] 0 0 := Stand.of_body Bd
  have e0 : s₁.heap = h0 := by rw [← hh, Bd.state]; rfl
  have N0 := Fr.nil n0
  have pre0 : ∀ t, Steps p.tables e below (s₁.setTop (mkF m 0 #[.val (.int p1), .val (.int p2), .val G3] [])) t → Steps p.tables e below (s₁.setTop (entryFrame m #[(.int p1), (.int p2), G3] 3)) t := fun t k_ => castTop (ef_17 m p1 p2 G3 rG3) k_
  obtain ⟨fs, hr, hrun, hended, hW, hsame⟩ := X0.leave (v := some (.int p1)) (fun h => by rw [Bd.returns] at h; cases h)
  refine ⟨_, _, pre0 _ ?_, hrun, hended, _, _, rfl, ?_, ⟨_, rfl⟩, hW, hsame.mono (by decide) (by decide)⟩
  · show Steps p.tables e below (s₁.setTop (mkF m 0 #[.val (.int p1), .val (.int p2), .val G3] [])) _
    refine XS.iloadN X0.here hx rfl (hb hby d17_0) rfl ?_
    have hc1 : ¬ (p1 < (0 : Int32)) := hq1
    show Steps p.tables e below (s₁.setTop (mkF m 1 #[.val (.int p1), .val (.int p2), .val G3] [(.int p1)])) _
    refine XS.ifNo X0.here hx rfl (hb hby d17_1) rfl ((if0 _ _).trans (flt hc1).1) ?_
    show Steps p.tables e below (s₁.setTop (mkF m 4 #[.val (.int p1), .val (.int p2), .val G3] [])) _
    refine XS.iloadN X0.here hx rfl (hb hby d17_4) rfl ?_
    show Steps p.tables e below (s₁.setTop (mkF m 5 #[.val (.int p1), .val (.int p2), .val G3] [(.int p1)])) _
    refine XS.iloadN X0.here hx rfl (hb hby d17_5) rfl ?_
    have hc6 : p1 < p2 := hq6
    show Steps p.tables e below (s₁.setTop (mkF m 6 #[.val (.int p1), .val (.int p2), .val G3] [(.int p2), (.int p1)])) _
    refine XS.icmpYes X0.here hx rfl (pc0 := 6) (pc' := 16) rfl (hb hby d17_6) rfl (tlt hc6).1 (by decide) (by decide) ?_
    show Steps p.tables e below (s₁.setTop (mkF m 16 #[.val (.int p1), .val (.int p2), .val G3] [])) _
    refine XS.iloadN X0.here hx rfl (hb hby d17_16) rfl ?_
    show Steps p.tables e below (s₁.setTop (mkF m 17 #[.val (.int p1), .val (.int p2), .val G3] [(.int p1)])) _
    exact retI X0 hx Bd.returns (hb hby d17_17) hr
  · show Q17 Z p1 h0 n0 _ s₁.heap _
    rw [e0]
    exact ⟨rfl, N0, rfl⟩
theorem pn_16 : plainName "java/lang/String" = true := by first | (simp [plainName, overriddenIn]; done) | decide +kernel
theorem ef_16 (m : MethodId) (x0 : Int32) (x1 : Int32) : entryFrame m #[(.int x0), (.int x1)] 2 = mkF m 0 #[.val (.int x0), .val (.int x1)] [] := by first | (simp [entryFrame, mkF, argsToLocals, Value.category]; done) | rfl
theorem d16_0 : decode jdk_42_method_155_code 0 = .ok (.iload_n 0, 1) := by decide +kernel
theorem d16_1 : decode jdk_42_method_155_code 1 = .ok (.iload_n 1, 1) := by decide +kernel
theorem d16_2 : decode jdk_42_method_155_code 2 = .ok (.getstatic 1053, 3) := by decide +kernel
theorem pd_0 : parseMethodDescriptor "(IILjava/util/function/BiFunction;)I" = some ⟨[.int, .int, (.object "java/util/function/BiFunction")], some .int⟩ := by decide +kernel
theorem d16_5 : decode jdk_42_method_155_code 5 = .ok (.invokestatic 1059, 3) := by decide +kernel
theorem d16_8 : decode jdk_42_method_155_code 8 = .ok (.pop, 1) := by decide +kernel
theorem d16_9 : decode jdk_42_method_155_code 9 = .ok (.return_, 1) := by decide +kernel
def Q16 (Z : State)  (h0 : Heap) (n0 : Nat) (v : Option Value) (h : Heap) (L : List Loc) : Prop := v = none ∧ Fr n0 L ∧ h = h0
set_option maxRecDepth 65536 in
set_option maxHeartbeats 40000000 in
theorem rm16 (l : Launch) (Z : State) (a0 : Array Value) (hw : ∀ d ∈ tables_1, d.before a0 Z = true) (ws : List Jvm.Cond) (p1 : Int32) (p2 : Int32) (G3 : Value) (h0 : Heap) (n0 : Nat) (Z0 : n0 ≤ h0.size) (rG3 : G3.isRef = true) (O4 : Sta Z h0 "jdk/internal/util/Preconditions" "SIOOBE_FORMATTER" "Ljava/util/function/BiFunction;" G3) (hq1 : ¬ (p1 < (0 : Int32))) (hq6 : p1 < p2) :
    MetFree l (⟨"java/lang/String", "checkIndex", "(II)V"⟩ : MethodName) (head1 (Jvm.Cond.code (⟨"java/lang/String", "checkIndex", "(II)V"⟩ : MethodName) jdk_42_method_155_code 2 none :: ws) ({ frames := 1, cells := 0, slots := 0, locals := 14 } : Room)) (fun aa_ U => aa_ = #[(.int p1), (.int p2)] ∧ Z.Warmed39 U.vm ∧ U.heap = h0) (fun _ _ _ _ _ => True) (fun _ U o U' => ∃ v_ L_, o = .returned v_ ∧ Q16 Z  h0 n0 v_ U'.heap L_ ∧ FrameEnd U o U' L_ ({ frames := 1, cells := 0, slots := 0, locals := 14 } : Room).cells ({ frames := 1, cells := 0, slots := 0, locals := 14 } : Room).slots) := by
  refine MetFree.of_bodySF (plainFor_of_name pn_16) hisR ?_
  intro p e s m args below meth c s₁ Bd hml0 hP hK
  obtain ⟨rfl, hZ, hh⟩ := hP
  have hx := Bd.exec
  have hby := Bd.bytes
  have hml : c.maxLocals = 2 := hml0
  have hown : s.vm.findClass "java/lang/String" = some m.cls := findClass_of_methodNamed Bd.named
  have hnm := (name_of_methodNamed Bd.named Bd.method).1
  have X0 : Stand p l e ({ frames := 1, cells := 0, slots := 0, locals := 14 } : Room) s m #[(.int p1), (.int p2)] below meth c s₁ [] 0 0 := Stand.of_body Bd
  have e0 : s₁.heap = h0 := by rw [← hh, Bd.state]; rfl
  have N0 := Fr.nil n0
  have pre0 : ∀ t, Steps p.tables e below (s₁.setTop (mkF m 0 #[.val (.int p1), .val (.int p2)] [])) t → Steps p.tables e below (s₁.setTop (entryFrame m #[(.int p1), (.int p2)] 2)) t := fun t k_ => castTop (ef_16 m p1 p2) k_
  have pre1 : ∀ t, Steps p.tables e below (s₁.setTop (mkF m 2 #[.val (.int p1), .val (.int p2)] [(.int p2), (.int p1)])) t → Steps p.tables e below _ t := fun t kt => pre0 t (by
    show Steps p.tables e below (s₁.setTop (mkF m 0 #[.val (.int p1), .val (.int p2)] [])) _
    refine XS.iloadN X0.here hx rfl (hb hby d16_0) rfl ?_
    show Steps p.tables e below (s₁.setTop (mkF m 1 #[.val (.int p1), .val (.int p2)] [(.int p1)])) _
    refine XS.iloadN X0.here hx rfl (hb hby d16_1) rfl ?_
    exact kt)
  obtain ⟨T2, X2, e2, st2⟩ := getS X0 hx hZ hown (hw _ (List.mem_of_getElem? (i := 76) rfl)) Via.refl e0 O4 (g := (mkF m 2 #[.val (.int p1), .val (.int p2)] [(.int p2), (.int p1)])) rfl (hb hby d16_2) (host := "")
  have pre3 : ∀ t, Steps p.tables e below (T2.setTop (mkF m 5 #[.val (.int p1), .val (.int p2)] [G3, (.int p2), (.int p1)])) t → Steps p.tables e below _ t := fun t kt => pre1 t (by
    show Steps p.tables e below (s₁.setTop (mkF m 2 #[.val (.int p1), .val (.int p2)] [(.int p2), (.int p1)])) _
    refine st2 _ ?_
    exact kt)
  obtain ⟨_, _, ⟨T4, L4, k4, n4⟩, -, X4, ⟨Lc4, hQ4, l4, y4, z4⟩, st4⟩ := Jvm.LawKit.callS X2 hx (y := (⟨"jdk/internal/util/Preconditions", "checkIndex", "(IILjava/util/function/BiFunction;)I"⟩ : MethodName)) hown (mvT hZ (hw _ (List.mem_of_getElem? (i := 78) rfl))) (mvT hZ (hw _ (List.mem_of_getElem? (i := 79) rfl))) (mvT hZ (hw _ (List.mem_of_getElem? (i := 77) rfl))) (mvT hZ (hw _ (List.mem_of_getElem? (i := 80) rfl))) (by decide) (backOf (W := 0) (rm17 l Z a0 hw [] p1 p2 G3 h0 n0 Z0 rG3 hq1 hq6) hZ (hw _ (List.mem_of_getElem? (i := 80) rfl)) (hw _ (List.mem_of_getElem? (i := 77) rfl)) (by decide) (by decide)) (g := (mkF m 5 #[.val (.int p1), .val (.int p2)] [G3, (.int p2), (.int p1)])) rfl (by rw [hml]; rfl) (argsL := [(.int p1), (.int p2), G3]) (rest := []) (lenOf pd_0 rfl) rfl (by show 2 * 0 + _ ≤ _; exact Nat.le_of_eq rfl) (hb hby d16_5) (fun _ _ => ⟨rfl, e2, (by decide : 0 + 0 ≤ _), (by decide : 0 + 0 ≤ _)⟩)
  dsimp only [Pt.U, Pt.locs, Pt.cells, Pt.slots] at X4 l4 y4 z4 st4 hQ4
  subst l4 y4 z4
  obtain ⟨rfl, N4q, e4⟩ := hQ4
  have N4 := Fr.app N0 N4q
  obtain ⟨fs, hr, hrun, hended, hW, hsame⟩ := X4.leave (v := none) (fun _ => rfl)
  refine ⟨_, _, pre3 _ ?_, hrun, hended, _, _, rfl, ?_, ⟨_, rfl⟩, hW, hsame.mono (by decide) (by decide)⟩
  · show Steps p.tables e below (T2.setTop (mkF m 5 #[.val (.int p1), .val (.int p2)] [G3, (.int p2), (.int p1)])) _
    refine st4 _ ?_
    show Steps p.tables e below (T4.setTop (mkF m 8 #[.val (.int p1), .val (.int p2)] [(.int p1)])) _
    refine XS.pop X4.here hx rfl (hb hby d16_8) rfl rfl ?_
    show Steps p.tables e below (T4.setTop (mkF m 9 #[.val (.int p1), .val (.int p2)] [])) _
    exact X4.returnOut hx Bd.returns (hb hby d16_9) hr
  · show Q16 Z  h0 n0 _ T4.heap _
    rw [e4]
    exact ⟨rfl, N4, rfl⟩
theorem pn_15 : plainName "java/lang/StringLatin1" = true := by first | (simp [plainName, overriddenIn]; done) | decide +kernel
theorem ef_15 (m : MethodId) (x0 : Addr) (x1 : Int32) : entryFrame m #[(.ref x0), (.int x1)] 2 = mkF m 0 #[.val (.ref x0), .val (.int x1)] [] := by first | (simp [entryFrame, mkF, argsToLocals, Value.category]; done) | rfl
theorem d15_0 : decode jdk_43_method_2_code 0 = .ok (.iload_n 1, 1) := by decide +kernel
theorem d15_1 : decode jdk_43_method_2_code 1 = .ok (.aload_n 0, 1) := by decide +kernel
theorem d15_2 : decode jdk_43_method_2_code 2 = .ok (.arraylength, 1) := by decide +kernel
theorem pd_1 : parseMethodDescriptor "(II)V" = some ⟨[.int, .int], none⟩ := by decide +kernel
theorem d15_3 : decode jdk_43_method_2_code 3 = .ok (.invokestatic 9, 3) := by decide +kernel
theorem d15_6 : decode jdk_43_method_2_code 6 = .ok (.aload_n 0, 1) := by decide +kernel
theorem d15_7 : decode jdk_43_method_2_code 7 = .ok (.iload_n 1, 1) := by decide +kernel
theorem d15_8 : decode jdk_43_method_2_code 8 = .ok (.baload, 1) := by decide +kernel
theorem d15_9 : decode jdk_43_method_2_code 9 = .ok (.sipush 255, 3) := by decide +kernel
theorem d15_12 : decode jdk_43_method_2_code 12 = .ok (.iand, 1) := by decide +kernel
theorem d15_13 : decode jdk_43_method_2_code 13 = .ok (.i2c, 1) := by decide +kernel
theorem d15_14 : decode jdk_43_method_2_code 14 = .ok (.ireturn, 1) := by decide +kernel
def Q15 (Z : State) (k : Nat) (g : Nat → Int32) (h0 : Heap) (n0 : Nat) (v : Option Value) (h : Heap) (L : List Loc) : Prop := v = some (.int (own_ch5 (g k))) ∧ Fr n0 L ∧ h = h0
set_option maxRecDepth 65536 in
set_option maxHeartbeats 40000000 in
theorem rm15 (l : Launch) (Z : State) (a0 : Array Value) (hw : ∀ d ∈ tables_1, d.before a0 Z = true) (ws : List Jvm.Cond) (b : Addr) (k : Nat) (n : Nat) (cl : Cell) (g : Nat → Int32) (G3 : Value) (h0 : Heap) (n0 : Nat) (Z0 : n0 ≤ h0.size) (rG3 : G3.isRef = true) (O4 : Sta Z h0 "jdk/internal/util/Preconditions" "SIOOBE_FORMATTER" "Ljava/util/function/BiFunction;" G3) (Ar : Arr Z h0 b cl .byte) (Sz : cl.slots.size = n) (hn : n ≤ 4) (Hf : ∀ j, j < n → cl.slots[j]? = some (.int (g j))) (hk : k < n) :
    MetFree l (⟨"java/lang/StringLatin1", "charAt", "([BI)C"⟩ : MethodName) (head1 (Jvm.Cond.code (⟨"java/lang/StringLatin1", "charAt", "([BI)C"⟩ : MethodName) jdk_43_method_2_code 2 (some .char) :: ws) ({ frames := 2, cells := 0, slots := 0, locals := 27 } : Room)) (fun aa_ U => aa_ = #[(.ref b), (.int (Int32.ofNat k))] ∧ Z.Warmed39 U.vm ∧ U.heap = h0) (fun _ _ _ _ _ => True) (fun _ U o U' => ∃ v_ L_, o = .returned v_ ∧ Q15 Z k g h0 n0 v_ U'.heap L_ ∧ FrameEnd U o U' L_ ({ frames := 2, cells := 0, slots := 0, locals := 27 } : Room).cells ({ frames := 2, cells := 0, slots := 0, locals := 27 } : Room).slots) := by
  refine MetFree.of_bodySF (plainFor_of_name pn_15) hisR ?_
  intro p e s m args below meth c s₁ Bd hml0 hP hK
  obtain ⟨rfl, hZ, hh⟩ := hP
  have hx := Bd.exec
  have hby := Bd.bytes
  have hml : c.maxLocals = 2 := hml0
  have hown : s.vm.findClass "java/lang/StringLatin1" = some m.cls := findClass_of_methodNamed Bd.named
  have hnm := (name_of_methodNamed Bd.named Bd.method).1
  have X0 : Stand p l e ({ frames := 2, cells := 0, slots := 0, locals := 27 } : Room) s m #[(.ref b), (.int (Int32.ofNat k))] below meth c s₁ [] 0 0 := Stand.of_body Bd
  have e0 : s₁.heap = h0 := by rw [← hh, Bd.state]; rfl
  have N0 := Fr.nil n0
  have pre0 : ∀ t, Steps p.tables e below (s₁.setTop (mkF m 0 #[.val (.ref b), .val (.int (Int32.ofNat k))] [])) t → Steps p.tables e below (s₁.setTop (entryFrame m #[(.ref b), (.int (Int32.ofNat k))] 2)) t := fun t k_ => castTop (ef_15 m b (Int32.ofNat k)) k_
  have pre1 : ∀ t, Steps p.tables e below (s₁.setTop (mkF m 3 #[.val (.ref b), .val (.int (Int32.ofNat k))] [(.int (Int32.ofNat n)), (.int (Int32.ofNat k))])) t → Steps p.tables e below _ t := fun t kt => pre0 t (by
    show Steps p.tables e below (s₁.setTop (mkF m 0 #[.val (.ref b), .val (.int (Int32.ofNat k))] [])) _
    refine XS.iloadN X0.here hx rfl (hb hby d15_0) rfl ?_
    show Steps p.tables e below (s₁.setTop (mkF m 1 #[.val (.ref b), .val (.int (Int32.ofNat k))] [(.int (Int32.ofNat k))])) _
    refine XS.aloadN X0.here hx rfl (hb hby d15_1) rfl rfl ?_
    show Steps p.tables e below (s₁.setTop (mkF m 2 #[.val (.ref b), .val (.int (Int32.ofNat k))] [(.ref b), (.int (Int32.ofNat k))])) _
    refine X0.arraylength hx (by rw [e0]; exact Ar.1) (State.isArrayOf_alike hZ.alike Ar.2.1) (g := (mkF m 2 #[.val (.ref b), .val (.int (Int32.ofNat k))] [(.ref b), (.int (Int32.ofNat k))])) rfl rfl (hb hby d15_2) _ ?_
    rw [len_of (by rw [Sz, clamp_of (c := n) rfl (by omega)] : cl.slots.size = (Int32.ofNat n).toNatClampNeg) (own_nneg (by omega))]
    exact kt)
  obtain ⟨_, _, ⟨T2, L2, k2, n2⟩, -, X2, ⟨Lc2, hQ2, l2, y2, z2⟩, st2⟩ := Jvm.LawKit.callS X0 hx (y := (⟨"java/lang/String", "checkIndex", "(II)V"⟩ : MethodName)) hown (mvT hZ (hw _ (List.mem_of_getElem? (i := 73) rfl))) (mvT hZ (hw _ (List.mem_of_getElem? (i := 74) rfl))) (mvT hZ (hw _ (List.mem_of_getElem? (i := 7) rfl))) (mvT hZ (hw _ (List.mem_of_getElem? (i := 75) rfl))) (by decide) (backOf (W := 0) (rm16 l Z a0 hw [] (Int32.ofNat k) (Int32.ofNat n) G3 h0 n0 Z0 rG3 O4 (own_nneg (by omega)) (own_lt hk (by omega))) hZ (hw _ (List.mem_of_getElem? (i := 75) rfl)) (hw _ (List.mem_of_getElem? (i := 7) rfl)) (by decide) (by decide)) (g := (mkF m 3 #[.val (.ref b), .val (.int (Int32.ofNat k))] [(.int (Int32.ofNat n)), (.int (Int32.ofNat k))])) rfl (by rw [hml]; rfl) (argsL := [(.int (Int32.ofNat k)), (.int (Int32.ofNat n))]) (rest := []) (lenOf pd_1 rfl) rfl (by show 2 * 0 + _ ≤ _; exact Nat.le_of_eq rfl) (hb hby d15_3) (fun _ _ => ⟨rfl, e0, (by decide : 0 + 0 ≤ _), (by decide : 0 + 0 ≤ _)⟩)
  dsimp only [Pt.U, Pt.locs, Pt.cells, Pt.slots] at X2 l2 y2 z2 st2 hQ2
  subst l2 y2 z2
  obtain ⟨rfl, N2q, e2⟩ := hQ2
  have N2 := Fr.app N0 N2q
  obtain ⟨fs, hr, hrun, hended, hW, hsame⟩ := X2.leave (v := some (.int (nar .char (((g k) &&& (255 : Int32)).toUInt32.toUInt16.toUInt32.toInt32)))) (fun h => by rw [Bd.returns] at h; cases h)
  refine ⟨_, _, pre1 _ ?_, hrun, hended, _, _, rfl, ?_, ⟨_, rfl⟩, hW, hsame.mono (by decide) (by decide)⟩
  · show Steps p.tables e below (s₁.setTop (mkF m 3 #[.val (.ref b), .val (.int (Int32.ofNat k))] [(.int (Int32.ofNat n)), (.int (Int32.ofNat k))])) _
    refine st2 _ ?_
    show Steps p.tables e below (T2.setTop (mkF m 6 #[.val (.ref b), .val (.int (Int32.ofNat k))] [])) _
    refine XS.aloadN X2.here hx rfl (hb hby d15_6) rfl rfl ?_
    show Steps p.tables e below (T2.setTop (mkF m 7 #[.val (.ref b), .val (.int (Int32.ofNat k))] [(.ref b)])) _
    refine XS.iloadN X2.here hx rfl (hb hby d15_7) rfl ?_
    show Steps p.tables e below (T2.setTop (mkF m 8 #[.val (.ref b), .val (.int (Int32.ofNat k))] [(.int (Int32.ofNat k)), (.ref b)])) _
    refine X2.baloadBytes hx (j := (Int32.ofNat k)) (v := (.int (g k))) (by rw [e2]; exact Ar.1) (State.isArrayOf_alike hZ.alike Ar.2.1) Ar.2.2 (within (c := k) rfl (by omega) (by omega)) (by rw [clamp_of (c := k) rfl (by omega)]; exact Hf _ (by omega)) (g := (mkF m 8 #[.val (.ref b), .val (.int (Int32.ofNat k))] [(.int (Int32.ofNat k)), (.ref b)])) rfl rfl (hb hby d15_8) _ ?_
    show Steps p.tables e below (T2.setTop (mkF m 9 #[.val (.ref b), .val (.int (Int32.ofNat k))] [(.int (g k))])) _
    refine XS.sipush X2.here hx rfl (hb hby d15_9) ?_
    show Steps p.tables e below (T2.setTop (mkF m 12 #[.val (.ref b), .val (.int (Int32.ofNat k))] [(.int (255 : Int32)), (.int (g k))])) _
    refine XS.iand X2.here hx rfl (hb hby d15_12) rfl ?_
    show Steps p.tables e below (T2.setTop (mkF m 13 #[.val (.ref b), .val (.int (Int32.ofNat k))] [(.int ((g k) &&& (255 : Int32)))])) _
    refine XS.i2c X2.here hx rfl (hb hby d15_13) rfl ?_
    show Steps p.tables e below (T2.setTop (mkF m 14 #[.val (.ref b), .val (.int (Int32.ofNat k))] [(.int (((g k) &&& (255 : Int32)).toUInt32.toUInt16.toUInt32.toInt32))])) _
    exact retN X2 hx (t := .char) Bd.returns (by simp) (hb hby d15_14) hr
  · show Q15 Z k g h0 n0 _ T2.heap _
    rw [e2]
    exact ⟨rfl, N2, rfl⟩
theorem pn_25 : plainName "java/lang/StringUTF16" = true := by first | (simp [plainName, overriddenIn]; done) | decide +kernel
theorem ef_25 (m : MethodId) (x0 : Addr) : entryFrame m #[(.ref x0)] 1 = mkF m 0 #[.val (.ref x0)] [] := by first | (simp [entryFrame, mkF, argsToLocals, Value.category]; done) | rfl
theorem d25_0 : decode jdk_52_method_6_code 0 = .ok (.aload_n 0, 1) := by decide +kernel
theorem d25_1 : decode jdk_52_method_6_code 1 = .ok (.arraylength, 1) := by decide +kernel
theorem d25_2 : decode jdk_52_method_6_code 2 = .ok (.iconst 1, 1) := by decide +kernel
theorem d25_3 : decode jdk_52_method_6_code 3 = .ok (.ishr, 1) := by decide +kernel
theorem d25_4 : decode jdk_52_method_6_code 4 = .ok (.ireturn, 1) := by decide +kernel
def Q25 (Z : State) (n : Nat) (h0 : Heap) (n0 : Nat) (v : Option Value) (h : Heap) (L : List Loc) : Prop := v = some (.int (Int32.ofNat n)) ∧ Fr n0 L ∧ h = h0
set_option maxRecDepth 65536 in
set_option maxHeartbeats 40000000 in
theorem rm25 (l : Launch) (Z : State) (a0 : Array Value) (hw : ∀ d ∈ tables_1, d.before a0 Z = true) (ws : List Jvm.Cond) (b : Addr) (n : Nat) (cl : Cell) (h0 : Heap) (n0 : Nat) (Z0 : n0 ≤ h0.size) (Ar : Arr Z h0 b cl .byte) (Sz : cl.slots.size = 2 * n) (hn : n ≤ 4) :
    MetFree l (⟨"java/lang/StringUTF16", "length", "([B)I"⟩ : MethodName) (head1 (Jvm.Cond.code (⟨"java/lang/StringUTF16", "length", "([B)I"⟩ : MethodName) jdk_52_method_6_code 1 (some .int) :: ws) ({ frames := 0, cells := 0, slots := 0, locals := 0 } : Room)) (fun aa_ U => aa_ = #[(.ref b)] ∧ Z.Warmed39 U.vm ∧ U.heap = h0) (fun _ _ _ _ _ => True) (fun _ U o U' => ∃ v_ L_, o = .returned v_ ∧ Q25 Z n h0 n0 v_ U'.heap L_ ∧ FrameEnd U o U' L_ ({ frames := 0, cells := 0, slots := 0, locals := 0 } : Room).cells ({ frames := 0, cells := 0, slots := 0, locals := 0 } : Room).slots) := by
  refine MetFree.of_bodySF (plainFor_of_name pn_25) hisR ?_
  intro p e s m args below meth c s₁ Bd hml0 hP hK
  obtain ⟨rfl, hZ, hh⟩ := hP
  have hx := Bd.exec
  have hby := Bd.bytes
  have hml : c.maxLocals = 1 := hml0
  have hown : s.vm.findClass "java/lang/StringUTF16" = some m.cls := findClass_of_methodNamed Bd.named
  have hnm := (name_of_methodNamed Bd.named Bd.method).1
  have X0 : Stand p l e ({ frames := 0, cells := 0, slots := 0, locals := 0 } : Room) s m #[(.ref b)] below meth c s₁ [] 0 0 := Stand.of_body Bd
  have e0 : s₁.heap = h0 := by rw [← hh, Bd.state]; rfl
  have N0 := Fr.nil n0
  have pre0 : ∀ t, Steps p.tables e below (s₁.setTop (mkF m 0 #[.val (.ref b)] [])) t → Steps p.tables e below (s₁.setTop (entryFrame m #[(.ref b)] 1)) t := fun t k_ => castTop (ef_25 m b) k_
  have pre1 : ∀ t, Steps p.tables e below (s₁.setTop (mkF m 4 #[.val (.ref b)] [(.int ((Int32.ofNat (2 * n)) >>> ((1 : Int32) &&& 31)))])) t → Steps p.tables e below _ t := fun t kt => pre0 t (by
    show Steps p.tables e below (s₁.setTop (mkF m 0 #[.val (.ref b)] [])) _
    refine XS.aloadN X0.here hx rfl (hb hby d25_0) rfl rfl ?_
    show Steps p.tables e below (s₁.setTop (mkF m 1 #[.val (.ref b)] [(.ref b)])) _
    refine X0.arraylength hx (by rw [e0]; exact Ar.1) (State.isArrayOf_alike hZ.alike Ar.2.1) (g := (mkF m 1 #[.val (.ref b)] [(.ref b)])) rfl rfl (hb hby d25_1) _ ?_
    rw [len_of (by rw [Sz, clamp_of (c := (2 * n)) rfl (by omega)] : cl.slots.size = (Int32.ofNat (2 * n)).toNatClampNeg) (own_nneg (by omega))]
    show Steps p.tables e below (s₁.setTop (mkF m 2 #[.val (.ref b)] [(.int (Int32.ofNat (2 * n)))])) _
    refine XS.iconst X0.here hx rfl (hb hby d25_2) ?_
    show Steps p.tables e below (s₁.setTop (mkF m 3 #[.val (.ref b)] [(.int (1 : Int32)), (.int (Int32.ofNat (2 * n)))])) _
    refine XS.ishr X0.here hx rfl (hb hby d25_3) rfl ?_
    exact kt)
  have hv2 : ((Int32.ofNat (2 * n)) >>> ((1 : Int32) &&& 31)) = (Int32.ofNat n) := own_half n (by omega)
  rw [hv2] at pre1
  obtain ⟨fs, hr, hrun, hended, hW, hsame⟩ := X0.leave (v := some (.int (Int32.ofNat n))) (fun h => by rw [Bd.returns] at h; cases h)
  refine ⟨_, _, pre1 _ ?_, hrun, hended, _, _, rfl, ?_, ⟨_, rfl⟩, hW, hsame.mono (by decide) (by decide)⟩
  · show Steps p.tables e below (s₁.setTop (mkF m 4 #[.val (.ref b)] [(.int (Int32.ofNat n))])) _
    exact retI X0 hx Bd.returns (hb hby d25_4) hr
  · show Q25 Z n h0 n0 _ s₁.heap _
    rw [e0]
    exact ⟨rfl, N0, rfl⟩
theorem pn_24 : plainName "java/lang/StringUTF16" = true := by first | (simp [plainName, overriddenIn]; done) | decide +kernel
theorem ef_24 (m : MethodId) (x0 : Int32) (x1 : Addr) : entryFrame m #[(.int x0), (.ref x1)] 2 = mkF m 0 #[.val (.int x0), .val (.ref x1)] [] := by first | (simp [entryFrame, mkF, argsToLocals, Value.category]; done) | rfl
theorem d24_0 : decode jdk_52_method_91_code 0 = .ok (.iload_n 0, 1) := by decide +kernel
theorem d24_1 : decode jdk_52_method_91_code 1 = .ok (.aload_n 1, 1) := by decide +kernel
theorem pd_2 : parseMethodDescriptor "([B)I" = some ⟨[(.array .byte)], some .int⟩ := by decide +kernel
theorem d24_2 : decode jdk_52_method_91_code 2 = .ok (.invokestatic 48, 3) := by decide +kernel
theorem d24_5 : decode jdk_52_method_91_code 5 = .ok (.invokestatic 414, 3) := by decide +kernel
theorem d24_8 : decode jdk_52_method_91_code 8 = .ok (.return_, 1) := by decide +kernel
def Q24 (Z : State)  (h0 : Heap) (n0 : Nat) (v : Option Value) (h : Heap) (L : List Loc) : Prop := v = none ∧ Fr n0 L ∧ h = h0
set_option maxRecDepth 65536 in
set_option maxHeartbeats 40000000 in
theorem rm24 (l : Launch) (Z : State) (a0 : Array Value) (hw : ∀ d ∈ tables_1, d.before a0 Z = true) (ws : List Jvm.Cond) (k : Nat) (b : Addr) (n : Nat) (cl : Cell) (G3 : Value) (h0 : Heap) (n0 : Nat) (Z0 : n0 ≤ h0.size) (rG3 : G3.isRef = true) (O4 : Sta Z h0 "jdk/internal/util/Preconditions" "SIOOBE_FORMATTER" "Ljava/util/function/BiFunction;" G3) (Ar : Arr Z h0 b cl .byte) (Sz : cl.slots.size = 2 * n) (hn : n ≤ 4) (hk : k < n) :
    MetFree l (⟨"java/lang/StringUTF16", "checkIndex", "(I[B)V"⟩ : MethodName) (head1 (Jvm.Cond.code (⟨"java/lang/StringUTF16", "checkIndex", "(I[B)V"⟩ : MethodName) jdk_52_method_91_code 2 none :: ws) ({ frames := 2, cells := 0, slots := 0, locals := 27 } : Room)) (fun aa_ U => aa_ = #[(.int (Int32.ofNat k)), (.ref b)] ∧ Z.Warmed39 U.vm ∧ U.heap = h0) (fun _ _ _ _ _ => True) (fun _ U o U' => ∃ v_ L_, o = .returned v_ ∧ Q24 Z  h0 n0 v_ U'.heap L_ ∧ FrameEnd U o U' L_ ({ frames := 2, cells := 0, slots := 0, locals := 27 } : Room).cells ({ frames := 2, cells := 0, slots := 0, locals := 27 } : Room).slots) := by
  refine MetFree.of_bodySF (plainFor_of_name pn_24) hisR ?_
  intro p e s m args below meth c s₁ Bd hml0 hP hK
  obtain ⟨rfl, hZ, hh⟩ := hP
  have hx := Bd.exec
  have hby := Bd.bytes
  have hml : c.maxLocals = 2 := hml0
  have hown : s.vm.findClass "java/lang/StringUTF16" = some m.cls := findClass_of_methodNamed Bd.named
  have hnm := (name_of_methodNamed Bd.named Bd.method).1
  have X0 : Stand p l e ({ frames := 2, cells := 0, slots := 0, locals := 27 } : Room) s m #[(.int (Int32.ofNat k)), (.ref b)] below meth c s₁ [] 0 0 := Stand.of_body Bd
  have e0 : s₁.heap = h0 := by rw [← hh, Bd.state]; rfl
  have N0 := Fr.nil n0
  have pre0 : ∀ t, Steps p.tables e below (s₁.setTop (mkF m 0 #[.val (.int (Int32.ofNat k)), .val (.ref b)] [])) t → Steps p.tables e below (s₁.setTop (entryFrame m #[(.int (Int32.ofNat k)), (.ref b)] 2)) t := fun t k_ => castTop (ef_24 m (Int32.ofNat k) b) k_
  have pre1 : ∀ t, Steps p.tables e below (s₁.setTop (mkF m 2 #[.val (.int (Int32.ofNat k)), .val (.ref b)] [(.ref b), (.int (Int32.ofNat k))])) t → Steps p.tables e below _ t := fun t kt => pre0 t (by
    show Steps p.tables e below (s₁.setTop (mkF m 0 #[.val (.int (Int32.ofNat k)), .val (.ref b)] [])) _
    refine XS.iloadN X0.here hx rfl (hb hby d24_0) rfl ?_
    show Steps p.tables e below (s₁.setTop (mkF m 1 #[.val (.int (Int32.ofNat k)), .val (.ref b)] [(.int (Int32.ofNat k))])) _
    refine XS.aloadN X0.here hx rfl (hb hby d24_1) rfl rfl ?_
    exact kt)
  obtain ⟨_, _, ⟨T2, L2, k2, n2⟩, -, X2, ⟨Lc2, hQ2, l2, y2, z2⟩, st2⟩ := Jvm.LawKit.callS X0 hx (y := (⟨"java/lang/StringUTF16", "length", "([B)I"⟩ : MethodName)) hown (mvT hZ (hw _ (List.mem_of_getElem? (i := 109) rfl))) (mvT hZ (hw _ (List.mem_of_getElem? (i := 110) rfl))) (mvT hZ (hw _ (List.mem_of_getElem? (i := 48) rfl))) (mvT hZ (hw _ (List.mem_of_getElem? (i := 111) rfl))) (by decide) (backOf (W := 1) (rm25 l Z a0 hw [] b n cl h0 n0 Z0 Ar Sz hn) hZ (hw _ (List.mem_of_getElem? (i := 111) rfl)) (hw _ (List.mem_of_getElem? (i := 48) rfl)) (by decide) (by decide)) (g := (mkF m 2 #[.val (.int (Int32.ofNat k)), .val (.ref b)] [(.ref b), (.int (Int32.ofNat k))])) rfl (by rw [hml]; rfl) (argsL := [(.ref b)]) (rest := [(.int (Int32.ofNat k))]) (lenOf pd_2 rfl) rfl (by show 2 * 0 + _ ≤ _; exact Nat.le_of_eq rfl) (hb hby d24_2) (fun _ _ => ⟨rfl, e0, (by decide : 0 + 0 ≤ _), (by decide : 0 + 0 ≤ _)⟩)
  dsimp only [Pt.U, Pt.locs, Pt.cells, Pt.slots] at X2 l2 y2 z2 st2 hQ2
  subst l2 y2 z2
  obtain ⟨rfl, N2q, e2⟩ := hQ2
  have N2 := Fr.app N0 N2q
  have pre3 : ∀ t, Steps p.tables e below (T2.setTop (mkF m 5 #[.val (.int (Int32.ofNat k)), .val (.ref b)] [(.int (Int32.ofNat n)), (.int (Int32.ofNat k))])) t → Steps p.tables e below _ t := fun t kt => pre1 t (by
    show Steps p.tables e below (s₁.setTop (mkF m 2 #[.val (.int (Int32.ofNat k)), .val (.ref b)] [(.ref b), (.int (Int32.ofNat k))])) _
    refine st2 _ ?_
    exact kt)
  obtain ⟨_, _, ⟨T4, L4, k4, n4⟩, -, X4, ⟨Lc4, hQ4, l4, y4, z4⟩, st4⟩ := Jvm.LawKit.callS X2 hx (y := (⟨"java/lang/String", "checkIndex", "(II)V"⟩ : MethodName)) hown (mvT hZ (hw _ (List.mem_of_getElem? (i := 112) rfl))) (mvT hZ (hw _ (List.mem_of_getElem? (i := 74) rfl))) (mvT hZ (hw _ (List.mem_of_getElem? (i := 7) rfl))) (mvT hZ (hw _ (List.mem_of_getElem? (i := 75) rfl))) (by decide) (backOf (W := 0) (rm16 l Z a0 hw [] (Int32.ofNat k) (Int32.ofNat n) G3 h0 n0 Z0 rG3 O4 (own_nneg (by omega)) (own_lt hk (by omega))) hZ (hw _ (List.mem_of_getElem? (i := 75) rfl)) (hw _ (List.mem_of_getElem? (i := 7) rfl)) (by decide) (by decide)) (g := (mkF m 5 #[.val (.int (Int32.ofNat k)), .val (.ref b)] [(.int (Int32.ofNat n)), (.int (Int32.ofNat k))])) rfl (by rw [hml]; rfl) (argsL := [(.int (Int32.ofNat k)), (.int (Int32.ofNat n))]) (rest := []) (lenOf pd_1 rfl) rfl (by show 2 * 0 + _ ≤ _; exact Nat.le_of_eq rfl) (hb hby d24_5) (fun _ _ => ⟨rfl, e2, (by decide : 0 + 0 ≤ _), (by decide : 0 + 0 ≤ _)⟩)
  dsimp only [Pt.U, Pt.locs, Pt.cells, Pt.slots] at X4 l4 y4 z4 st4 hQ4
  subst l4 y4 z4
  obtain ⟨rfl, N4q, e4⟩ := hQ4
  have N4 := Fr.app N2 N4q
  obtain ⟨fs, hr, hrun, hended, hW, hsame⟩ := X4.leave (v := none) (fun _ => rfl)
  refine ⟨_, _, pre3 _ ?_, hrun, hended, _, _, rfl, ?_, ⟨_, rfl⟩, hW, hsame.mono (by decide) (by decide)⟩
  · show Steps p.tables e below (T2.setTop (mkF m 5 #[.val (.int (Int32.ofNat k)), .val (.ref b)] [(.int (Int32.ofNat n)), (.int (Int32.ofNat k))])) _
    refine st4 _ ?_
    show Steps p.tables e below (T4.setTop (mkF m 8 #[.val (.int (Int32.ofNat k)), .val (.ref b)] [])) _
    exact X4.returnOut hx Bd.returns (hb hby d24_8) hr
  · show Q24 Z  h0 n0 _ T4.heap _
    rw [e4]
    exact ⟨rfl, N4, rfl⟩
theorem pn_22 : plainName "java/lang/StringUTF16" = true := by first | (simp [plainName, overriddenIn]; done) | decide +kernel
theorem ef_22 (m : MethodId) (x0 : Addr) (x1 : Int32) : entryFrame m #[(.ref x0), (.int x1)] 2 = mkF m 0 #[.val (.ref x0), .val (.int x1)] [] := by first | (simp [entryFrame, mkF, argsToLocals, Value.category]; done) | rfl
theorem d22_0 : decode jdk_52_method_5_code 0 = .ok (.getstatic 44, 3) := by decide +kernel
theorem d22_3 : decode jdk_52_method_5_code 3 = .ok (.ifCond .ne 25, 3) := by decide +kernel
theorem d22_28 : decode jdk_52_method_5_code 28 = .ok (.iload_n 1, 1) := by decide +kernel
theorem d22_29 : decode jdk_52_method_5_code 29 = .ok (.iconst 1, 1) := by decide +kernel
theorem d22_30 : decode jdk_52_method_5_code 30 = .ok (.ishl, 1) := by decide +kernel
theorem d22_31 : decode jdk_52_method_5_code 31 = .ok (.istore_n 1, 1) := by decide +kernel
theorem d22_32 : decode jdk_52_method_5_code 32 = .ok (.aload_n 0, 1) := by decide +kernel
theorem d22_33 : decode jdk_52_method_5_code 33 = .ok (.iload_n 1, 1) := by decide +kernel
theorem d22_34 : decode jdk_52_method_5_code 34 = .ok (.iinc 1 1, 3) := by decide +kernel
theorem d22_37 : decode jdk_52_method_5_code 37 = .ok (.baload, 1) := by decide +kernel
theorem d22_38 : decode jdk_52_method_5_code 38 = .ok (.sipush 255, 3) := by decide +kernel
theorem d22_41 : decode jdk_52_method_5_code 41 = .ok (.iand, 1) := by decide +kernel
theorem d22_42 : decode jdk_52_method_5_code 42 = .ok (.getstatic 59, 3) := by decide +kernel
theorem d22_45 : decode jdk_52_method_5_code 45 = .ok (.ishl, 1) := by decide +kernel
theorem d22_46 : decode jdk_52_method_5_code 46 = .ok (.aload_n 0, 1) := by decide +kernel
theorem d22_47 : decode jdk_52_method_5_code 47 = .ok (.iload_n 1, 1) := by decide +kernel
theorem d22_48 : decode jdk_52_method_5_code 48 = .ok (.baload, 1) := by decide +kernel
theorem d22_49 : decode jdk_52_method_5_code 49 = .ok (.sipush 255, 3) := by decide +kernel
theorem d22_52 : decode jdk_52_method_5_code 52 = .ok (.iand, 1) := by decide +kernel
theorem d22_53 : decode jdk_52_method_5_code 53 = .ok (.getstatic 63, 3) := by decide +kernel
theorem d22_56 : decode jdk_52_method_5_code 56 = .ok (.ishl, 1) := by decide +kernel
theorem d22_57 : decode jdk_52_method_5_code 57 = .ok (.ior, 1) := by decide +kernel
theorem d22_58 : decode jdk_52_method_5_code 58 = .ok (.i2c, 1) := by decide +kernel
theorem d22_59 : decode jdk_52_method_5_code 59 = .ok (.ireturn, 1) := by decide +kernel
def Q22 (Z : State) (k : Nat) (g : Nat → Int32) (h0 : Heap) (n0 : Nat) (v : Option Value) (h : Heap) (L : List Loc) : Prop := v = some (.int (own_gc (g (2 * k)) (g (2 * k + 1)))) ∧ Fr n0 L ∧ h = h0
set_option maxRecDepth 65536 in
set_option maxHeartbeats 40000000 in
theorem rm22 (l : Launch) (Z : State) (a0 : Array Value) (hw : ∀ d ∈ tables_1, d.before a0 Z = true) (ws : List Jvm.Cond) (b : Addr) (k : Nat) (n : Nat) (cl : Cell) (g : Nat → Int32) (h0 : Heap) (n0 : Nat) (Z0 : n0 ≤ h0.size) (AD : Sta Z h0 "java/lang/StringUTF16" "$assertionsDisabled" "Z" (.int (1 : Int32))) (HB : Sta Z h0 "java/lang/StringUTF16" "HI_BYTE_SHIFT" "I" (.int (0 : Int32))) (LB : Sta Z h0 "java/lang/StringUTF16" "LO_BYTE_SHIFT" "I" (.int (8 : Int32))) (Ar : Arr Z h0 b cl .byte) (Sz : cl.slots.size = 2 * n) (hn : n ≤ 4) (Hf : ∀ j, j < 2 * n → cl.slots[j]? = some (.int (g j))) (hk : k < n) :
    MetFree l (⟨"java/lang/StringUTF16", "getChar", "([BI)C"⟩ : MethodName) (head1 (Jvm.Cond.code (⟨"java/lang/StringUTF16", "getChar", "([BI)C"⟩ : MethodName) jdk_52_method_5_code 2 (some .char) :: ws) ({ frames := 0, cells := 0, slots := 0, locals := 0 } : Room)) (fun aa_ U => aa_ = #[(.ref b), (.int (Int32.ofNat k))] ∧ Z.Warmed39 U.vm ∧ U.heap = h0) (fun _ _ _ _ _ => True) (fun _ U o U' => ∃ v_ L_, o = .returned v_ ∧ Q22 Z k g h0 n0 v_ U'.heap L_ ∧ FrameEnd U o U' L_ ({ frames := 0, cells := 0, slots := 0, locals := 0 } : Room).cells ({ frames := 0, cells := 0, slots := 0, locals := 0 } : Room).slots) := by
  refine MetFree.of_bodySF (plainFor_of_name pn_22) hisR ?_
  intro p e s m args below meth c s₁ Bd hml0 hP hK
  obtain ⟨rfl, hZ, hh⟩ := hP
  have hx := Bd.exec
  have hby := Bd.bytes
  have hml : c.maxLocals = 2 := hml0
  have hown : s.vm.findClass "java/lang/StringUTF16" = some m.cls := findClass_of_methodNamed Bd.named
  have hnm := (name_of_methodNamed Bd.named Bd.method).1
  have X0 : Stand p l e ({ frames := 0, cells := 0, slots := 0, locals := 0 } : Room) s m #[(.ref b), (.int (Int32.ofNat k))] below meth c s₁ [] 0 0 := Stand.of_body Bd
  have e0 : s₁.heap = h0 := by rw [← hh, Bd.state]; rfl
  have N0 := Fr.nil n0
  have pre0 : ∀ t, Steps p.tables e below (s₁.setTop (mkF m 0 #[.val (.ref b), .val (.int (Int32.ofNat k))] [])) t → Steps p.tables e below (s₁.setTop (entryFrame m #[(.ref b), (.int (Int32.ofNat k))] 2)) t := fun t k_ => castTop (ef_22 m b (Int32.ofNat k)) k_
  obtain ⟨T1, X1, e1, st1⟩ := getS X0 hx hZ hown (hw _ (List.mem_of_getElem? (i := 97) rfl)) Via.refl e0 AD (g := (mkF m 0 #[.val (.ref b), .val (.int (Int32.ofNat k))] [])) rfl (hb hby d22_0) (host := "")
  have pre2 : ∀ t, Steps p.tables e below (T1.setTop (mkF m 31 #[.val (.ref b), .val (.int (Int32.ofNat k))] [(.int ((Int32.ofNat k) <<< ((1 : Int32) &&& 31)))])) t → Steps p.tables e below _ t := fun t kt => pre0 t (by
    show Steps p.tables e below (s₁.setTop (mkF m 0 #[.val (.ref b), .val (.int (Int32.ofNat k))] [])) _
    refine st1 _ ?_
    have hc3 : ¬ ((1 : Int32) = (0 : Int32)) := by decide
    show Steps p.tables e below (T1.setTop (mkF m 3 #[.val (.ref b), .val (.int (Int32.ofNat k))] [(.int (1 : Int32))])) _
    refine XS.ifYes X1.here hx rfl (pc0 := 3) (pc' := 28) rfl (hb hby d22_3) rfl ((if0 _ _).trans (feq hc3).2) (by decide) (by decide) ?_
    show Steps p.tables e below (T1.setTop (mkF m 28 #[.val (.ref b), .val (.int (Int32.ofNat k))] [])) _
    refine XS.iloadN X1.here hx rfl (hb hby d22_28) rfl ?_
    show Steps p.tables e below (T1.setTop (mkF m 29 #[.val (.ref b), .val (.int (Int32.ofNat k))] [(.int (Int32.ofNat k))])) _
    refine XS.iconst X1.here hx rfl (hb hby d22_29) ?_
    show Steps p.tables e below (T1.setTop (mkF m 30 #[.val (.ref b), .val (.int (Int32.ofNat k))] [(.int (1 : Int32)), (.int (Int32.ofNat k))])) _
    refine XS.ishl X1.here hx rfl (hb hby d22_30) rfl ?_
    exact kt)
  have hv3 : ((Int32.ofNat k) <<< ((1 : Int32) &&& 31)) = (Int32.ofNat (2 * k)) := own_dbl k (by omega)
  rw [hv3] at pre2
  have pre4 : ∀ t, Steps p.tables e below (T1.setTop (mkF m 37 #[.val (.ref b), .val (.int ((Int32.ofNat (2 * k)) + (1 : Int32)))] [(.int (Int32.ofNat (2 * k))), (.ref b)])) t → Steps p.tables e below _ t := fun t kt => pre2 t (by
    show Steps p.tables e below (T1.setTop (mkF m 31 #[.val (.ref b), .val (.int (Int32.ofNat k))] [(.int (Int32.ofNat (2 * k)))])) _
    refine XS.istoreN X1.here hx rfl (hb hby d22_31) rfl (l' := #[.val (.ref b), .val (.int (Int32.ofNat (2 * k)))]) rfl ?_
    show Steps p.tables e below (T1.setTop (mkF m 32 #[.val (.ref b), .val (.int (Int32.ofNat (2 * k)))] [])) _
    refine XS.aloadN X1.here hx rfl (hb hby d22_32) rfl rfl ?_
    show Steps p.tables e below (T1.setTop (mkF m 33 #[.val (.ref b), .val (.int (Int32.ofNat (2 * k)))] [(.ref b)])) _
    refine XS.iloadN X1.here hx rfl (hb hby d22_33) rfl ?_
    show Steps p.tables e below (T1.setTop (mkF m 34 #[.val (.ref b), .val (.int (Int32.ofNat (2 * k)))] [(.int (Int32.ofNat (2 * k))), (.ref b)])) _
    refine XS.iinc X1.here hx rfl (hb hby d22_34) rfl (l' := #[.val (.ref b), .val (.int ((Int32.ofNat (2 * k)) + (1 : Int32)))]) rfl ?_
    exact kt)
  have hv5 : ((Int32.ofNat (2 * k)) + (1 : Int32)) = (Int32.ofNat (2 * k + 1)) := (inc_ofNat (2 * k)).symm
  rw [hv5] at pre4
  have pre6 : ∀ t, Steps p.tables e below (T1.setTop (mkF m 42 #[.val (.ref b), .val (.int (Int32.ofNat (2 * k + 1)))] [(.int ((g (2 * k)) &&& (255 : Int32)))])) t → Steps p.tables e below _ t := fun t kt => pre4 t (by
    show Steps p.tables e below (T1.setTop (mkF m 37 #[.val (.ref b), .val (.int (Int32.ofNat (2 * k + 1)))] [(.int (Int32.ofNat (2 * k))), (.ref b)])) _
    refine X1.baloadBytes hx (j := (Int32.ofNat (2 * k))) (v := (.int (g (2 * k)))) (by rw [e1]; exact Ar.1) (State.isArrayOf_alike hZ.alike Ar.2.1) Ar.2.2 (within (c := 2 * k) rfl (by omega) (by omega)) (by rw [clamp_of (c := 2 * k) rfl (by omega)]; exact Hf _ (by omega)) (g := (mkF m 37 #[.val (.ref b), .val (.int (Int32.ofNat (2 * k + 1)))] [(.int (Int32.ofNat (2 * k))), (.ref b)])) rfl rfl (hb hby d22_37) _ ?_
    show Steps p.tables e below (T1.setTop (mkF m 38 #[.val (.ref b), .val (.int (Int32.ofNat (2 * k + 1)))] [(.int (g (2 * k)))])) _
    refine XS.sipush X1.here hx rfl (hb hby d22_38) ?_
    show Steps p.tables e below (T1.setTop (mkF m 41 #[.val (.ref b), .val (.int (Int32.ofNat (2 * k + 1)))] [(.int (255 : Int32)), (.int (g (2 * k)))])) _
    refine XS.iand X1.here hx rfl (hb hby d22_41) rfl ?_
    exact kt)
  obtain ⟨T7, X7, e7, st7⟩ := getS X1 hx hZ hown (hw _ (List.mem_of_getElem? (i := 98) rfl)) Via.refl e1 HB (g := (mkF m 42 #[.val (.ref b), .val (.int (Int32.ofNat (2 * k + 1)))] [(.int ((g (2 * k)) &&& (255 : Int32)))])) rfl (hb hby d22_42) (host := "")
  have pre8 : ∀ t, Steps p.tables e below (T7.setTop (mkF m 53 #[.val (.ref b), .val (.int (Int32.ofNat (2 * k + 1)))] [(.int ((g (2 * k + 1)) &&& (255 : Int32))), (.int (((g (2 * k)) &&& (255 : Int32)) <<< ((0 : Int32) &&& 31)))])) t → Steps p.tables e below _ t := fun t kt => pre6 t (by
    show Steps p.tables e below (T1.setTop (mkF m 42 #[.val (.ref b), .val (.int (Int32.ofNat (2 * k + 1)))] [(.int ((g (2 * k)) &&& (255 : Int32)))])) _
    refine st7 _ ?_
    show Steps p.tables e below (T7.setTop (mkF m 45 #[.val (.ref b), .val (.int (Int32.ofNat (2 * k + 1)))] [(.int (0 : Int32)), (.int ((g (2 * k)) &&& (255 : Int32)))])) _
    refine XS.ishl X7.here hx rfl (hb hby d22_45) rfl ?_
    show Steps p.tables e below (T7.setTop (mkF m 46 #[.val (.ref b), .val (.int (Int32.ofNat (2 * k + 1)))] [(.int (((g (2 * k)) &&& (255 : Int32)) <<< ((0 : Int32) &&& 31)))])) _
    refine XS.aloadN X7.here hx rfl (hb hby d22_46) rfl rfl ?_
    show Steps p.tables e below (T7.setTop (mkF m 47 #[.val (.ref b), .val (.int (Int32.ofNat (2 * k + 1)))] [(.ref b), (.int (((g (2 * k)) &&& (255 : Int32)) <<< ((0 : Int32) &&& 31)))])) _
    refine XS.iloadN X7.here hx rfl (hb hby d22_47) rfl ?_
    show Steps p.tables e below (T7.setTop (mkF m 48 #[.val (.ref b), .val (.int (Int32.ofNat (2 * k + 1)))] [(.int (Int32.ofNat (2 * k + 1))), (.ref b), (.int (((g (2 * k)) &&& (255 : Int32)) <<< ((0 : Int32) &&& 31)))])) _
    refine X7.baloadBytes hx (j := (Int32.ofNat (2 * k + 1))) (v := (.int (g (2 * k + 1)))) (by rw [e7]; exact Ar.1) (State.isArrayOf_alike hZ.alike Ar.2.1) Ar.2.2 (within (c := 2 * k + 1) rfl (by omega) (by omega)) (by rw [clamp_of (c := 2 * k + 1) rfl (by omega)]; exact Hf _ (by omega)) (g := (mkF m 48 #[.val (.ref b), .val (.int (Int32.ofNat (2 * k + 1)))] [(.int (Int32.ofNat (2 * k + 1))), (.ref b), (.int (((g (2 * k)) &&& (255 : Int32)) <<< ((0 : Int32) &&& 31)))])) rfl rfl (hb hby d22_48) _ ?_
    show Steps p.tables e below (T7.setTop (mkF m 49 #[.val (.ref b), .val (.int (Int32.ofNat (2 * k + 1)))] [(.int (g (2 * k + 1))), (.int (((g (2 * k)) &&& (255 : Int32)) <<< ((0 : Int32) &&& 31)))])) _
    refine XS.sipush X7.here hx rfl (hb hby d22_49) ?_
    show Steps p.tables e below (T7.setTop (mkF m 52 #[.val (.ref b), .val (.int (Int32.ofNat (2 * k + 1)))] [(.int (255 : Int32)), (.int (g (2 * k + 1))), (.int (((g (2 * k)) &&& (255 : Int32)) <<< ((0 : Int32) &&& 31)))])) _
    refine XS.iand X7.here hx rfl (hb hby d22_52) rfl ?_
    exact kt)
  obtain ⟨T9, X9, e9, st9⟩ := getS X7 hx hZ hown (hw _ (List.mem_of_getElem? (i := 99) rfl)) Via.refl e7 LB (g := (mkF m 53 #[.val (.ref b), .val (.int (Int32.ofNat (2 * k + 1)))] [(.int ((g (2 * k + 1)) &&& (255 : Int32))), (.int (((g (2 * k)) &&& (255 : Int32)) <<< ((0 : Int32) &&& 31)))])) rfl (hb hby d22_53) (host := "")
  obtain ⟨fs, hr, hrun, hended, hW, hsame⟩ := X9.leave (v := some (.int (nar .char (((((g (2 * k)) &&& (255 : Int32)) <<< ((0 : Int32) &&& 31)) ||| (((g (2 * k + 1)) &&& (255 : Int32)) <<< ((8 : Int32) &&& 31))).toUInt32.toUInt16.toUInt32.toInt32)))) (fun h => by rw [Bd.returns] at h; cases h)
  refine ⟨_, _, pre8 _ ?_, hrun, hended, _, _, rfl, ?_, ⟨_, rfl⟩, hW, hsame.mono (by decide) (by decide)⟩
  · show Steps p.tables e below (T7.setTop (mkF m 53 #[.val (.ref b), .val (.int (Int32.ofNat (2 * k + 1)))] [(.int ((g (2 * k + 1)) &&& (255 : Int32))), (.int (((g (2 * k)) &&& (255 : Int32)) <<< ((0 : Int32) &&& 31)))])) _
    refine st9 _ ?_
    show Steps p.tables e below (T9.setTop (mkF m 56 #[.val (.ref b), .val (.int (Int32.ofNat (2 * k + 1)))] [(.int (8 : Int32)), (.int ((g (2 * k + 1)) &&& (255 : Int32))), (.int (((g (2 * k)) &&& (255 : Int32)) <<< ((0 : Int32) &&& 31)))])) _
    refine XS.ishl X9.here hx rfl (hb hby d22_56) rfl ?_
    show Steps p.tables e below (T9.setTop (mkF m 57 #[.val (.ref b), .val (.int (Int32.ofNat (2 * k + 1)))] [(.int (((g (2 * k + 1)) &&& (255 : Int32)) <<< ((8 : Int32) &&& 31))), (.int (((g (2 * k)) &&& (255 : Int32)) <<< ((0 : Int32) &&& 31)))])) _
    refine XS.ior X9.here hx rfl (hb hby d22_57) rfl ?_
    show Steps p.tables e below (T9.setTop (mkF m 58 #[.val (.ref b), .val (.int (Int32.ofNat (2 * k + 1)))] [(.int ((((g (2 * k)) &&& (255 : Int32)) <<< ((0 : Int32) &&& 31)) ||| (((g (2 * k + 1)) &&& (255 : Int32)) <<< ((8 : Int32) &&& 31))))])) _
    refine XS.i2c X9.here hx rfl (hb hby d22_58) rfl ?_
    show Steps p.tables e below (T9.setTop (mkF m 59 #[.val (.ref b), .val (.int (Int32.ofNat (2 * k + 1)))] [(.int (((((g (2 * k)) &&& (255 : Int32)) <<< ((0 : Int32) &&& 31)) ||| (((g (2 * k + 1)) &&& (255 : Int32)) <<< ((8 : Int32) &&& 31))).toUInt32.toUInt16.toUInt32.toInt32))])) _
    exact retN X9 hx (t := .char) Bd.returns (by simp) (hb hby d22_59) hr
  · show Q22 Z k g h0 n0 _ T9.heap _
    rw [e9]
    exact ⟨rfl, N0, rfl⟩
theorem pn_23 : plainName "java/lang/StringUTF16" = true := by first | (simp [plainName, overriddenIn]; done) | decide +kernel
theorem ef_23 (m : MethodId) (x0 : Addr) (x1 : Int32) : entryFrame m #[(.ref x0), (.int x1)] 2 = mkF m 0 #[.val (.ref x0), .val (.int x1)] [] := by first | (simp [entryFrame, mkF, argsToLocals, Value.category]; done) | rfl
theorem d23_0 : decode jdk_52_method_83_code 0 = .ok (.iload_n 1, 1) := by decide +kernel
theorem d23_1 : decode jdk_52_method_83_code 1 = .ok (.aload_n 0, 1) := by decide +kernel
theorem pd_3 : parseMethodDescriptor "(I[B)V" = some ⟨[.int, (.array .byte)], none⟩ := by decide +kernel
theorem d23_2 : decode jdk_52_method_83_code 2 = .ok (.invokestatic 67, 3) := by decide +kernel
theorem d23_5 : decode jdk_52_method_83_code 5 = .ok (.aload_n 0, 1) := by decide +kernel
theorem d23_6 : decode jdk_52_method_83_code 6 = .ok (.iload_n 1, 1) := by decide +kernel
theorem pd_4 : parseMethodDescriptor "([BI)C" = some ⟨[(.array .byte), .int], some .char⟩ := by decide +kernel
theorem d23_7 : decode jdk_52_method_83_code 7 = .ok (.invokestatic 71, 3) := by decide +kernel
theorem d23_10 : decode jdk_52_method_83_code 10 = .ok (.ireturn, 1) := by decide +kernel
def Q23 (Z : State) (k : Nat) (g : Nat → Int32) (h0 : Heap) (n0 : Nat) (v : Option Value) (h : Heap) (L : List Loc) : Prop := v = some (.int (nar .char (own_gc (g (2 * k)) (g (2 * k + 1))))) ∧ Fr n0 L ∧ h = h0
set_option maxRecDepth 65536 in
set_option maxHeartbeats 40000000 in
theorem rm23 (l : Launch) (Z : State) (a0 : Array Value) (hw : ∀ d ∈ tables_1, d.before a0 Z = true) (ws : List Jvm.Cond) (b : Addr) (k : Nat) (n : Nat) (cl : Cell) (g : Nat → Int32) (G3 : Value) (h0 : Heap) (n0 : Nat) (Z0 : n0 ≤ h0.size) (rG3 : G3.isRef = true) (O4 : Sta Z h0 "jdk/internal/util/Preconditions" "SIOOBE_FORMATTER" "Ljava/util/function/BiFunction;" G3) (AD : Sta Z h0 "java/lang/StringUTF16" "$assertionsDisabled" "Z" (.int (1 : Int32))) (HB : Sta Z h0 "java/lang/StringUTF16" "HI_BYTE_SHIFT" "I" (.int (0 : Int32))) (LB : Sta Z h0 "java/lang/StringUTF16" "LO_BYTE_SHIFT" "I" (.int (8 : Int32))) (Ar : Arr Z h0 b cl .byte) (Sz : cl.slots.size = 2 * n) (hn : n ≤ 4) (Hf : ∀ j, j < 2 * n → cl.slots[j]? = some (.int (g j))) (hk : k < n) :
    MetFree l (⟨"java/lang/StringUTF16", "charAt", "([BI)C"⟩ : MethodName) (head1 (Jvm.Cond.code (⟨"java/lang/StringUTF16", "charAt", "([BI)C"⟩ : MethodName) jdk_52_method_83_code 2 (some .char) :: ws) ({ frames := 3, cells := 0, slots := 0, locals := 40 } : Room)) (fun aa_ U => aa_ = #[(.ref b), (.int (Int32.ofNat k))] ∧ Z.Warmed39 U.vm ∧ U.heap = h0) (fun _ _ _ _ _ => True) (fun _ U o U' => ∃ v_ L_, o = .returned v_ ∧ Q23 Z k g h0 n0 v_ U'.heap L_ ∧ FrameEnd U o U' L_ ({ frames := 3, cells := 0, slots := 0, locals := 40 } : Room).cells ({ frames := 3, cells := 0, slots := 0, locals := 40 } : Room).slots) := by
  refine MetFree.of_bodySF (plainFor_of_name pn_23) hisR ?_
  intro p e s m args below meth c s₁ Bd hml0 hP hK
  obtain ⟨rfl, hZ, hh⟩ := hP
  have hx := Bd.exec
  have hby := Bd.bytes
  have hml : c.maxLocals = 2 := hml0
  have hown : s.vm.findClass "java/lang/StringUTF16" = some m.cls := findClass_of_methodNamed Bd.named
  have hnm := (name_of_methodNamed Bd.named Bd.method).1
  have X0 : Stand p l e ({ frames := 3, cells := 0, slots := 0, locals := 40 } : Room) s m #[(.ref b), (.int (Int32.ofNat k))] below meth c s₁ [] 0 0 := Stand.of_body Bd
  have e0 : s₁.heap = h0 := by rw [← hh, Bd.state]; rfl
  have N0 := Fr.nil n0
  have pre0 : ∀ t, Steps p.tables e below (s₁.setTop (mkF m 0 #[.val (.ref b), .val (.int (Int32.ofNat k))] [])) t → Steps p.tables e below (s₁.setTop (entryFrame m #[(.ref b), (.int (Int32.ofNat k))] 2)) t := fun t k_ => castTop (ef_23 m b (Int32.ofNat k)) k_
  have pre1 : ∀ t, Steps p.tables e below (s₁.setTop (mkF m 2 #[.val (.ref b), .val (.int (Int32.ofNat k))] [(.ref b), (.int (Int32.ofNat k))])) t → Steps p.tables e below _ t := fun t kt => pre0 t (by
    show Steps p.tables e below (s₁.setTop (mkF m 0 #[.val (.ref b), .val (.int (Int32.ofNat k))] [])) _
    refine XS.iloadN X0.here hx rfl (hb hby d23_0) rfl ?_
    show Steps p.tables e below (s₁.setTop (mkF m 1 #[.val (.ref b), .val (.int (Int32.ofNat k))] [(.int (Int32.ofNat k))])) _
    refine XS.aloadN X0.here hx rfl (hb hby d23_1) rfl rfl ?_
    exact kt)
  obtain ⟨_, _, ⟨T2, L2, k2, n2⟩, -, X2, ⟨Lc2, hQ2, l2, y2, z2⟩, st2⟩ := Jvm.LawKit.callS X0 hx (y := (⟨"java/lang/StringUTF16", "checkIndex", "(I[B)V"⟩ : MethodName)) hown (mvT hZ (hw _ (List.mem_of_getElem? (i := 106) rfl))) (mvT hZ (hw _ (List.mem_of_getElem? (i := 107) rfl))) (mvT hZ (hw _ (List.mem_of_getElem? (i := 48) rfl))) (mvT hZ (hw _ (List.mem_of_getElem? (i := 108) rfl))) (by decide) (backOf (W := 0) (rm24 l Z a0 hw [] k b n cl G3 h0 n0 Z0 rG3 O4 Ar Sz hn hk) hZ (hw _ (List.mem_of_getElem? (i := 108) rfl)) (hw _ (List.mem_of_getElem? (i := 48) rfl)) (by decide) (by decide)) (g := (mkF m 2 #[.val (.ref b), .val (.int (Int32.ofNat k))] [(.ref b), (.int (Int32.ofNat k))])) rfl (by rw [hml]; rfl) (argsL := [(.int (Int32.ofNat k)), (.ref b)]) (rest := []) (lenOf pd_3 rfl) rfl (by show 2 * 0 + _ ≤ _; exact Nat.le_of_eq rfl) (hb hby d23_2) (fun _ _ => ⟨rfl, e0, (by decide : 0 + 0 ≤ _), (by decide : 0 + 0 ≤ _)⟩)
  dsimp only [Pt.U, Pt.locs, Pt.cells, Pt.slots] at X2 l2 y2 z2 st2 hQ2
  subst l2 y2 z2
  obtain ⟨rfl, N2q, e2⟩ := hQ2
  have N2 := Fr.app N0 N2q
  have pre3 : ∀ t, Steps p.tables e below (T2.setTop (mkF m 7 #[.val (.ref b), .val (.int (Int32.ofNat k))] [(.int (Int32.ofNat k)), (.ref b)])) t → Steps p.tables e below _ t := fun t kt => pre1 t (by
    show Steps p.tables e below (s₁.setTop (mkF m 2 #[.val (.ref b), .val (.int (Int32.ofNat k))] [(.ref b), (.int (Int32.ofNat k))])) _
    refine st2 _ ?_
    show Steps p.tables e below (T2.setTop (mkF m 5 #[.val (.ref b), .val (.int (Int32.ofNat k))] [])) _
    refine XS.aloadN X2.here hx rfl (hb hby d23_5) rfl rfl ?_
    show Steps p.tables e below (T2.setTop (mkF m 6 #[.val (.ref b), .val (.int (Int32.ofNat k))] [(.ref b)])) _
    refine XS.iloadN X2.here hx rfl (hb hby d23_6) rfl ?_
    exact kt)
  obtain ⟨_, _, ⟨T4, L4, k4, n4⟩, -, X4, ⟨Lc4, hQ4, l4, y4, z4⟩, st4⟩ := Jvm.LawKit.callS X2 hx (y := (⟨"java/lang/StringUTF16", "getChar", "([BI)C"⟩ : MethodName)) hown (mvT hZ (hw _ (List.mem_of_getElem? (i := 100) rfl))) (mvT hZ (hw _ (List.mem_of_getElem? (i := 101) rfl))) (mvT hZ (hw _ (List.mem_of_getElem? (i := 48) rfl))) (mvT hZ (hw _ (List.mem_of_getElem? (i := 102) rfl))) (by decide) (backOf (W := 0) (rm22 l Z a0 hw [] b k n cl g h0 n0 Z0 AD HB LB Ar Sz hn Hf hk) hZ (hw _ (List.mem_of_getElem? (i := 102) rfl)) (hw _ (List.mem_of_getElem? (i := 48) rfl)) (by decide) (by decide)) (g := (mkF m 7 #[.val (.ref b), .val (.int (Int32.ofNat k))] [(.int (Int32.ofNat k)), (.ref b)])) rfl (by rw [hml]; rfl) (argsL := [(.ref b), (.int (Int32.ofNat k))]) (rest := []) (lenOf pd_4 rfl) rfl (by show 2 * 0 + _ ≤ _; exact Nat.le_of_eq rfl) (hb hby d23_7) (fun _ _ => ⟨rfl, e2, (by decide : 0 + 0 ≤ _), (by decide : 0 + 0 ≤ _)⟩)
  dsimp only [Pt.U, Pt.locs, Pt.cells, Pt.slots] at X4 l4 y4 z4 st4 hQ4
  subst l4 y4 z4
  obtain ⟨rfl, N4q, e4⟩ := hQ4
  have N4 := Fr.app N2 N4q
  obtain ⟨fs, hr, hrun, hended, hW, hsame⟩ := X4.leave (v := some (.int (nar .char (own_gc (g (2 * k)) (g (2 * k + 1)))))) (fun h => by rw [Bd.returns] at h; cases h)
  refine ⟨_, _, pre3 _ ?_, hrun, hended, _, _, rfl, ?_, ⟨_, rfl⟩, hW, hsame.mono (by decide) (by decide)⟩
  · show Steps p.tables e below (T2.setTop (mkF m 7 #[.val (.ref b), .val (.int (Int32.ofNat k))] [(.int (Int32.ofNat k)), (.ref b)])) _
    refine st4 _ ?_
    show Steps p.tables e below (T4.setTop (mkF m 10 #[.val (.ref b), .val (.int (Int32.ofNat k))] [(.int (own_gc (g (2 * k)) (g (2 * k + 1))))])) _
    exact retN X4 hx (t := .char) Bd.returns (by simp) (hb hby d23_10) hr
  · show Q23 Z k g h0 n0 _ T4.heap _
    rw [e4]
    exact ⟨rfl, N4, rfl⟩
theorem pn_14 : plainName "java/lang/String" = true := by first | (simp [plainName, overriddenIn]; done) | decide +kernel
theorem ef_14L (m : MethodId) (x0 : Addr) : entryFrame m #[(.ref x0)] 1 = mkF m 0 #[.val (.ref x0)] [] := by first | (simp [entryFrame, mkF, argsToLocals, Value.category]; done) | rfl
theorem d14_0 : decode jdk_42_method_154_code 0 = .ok (.getstatic 38, 3) := by decide +kernel
theorem d14_3 : decode jdk_42_method_154_code 3 = .ok (.ifCond .eq 14, 3) := by decide +kernel
theorem d14_6 : decode jdk_42_method_154_code 6 = .ok (.aload_n 0, 1) := by decide +kernel
theorem d14_7 : decode jdk_42_method_154_code 7 = .ok (.getfield 15, 3) := by decide +kernel
theorem d14_10 : decode jdk_42_method_154_code 10 = .ok (.ifCond .ne 7, 3) := by decide +kernel
theorem d14_13 : decode jdk_42_method_154_code 13 = .ok (.iconst 1, 1) := by decide +kernel
theorem d14_14 : decode jdk_42_method_154_code 14 = .ok (.goto 4, 3) := by decide +kernel
theorem d14_18 : decode jdk_42_method_154_code 18 = .ok (.ireturn, 1) := by decide +kernel
def Q14 (Z : State) (r : Int32) (h0 : Heap) (n0 : Nat) (v : Option Value) (h : Heap) (L : List Loc) : Prop := v = some (.int r) ∧ Fr n0 L ∧ h = h0
set_option maxRecDepth 65536 in
set_option maxHeartbeats 40000000 in
theorem rm14L (l : Launch) (Z : State) (a0 : Array Value) (hw : ∀ d ∈ tables_1, d.before a0 Z = true) (ws : List Jvm.Cond) (a : Addr) (G1 : Int32) (h0 : Heap) (n0 : Nat) (Z0 : n0 ≤ h0.size) (O2 : Sta Z h0 "java/lang/String" "COMPACT_STRINGS" "Z" (.int G1)) (P5 : ¬ (G1 = (0 : Int32))) (Fc : Fld Z h0 a "java/lang/String" "coder" "B" (.int (0 : Int32))) :
    MetFree l (⟨"java/lang/String", "isLatin1", "()Z"⟩ : MethodName) (head1 (Jvm.Cond.code (⟨"java/lang/String", "isLatin1", "()Z"⟩ : MethodName) jdk_42_method_154_code 1 (some .boolean) :: ws) ({ frames := 0, cells := 0, slots := 0, locals := 0 } : Room)) (fun aa_ U => aa_ = #[(.ref a)] ∧ Z.Warmed39 U.vm ∧ U.heap = h0) (fun _ _ _ _ _ => True) (fun _ U o U' => ∃ v_ L_, o = .returned v_ ∧ Q14 Z (1 : Int32) h0 n0 v_ U'.heap L_ ∧ FrameEnd U o U' L_ ({ frames := 0, cells := 0, slots := 0, locals := 0 } : Room).cells ({ frames := 0, cells := 0, slots := 0, locals := 0 } : Room).slots) := by
  refine MetFree.of_bodySF (plainFor_of_name pn_14) hisR ?_
  intro p e s m args below meth c s₁ Bd hml0 hP hK
  obtain ⟨rfl, hZ, hh⟩ := hP
  have hx := Bd.exec
  have hby := Bd.bytes
  have hml : c.maxLocals = 1 := hml0
  have hown : s.vm.findClass "java/lang/String" = some m.cls := findClass_of_methodNamed Bd.named
  have hnm := (name_of_methodNamed Bd.named Bd.method).1
  have X0 : Stand p l e ({ frames := 0, cells := 0, slots := 0, locals := 0 } : Room) s m #[(.ref a)] below meth c s₁ [] 0 0 := Stand.of_body Bd
  have e0 : s₁.heap = h0 := by rw [← hh, Bd.state]; rfl
  have N0 := Fr.nil n0
  have pre0 : ∀ t, Steps p.tables e below (s₁.setTop (mkF m 0 #[.val (.ref a)] [])) t → Steps p.tables e below (s₁.setTop (entryFrame m #[(.ref a)] 1)) t := fun t k_ => castTop (ef_14L m a) k_
  obtain ⟨T1, X1, e1, st1⟩ := getS X0 hx hZ hown (hw _ (List.mem_of_getElem? (i := 45) rfl)) Via.refl e0 O2 (g := (mkF m 0 #[.val (.ref a)] [])) rfl (hb hby d14_0) (host := "")
  have pre2 : ∀ t, Steps p.tables e below (T1.setTop (mkF m 7 #[.val (.ref a)] [(.ref a)])) t → Steps p.tables e below _ t := fun t kt => pre0 t (by
    show Steps p.tables e below (s₁.setTop (mkF m 0 #[.val (.ref a)] [])) _
    refine st1 _ ?_
    have hc3 : ¬ (G1 = (0 : Int32)) := P5
    show Steps p.tables e below (T1.setTop (mkF m 3 #[.val (.ref a)] [(.int G1)])) _
    refine XS.ifNo X1.here hx rfl (hb hby d14_3) rfl ((if0 _ _).trans (feq hc3).1) ?_
    show Steps p.tables e below (T1.setTop (mkF m 6 #[.val (.ref a)] [])) _
    refine XS.aloadN X1.here hx rfl (hb hby d14_6) rfl rfl ?_
    exact kt)
  obtain ⟨T3, X3, e3, st3⟩ := getF X1 hx hZ hown (host := "") (Or.inl (hw _ (List.mem_of_getElem? (i := 25) rfl))) Via.refl e1 Fc (g := (mkF m 7 #[.val (.ref a)] [(.ref a)])) rfl rfl (hb hby d14_7)
  obtain ⟨fs, hr, hrun, hended, hW, hsame⟩ := X3.leave (v := some (.int (1 : Int32))) (fun h => by rw [Bd.returns] at h; cases h)
  refine ⟨_, _, pre2 _ ?_, hrun, hended, _, _, rfl, ?_, ⟨_, rfl⟩, hW, hsame.mono (by decide) (by decide)⟩
  · show Steps p.tables e below (T1.setTop (mkF m 7 #[.val (.ref a)] [(.ref a)])) _
    refine st3 _ ?_
    have hc10 : (0 : Int32) = (0 : Int32) := rfl
    show Steps p.tables e below (T3.setTop (mkF m 10 #[.val (.ref a)] [(.int (0 : Int32))])) _
    refine XS.ifNo X3.here hx rfl (hb hby d14_10) rfl ((if0 _ _).trans (teq hc10).2) ?_
    show Steps p.tables e below (T3.setTop (mkF m 13 #[.val (.ref a)] [])) _
    refine XS.iconst X3.here hx rfl (hb hby d14_13) ?_
    show Steps p.tables e below (T3.setTop (mkF m 14 #[.val (.ref a)] [(.int (1 : Int32))])) _
    refine XS.goto X3.here hx rfl (pc0 := 14) (pc' := 18) rfl (hb hby d14_14) (by decide) (by decide) ?_
    show Steps p.tables e below (T3.setTop (mkF m 18 #[.val (.ref a)] [(.int (1 : Int32))])) _
    exact retN X3 hx (t := .boolean) Bd.returns (by simp) (hb hby d14_18) hr
  · show Q14 Z (1 : Int32) h0 n0 _ T3.heap _
    rw [e3]
    exact ⟨rfl, N0, rfl⟩
theorem pn_8 : plainName "java/lang/String" = true := by first | (simp [plainName, overriddenIn]; done) | decide +kernel
theorem ef_8L (m : MethodId) (x0 : Addr) : entryFrame m #[(.ref x0)] 1 = mkF m 0 #[.val (.ref x0)] [] := by first | (simp [entryFrame, mkF, argsToLocals, Value.category]; done) | rfl
theorem d8_0 : decode jdk_42_method_152_code 0 = .ok (.getstatic 38, 3) := by decide +kernel
theorem d8_3 : decode jdk_42_method_152_code 3 = .ok (.ifCond .eq 10, 3) := by decide +kernel
theorem d8_6 : decode jdk_42_method_152_code 6 = .ok (.aload_n 0, 1) := by decide +kernel
theorem d8_7 : decode jdk_42_method_152_code 7 = .ok (.getfield 15, 3) := by decide +kernel
theorem d8_10 : decode jdk_42_method_152_code 10 = .ok (.goto 4, 3) := by decide +kernel
theorem d8_14 : decode jdk_42_method_152_code 14 = .ok (.ireturn, 1) := by decide +kernel
def Q8 (Z : State) (r : Int32) (h0 : Heap) (n0 : Nat) (v : Option Value) (h : Heap) (L : List Loc) : Prop := v = some (.int r) ∧ Fr n0 L ∧ h = h0
set_option maxRecDepth 65536 in
set_option maxHeartbeats 40000000 in
theorem rm8L (l : Launch) (Z : State) (a0 : Array Value) (hw : ∀ d ∈ tables_1, d.before a0 Z = true) (ws : List Jvm.Cond) (a : Addr) (G1 : Int32) (h0 : Heap) (n0 : Nat) (Z0 : n0 ≤ h0.size) (O2 : Sta Z h0 "java/lang/String" "COMPACT_STRINGS" "Z" (.int G1)) (P5 : ¬ (G1 = (0 : Int32))) (Fc : Fld Z h0 a "java/lang/String" "coder" "B" (.int (0 : Int32))) :
    MetFree l (⟨"java/lang/String", "coder", "()B"⟩ : MethodName) (head1 (Jvm.Cond.code (⟨"java/lang/String", "coder", "()B"⟩ : MethodName) jdk_42_method_152_code 1 (some .byte) :: ws) ({ frames := 0, cells := 0, slots := 0, locals := 0 } : Room)) (fun aa_ U => aa_ = #[(.ref a)] ∧ Z.Warmed39 U.vm ∧ U.heap = h0) (fun _ _ _ _ _ => True) (fun _ U o U' => ∃ v_ L_, o = .returned v_ ∧ Q8 Z (0 : Int32) h0 n0 v_ U'.heap L_ ∧ FrameEnd U o U' L_ ({ frames := 0, cells := 0, slots := 0, locals := 0 } : Room).cells ({ frames := 0, cells := 0, slots := 0, locals := 0 } : Room).slots) := by
  refine MetFree.of_bodySF (plainFor_of_name pn_8) hisR ?_
  intro p e s m args below meth c s₁ Bd hml0 hP hK
  obtain ⟨rfl, hZ, hh⟩ := hP
  have hx := Bd.exec
  have hby := Bd.bytes
  have hml : c.maxLocals = 1 := hml0
  have hown : s.vm.findClass "java/lang/String" = some m.cls := findClass_of_methodNamed Bd.named
  have hnm := (name_of_methodNamed Bd.named Bd.method).1
  have X0 : Stand p l e ({ frames := 0, cells := 0, slots := 0, locals := 0 } : Room) s m #[(.ref a)] below meth c s₁ [] 0 0 := Stand.of_body Bd
  have e0 : s₁.heap = h0 := by rw [← hh, Bd.state]; rfl
  have N0 := Fr.nil n0
  have pre0 : ∀ t, Steps p.tables e below (s₁.setTop (mkF m 0 #[.val (.ref a)] [])) t → Steps p.tables e below (s₁.setTop (entryFrame m #[(.ref a)] 1)) t := fun t k_ => castTop (ef_8L m a) k_
  obtain ⟨T1, X1, e1, st1⟩ := getS X0 hx hZ hown (hw _ (List.mem_of_getElem? (i := 45) rfl)) Via.refl e0 O2 (g := (mkF m 0 #[.val (.ref a)] [])) rfl (hb hby d8_0) (host := "")
  have pre2 : ∀ t, Steps p.tables e below (T1.setTop (mkF m 7 #[.val (.ref a)] [(.ref a)])) t → Steps p.tables e below _ t := fun t kt => pre0 t (by
    show Steps p.tables e below (s₁.setTop (mkF m 0 #[.val (.ref a)] [])) _
    refine st1 _ ?_
    have hc3 : ¬ (G1 = (0 : Int32)) := P5
    show Steps p.tables e below (T1.setTop (mkF m 3 #[.val (.ref a)] [(.int G1)])) _
    refine XS.ifNo X1.here hx rfl (hb hby d8_3) rfl ((if0 _ _).trans (feq hc3).1) ?_
    show Steps p.tables e below (T1.setTop (mkF m 6 #[.val (.ref a)] [])) _
    refine XS.aloadN X1.here hx rfl (hb hby d8_6) rfl rfl ?_
    exact kt)
  obtain ⟨T3, X3, e3, st3⟩ := getF X1 hx hZ hown (host := "") (Or.inl (hw _ (List.mem_of_getElem? (i := 25) rfl))) Via.refl e1 Fc (g := (mkF m 7 #[.val (.ref a)] [(.ref a)])) rfl rfl (hb hby d8_7)
  obtain ⟨fs, hr, hrun, hended, hW, hsame⟩ := X3.leave (v := some (.int (0 : Int32))) (fun h => by rw [Bd.returns] at h; cases h)
  refine ⟨_, _, pre2 _ ?_, hrun, hended, _, _, rfl, ?_, ⟨_, rfl⟩, hW, hsame.mono (by decide) (by decide)⟩
  · show Steps p.tables e below (T1.setTop (mkF m 7 #[.val (.ref a)] [(.ref a)])) _
    refine st3 _ ?_
    show Steps p.tables e below (T3.setTop (mkF m 10 #[.val (.ref a)] [(.int (0 : Int32))])) _
    refine XS.goto X3.here hx rfl (pc0 := 10) (pc' := 14) rfl (hb hby d8_10) (by decide) (by decide) ?_
    show Steps p.tables e below (T3.setTop (mkF m 14 #[.val (.ref a)] [(.int (0 : Int32))])) _
    exact retN X3 hx (t := .byte) Bd.returns (by simp) (hb hby d8_14) hr
  · show Q8 Z (0 : Int32) h0 n0 _ T3.heap _
    rw [e3]
    exact ⟨rfl, N0, rfl⟩
theorem ef_14U (m : MethodId) (x0 : Addr) : entryFrame m #[(.ref x0)] 1 = mkF m 0 #[.val (.ref x0)] [] := by first | (simp [entryFrame, mkF, argsToLocals, Value.category]; done) | rfl
theorem d14_17 : decode jdk_42_method_154_code 17 = .ok (.iconst 0, 1) := by decide +kernel
set_option maxRecDepth 65536 in
set_option maxHeartbeats 40000000 in
theorem rm14U (l : Launch) (Z : State) (a0 : Array Value) (hw : ∀ d ∈ tables_1, d.before a0 Z = true) (ws : List Jvm.Cond) (a : Addr) (G1 : Int32) (h0 : Heap) (n0 : Nat) (Z0 : n0 ≤ h0.size) (O2 : Sta Z h0 "java/lang/String" "COMPACT_STRINGS" "Z" (.int G1)) (P5 : ¬ (G1 = (0 : Int32))) (Fc : Fld Z h0 a "java/lang/String" "coder" "B" (.int (1 : Int32))) :
    MetFree l (⟨"java/lang/String", "isLatin1", "()Z"⟩ : MethodName) (head1 (Jvm.Cond.code (⟨"java/lang/String", "isLatin1", "()Z"⟩ : MethodName) jdk_42_method_154_code 1 (some .boolean) :: ws) ({ frames := 0, cells := 0, slots := 0, locals := 0 } : Room)) (fun aa_ U => aa_ = #[(.ref a)] ∧ Z.Warmed39 U.vm ∧ U.heap = h0) (fun _ _ _ _ _ => True) (fun _ U o U' => ∃ v_ L_, o = .returned v_ ∧ Q14 Z (0 : Int32) h0 n0 v_ U'.heap L_ ∧ FrameEnd U o U' L_ ({ frames := 0, cells := 0, slots := 0, locals := 0 } : Room).cells ({ frames := 0, cells := 0, slots := 0, locals := 0 } : Room).slots) := by
  refine MetFree.of_bodySF (plainFor_of_name pn_14) hisR ?_
  intro p e s m args below meth c s₁ Bd hml0 hP hK
  obtain ⟨rfl, hZ, hh⟩ := hP
  have hx := Bd.exec
  have hby := Bd.bytes
  have hml : c.maxLocals = 1 := hml0
  have hown : s.vm.findClass "java/lang/String" = some m.cls := findClass_of_methodNamed Bd.named
  have hnm := (name_of_methodNamed Bd.named Bd.method).1
  have X0 : Stand p l e ({ frames := 0, cells := 0, slots := 0, locals := 0 } : Room) s m #[(.ref a)] below meth c s₁ [] 0 0 := Stand.of_body Bd
  have e0 : s₁.heap = h0 := by rw [← hh, Bd.state]; rfl
  have N0 := Fr.nil n0
  have pre0 : ∀ t, Steps p.tables e below (s₁.setTop (mkF m 0 #[.val (.ref a)] [])) t → Steps p.tables e below (s₁.setTop (entryFrame m #[(.ref a)] 1)) t := fun t k_ => castTop (ef_14U m a) k_
  obtain ⟨T1, X1, e1, st1⟩ := getS X0 hx hZ hown (hw _ (List.mem_of_getElem? (i := 45) rfl)) Via.refl e0 O2 (g := (mkF m 0 #[.val (.ref a)] [])) rfl (hb hby d14_0) (host := "")
  have pre2 : ∀ t, Steps p.tables e below (T1.setTop (mkF m 7 #[.val (.ref a)] [(.ref a)])) t → Steps p.tables e below _ t := fun t kt => pre0 t (by
    show Steps p.tables e below (s₁.setTop (mkF m 0 #[.val (.ref a)] [])) _
    refine st1 _ ?_
    have hc3 : ¬ (G1 = (0 : Int32)) := P5
    show Steps p.tables e below (T1.setTop (mkF m 3 #[.val (.ref a)] [(.int G1)])) _
    refine XS.ifNo X1.here hx rfl (hb hby d14_3) rfl ((if0 _ _).trans (feq hc3).1) ?_
    show Steps p.tables e below (T1.setTop (mkF m 6 #[.val (.ref a)] [])) _
    refine XS.aloadN X1.here hx rfl (hb hby d14_6) rfl rfl ?_
    exact kt)
  obtain ⟨T3, X3, e3, st3⟩ := getF X1 hx hZ hown (host := "") (Or.inl (hw _ (List.mem_of_getElem? (i := 25) rfl))) Via.refl e1 Fc (g := (mkF m 7 #[.val (.ref a)] [(.ref a)])) rfl rfl (hb hby d14_7)
  obtain ⟨fs, hr, hrun, hended, hW, hsame⟩ := X3.leave (v := some (.int (0 : Int32))) (fun h => by rw [Bd.returns] at h; cases h)
  refine ⟨_, _, pre2 _ ?_, hrun, hended, _, _, rfl, ?_, ⟨_, rfl⟩, hW, hsame.mono (by decide) (by decide)⟩
  · show Steps p.tables e below (T1.setTop (mkF m 7 #[.val (.ref a)] [(.ref a)])) _
    refine st3 _ ?_
    have hc10 : ¬ ((1 : Int32) = (0 : Int32)) := by decide
    show Steps p.tables e below (T3.setTop (mkF m 10 #[.val (.ref a)] [(.int (1 : Int32))])) _
    refine XS.ifYes X3.here hx rfl (pc0 := 10) (pc' := 17) rfl (hb hby d14_10) rfl ((if0 _ _).trans (feq hc10).2) (by decide) (by decide) ?_
    show Steps p.tables e below (T3.setTop (mkF m 17 #[.val (.ref a)] [])) _
    refine XS.iconst X3.here hx rfl (hb hby d14_17) ?_
    show Steps p.tables e below (T3.setTop (mkF m 18 #[.val (.ref a)] [(.int (0 : Int32))])) _
    exact retN X3 hx (t := .boolean) Bd.returns (by simp) (hb hby d14_18) hr
  · show Q14 Z (0 : Int32) h0 n0 _ T3.heap _
    rw [e3]
    exact ⟨rfl, N0, rfl⟩
theorem ef_8U (m : MethodId) (x0 : Addr) : entryFrame m #[(.ref x0)] 1 = mkF m 0 #[.val (.ref x0)] [] := by first | (simp [entryFrame, mkF, argsToLocals, Value.category]; done) | rfl
set_option maxRecDepth 65536 in
set_option maxHeartbeats 40000000 in
theorem rm8U (l : Launch) (Z : State) (a0 : Array Value) (hw : ∀ d ∈ tables_1, d.before a0 Z = true) (ws : List Jvm.Cond) (a : Addr) (G1 : Int32) (h0 : Heap) (n0 : Nat) (Z0 : n0 ≤ h0.size) (O2 : Sta Z h0 "java/lang/String" "COMPACT_STRINGS" "Z" (.int G1)) (P5 : ¬ (G1 = (0 : Int32))) (Fc : Fld Z h0 a "java/lang/String" "coder" "B" (.int (1 : Int32))) :
    MetFree l (⟨"java/lang/String", "coder", "()B"⟩ : MethodName) (head1 (Jvm.Cond.code (⟨"java/lang/String", "coder", "()B"⟩ : MethodName) jdk_42_method_152_code 1 (some .byte) :: ws) ({ frames := 0, cells := 0, slots := 0, locals := 0 } : Room)) (fun aa_ U => aa_ = #[(.ref a)] ∧ Z.Warmed39 U.vm ∧ U.heap = h0) (fun _ _ _ _ _ => True) (fun _ U o U' => ∃ v_ L_, o = .returned v_ ∧ Q8 Z (1 : Int32) h0 n0 v_ U'.heap L_ ∧ FrameEnd U o U' L_ ({ frames := 0, cells := 0, slots := 0, locals := 0 } : Room).cells ({ frames := 0, cells := 0, slots := 0, locals := 0 } : Room).slots) := by
  refine MetFree.of_bodySF (plainFor_of_name pn_8) hisR ?_
  intro p e s m args below meth c s₁ Bd hml0 hP hK
  obtain ⟨rfl, hZ, hh⟩ := hP
  have hx := Bd.exec
  have hby := Bd.bytes
  have hml : c.maxLocals = 1 := hml0
  have hown : s.vm.findClass "java/lang/String" = some m.cls := findClass_of_methodNamed Bd.named
  have hnm := (name_of_methodNamed Bd.named Bd.method).1
  have X0 : Stand p l e ({ frames := 0, cells := 0, slots := 0, locals := 0 } : Room) s m #[(.ref a)] below meth c s₁ [] 0 0 := Stand.of_body Bd
  have e0 : s₁.heap = h0 := by rw [← hh, Bd.state]; rfl
  have N0 := Fr.nil n0
  have pre0 : ∀ t, Steps p.tables e below (s₁.setTop (mkF m 0 #[.val (.ref a)] [])) t → Steps p.tables e below (s₁.setTop (entryFrame m #[(.ref a)] 1)) t := fun t k_ => castTop (ef_8U m a) k_
  obtain ⟨T1, X1, e1, st1⟩ := getS X0 hx hZ hown (hw _ (List.mem_of_getElem? (i := 45) rfl)) Via.refl e0 O2 (g := (mkF m 0 #[.val (.ref a)] [])) rfl (hb hby d8_0) (host := "")
  have pre2 : ∀ t, Steps p.tables e below (T1.setTop (mkF m 7 #[.val (.ref a)] [(.ref a)])) t → Steps p.tables e below _ t := fun t kt => pre0 t (by
    show Steps p.tables e below (s₁.setTop (mkF m 0 #[.val (.ref a)] [])) _
    refine st1 _ ?_
    have hc3 : ¬ (G1 = (0 : Int32)) := P5
    show Steps p.tables e below (T1.setTop (mkF m 3 #[.val (.ref a)] [(.int G1)])) _
    refine XS.ifNo X1.here hx rfl (hb hby d8_3) rfl ((if0 _ _).trans (feq hc3).1) ?_
    show Steps p.tables e below (T1.setTop (mkF m 6 #[.val (.ref a)] [])) _
    refine XS.aloadN X1.here hx rfl (hb hby d8_6) rfl rfl ?_
    exact kt)
  obtain ⟨T3, X3, e3, st3⟩ := getF X1 hx hZ hown (host := "") (Or.inl (hw _ (List.mem_of_getElem? (i := 25) rfl))) Via.refl e1 Fc (g := (mkF m 7 #[.val (.ref a)] [(.ref a)])) rfl rfl (hb hby d8_7)
  obtain ⟨fs, hr, hrun, hended, hW, hsame⟩ := X3.leave (v := some (.int (1 : Int32))) (fun h => by rw [Bd.returns] at h; cases h)
  refine ⟨_, _, pre2 _ ?_, hrun, hended, _, _, rfl, ?_, ⟨_, rfl⟩, hW, hsame.mono (by decide) (by decide)⟩
  · show Steps p.tables e below (T1.setTop (mkF m 7 #[.val (.ref a)] [(.ref a)])) _
    refine st3 _ ?_
    show Steps p.tables e below (T3.setTop (mkF m 10 #[.val (.ref a)] [(.int (1 : Int32))])) _
    refine XS.goto X3.here hx rfl (pc0 := 10) (pc' := 14) rfl (hb hby d8_10) (by decide) (by decide) ?_
    show Steps p.tables e below (T3.setTop (mkF m 14 #[.val (.ref a)] [(.int (1 : Int32))])) _
    exact retN X3 hx (t := .byte) Bd.returns (by simp) (hb hby d8_14) hr
  · show Q8 Z (1 : Int32) h0 n0 _ T3.heap _
    rw [e3]
    exact ⟨rfl, N0, rfl⟩
theorem pn_7 : plainName "java/lang/String" = true := by first | (simp [plainName, overriddenIn]; done) | decide +kernel
theorem ef_7L (m : MethodId) (x0 : Addr) : entryFrame m #[(.ref x0)] 1 = mkF m 0 #[.val (.ref x0)] [] := by first | (simp [entryFrame, mkF, argsToLocals, Value.category]; done) | rfl
theorem d7_0 : decode jdk_42_method_54_code 0 = .ok (.aload_n 0, 1) := by decide +kernel
theorem d7_1 : decode jdk_42_method_54_code 1 = .ok (.getfield 9, 3) := by decide +kernel
theorem d7_4 : decode jdk_42_method_54_code 4 = .ok (.arraylength, 1) := by decide +kernel
theorem d7_5 : decode jdk_42_method_54_code 5 = .ok (.aload_n 0, 1) := by decide +kernel
theorem pd_5 : parseMethodDescriptor "()B" = some ⟨[], some .byte⟩ := by decide +kernel
theorem d7_6 : decode jdk_42_method_54_code 6 = .ok (.invokevirtual 335, 3) := by decide +kernel
theorem d7_9 : decode jdk_42_method_54_code 9 = .ok (.ishr, 1) := by decide +kernel
theorem d7_10 : decode jdk_42_method_54_code 10 = .ok (.ireturn, 1) := by decide +kernel
def Q7 (Z : State) (n : Nat) (h0 : Heap) (n0 : Nat) (v : Option Value) (h : Heap) (L : List Loc) : Prop := v = some (.int (Int32.ofNat n)) ∧ Fr n0 L ∧ h = h0
set_option maxRecDepth 65536 in
set_option maxHeartbeats 40000000 in
theorem rm7L (l : Launch) (Z : State) (a0 : Array Value) (hw : ∀ d ∈ tables_1, d.before a0 Z = true) (ws : List Jvm.Cond) (a : Addr) (b : Addr) (n : Nat) (cl : Cell) (G1 : Int32) (h0 : Heap) (n0 : Nat) (Z0 : n0 ≤ h0.size) (O2 : Sta Z h0 "java/lang/String" "COMPACT_STRINGS" "Z" (.int G1)) (P5 : ¬ (G1 = (0 : Int32))) (Ea : Exa Z h0 a "java/lang/String") (Fv : Fld Z h0 a "java/lang/String" "value" "[B" (.ref b)) (Fc : Fld Z h0 a "java/lang/String" "coder" "B" (.int (0 : Int32))) (Ar : Arr Z h0 b cl .byte) (Sz : cl.slots.size = n) (hn : n ≤ 4) :
    MetFree l (⟨"java/lang/String", "length", "()I"⟩ : MethodName) (head1 (Jvm.Cond.code (⟨"java/lang/String", "length", "()I"⟩ : MethodName) jdk_42_method_54_code 1 (some .int) :: ws) ({ frames := 1, cells := 0, slots := 0, locals := 13 } : Room)) (fun aa_ U => aa_ = #[(.ref a)] ∧ Z.Warmed39 U.vm ∧ U.heap = h0) (fun _ _ _ _ _ => True) (fun _ U o U' => ∃ v_ L_, o = .returned v_ ∧ Q7 Z n h0 n0 v_ U'.heap L_ ∧ FrameEnd U o U' L_ ({ frames := 1, cells := 0, slots := 0, locals := 13 } : Room).cells ({ frames := 1, cells := 0, slots := 0, locals := 13 } : Room).slots) := by
  refine MetFree.of_bodySF (plainFor_of_name pn_7) hisR ?_
  intro p e s m args below meth c s₁ Bd hml0 hP hK
  obtain ⟨rfl, hZ, hh⟩ := hP
  have hx := Bd.exec
  have hby := Bd.bytes
  have hml : c.maxLocals = 1 := hml0
  have hown : s.vm.findClass "java/lang/String" = some m.cls := findClass_of_methodNamed Bd.named
  have hnm := (name_of_methodNamed Bd.named Bd.method).1
  have X0 : Stand p l e ({ frames := 1, cells := 0, slots := 0, locals := 13 } : Room) s m #[(.ref a)] below meth c s₁ [] 0 0 := Stand.of_body Bd
  have e0 : s₁.heap = h0 := by rw [← hh, Bd.state]; rfl
  have N0 := Fr.nil n0
  have pre0 : ∀ t, Steps p.tables e below (s₁.setTop (mkF m 0 #[.val (.ref a)] [])) t → Steps p.tables e below (s₁.setTop (entryFrame m #[(.ref a)] 1)) t := fun t k_ => castTop (ef_7L m a) k_
  have pre1 : ∀ t, Steps p.tables e below (s₁.setTop (mkF m 1 #[.val (.ref a)] [(.ref a)])) t → Steps p.tables e below _ t := fun t kt => pre0 t (by
    show Steps p.tables e below (s₁.setTop (mkF m 0 #[.val (.ref a)] [])) _
    refine XS.aloadN X0.here hx rfl (hb hby d7_0) rfl rfl ?_
    exact kt)
  obtain ⟨T2, X2, e2, st2⟩ := getF X0 hx hZ hown (host := "") (Or.inl (hw _ (List.mem_of_getElem? (i := 24) rfl))) Via.refl e0 Fv (g := (mkF m 1 #[.val (.ref a)] [(.ref a)])) rfl rfl (hb hby d7_1)
  have pre3 : ∀ t, Steps p.tables e below (T2.setTop (mkF m 6 #[.val (.ref a)] [(.ref a), (.int (Int32.ofNat n))])) t → Steps p.tables e below _ t := fun t kt => pre1 t (by
    show Steps p.tables e below (s₁.setTop (mkF m 1 #[.val (.ref a)] [(.ref a)])) _
    refine st2 _ ?_
    show Steps p.tables e below (T2.setTop (mkF m 4 #[.val (.ref a)] [(.ref b)])) _
    refine X2.arraylength hx (by rw [e2]; exact Ar.1) (State.isArrayOf_alike hZ.alike Ar.2.1) (g := (mkF m 4 #[.val (.ref a)] [(.ref b)])) rfl rfl (hb hby d7_4) _ ?_
    rw [len_of (by rw [Sz, clamp_of (c := n) rfl (by omega)] : cl.slots.size = (Int32.ofNat n).toNatClampNeg) (own_nneg (by omega))]
    show Steps p.tables e below (T2.setTop (mkF m 5 #[.val (.ref a)] [(.int (Int32.ofNat n))])) _
    refine XS.aloadN X2.here hx rfl (hb hby d7_5) rfl rfl ?_
    exact kt)
  obtain ⟨cq4, kq4, q4a, q4b, q4c⟩ := isOf hZ e2 Ea
  obtain ⟨_, _, ⟨T4, L4, k4, n4⟩, -, X4, ⟨Lc4, hQ4, l4, y4, z4⟩, st4⟩ := X2.virtualBack hx (y := (⟨"java/lang/String", "coder", "()B"⟩ : MethodName)) (z := (⟨"java/lang/String", "coder", "()B"⟩ : MethodName)) hown (mvT hZ (hw _ (List.mem_of_getElem? (i := 40) rfl))) (mvT hZ (hw _ (List.mem_of_getElem? (i := 41) rfl))) (notFace_of_selects (args := #[]) (mvT hZ (hw _ (List.mem_of_getElem? (i := 43) rfl)))) (mvT hZ (hw _ (List.mem_of_getElem? (i := 43) rfl))) (mvT hZ (hw _ (List.mem_of_getElem? (i := 42) rfl))) (by decide) (backOf (W := 1) (rm8L l Z a0 hw [] a G1 h0 n0 Z0 O2 P5 Fc) hZ (hw _ (List.mem_of_getElem? (i := 44) rfl)) (hw _ (List.mem_of_getElem? (i := 7) rfl)) (by decide) (by decide)) q4a q4c (g := (mkF m 6 #[.val (.ref a)] [(.ref a), (.int (Int32.ofNat n))])) rfl (by rw [hml]; rfl) (Steps.refl _) (argsL := []) (rest := [(.int (Int32.ofNat n))]) (lenOf pd_5 rfl) rfl (by show 2 * 0 + _ ≤ _; exact Nat.le_of_eq rfl) (hb hby d7_6) (fun _ _ => ⟨rfl, e2, (by decide : 0 + 0 ≤ _), (by decide : 0 + 0 ≤ _)⟩)
  dsimp only [Pt.U, Pt.locs, Pt.cells, Pt.slots] at X4 l4 y4 z4 st4 hQ4
  subst l4 y4 z4
  obtain ⟨rfl, N4q, e4⟩ := hQ4
  have N4 := Fr.app N0 N4q
  have pre5 : ∀ t, Steps p.tables e below (T4.setTop (mkF m 10 #[.val (.ref a)] [(.int ((Int32.ofNat n) >>> ((0 : Int32) &&& 31)))])) t → Steps p.tables e below _ t := fun t kt => pre3 t (by
    show Steps p.tables e below (T2.setTop (mkF m 6 #[.val (.ref a)] [(.ref a), (.int (Int32.ofNat n))])) _
    refine st4.trans ?_
    show Steps p.tables e below (T4.setTop (mkF m 9 #[.val (.ref a)] [(.int (0 : Int32)), (.int (Int32.ofNat n))])) _
    refine XS.ishr X4.here hx rfl (hb hby d7_9) rfl ?_
    exact kt)
  have hv6 : ((Int32.ofNat n) >>> ((0 : Int32) &&& 31)) = (Int32.ofNat n) := own_same n (by omega)
  rw [hv6] at pre5
  obtain ⟨fs, hr, hrun, hended, hW, hsame⟩ := X4.leave (v := some (.int (Int32.ofNat n))) (fun h => by rw [Bd.returns] at h; cases h)
  refine ⟨_, _, pre5 _ ?_, hrun, hended, _, _, rfl, ?_, ⟨_, rfl⟩, hW, hsame.mono (by decide) (by decide)⟩
  · show Steps p.tables e below (T4.setTop (mkF m 10 #[.val (.ref a)] [(.int (Int32.ofNat n))])) _
    exact retI X4 hx Bd.returns (hb hby d7_10) hr
  · show Q7 Z n h0 n0 _ T4.heap _
    rw [e4]
    exact ⟨rfl, N4, rfl⟩
theorem ef_7U (m : MethodId) (x0 : Addr) : entryFrame m #[(.ref x0)] 1 = mkF m 0 #[.val (.ref x0)] [] := by first | (simp [entryFrame, mkF, argsToLocals, Value.category]; done) | rfl
set_option maxRecDepth 65536 in
set_option maxHeartbeats 40000000 in
theorem rm7U (l : Launch) (Z : State) (a0 : Array Value) (hw : ∀ d ∈ tables_1, d.before a0 Z = true) (ws : List Jvm.Cond) (a : Addr) (b : Addr) (n : Nat) (cl : Cell) (G1 : Int32) (h0 : Heap) (n0 : Nat) (Z0 : n0 ≤ h0.size) (O2 : Sta Z h0 "java/lang/String" "COMPACT_STRINGS" "Z" (.int G1)) (P5 : ¬ (G1 = (0 : Int32))) (Ea : Exa Z h0 a "java/lang/String") (Fv : Fld Z h0 a "java/lang/String" "value" "[B" (.ref b)) (Fc : Fld Z h0 a "java/lang/String" "coder" "B" (.int (1 : Int32))) (Ar : Arr Z h0 b cl .byte) (Sz : cl.slots.size = (2 * n)) (hn : n ≤ 4) :
    MetFree l (⟨"java/lang/String", "length", "()I"⟩ : MethodName) (head1 (Jvm.Cond.code (⟨"java/lang/String", "length", "()I"⟩ : MethodName) jdk_42_method_54_code 1 (some .int) :: ws) ({ frames := 1, cells := 0, slots := 0, locals := 13 } : Room)) (fun aa_ U => aa_ = #[(.ref a)] ∧ Z.Warmed39 U.vm ∧ U.heap = h0) (fun _ _ _ _ _ => True) (fun _ U o U' => ∃ v_ L_, o = .returned v_ ∧ Q7 Z n h0 n0 v_ U'.heap L_ ∧ FrameEnd U o U' L_ ({ frames := 1, cells := 0, slots := 0, locals := 13 } : Room).cells ({ frames := 1, cells := 0, slots := 0, locals := 13 } : Room).slots) := by
  refine MetFree.of_bodySF (plainFor_of_name pn_7) hisR ?_
  intro p e s m args below meth c s₁ Bd hml0 hP hK
  obtain ⟨rfl, hZ, hh⟩ := hP
  have hx := Bd.exec
  have hby := Bd.bytes
  have hml : c.maxLocals = 1 := hml0
  have hown : s.vm.findClass "java/lang/String" = some m.cls := findClass_of_methodNamed Bd.named
  have hnm := (name_of_methodNamed Bd.named Bd.method).1
  have X0 : Stand p l e ({ frames := 1, cells := 0, slots := 0, locals := 13 } : Room) s m #[(.ref a)] below meth c s₁ [] 0 0 := Stand.of_body Bd
  have e0 : s₁.heap = h0 := by rw [← hh, Bd.state]; rfl
  have N0 := Fr.nil n0
  have pre0 : ∀ t, Steps p.tables e below (s₁.setTop (mkF m 0 #[.val (.ref a)] [])) t → Steps p.tables e below (s₁.setTop (entryFrame m #[(.ref a)] 1)) t := fun t k_ => castTop (ef_7U m a) k_
  have pre1 : ∀ t, Steps p.tables e below (s₁.setTop (mkF m 1 #[.val (.ref a)] [(.ref a)])) t → Steps p.tables e below _ t := fun t kt => pre0 t (by
    show Steps p.tables e below (s₁.setTop (mkF m 0 #[.val (.ref a)] [])) _
    refine XS.aloadN X0.here hx rfl (hb hby d7_0) rfl rfl ?_
    exact kt)
  obtain ⟨T2, X2, e2, st2⟩ := getF X0 hx hZ hown (host := "") (Or.inl (hw _ (List.mem_of_getElem? (i := 24) rfl))) Via.refl e0 Fv (g := (mkF m 1 #[.val (.ref a)] [(.ref a)])) rfl rfl (hb hby d7_1)
  have pre3 : ∀ t, Steps p.tables e below (T2.setTop (mkF m 6 #[.val (.ref a)] [(.ref a), (.int (Int32.ofNat (2 * n)))])) t → Steps p.tables e below _ t := fun t kt => pre1 t (by
    show Steps p.tables e below (s₁.setTop (mkF m 1 #[.val (.ref a)] [(.ref a)])) _
    refine st2 _ ?_
    show Steps p.tables e below (T2.setTop (mkF m 4 #[.val (.ref a)] [(.ref b)])) _
    refine X2.arraylength hx (by rw [e2]; exact Ar.1) (State.isArrayOf_alike hZ.alike Ar.2.1) (g := (mkF m 4 #[.val (.ref a)] [(.ref b)])) rfl rfl (hb hby d7_4) _ ?_
    rw [len_of (by rw [Sz, clamp_of (c := (2 * n)) rfl (by omega)] : cl.slots.size = (Int32.ofNat (2 * n)).toNatClampNeg) (own_nneg (by omega))]
    show Steps p.tables e below (T2.setTop (mkF m 5 #[.val (.ref a)] [(.int (Int32.ofNat (2 * n)))])) _
    refine XS.aloadN X2.here hx rfl (hb hby d7_5) rfl rfl ?_
    exact kt)
  obtain ⟨cq4, kq4, q4a, q4b, q4c⟩ := isOf hZ e2 Ea
  obtain ⟨_, _, ⟨T4, L4, k4, n4⟩, -, X4, ⟨Lc4, hQ4, l4, y4, z4⟩, st4⟩ := X2.virtualBack hx (y := (⟨"java/lang/String", "coder", "()B"⟩ : MethodName)) (z := (⟨"java/lang/String", "coder", "()B"⟩ : MethodName)) hown (mvT hZ (hw _ (List.mem_of_getElem? (i := 40) rfl))) (mvT hZ (hw _ (List.mem_of_getElem? (i := 41) rfl))) (notFace_of_selects (args := #[]) (mvT hZ (hw _ (List.mem_of_getElem? (i := 43) rfl)))) (mvT hZ (hw _ (List.mem_of_getElem? (i := 43) rfl))) (mvT hZ (hw _ (List.mem_of_getElem? (i := 42) rfl))) (by decide) (backOf (W := 1) (rm8U l Z a0 hw [] a G1 h0 n0 Z0 O2 P5 Fc) hZ (hw _ (List.mem_of_getElem? (i := 44) rfl)) (hw _ (List.mem_of_getElem? (i := 7) rfl)) (by decide) (by decide)) q4a q4c (g := (mkF m 6 #[.val (.ref a)] [(.ref a), (.int (Int32.ofNat (2 * n)))])) rfl (by rw [hml]; rfl) (Steps.refl _) (argsL := []) (rest := [(.int (Int32.ofNat (2 * n)))]) (lenOf pd_5 rfl) rfl (by show 2 * 0 + _ ≤ _; exact Nat.le_of_eq rfl) (hb hby d7_6) (fun _ _ => ⟨rfl, e2, (by decide : 0 + 0 ≤ _), (by decide : 0 + 0 ≤ _)⟩)
  dsimp only [Pt.U, Pt.locs, Pt.cells, Pt.slots] at X4 l4 y4 z4 st4 hQ4
  subst l4 y4 z4
  obtain ⟨rfl, N4q, e4⟩ := hQ4
  have N4 := Fr.app N0 N4q
  have pre5 : ∀ t, Steps p.tables e below (T4.setTop (mkF m 10 #[.val (.ref a)] [(.int ((Int32.ofNat (2 * n)) >>> ((1 : Int32) &&& 31)))])) t → Steps p.tables e below _ t := fun t kt => pre3 t (by
    show Steps p.tables e below (T2.setTop (mkF m 6 #[.val (.ref a)] [(.ref a), (.int (Int32.ofNat (2 * n)))])) _
    refine st4.trans ?_
    show Steps p.tables e below (T4.setTop (mkF m 9 #[.val (.ref a)] [(.int (1 : Int32)), (.int (Int32.ofNat (2 * n)))])) _
    refine XS.ishr X4.here hx rfl (hb hby d7_9) rfl ?_
    exact kt)
  have hv6 : ((Int32.ofNat (2 * n)) >>> ((1 : Int32) &&& 31)) = (Int32.ofNat n) := own_half n (by omega)
  rw [hv6] at pre5
  obtain ⟨fs, hr, hrun, hended, hW, hsame⟩ := X4.leave (v := some (.int (Int32.ofNat n))) (fun h => by rw [Bd.returns] at h; cases h)
  refine ⟨_, _, pre5 _ ?_, hrun, hended, _, _, rfl, ?_, ⟨_, rfl⟩, hW, hsame.mono (by decide) (by decide)⟩
  · show Steps p.tables e below (T4.setTop (mkF m 10 #[.val (.ref a)] [(.int (Int32.ofNat n))])) _
    exact retI X4 hx Bd.returns (hb hby d7_10) hr
  · show Q7 Z n h0 n0 _ T4.heap _
    rw [e4]
    exact ⟨rfl, N4, rfl⟩
set_option maxRecDepth 65536 in
set_option maxHeartbeats 40000000 in
theorem rm7 (l : Launch) (Z : State) (a0 : Array Value) (hw : ∀ d ∈ tables_1, d.before a0 Z = true) (ws : List Jvm.Cond) (a : Addr) (n : Nat) (f : Nat → Int32) (G1 : Int32) (h0 : Heap) (n0 : Nat) (Z0 : n0 ≤ h0.size) (O2 : Sta Z h0 "java/lang/String" "COMPACT_STRINGS" "Z" (.int G1)) (P5 : ¬ (G1 = (0 : Int32))) (S : own_St Z h0 a n f) (hn : n ≤ 4) :
    MetFree l (⟨"java/lang/String", "length", "()I"⟩ : MethodName) (head1 (Jvm.Cond.code (⟨"java/lang/String", "length", "()I"⟩ : MethodName) jdk_42_method_54_code 1 (some .int) :: ws) ({ frames := 1, cells := 0, slots := 0, locals := 13 } : Room)) (fun aa_ U => aa_ = #[(.ref a)] ∧ Z.Warmed39 U.vm ∧ U.heap = h0) (fun _ _ _ _ _ => True) (fun _ U o U' => ∃ v_ L_, o = .returned v_ ∧ Q7 Z n h0 n0 v_ U'.heap L_ ∧ FrameEnd U o U' L_ ({ frames := 1, cells := 0, slots := 0, locals := 13 } : Room).cells ({ frames := 1, cells := 0, slots := 0, locals := 13 } : Room).slots) := by
  rcases S with ⟨b, Ea, Fc, Fv, ⟨cl, Ar, Sz, Hf⟩, hs⟩ | ⟨b, Ea, Fc, Fv, cl, Ar, Sz, Hf⟩
  · exact rm7L l Z a0 hw ws a b n cl G1 h0 n0 Z0 O2 P5 Ea Fv Fc Ar Sz hn
  · exact rm7U l Z a0 hw ws a b n cl G1 h0 n0 Z0 O2 P5 Ea Fv Fc Ar Sz hn
theorem pn_13 : plainName "java/lang/String" = true := by first | (simp [plainName, overriddenIn]; done) | decide +kernel
theorem ef_13L (m : MethodId) (x0 : Addr) (x1 : Int32) : entryFrame m #[(.ref x0), (.int x1)] 2 = mkF m 0 #[.val (.ref x0), .val (.int x1)] [] := by first | (simp [entryFrame, mkF, argsToLocals, Value.category]; done) | rfl
theorem d13_0 : decode jdk_42_method_56_code 0 = .ok (.aload_n 0, 1) := by decide +kernel
theorem pd_6 : parseMethodDescriptor "()Z" = some ⟨[], some .boolean⟩ := by decide +kernel
theorem d13_1 : decode jdk_42_method_56_code 1 = .ok (.invokevirtual 492, 3) := by decide +kernel
theorem d13_4 : decode jdk_42_method_56_code 4 = .ok (.ifCond .eq 12, 3) := by decide +kernel
theorem d13_7 : decode jdk_42_method_56_code 7 = .ok (.aload_n 0, 1) := by decide +kernel
theorem d13_8 : decode jdk_42_method_56_code 8 = .ok (.getfield 9, 3) := by decide +kernel
theorem d13_11 : decode jdk_42_method_56_code 11 = .ok (.iload_n 1, 1) := by decide +kernel
theorem d13_12 : decode jdk_42_method_56_code 12 = .ok (.invokestatic 495, 3) := by decide +kernel
theorem d13_15 : decode jdk_42_method_56_code 15 = .ok (.ireturn, 1) := by decide +kernel
def Q13 (Z : State) (k : Nat) (f : Nat → Int32) (h0 : Heap) (n0 : Nat) (v : Option Value) (h : Heap) (L : List Loc) : Prop := v = some (.int (f k)) ∧ Fr n0 L ∧ h = h0
set_option maxRecDepth 65536 in
set_option maxHeartbeats 40000000 in
theorem rm13L (l : Launch) (Z : State) (a0 : Array Value) (hw : ∀ d ∈ tables_1, d.before a0 Z = true) (ws : List Jvm.Cond) (a : Addr) (b : Addr) (k : Nat) (n : Nat) (cl : Cell) (f : Nat → Int32) (G1 : Int32) (G3 : Value) (h0 : Heap) (n0 : Nat) (Z0 : n0 ≤ h0.size) (rG3 : G3.isRef = true) (O4 : Sta Z h0 "jdk/internal/util/Preconditions" "SIOOBE_FORMATTER" "Ljava/util/function/BiFunction;" G3) (O2 : Sta Z h0 "java/lang/String" "COMPACT_STRINGS" "Z" (.int G1)) (P5 : ¬ (G1 = (0 : Int32))) (AD : Sta Z h0 "java/lang/StringUTF16" "$assertionsDisabled" "Z" (.int (1 : Int32))) (HB : Sta Z h0 "java/lang/StringUTF16" "HI_BYTE_SHIFT" "I" (.int (0 : Int32))) (LB : Sta Z h0 "java/lang/StringUTF16" "LO_BYTE_SHIFT" "I" (.int (8 : Int32))) (Ea : Exa Z h0 a "java/lang/String") (Fv : Fld Z h0 a "java/lang/String" "value" "[B" (.ref b)) (Fc : Fld Z h0 a "java/lang/String" "coder" "B" (.int (0 : Int32))) (Ar : Arr Z h0 b cl .byte) (Sz : cl.slots.size = n) (hn : n ≤ 4) (Hf : ∀ j, j < n → cl.slots[j]? = some (.int ((fun j => own_lt1 (f j)) j))) (hs : ∀ j, j < n → ¬ ((255 : Int32) < f j)) (hf : ∀ j, j < n → 0 ≤ (f j).toInt ∧ (f j).toInt < 65536) (hk : k < n) :
    MetFree l (⟨"java/lang/String", "charAt", "(I)C"⟩ : MethodName) (head1 (Jvm.Cond.code (⟨"java/lang/String", "charAt", "(I)C"⟩ : MethodName) jdk_42_method_56_code 2 (some .char) :: ws) ({ frames := 4, cells := 0, slots := 0, locals := 53 } : Room)) (fun aa_ U => aa_ = #[(.ref a), (.int (Int32.ofNat k))] ∧ Z.Warmed39 U.vm ∧ U.heap = h0) (fun _ _ _ _ _ => True) (fun _ U o U' => ∃ v_ L_, o = .returned v_ ∧ Q13 Z k f h0 n0 v_ U'.heap L_ ∧ FrameEnd U o U' L_ ({ frames := 4, cells := 0, slots := 0, locals := 53 } : Room).cells ({ frames := 4, cells := 0, slots := 0, locals := 53 } : Room).slots) := by
  refine MetFree.of_bodySF (plainFor_of_name pn_13) hisR ?_
  intro p e s m args below meth c s₁ Bd hml0 hP hK
  obtain ⟨rfl, hZ, hh⟩ := hP
  have hx := Bd.exec
  have hby := Bd.bytes
  have hml : c.maxLocals = 2 := hml0
  have hown : s.vm.findClass "java/lang/String" = some m.cls := findClass_of_methodNamed Bd.named
  have hnm := (name_of_methodNamed Bd.named Bd.method).1
  have X0 : Stand p l e ({ frames := 4, cells := 0, slots := 0, locals := 53 } : Room) s m #[(.ref a), (.int (Int32.ofNat k))] below meth c s₁ [] 0 0 := Stand.of_body Bd
  have e0 : s₁.heap = h0 := by rw [← hh, Bd.state]; rfl
  have N0 := Fr.nil n0
  have pre0 : ∀ t, Steps p.tables e below (s₁.setTop (mkF m 0 #[.val (.ref a), .val (.int (Int32.ofNat k))] [])) t → Steps p.tables e below (s₁.setTop (entryFrame m #[(.ref a), (.int (Int32.ofNat k))] 2)) t := fun t k_ => castTop (ef_13L m a (Int32.ofNat k)) k_
  have pre1 : ∀ t, Steps p.tables e below (s₁.setTop (mkF m 1 #[.val (.ref a), .val (.int (Int32.ofNat k))] [(.ref a)])) t → Steps p.tables e below _ t := fun t kt => pre0 t (by
    show Steps p.tables e below (s₁.setTop (mkF m 0 #[.val (.ref a), .val (.int (Int32.ofNat k))] [])) _
    refine XS.aloadN X0.here hx rfl (hb hby d13_0) rfl rfl ?_
    exact kt)
  obtain ⟨cq2, kq2, q2a, q2b, q2c⟩ := isOf hZ e0 Ea
  obtain ⟨_, _, ⟨T2, L2, k2, n2⟩, -, X2, ⟨Lc2, hQ2, l2, y2, z2⟩, st2⟩ := X0.virtualBack hx (y := (⟨"java/lang/String", "isLatin1", "()Z"⟩ : MethodName)) (z := (⟨"java/lang/String", "isLatin1", "()Z"⟩ : MethodName)) hown (mvT hZ (hw _ (List.mem_of_getElem? (i := 64) rfl))) (mvT hZ (hw _ (List.mem_of_getElem? (i := 65) rfl))) (notFace_of_selects (args := #[]) (mvT hZ (hw _ (List.mem_of_getElem? (i := 67) rfl)))) (mvT hZ (hw _ (List.mem_of_getElem? (i := 67) rfl))) (mvT hZ (hw _ (List.mem_of_getElem? (i := 66) rfl))) (by decide) (backOf (W := 0) (rm14L l Z a0 hw [] a G1 h0 n0 Z0 O2 P5 Fc) hZ (hw _ (List.mem_of_getElem? (i := 68) rfl)) (hw _ (List.mem_of_getElem? (i := 7) rfl)) (by decide) (by decide)) q2a q2c (g := (mkF m 1 #[.val (.ref a), .val (.int (Int32.ofNat k))] [(.ref a)])) rfl (by rw [hml]; rfl) (Steps.refl _) (argsL := []) (rest := []) (lenOf pd_6 rfl) rfl (by show 2 * 0 + _ ≤ _; exact Nat.le_of_eq rfl) (hb hby d13_1) (fun _ _ => ⟨rfl, e0, (by decide : 0 + 0 ≤ _), (by decide : 0 + 0 ≤ _)⟩)
  dsimp only [Pt.U, Pt.locs, Pt.cells, Pt.slots] at X2 l2 y2 z2 st2 hQ2
  subst l2 y2 z2
  obtain ⟨rfl, N2q, e2⟩ := hQ2
  have N2 := Fr.app N0 N2q
  have pre3 : ∀ t, Steps p.tables e below (T2.setTop (mkF m 8 #[.val (.ref a), .val (.int (Int32.ofNat k))] [(.ref a)])) t → Steps p.tables e below _ t := fun t kt => pre1 t (by
    show Steps p.tables e below (s₁.setTop (mkF m 1 #[.val (.ref a), .val (.int (Int32.ofNat k))] [(.ref a)])) _
    refine st2.trans ?_
    have hc4 : ¬ ((1 : Int32) = (0 : Int32)) := by decide
    show Steps p.tables e below (T2.setTop (mkF m 4 #[.val (.ref a), .val (.int (Int32.ofNat k))] [(.int (1 : Int32))])) _
    refine XS.ifNo X2.here hx rfl (hb hby d13_4) rfl ((if0 _ _).trans (feq hc4).1) ?_
    show Steps p.tables e below (T2.setTop (mkF m 7 #[.val (.ref a), .val (.int (Int32.ofNat k))] [])) _
    refine XS.aloadN X2.here hx rfl (hb hby d13_7) rfl rfl ?_
    exact kt)
  obtain ⟨T4, X4, e4, st4⟩ := getF X2 hx hZ hown (host := "") (Or.inl (hw _ (List.mem_of_getElem? (i := 24) rfl))) Via.refl e2 Fv (g := (mkF m 8 #[.val (.ref a), .val (.int (Int32.ofNat k))] [(.ref a)])) rfl rfl (hb hby d13_8)
  have pre5 : ∀ t, Steps p.tables e below (T4.setTop (mkF m 12 #[.val (.ref a), .val (.int (Int32.ofNat k))] [(.int (Int32.ofNat k)), (.ref b)])) t → Steps p.tables e below _ t := fun t kt => pre3 t (by
    show Steps p.tables e below (T2.setTop (mkF m 8 #[.val (.ref a), .val (.int (Int32.ofNat k))] [(.ref a)])) _
    refine st4 _ ?_
    show Steps p.tables e below (T4.setTop (mkF m 11 #[.val (.ref a), .val (.int (Int32.ofNat k))] [(.ref b)])) _
    refine XS.iloadN X4.here hx rfl (hb hby d13_11) rfl ?_
    exact kt)
  obtain ⟨_, _, ⟨T6, L6, k6, n6⟩, -, X6, ⟨Lc6, hQ6, l6, y6, z6⟩, st6⟩ := Jvm.LawKit.callS X4 hx (y := (⟨"java/lang/StringLatin1", "charAt", "([BI)C"⟩ : MethodName)) hown (mvT hZ (hw _ (List.mem_of_getElem? (i := 69) rfl))) (mvT hZ (hw _ (List.mem_of_getElem? (i := 70) rfl))) (mvT hZ (hw _ (List.mem_of_getElem? (i := 71) rfl))) (mvT hZ (hw _ (List.mem_of_getElem? (i := 72) rfl))) (by decide) (backOf (W := 0) (rm15 l Z a0 hw [] b k n cl (fun j => own_lt1 (f j)) G3 h0 n0 Z0 rG3 O4 Ar Sz hn Hf hk) hZ (hw _ (List.mem_of_getElem? (i := 72) rfl)) (hw _ (List.mem_of_getElem? (i := 71) rfl)) (by decide) (by decide)) (g := (mkF m 12 #[.val (.ref a), .val (.int (Int32.ofNat k))] [(.int (Int32.ofNat k)), (.ref b)])) rfl (by rw [hml]; rfl) (argsL := [(.ref b), (.int (Int32.ofNat k))]) (rest := []) (lenOf pd_4 rfl) rfl (by show 2 * 0 + _ ≤ _; exact Nat.le_of_eq rfl) (hb hby d13_12) (fun _ _ => ⟨rfl, e4, (by decide : 0 + 0 ≤ _), (by decide : 0 + 0 ≤ _)⟩)
  dsimp only [Pt.U, Pt.locs, Pt.cells, Pt.slots] at X6 l6 y6 z6 st6 hQ6
  subst l6 y6 z6
  obtain ⟨rfl, N6q, e6⟩ := hQ6
  have N6 := Fr.app N2 N6q
  obtain ⟨fs, hr, hrun, hended, hW, hsame⟩ := X6.leave (v := some (.int (nar .char (own_ch5 (own_lt1 (f k)))))) (fun h => by rw [Bd.returns] at h; cases h)
  refine ⟨_, _, pre5 _ ?_, hrun, hended, _, _, rfl, ?_, ⟨_, rfl⟩, hW, hsame.mono (by decide) (by decide)⟩
  · show Steps p.tables e below (T4.setTop (mkF m 12 #[.val (.ref a), .val (.int (Int32.ofNat k))] [(.int (Int32.ofNat k)), (.ref b)])) _
    refine st6 _ ?_
    show Steps p.tables e below (T6.setTop (mkF m 15 #[.val (.ref a), .val (.int (Int32.ofNat k))] [(.int (own_ch5 (own_lt1 (f k))))])) _
    exact retN X6 hx (t := .char) Bd.returns (by simp) (hb hby d13_15) hr
  · show Q13 Z k f h0 n0 _ T6.heap _
    rw [e6]
    exact ⟨by rw [own_lat_eq (hf k hk).1 (hs k hk)], N6, rfl⟩
theorem ef_13U (m : MethodId) (x0 : Addr) (x1 : Int32) : entryFrame m #[(.ref x0), (.int x1)] 2 = mkF m 0 #[.val (.ref x0), .val (.int x1)] [] := by first | (simp [entryFrame, mkF, argsToLocals, Value.category]; done) | rfl
theorem d13_16 : decode jdk_42_method_56_code 16 = .ok (.aload_n 0, 1) := by decide +kernel
theorem d13_17 : decode jdk_42_method_56_code 17 = .ok (.getfield 9, 3) := by decide +kernel
theorem d13_20 : decode jdk_42_method_56_code 20 = .ok (.iload_n 1, 1) := by decide +kernel
theorem d13_21 : decode jdk_42_method_56_code 21 = .ok (.invokestatic 498, 3) := by decide +kernel
theorem d13_24 : decode jdk_42_method_56_code 24 = .ok (.ireturn, 1) := by decide +kernel
set_option maxRecDepth 65536 in
set_option maxHeartbeats 40000000 in
theorem rm13U (l : Launch) (Z : State) (a0 : Array Value) (hw : ∀ d ∈ tables_1, d.before a0 Z = true) (ws : List Jvm.Cond) (a : Addr) (b : Addr) (k : Nat) (n : Nat) (cl : Cell) (f : Nat → Int32) (G1 : Int32) (G3 : Value) (h0 : Heap) (n0 : Nat) (Z0 : n0 ≤ h0.size) (rG3 : G3.isRef = true) (O4 : Sta Z h0 "jdk/internal/util/Preconditions" "SIOOBE_FORMATTER" "Ljava/util/function/BiFunction;" G3) (O2 : Sta Z h0 "java/lang/String" "COMPACT_STRINGS" "Z" (.int G1)) (P5 : ¬ (G1 = (0 : Int32))) (AD : Sta Z h0 "java/lang/StringUTF16" "$assertionsDisabled" "Z" (.int (1 : Int32))) (HB : Sta Z h0 "java/lang/StringUTF16" "HI_BYTE_SHIFT" "I" (.int (0 : Int32))) (LB : Sta Z h0 "java/lang/StringUTF16" "LO_BYTE_SHIFT" "I" (.int (8 : Int32))) (Ea : Exa Z h0 a "java/lang/String") (Fv : Fld Z h0 a "java/lang/String" "value" "[B" (.ref b)) (Fc : Fld Z h0 a "java/lang/String" "coder" "B" (.int (1 : Int32))) (Ar : Arr Z h0 b cl .byte) (Sz : cl.slots.size = (2 * n)) (hn : n ≤ 4) (Hf : ∀ j, j < (2 * n) → cl.slots[j]? = some (.int ((own_utf f) j))) (hs : True) (hf : ∀ j, j < n → 0 ≤ (f j).toInt ∧ (f j).toInt < 65536) (hk : k < n) :
    MetFree l (⟨"java/lang/String", "charAt", "(I)C"⟩ : MethodName) (head1 (Jvm.Cond.code (⟨"java/lang/String", "charAt", "(I)C"⟩ : MethodName) jdk_42_method_56_code 2 (some .char) :: ws) ({ frames := 4, cells := 0, slots := 0, locals := 53 } : Room)) (fun aa_ U => aa_ = #[(.ref a), (.int (Int32.ofNat k))] ∧ Z.Warmed39 U.vm ∧ U.heap = h0) (fun _ _ _ _ _ => True) (fun _ U o U' => ∃ v_ L_, o = .returned v_ ∧ Q13 Z k f h0 n0 v_ U'.heap L_ ∧ FrameEnd U o U' L_ ({ frames := 4, cells := 0, slots := 0, locals := 53 } : Room).cells ({ frames := 4, cells := 0, slots := 0, locals := 53 } : Room).slots) := by
  refine MetFree.of_bodySF (plainFor_of_name pn_13) hisR ?_
  intro p e s m args below meth c s₁ Bd hml0 hP hK
  obtain ⟨rfl, hZ, hh⟩ := hP
  have hx := Bd.exec
  have hby := Bd.bytes
  have hml : c.maxLocals = 2 := hml0
  have hown : s.vm.findClass "java/lang/String" = some m.cls := findClass_of_methodNamed Bd.named
  have hnm := (name_of_methodNamed Bd.named Bd.method).1
  have X0 : Stand p l e ({ frames := 4, cells := 0, slots := 0, locals := 53 } : Room) s m #[(.ref a), (.int (Int32.ofNat k))] below meth c s₁ [] 0 0 := Stand.of_body Bd
  have e0 : s₁.heap = h0 := by rw [← hh, Bd.state]; rfl
  have N0 := Fr.nil n0
  have pre0 : ∀ t, Steps p.tables e below (s₁.setTop (mkF m 0 #[.val (.ref a), .val (.int (Int32.ofNat k))] [])) t → Steps p.tables e below (s₁.setTop (entryFrame m #[(.ref a), (.int (Int32.ofNat k))] 2)) t := fun t k_ => castTop (ef_13U m a (Int32.ofNat k)) k_
  have pre1 : ∀ t, Steps p.tables e below (s₁.setTop (mkF m 1 #[.val (.ref a), .val (.int (Int32.ofNat k))] [(.ref a)])) t → Steps p.tables e below _ t := fun t kt => pre0 t (by
    show Steps p.tables e below (s₁.setTop (mkF m 0 #[.val (.ref a), .val (.int (Int32.ofNat k))] [])) _
    refine XS.aloadN X0.here hx rfl (hb hby d13_0) rfl rfl ?_
    exact kt)
  obtain ⟨cq2, kq2, q2a, q2b, q2c⟩ := isOf hZ e0 Ea
  obtain ⟨_, _, ⟨T2, L2, k2, n2⟩, -, X2, ⟨Lc2, hQ2, l2, y2, z2⟩, st2⟩ := X0.virtualBack hx (y := (⟨"java/lang/String", "isLatin1", "()Z"⟩ : MethodName)) (z := (⟨"java/lang/String", "isLatin1", "()Z"⟩ : MethodName)) hown (mvT hZ (hw _ (List.mem_of_getElem? (i := 64) rfl))) (mvT hZ (hw _ (List.mem_of_getElem? (i := 65) rfl))) (notFace_of_selects (args := #[]) (mvT hZ (hw _ (List.mem_of_getElem? (i := 67) rfl)))) (mvT hZ (hw _ (List.mem_of_getElem? (i := 67) rfl))) (mvT hZ (hw _ (List.mem_of_getElem? (i := 66) rfl))) (by decide) (backOf (W := 0) (rm14U l Z a0 hw [] a G1 h0 n0 Z0 O2 P5 Fc) hZ (hw _ (List.mem_of_getElem? (i := 68) rfl)) (hw _ (List.mem_of_getElem? (i := 7) rfl)) (by decide) (by decide)) q2a q2c (g := (mkF m 1 #[.val (.ref a), .val (.int (Int32.ofNat k))] [(.ref a)])) rfl (by rw [hml]; rfl) (Steps.refl _) (argsL := []) (rest := []) (lenOf pd_6 rfl) rfl (by show 2 * 0 + _ ≤ _; exact Nat.le_of_eq rfl) (hb hby d13_1) (fun _ _ => ⟨rfl, e0, (by decide : 0 + 0 ≤ _), (by decide : 0 + 0 ≤ _)⟩)
  dsimp only [Pt.U, Pt.locs, Pt.cells, Pt.slots] at X2 l2 y2 z2 st2 hQ2
  subst l2 y2 z2
  obtain ⟨rfl, N2q, e2⟩ := hQ2
  have N2 := Fr.app N0 N2q
  have pre3 : ∀ t, Steps p.tables e below (T2.setTop (mkF m 17 #[.val (.ref a), .val (.int (Int32.ofNat k))] [(.ref a)])) t → Steps p.tables e below _ t := fun t kt => pre1 t (by
    show Steps p.tables e below (s₁.setTop (mkF m 1 #[.val (.ref a), .val (.int (Int32.ofNat k))] [(.ref a)])) _
    refine st2.trans ?_
    have hc4 : (0 : Int32) = (0 : Int32) := rfl
    show Steps p.tables e below (T2.setTop (mkF m 4 #[.val (.ref a), .val (.int (Int32.ofNat k))] [(.int (0 : Int32))])) _
    refine XS.ifYes X2.here hx rfl (pc0 := 4) (pc' := 16) rfl (hb hby d13_4) rfl ((if0 _ _).trans (teq hc4).1) (by decide) (by decide) ?_
    show Steps p.tables e below (T2.setTop (mkF m 16 #[.val (.ref a), .val (.int (Int32.ofNat k))] [])) _
    refine XS.aloadN X2.here hx rfl (hb hby d13_16) rfl rfl ?_
    exact kt)
  obtain ⟨T4, X4, e4, st4⟩ := getF X2 hx hZ hown (host := "") (Or.inl (hw _ (List.mem_of_getElem? (i := 24) rfl))) Via.refl e2 Fv (g := (mkF m 17 #[.val (.ref a), .val (.int (Int32.ofNat k))] [(.ref a)])) rfl rfl (hb hby d13_17)
  have pre5 : ∀ t, Steps p.tables e below (T4.setTop (mkF m 21 #[.val (.ref a), .val (.int (Int32.ofNat k))] [(.int (Int32.ofNat k)), (.ref b)])) t → Steps p.tables e below _ t := fun t kt => pre3 t (by
    show Steps p.tables e below (T2.setTop (mkF m 17 #[.val (.ref a), .val (.int (Int32.ofNat k))] [(.ref a)])) _
    refine st4 _ ?_
    show Steps p.tables e below (T4.setTop (mkF m 20 #[.val (.ref a), .val (.int (Int32.ofNat k))] [(.ref b)])) _
    refine XS.iloadN X4.here hx rfl (hb hby d13_20) rfl ?_
    exact kt)
  obtain ⟨_, _, ⟨T6, L6, k6, n6⟩, -, X6, ⟨Lc6, hQ6, l6, y6, z6⟩, st6⟩ := Jvm.LawKit.callS X4 hx (y := (⟨"java/lang/StringUTF16", "charAt", "([BI)C"⟩ : MethodName)) hown (mvT hZ (hw _ (List.mem_of_getElem? (i := 103) rfl))) (mvT hZ (hw _ (List.mem_of_getElem? (i := 104) rfl))) (mvT hZ (hw _ (List.mem_of_getElem? (i := 48) rfl))) (mvT hZ (hw _ (List.mem_of_getElem? (i := 105) rfl))) (by decide) (backOf (W := 0) (rm23 l Z a0 hw [] b k n cl (own_utf f) G3 h0 n0 Z0 rG3 O4 AD HB LB Ar Sz hn Hf hk) hZ (hw _ (List.mem_of_getElem? (i := 105) rfl)) (hw _ (List.mem_of_getElem? (i := 48) rfl)) (by decide) (by decide)) (g := (mkF m 21 #[.val (.ref a), .val (.int (Int32.ofNat k))] [(.int (Int32.ofNat k)), (.ref b)])) rfl (by rw [hml]; rfl) (argsL := [(.ref b), (.int (Int32.ofNat k))]) (rest := []) (lenOf pd_4 rfl) rfl (by show 2 * 0 + _ ≤ _; exact Nat.le_of_eq rfl) (hb hby d13_21) (fun _ _ => ⟨rfl, e4, (by decide : 0 + 0 ≤ _), (by decide : 0 + 0 ≤ _)⟩)
  dsimp only [Pt.U, Pt.locs, Pt.cells, Pt.slots] at X6 l6 y6 z6 st6 hQ6
  subst l6 y6 z6
  obtain ⟨rfl, N6q, e6⟩ := hQ6
  have N6 := Fr.app N2 N6q
  obtain ⟨fs, hr, hrun, hended, hW, hsame⟩ := X6.leave (v := some (.int (nar .char (nar .char (own_gc (own_utf f (2 * k)) (own_utf f (2 * k + 1))))))) (fun h => by rw [Bd.returns] at h; cases h)
  refine ⟨_, _, pre5 _ ?_, hrun, hended, _, _, rfl, ?_, ⟨_, rfl⟩, hW, hsame.mono (by decide) (by decide)⟩
  · show Steps p.tables e below (T4.setTop (mkF m 21 #[.val (.ref a), .val (.int (Int32.ofNat k))] [(.int (Int32.ofNat k)), (.ref b)])) _
    refine st6 _ ?_
    show Steps p.tables e below (T6.setTop (mkF m 24 #[.val (.ref a), .val (.int (Int32.ofNat k))] [(.int (nar .char (own_gc (own_utf f (2 * k)) (own_utf f (2 * k + 1)))))])) _
    exact retN X6 hx (t := .char) Bd.returns (by simp) (hb hby d13_24) hr
  · show Q13 Z k f h0 n0 _ T6.heap _
    rw [e6]
    exact ⟨by rw [own_utf0, own_utf1, own_gc_eq (hf k hk).1 (hf k hk).2, own_char (hf k hk).1 (hf k hk).2, own_char (hf k hk).1 (hf k hk).2], N6, rfl⟩
set_option maxRecDepth 65536 in
set_option maxHeartbeats 40000000 in
theorem rm13 (l : Launch) (Z : State) (a0 : Array Value) (hw : ∀ d ∈ tables_1, d.before a0 Z = true) (ws : List Jvm.Cond) (a : Addr) (k : Nat) (n : Nat) (f : Nat → Int32) (G1 : Int32) (G3 : Value) (h0 : Heap) (n0 : Nat) (Z0 : n0 ≤ h0.size) (rG3 : G3.isRef = true) (O4 : Sta Z h0 "jdk/internal/util/Preconditions" "SIOOBE_FORMATTER" "Ljava/util/function/BiFunction;" G3) (O2 : Sta Z h0 "java/lang/String" "COMPACT_STRINGS" "Z" (.int G1)) (P5 : ¬ (G1 = (0 : Int32))) (AD : Sta Z h0 "java/lang/StringUTF16" "$assertionsDisabled" "Z" (.int (1 : Int32))) (HB : Sta Z h0 "java/lang/StringUTF16" "HI_BYTE_SHIFT" "I" (.int (0 : Int32))) (LB : Sta Z h0 "java/lang/StringUTF16" "LO_BYTE_SHIFT" "I" (.int (8 : Int32))) (S : own_St Z h0 a n f) (hn : n ≤ 4) (hf : ∀ j, j < n → 0 ≤ (f j).toInt ∧ (f j).toInt < 65536) (hk : k < n) :
    MetFree l (⟨"java/lang/String", "charAt", "(I)C"⟩ : MethodName) (head1 (Jvm.Cond.code (⟨"java/lang/String", "charAt", "(I)C"⟩ : MethodName) jdk_42_method_56_code 2 (some .char) :: ws) ({ frames := 4, cells := 0, slots := 0, locals := 53 } : Room)) (fun aa_ U => aa_ = #[(.ref a), (.int (Int32.ofNat k))] ∧ Z.Warmed39 U.vm ∧ U.heap = h0) (fun _ _ _ _ _ => True) (fun _ U o U' => ∃ v_ L_, o = .returned v_ ∧ Q13 Z k f h0 n0 v_ U'.heap L_ ∧ FrameEnd U o U' L_ ({ frames := 4, cells := 0, slots := 0, locals := 53 } : Room).cells ({ frames := 4, cells := 0, slots := 0, locals := 53 } : Room).slots) := by
  rcases S with ⟨b, Ea, Fc, Fv, ⟨cl, Ar, Sz, Hf⟩, hs⟩ | ⟨b, Ea, Fc, Fv, cl, Ar, Sz, Hf⟩
  · exact rm13L l Z a0 hw ws a b k n cl f G1 G3 h0 n0 Z0 rG3 O4 O2 P5 AD HB LB Ea Fv Fc Ar Sz hn Hf hs hf hk
  · exact rm13U l Z a0 hw ws a b k n cl f G1 G3 h0 n0 Z0 rG3 O4 O2 P5 AD HB LB Ea Fv Fc Ar Sz hn Hf trivial hf hk
theorem pn_6 : plainName "java/lang/String" = true := by first | (simp [plainName, overriddenIn]; done) | decide +kernel
theorem ef_6E (m : MethodId) (x0 : Addr) : entryFrame m #[(.ref x0)] 1 = mkF m 0 #[.val (.ref x0)] [] := by first | (simp [entryFrame, mkF, argsToLocals, Value.category]; done) | rfl
theorem d6_0 : decode jdk_42_method_55_code 0 = .ok (.aload_n 0, 1) := by decide +kernel
theorem d6_1 : decode jdk_42_method_55_code 1 = .ok (.getfield 9, 3) := by decide +kernel
theorem d6_4 : decode jdk_42_method_55_code 4 = .ok (.arraylength, 1) := by decide +kernel
theorem d6_5 : decode jdk_42_method_55_code 5 = .ok (.ifCond .ne 7, 3) := by decide +kernel
theorem d6_8 : decode jdk_42_method_55_code 8 = .ok (.iconst 1, 1) := by decide +kernel
theorem d6_9 : decode jdk_42_method_55_code 9 = .ok (.goto 4, 3) := by decide +kernel
theorem d6_13 : decode jdk_42_method_55_code 13 = .ok (.ireturn, 1) := by decide +kernel
def Q6 (Z : State) (r : Int32) (h0 : Heap) (n0 : Nat) (v : Option Value) (h : Heap) (L : List Loc) : Prop := v = some (.int r) ∧ Fr n0 L ∧ h = h0
set_option maxRecDepth 65536 in
set_option maxHeartbeats 40000000 in
theorem rm6E (l : Launch) (Z : State) (a0 : Array Value) (hw : ∀ d ∈ tables_1, d.before a0 Z = true) (ws : List Jvm.Cond) (a : Addr) (b : Addr) (sz : Nat) (cl : Cell) (h0 : Heap) (n0 : Nat) (Z0 : n0 ≤ h0.size) (Fv : Fld Z h0 a "java/lang/String" "value" "[B" (.ref b)) (Ar : Arr Z h0 b cl .byte) (Sz : cl.slots.size = sz) (hsz : sz ≤ 8) (hz : sz = 0) :
    MetFree l (⟨"java/lang/String", "isEmpty", "()Z"⟩ : MethodName) (head1 (Jvm.Cond.code (⟨"java/lang/String", "isEmpty", "()Z"⟩ : MethodName) jdk_42_method_55_code 1 (some .boolean) :: ws) ({ frames := 0, cells := 0, slots := 0, locals := 0 } : Room)) (fun aa_ U => aa_ = #[(.ref a)] ∧ Z.Warmed39 U.vm ∧ U.heap = h0) (fun _ _ _ _ _ => True) (fun _ U o U' => ∃ v_ L_, o = .returned v_ ∧ Q6 Z (1 : Int32) h0 n0 v_ U'.heap L_ ∧ FrameEnd U o U' L_ ({ frames := 0, cells := 0, slots := 0, locals := 0 } : Room).cells ({ frames := 0, cells := 0, slots := 0, locals := 0 } : Room).slots) := by
  refine MetFree.of_bodySF (plainFor_of_name pn_6) hisR ?_
  intro p e s m args below meth c s₁ Bd hml0 hP hK
  obtain ⟨rfl, hZ, hh⟩ := hP
  have hx := Bd.exec
  have hby := Bd.bytes
  have hml : c.maxLocals = 1 := hml0
  have hown : s.vm.findClass "java/lang/String" = some m.cls := findClass_of_methodNamed Bd.named
  have hnm := (name_of_methodNamed Bd.named Bd.method).1
  have X0 : Stand p l e ({ frames := 0, cells := 0, slots := 0, locals := 0 } : Room) s m #[(.ref a)] below meth c s₁ [] 0 0 := Stand.of_body Bd
  have e0 : s₁.heap = h0 := by rw [← hh, Bd.state]; rfl
  have N0 := Fr.nil n0
  have pre0 : ∀ t, Steps p.tables e below (s₁.setTop (mkF m 0 #[.val (.ref a)] [])) t → Steps p.tables e below (s₁.setTop (entryFrame m #[(.ref a)] 1)) t := fun t k_ => castTop (ef_6E m a) k_
  have pre1 : ∀ t, Steps p.tables e below (s₁.setTop (mkF m 1 #[.val (.ref a)] [(.ref a)])) t → Steps p.tables e below _ t := fun t kt => pre0 t (by
    show Steps p.tables e below (s₁.setTop (mkF m 0 #[.val (.ref a)] [])) _
    refine XS.aloadN X0.here hx rfl (hb hby d6_0) rfl rfl ?_
    exact kt)
  obtain ⟨T2, X2, e2, st2⟩ := getF X0 hx hZ hown (host := "") (Or.inl (hw _ (List.mem_of_getElem? (i := 24) rfl))) Via.refl e0 Fv (g := (mkF m 1 #[.val (.ref a)] [(.ref a)])) rfl rfl (hb hby d6_1)
  obtain ⟨fs, hr, hrun, hended, hW, hsame⟩ := X2.leave (v := some (.int (1 : Int32))) (fun h => by rw [Bd.returns] at h; cases h)
  refine ⟨_, _, pre1 _ ?_, hrun, hended, _, _, rfl, ?_, ⟨_, rfl⟩, hW, hsame.mono (by decide) (by decide)⟩
  · show Steps p.tables e below (s₁.setTop (mkF m 1 #[.val (.ref a)] [(.ref a)])) _
    refine st2 _ ?_
    show Steps p.tables e below (T2.setTop (mkF m 4 #[.val (.ref a)] [(.ref b)])) _
    refine X2.arraylength hx (by rw [e2]; exact Ar.1) (State.isArrayOf_alike hZ.alike Ar.2.1) (g := (mkF m 4 #[.val (.ref a)] [(.ref b)])) rfl rfl (hb hby d6_4) _ ?_
    rw [len_of (by rw [Sz, clamp_of (c := sz) rfl (by omega)] : cl.slots.size = (Int32.ofNat sz).toNatClampNeg) (own_nneg (by omega))]
    have hc5 : (Int32.ofNat sz) = (0 : Int32) := by rw [hz]; rfl
    show Steps p.tables e below (T2.setTop (mkF m 5 #[.val (.ref a)] [(.int (Int32.ofNat sz))])) _
    refine XS.ifNo X2.here hx rfl (hb hby d6_5) rfl ((if0 _ _).trans (teq hc5).2) ?_
    show Steps p.tables e below (T2.setTop (mkF m 8 #[.val (.ref a)] [])) _
    refine XS.iconst X2.here hx rfl (hb hby d6_8) ?_
    show Steps p.tables e below (T2.setTop (mkF m 9 #[.val (.ref a)] [(.int (1 : Int32))])) _
    refine XS.goto X2.here hx rfl (pc0 := 9) (pc' := 13) rfl (hb hby d6_9) (by decide) (by decide) ?_
    show Steps p.tables e below (T2.setTop (mkF m 13 #[.val (.ref a)] [(.int (1 : Int32))])) _
    exact retN X2 hx (t := .boolean) Bd.returns (by simp) (hb hby d6_13) hr
  · show Q6 Z (1 : Int32) h0 n0 _ T2.heap _
    rw [e2]
    exact ⟨rfl, N0, rfl⟩
theorem ef_6F (m : MethodId) (x0 : Addr) : entryFrame m #[(.ref x0)] 1 = mkF m 0 #[.val (.ref x0)] [] := by first | (simp [entryFrame, mkF, argsToLocals, Value.category]; done) | rfl
theorem d6_12 : decode jdk_42_method_55_code 12 = .ok (.iconst 0, 1) := by decide +kernel
set_option maxRecDepth 65536 in
set_option maxHeartbeats 40000000 in
theorem rm6F (l : Launch) (Z : State) (a0 : Array Value) (hw : ∀ d ∈ tables_1, d.before a0 Z = true) (ws : List Jvm.Cond) (a : Addr) (b : Addr) (sz : Nat) (cl : Cell) (h0 : Heap) (n0 : Nat) (Z0 : n0 ≤ h0.size) (Fv : Fld Z h0 a "java/lang/String" "value" "[B" (.ref b)) (Ar : Arr Z h0 b cl .byte) (Sz : cl.slots.size = sz) (hsz : sz ≤ 8) (hz : sz ≠ 0) :
    MetFree l (⟨"java/lang/String", "isEmpty", "()Z"⟩ : MethodName) (head1 (Jvm.Cond.code (⟨"java/lang/String", "isEmpty", "()Z"⟩ : MethodName) jdk_42_method_55_code 1 (some .boolean) :: ws) ({ frames := 0, cells := 0, slots := 0, locals := 0 } : Room)) (fun aa_ U => aa_ = #[(.ref a)] ∧ Z.Warmed39 U.vm ∧ U.heap = h0) (fun _ _ _ _ _ => True) (fun _ U o U' => ∃ v_ L_, o = .returned v_ ∧ Q6 Z (0 : Int32) h0 n0 v_ U'.heap L_ ∧ FrameEnd U o U' L_ ({ frames := 0, cells := 0, slots := 0, locals := 0 } : Room).cells ({ frames := 0, cells := 0, slots := 0, locals := 0 } : Room).slots) := by
  refine MetFree.of_bodySF (plainFor_of_name pn_6) hisR ?_
  intro p e s m args below meth c s₁ Bd hml0 hP hK
  obtain ⟨rfl, hZ, hh⟩ := hP
  have hx := Bd.exec
  have hby := Bd.bytes
  have hml : c.maxLocals = 1 := hml0
  have hown : s.vm.findClass "java/lang/String" = some m.cls := findClass_of_methodNamed Bd.named
  have hnm := (name_of_methodNamed Bd.named Bd.method).1
  have X0 : Stand p l e ({ frames := 0, cells := 0, slots := 0, locals := 0 } : Room) s m #[(.ref a)] below meth c s₁ [] 0 0 := Stand.of_body Bd
  have e0 : s₁.heap = h0 := by rw [← hh, Bd.state]; rfl
  have N0 := Fr.nil n0
  have pre0 : ∀ t, Steps p.tables e below (s₁.setTop (mkF m 0 #[.val (.ref a)] [])) t → Steps p.tables e below (s₁.setTop (entryFrame m #[(.ref a)] 1)) t := fun t k_ => castTop (ef_6F m a) k_
  have pre1 : ∀ t, Steps p.tables e below (s₁.setTop (mkF m 1 #[.val (.ref a)] [(.ref a)])) t → Steps p.tables e below _ t := fun t kt => pre0 t (by
    show Steps p.tables e below (s₁.setTop (mkF m 0 #[.val (.ref a)] [])) _
    refine XS.aloadN X0.here hx rfl (hb hby d6_0) rfl rfl ?_
    exact kt)
  obtain ⟨T2, X2, e2, st2⟩ := getF X0 hx hZ hown (host := "") (Or.inl (hw _ (List.mem_of_getElem? (i := 24) rfl))) Via.refl e0 Fv (g := (mkF m 1 #[.val (.ref a)] [(.ref a)])) rfl rfl (hb hby d6_1)
  obtain ⟨fs, hr, hrun, hended, hW, hsame⟩ := X2.leave (v := some (.int (0 : Int32))) (fun h => by rw [Bd.returns] at h; cases h)
  refine ⟨_, _, pre1 _ ?_, hrun, hended, _, _, rfl, ?_, ⟨_, rfl⟩, hW, hsame.mono (by decide) (by decide)⟩
  · show Steps p.tables e below (s₁.setTop (mkF m 1 #[.val (.ref a)] [(.ref a)])) _
    refine st2 _ ?_
    show Steps p.tables e below (T2.setTop (mkF m 4 #[.val (.ref a)] [(.ref b)])) _
    refine X2.arraylength hx (by rw [e2]; exact Ar.1) (State.isArrayOf_alike hZ.alike Ar.2.1) (g := (mkF m 4 #[.val (.ref a)] [(.ref b)])) rfl rfl (hb hby d6_4) _ ?_
    rw [len_of (by rw [Sz, clamp_of (c := sz) rfl (by omega)] : cl.slots.size = (Int32.ofNat sz).toNatClampNeg) (own_nneg (by omega))]
    have hc5 : ¬ ((Int32.ofNat sz) = (0 : Int32)) := own_ne (n := 0) hz (by omega) (by decide)
    show Steps p.tables e below (T2.setTop (mkF m 5 #[.val (.ref a)] [(.int (Int32.ofNat sz))])) _
    refine XS.ifYes X2.here hx rfl (pc0 := 5) (pc' := 12) rfl (hb hby d6_5) rfl ((if0 _ _).trans (feq hc5).2) (by decide) (by decide) ?_
    show Steps p.tables e below (T2.setTop (mkF m 12 #[.val (.ref a)] [])) _
    refine XS.iconst X2.here hx rfl (hb hby d6_12) ?_
    show Steps p.tables e below (T2.setTop (mkF m 13 #[.val (.ref a)] [(.int (0 : Int32))])) _
    exact retN X2 hx (t := .boolean) Bd.returns (by simp) (hb hby d6_13) hr
  · show Q6 Z (0 : Int32) h0 n0 _ T2.heap _
    rw [e2]
    exact ⟨rfl, N0, rfl⟩
theorem pn_21 : plainName "java/lang/StringUTF16" = true := by first | (simp [plainName, overriddenIn]; done) | decide +kernel
theorem ef_21 (m : MethodId) (x0 : Addr) (x1 : Int32) (x2 : Int32) : entryFrame m #[(.ref x0), (.int x1), (.int x2)] 3 = mkF m 0 #[.val (.ref x0), .val (.int x1), .val (.int x2)] [] := by first | (simp [entryFrame, mkF, argsToLocals, Value.category]; done) | rfl
theorem d21_0 : decode jdk_52_method_4_code 0 = .ok (.getstatic 44, 3) := by decide +kernel
theorem d21_3 : decode jdk_52_method_4_code 3 = .ok (.ifCond .ne 25, 3) := by decide +kernel
theorem d21_28 : decode jdk_52_method_4_code 28 = .ok (.iload_n 1, 1) := by decide +kernel
theorem d21_29 : decode jdk_52_method_4_code 29 = .ok (.iconst 1, 1) := by decide +kernel
theorem d21_30 : decode jdk_52_method_4_code 30 = .ok (.ishl, 1) := by decide +kernel
theorem d21_31 : decode jdk_52_method_4_code 31 = .ok (.istore_n 1, 1) := by decide +kernel
theorem d21_32 : decode jdk_52_method_4_code 32 = .ok (.aload_n 0, 1) := by decide +kernel
theorem d21_33 : decode jdk_52_method_4_code 33 = .ok (.iload_n 1, 1) := by decide +kernel
theorem d21_34 : decode jdk_52_method_4_code 34 = .ok (.iinc 1 1, 3) := by decide +kernel
theorem d21_37 : decode jdk_52_method_4_code 37 = .ok (.iload_n 2, 1) := by decide +kernel
theorem d21_38 : decode jdk_52_method_4_code 38 = .ok (.getstatic 59, 3) := by decide +kernel
theorem d21_41 : decode jdk_52_method_4_code 41 = .ok (.ishr, 1) := by decide +kernel
theorem d21_42 : decode jdk_52_method_4_code 42 = .ok (.i2b, 1) := by decide +kernel
theorem d21_43 : decode jdk_52_method_4_code 43 = .ok (.bastore, 1) := by decide +kernel
theorem d21_44 : decode jdk_52_method_4_code 44 = .ok (.aload_n 0, 1) := by decide +kernel
theorem d21_45 : decode jdk_52_method_4_code 45 = .ok (.iload_n 1, 1) := by decide +kernel
theorem d21_46 : decode jdk_52_method_4_code 46 = .ok (.iload_n 2, 1) := by decide +kernel
theorem d21_47 : decode jdk_52_method_4_code 47 = .ok (.getstatic 63, 3) := by decide +kernel
theorem d21_50 : decode jdk_52_method_4_code 50 = .ok (.ishr, 1) := by decide +kernel
theorem d21_51 : decode jdk_52_method_4_code 51 = .ok (.i2b, 1) := by decide +kernel
theorem d21_52 : decode jdk_52_method_4_code 52 = .ok (.bastore, 1) := by decide +kernel
theorem d21_53 : decode jdk_52_method_4_code 53 = .ok (.return_, 1) := by decide +kernel
def Q21 (Z : State) (b : Addr) (k n : Nat) (g : Nat → Int32) (c : Int32) (h0 : Heap) (n0 : Nat) (v : Option Value) (h : Heap) (L : List Loc) : Prop := v = none ∧ Fr n0 L ∧ Keep h0 h [b] ∧ own_A Z h b .byte (2 * n) (upd (upd g (2 * k) (own_lo c)) (2 * k + 1) (own_hi c))
set_option maxRecDepth 65536 in
set_option maxHeartbeats 40000000 in
theorem rm21 (l : Launch) (Z : State) (a0 : Array Value) (hw : ∀ d ∈ tables_1, d.before a0 Z = true) (ws : List Jvm.Cond) (b : Addr) (k : Nat) (n : Nat) (g : Nat → Int32) (ch : Int32) (h0 : Heap) (n0 : Nat) (Z0 : n0 ≤ h0.size) (AD : Sta Z h0 "java/lang/StringUTF16" "$assertionsDisabled" "Z" (.int (1 : Int32))) (HB : Sta Z h0 "java/lang/StringUTF16" "HI_BYTE_SHIFT" "I" (.int (0 : Int32))) (LB : Sta Z h0 "java/lang/StringUTF16" "LO_BYTE_SHIFT" "I" (.int (8 : Int32))) (A0 : own_A Z h0 b .byte (2 * n) g) (hn : n ≤ 4) (hk : k < n) (gb : n0 ≤ b) :
    MetFree l (⟨"java/lang/StringUTF16", "putChar", "([BII)V"⟩ : MethodName) (head1 (Jvm.Cond.code (⟨"java/lang/StringUTF16", "putChar", "([BII)V"⟩ : MethodName) jdk_52_method_4_code 3 none :: ws) ({ frames := 0, cells := 0, slots := 0, locals := 0 } : Room)) (fun aa_ U => aa_ = #[(.ref b), (.int (Int32.ofNat k)), (.int ch)] ∧ Z.Warmed39 U.vm ∧ U.heap = h0) (fun _ _ _ _ _ => True) (fun _ U o U' => ∃ v_ L_, o = .returned v_ ∧ Q21 Z b k n g ch h0 n0 v_ U'.heap L_ ∧ FrameEnd U o U' L_ ({ frames := 0, cells := 0, slots := 0, locals := 0 } : Room).cells ({ frames := 0, cells := 0, slots := 0, locals := 0 } : Room).slots) := by
  refine MetFree.of_bodySF (plainFor_of_name pn_21) hisR ?_
  intro p e s m args below meth c s₁ Bd hml0 hP hK
  obtain ⟨rfl, hZ, hh⟩ := hP
  have hx := Bd.exec
  have hby := Bd.bytes
  have hml : c.maxLocals = 3 := hml0
  have hown : s.vm.findClass "java/lang/StringUTF16" = some m.cls := findClass_of_methodNamed Bd.named
  have hnm := (name_of_methodNamed Bd.named Bd.method).1
  have X0 : Stand p l e ({ frames := 0, cells := 0, slots := 0, locals := 0 } : Room) s m #[(.ref b), (.int (Int32.ofNat k)), (.int ch)] below meth c s₁ [] 0 0 := Stand.of_body Bd
  have e0 : s₁.heap = h0 := by rw [← hh, Bd.state]; rfl
  have N0 := Fr.nil n0
  have pre0 : ∀ t, Steps p.tables e below (s₁.setTop (mkF m 0 #[.val (.ref b), .val (.int (Int32.ofNat k)), .val (.int ch)] [])) t → Steps p.tables e below (s₁.setTop (entryFrame m #[(.ref b), (.int (Int32.ofNat k)), (.int ch)] 3)) t := fun t k_ => castTop (ef_21 m b (Int32.ofNat k) ch) k_
  obtain ⟨T1, X1, e1, st1⟩ := getS X0 hx hZ hown (hw _ (List.mem_of_getElem? (i := 97) rfl)) Via.refl e0 AD (g := (mkF m 0 #[.val (.ref b), .val (.int (Int32.ofNat k)), .val (.int ch)] [])) rfl (hb hby d21_0) (host := "")
  have pre2 : ∀ t, Steps p.tables e below (T1.setTop (mkF m 31 #[.val (.ref b), .val (.int (Int32.ofNat k)), .val (.int ch)] [(.int ((Int32.ofNat k) <<< ((1 : Int32) &&& 31)))])) t → Steps p.tables e below _ t := fun t kt => pre0 t (by
    show Steps p.tables e below (s₁.setTop (mkF m 0 #[.val (.ref b), .val (.int (Int32.ofNat k)), .val (.int ch)] [])) _
    refine st1 _ ?_
    have hc3 : ¬ ((1 : Int32) = (0 : Int32)) := by decide
    show Steps p.tables e below (T1.setTop (mkF m 3 #[.val (.ref b), .val (.int (Int32.ofNat k)), .val (.int ch)] [(.int (1 : Int32))])) _
    refine XS.ifYes X1.here hx rfl (pc0 := 3) (pc' := 28) rfl (hb hby d21_3) rfl ((if0 _ _).trans (feq hc3).2) (by decide) (by decide) ?_
    show Steps p.tables e below (T1.setTop (mkF m 28 #[.val (.ref b), .val (.int (Int32.ofNat k)), .val (.int ch)] [])) _
    refine XS.iloadN X1.here hx rfl (hb hby d21_28) rfl ?_
    show Steps p.tables e below (T1.setTop (mkF m 29 #[.val (.ref b), .val (.int (Int32.ofNat k)), .val (.int ch)] [(.int (Int32.ofNat k))])) _
    refine XS.iconst X1.here hx rfl (hb hby d21_29) ?_
    show Steps p.tables e below (T1.setTop (mkF m 30 #[.val (.ref b), .val (.int (Int32.ofNat k)), .val (.int ch)] [(.int (1 : Int32)), (.int (Int32.ofNat k))])) _
    refine XS.ishl X1.here hx rfl (hb hby d21_30) rfl ?_
    exact kt)
  have hv3 : ((Int32.ofNat k) <<< ((1 : Int32) &&& 31)) = (Int32.ofNat (2 * k)) := own_dbl k (by omega)
  rw [hv3] at pre2
  have pre4 : ∀ t, Steps p.tables e below (T1.setTop (mkF m 38 #[.val (.ref b), .val (.int ((Int32.ofNat (2 * k)) + (1 : Int32))), .val (.int ch)] [(.int ch), (.int (Int32.ofNat (2 * k))), (.ref b)])) t → Steps p.tables e below _ t := fun t kt => pre2 t (by
    show Steps p.tables e below (T1.setTop (mkF m 31 #[.val (.ref b), .val (.int (Int32.ofNat k)), .val (.int ch)] [(.int (Int32.ofNat (2 * k)))])) _
    refine XS.istoreN X1.here hx rfl (hb hby d21_31) rfl (l' := #[.val (.ref b), .val (.int (Int32.ofNat (2 * k))), .val (.int ch)]) rfl ?_
    show Steps p.tables e below (T1.setTop (mkF m 32 #[.val (.ref b), .val (.int (Int32.ofNat (2 * k))), .val (.int ch)] [])) _
    refine XS.aloadN X1.here hx rfl (hb hby d21_32) rfl rfl ?_
    show Steps p.tables e below (T1.setTop (mkF m 33 #[.val (.ref b), .val (.int (Int32.ofNat (2 * k))), .val (.int ch)] [(.ref b)])) _
    refine XS.iloadN X1.here hx rfl (hb hby d21_33) rfl ?_
    show Steps p.tables e below (T1.setTop (mkF m 34 #[.val (.ref b), .val (.int (Int32.ofNat (2 * k))), .val (.int ch)] [(.int (Int32.ofNat (2 * k))), (.ref b)])) _
    refine XS.iinc X1.here hx rfl (hb hby d21_34) rfl (l' := #[.val (.ref b), .val (.int ((Int32.ofNat (2 * k)) + (1 : Int32))), .val (.int ch)]) rfl ?_
    show Steps p.tables e below (T1.setTop (mkF m 37 #[.val (.ref b), .val (.int ((Int32.ofNat (2 * k)) + (1 : Int32))), .val (.int ch)] [(.int (Int32.ofNat (2 * k))), (.ref b)])) _
    refine XS.iloadN X1.here hx rfl (hb hby d21_37) rfl ?_
    exact kt)
  have hv5 : ((Int32.ofNat (2 * k)) + (1 : Int32)) = (Int32.ofNat (2 * k + 1)) := (inc_ofNat (2 * k)).symm
  rw [hv5] at pre4
  obtain ⟨T6, X6, e6, st6⟩ := getS X1 hx hZ hown (hw _ (List.mem_of_getElem? (i := 98) rfl)) Via.refl e1 HB (g := (mkF m 38 #[.val (.ref b), .val (.int (Int32.ofNat (2 * k + 1))), .val (.int ch)] [(.int ch), (.int (Int32.ofNat (2 * k))), (.ref b)])) rfl (hb hby d21_38) (host := "")
  have pre7 : ∀ t, Steps p.tables e below (T6.setTop (mkF m 43 #[.val (.ref b), .val (.int (Int32.ofNat (2 * k + 1))), .val (.int ch)] [(.int ((ch >>> ((0 : Int32) &&& 31)).toInt8.toInt32)), (.int (Int32.ofNat (2 * k))), (.ref b)])) t → Steps p.tables e below _ t := fun t kt => pre4 t (by
    show Steps p.tables e below (T1.setTop (mkF m 38 #[.val (.ref b), .val (.int (Int32.ofNat (2 * k + 1))), .val (.int ch)] [(.int ch), (.int (Int32.ofNat (2 * k))), (.ref b)])) _
    refine st6 _ ?_
    show Steps p.tables e below (T6.setTop (mkF m 41 #[.val (.ref b), .val (.int (Int32.ofNat (2 * k + 1))), .val (.int ch)] [(.int (0 : Int32)), (.int ch), (.int (Int32.ofNat (2 * k))), (.ref b)])) _
    refine XS.ishr X6.here hx rfl (hb hby d21_41) rfl ?_
    show Steps p.tables e below (T6.setTop (mkF m 42 #[.val (.ref b), .val (.int (Int32.ofNat (2 * k + 1))), .val (.int ch)] [(.int (ch >>> ((0 : Int32) &&& 31))), (.int (Int32.ofNat (2 * k))), (.ref b)])) _
    refine XS.i2b X6.here hx rfl (hb hby d21_42) rfl ?_
    exact kt)
  obtain ⟨cl_0, Ar_0, Sz_0, -⟩ := id A0
  obtain ⟨T8, h8, X8, e8, W8, st8⟩ := stB X6 hx hZ e6 Ar_0 (j := (Int32.ofNat (2 * k))) (within (c := 2 * k) rfl (by omega) (by omega)) (g := (mkF m 43 #[.val (.ref b), .val (.int (Int32.ofNat (2 * k + 1))), .val (.int ch)] [(.int ((ch >>> ((0 : Int32) &&& 31)).toInt8.toInt32)), (.int (Int32.ofNat (2 * k))), (.ref b)])) rfl rfl (hb hby d21_43)
  have N8 := Fr.snoc X8 N0 gb
  have Zs8 : n0 ≤ h8.size := Nat.le_trans Z0 (Nat.le_of_eq W8.size.symm)
  have Kp8 : Keep h0 h8 [b] := (Keep.refl h0 [b]).wr W8 (Or.inl (List.mem_of_getElem? (i := 0) rfl))
  have V8 : Wr h0 h8 b (2 * k) (.int (own_lo ch)) := by have z := W8; rw [clamp_of (c := 2 * k) rfl (by omega)] at z; exact z
  have F0 := own_A_set A0 V8
  have pre9 : ∀ t, Steps p.tables e below (T8.setTop (mkF m 47 #[.val (.ref b), .val (.int (Int32.ofNat (2 * k + 1))), .val (.int ch)] [(.int ch), (.int (Int32.ofNat (2 * k + 1))), (.ref b)])) t → Steps p.tables e below _ t := fun t kt => pre7 t (by
    show Steps p.tables e below (T6.setTop (mkF m 43 #[.val (.ref b), .val (.int (Int32.ofNat (2 * k + 1))), .val (.int ch)] [(.int ((ch >>> ((0 : Int32) &&& 31)).toInt8.toInt32)), (.int (Int32.ofNat (2 * k))), (.ref b)])) _
    refine st8 _ ?_
    show Steps p.tables e below (T8.setTop (mkF m 44 #[.val (.ref b), .val (.int (Int32.ofNat (2 * k + 1))), .val (.int ch)] [])) _
    refine XS.aloadN X8.here hx rfl (hb hby d21_44) rfl rfl ?_
    show Steps p.tables e below (T8.setTop (mkF m 45 #[.val (.ref b), .val (.int (Int32.ofNat (2 * k + 1))), .val (.int ch)] [(.ref b)])) _
    refine XS.iloadN X8.here hx rfl (hb hby d21_45) rfl ?_
    show Steps p.tables e below (T8.setTop (mkF m 46 #[.val (.ref b), .val (.int (Int32.ofNat (2 * k + 1))), .val (.int ch)] [(.int (Int32.ofNat (2 * k + 1))), (.ref b)])) _
    refine XS.iloadN X8.here hx rfl (hb hby d21_46) rfl ?_
    exact kt)
  obtain ⟨T10, X10, e10, st10⟩ := getS X8 hx hZ hown (hw _ (List.mem_of_getElem? (i := 99) rfl)) Via.refl e8 (Sta.wr W8 LB) (g := (mkF m 47 #[.val (.ref b), .val (.int (Int32.ofNat (2 * k + 1))), .val (.int ch)] [(.int ch), (.int (Int32.ofNat (2 * k + 1))), (.ref b)])) rfl (hb hby d21_47) (host := "")
  have pre11 : ∀ t, Steps p.tables e below (T10.setTop (mkF m 52 #[.val (.ref b), .val (.int (Int32.ofNat (2 * k + 1))), .val (.int ch)] [(.int ((ch >>> ((8 : Int32) &&& 31)).toInt8.toInt32)), (.int (Int32.ofNat (2 * k + 1))), (.ref b)])) t → Steps p.tables e below _ t := fun t kt => pre9 t (by
    show Steps p.tables e below (T8.setTop (mkF m 47 #[.val (.ref b), .val (.int (Int32.ofNat (2 * k + 1))), .val (.int ch)] [(.int ch), (.int (Int32.ofNat (2 * k + 1))), (.ref b)])) _
    refine st10 _ ?_
    show Steps p.tables e below (T10.setTop (mkF m 50 #[.val (.ref b), .val (.int (Int32.ofNat (2 * k + 1))), .val (.int ch)] [(.int (8 : Int32)), (.int ch), (.int (Int32.ofNat (2 * k + 1))), (.ref b)])) _
    refine XS.ishr X10.here hx rfl (hb hby d21_50) rfl ?_
    show Steps p.tables e below (T10.setTop (mkF m 51 #[.val (.ref b), .val (.int (Int32.ofNat (2 * k + 1))), .val (.int ch)] [(.int (ch >>> ((8 : Int32) &&& 31))), (.int (Int32.ofNat (2 * k + 1))), (.ref b)])) _
    refine XS.i2b X10.here hx rfl (hb hby d21_51) rfl ?_
    exact kt)
  obtain ⟨cl_1, Ar_1, Sz_1, -⟩ := id F0
  obtain ⟨T12, h12, X12, e12, W12, st12⟩ := stB X10 hx hZ e10 Ar_1 (j := (Int32.ofNat (2 * k + 1))) (within (c := 2 * k + 1) rfl (by omega) (by omega)) (g := (mkF m 52 #[.val (.ref b), .val (.int (Int32.ofNat (2 * k + 1))), .val (.int ch)] [(.int ((ch >>> ((8 : Int32) &&& 31)).toInt8.toInt32)), (.int (Int32.ofNat (2 * k + 1))), (.ref b)])) rfl rfl (hb hby d21_52)
  have N12 := Fr.snoc X12 N8 gb
  have Zs12 : n0 ≤ h12.size := Nat.le_trans Zs8 (Nat.le_of_eq W12.size.symm)
  have Kp12 : Keep h0 h12 [b] := Kp8.wr W12 (Or.inl (List.mem_of_getElem? (i := 0) rfl))
  have V12 : Wr h8 h12 b (2 * k + 1) (.int (own_hi ch)) := by have z := W12; rw [clamp_of (c := 2 * k + 1) rfl (by omega)] at z; exact z
  have F1 := own_A_set F0 V12
  obtain ⟨fs, hr, hrun, hended, hW, hsame⟩ := X12.leave (v := none) (fun _ => rfl)
  refine ⟨_, _, pre11 _ ?_, hrun, hended, _, _, rfl, ?_, ⟨_, rfl⟩, hW, hsame.mono (by decide) (by decide)⟩
  · show Steps p.tables e below (T10.setTop (mkF m 52 #[.val (.ref b), .val (.int (Int32.ofNat (2 * k + 1))), .val (.int ch)] [(.int ((ch >>> ((8 : Int32) &&& 31)).toInt8.toInt32)), (.int (Int32.ofNat (2 * k + 1))), (.ref b)])) _
    refine st12 _ ?_
    show Steps p.tables e below (T12.setTop (mkF m 53 #[.val (.ref b), .val (.int (Int32.ofNat (2 * k + 1))), .val (.int ch)] [])) _
    exact X12.returnOut hx Bd.returns (hb hby d21_53) hr
  · show Q21 Z b k n g ch h0 n0 _ T12.heap _
    rw [e12]
    exact ⟨rfl, N12, Kp12, F1⟩
theorem pn_20 : plainName "java/lang/StringUTF16" = true := by first | (simp [plainName, overriddenIn]; done) | decide +kernel
theorem ef_20 (m : MethodId) (x0 : Int32) : entryFrame m #[(.int x0)] 1 = mkF m 0 #[.val (.int x0)] [] := by first | (simp [entryFrame, mkF, argsToLocals, Value.category]; done) | rfl
theorem d20_0 : decode jdk_52_method_3_code 0 = .ok (.iload_n 0, 1) := by decide +kernel
theorem d20_1 : decode jdk_52_method_3_code 1 = .ok (.ifCond .ge 11, 3) := by decide +kernel
theorem d20_12 : decode jdk_52_method_3_code 12 = .ok (.iload_n 0, 1) := by decide +kernel
theorem d20_13 : decode jdk_52_method_3_code 13 = .ok (.ldc 20, 2) := by decide +kernel
theorem d20_15 : decode jdk_52_method_3_code 15 = .ok (.if_icmp .lt 40, 3) := by decide +kernel
theorem d20_55 : decode jdk_52_method_3_code 55 = .ok (.iload_n 0, 1) := by decide +kernel
theorem d20_56 : decode jdk_52_method_3_code 56 = .ok (.iconst 1, 1) := by decide +kernel
theorem d20_57 : decode jdk_52_method_3_code 57 = .ok (.ishl, 1) := by decide +kernel
theorem d20_58 : decode jdk_52_method_3_code 58 = .ok (.ireturn, 1) := by decide +kernel
def Q20 (Z : State) (n : Nat) (h0 : Heap) (n0 : Nat) (v : Option Value) (h : Heap) (L : List Loc) : Prop := v = some (.int (Int32.ofNat (2 * n))) ∧ Fr n0 L ∧ h = h0
set_option maxRecDepth 65536 in
set_option maxHeartbeats 40000000 in
theorem rm20 (l : Launch) (Z : State) (a0 : Array Value) (hw : ∀ d ∈ tables_1, d.before a0 Z = true) (ws : List Jvm.Cond) (n : Nat) (h0 : Heap) (n0 : Nat) (Z0 : n0 ≤ h0.size) (hn : n ≤ 4) :
    MetFree l (⟨"java/lang/StringUTF16", "newBytesLength", "(I)I"⟩ : MethodName) (head1 (Jvm.Cond.code (⟨"java/lang/StringUTF16", "newBytesLength", "(I)I"⟩ : MethodName) jdk_52_method_3_code 1 (some .int) :: ws) ({ frames := 0, cells := 0, slots := 0, locals := 0 } : Room)) (fun aa_ U => aa_ = #[(.int (Int32.ofNat n))] ∧ Z.Warmed39 U.vm ∧ U.heap = h0) (fun _ _ _ _ _ => True) (fun _ U o U' => ∃ v_ L_, o = .returned v_ ∧ Q20 Z n h0 n0 v_ U'.heap L_ ∧ FrameEnd U o U' L_ ({ frames := 0, cells := 0, slots := 0, locals := 0 } : Room).cells ({ frames := 0, cells := 0, slots := 0, locals := 0 } : Room).slots) := by
  refine MetFree.of_bodySF (plainFor_of_name pn_20) hisR ?_
  intro p e s m args below meth c s₁ Bd hml0 hP hK
  obtain ⟨rfl, hZ, hh⟩ := hP
  have hx := Bd.exec
  have hby := Bd.bytes
  have hml : c.maxLocals = 1 := hml0
  have hown : s.vm.findClass "java/lang/StringUTF16" = some m.cls := findClass_of_methodNamed Bd.named
  have hnm := (name_of_methodNamed Bd.named Bd.method).1
  have X0 : Stand p l e ({ frames := 0, cells := 0, slots := 0, locals := 0 } : Room) s m #[(.int (Int32.ofNat n))] below meth c s₁ [] 0 0 := Stand.of_body Bd
  have e0 : s₁.heap = h0 := by rw [← hh, Bd.state]; rfl
  have N0 := Fr.nil n0
  have pre0 : ∀ t, Steps p.tables e below (s₁.setTop (mkF m 0 #[.val (.int (Int32.ofNat n))] [])) t → Steps p.tables e below (s₁.setTop (entryFrame m #[(.int (Int32.ofNat n))] 1)) t := fun t k_ => castTop (ef_20 m (Int32.ofNat n)) k_
  have pre1 : ∀ t, Steps p.tables e below (s₁.setTop (mkF m 58 #[.val (.int (Int32.ofNat n))] [(.int ((Int32.ofNat n) <<< ((1 : Int32) &&& 31)))])) t → Steps p.tables e below _ t := fun t kt => pre0 t (by
    show Steps p.tables e below (s₁.setTop (mkF m 0 #[.val (.int (Int32.ofNat n))] [])) _
    refine XS.iloadN X0.here hx rfl (hb hby d20_0) rfl ?_
    have hc1 : ¬ ((Int32.ofNat n) < (0 : Int32)) := own_nneg (by omega)
    show Steps p.tables e below (s₁.setTop (mkF m 1 #[.val (.int (Int32.ofNat n))] [(.int (Int32.ofNat n))])) _
    refine XS.ifYes X0.here hx rfl (pc0 := 1) (pc' := 12) rfl (hb hby d20_1) rfl ((if0 _ _).trans (flt hc1).2.1) (by decide) (by decide) ?_
    show Steps p.tables e below (s₁.setTop (mkF m 12 #[.val (.int (Int32.ofNat n))] [])) _
    refine XS.iloadN X0.here hx rfl (hb hby d20_12) rfl ?_
    show Steps p.tables e below (s₁.setTop (mkF m 13 #[.val (.int (Int32.ofNat n))] [(.int (Int32.ofNat n))])) _
    refine X0.ldcInt hx hown (mvT hZ (hw _ (List.mem_of_getElem? (i := 93) rfl))) (g := (mkF m 13 #[.val (.int (Int32.ofNat n))] [(.int (Int32.ofNat n))])) rfl (hb hby d20_13) _ ?_
    have hc15 : (Int32.ofNat n) < (1073741823 : Int32) := own_lt (n := 1073741823) (by omega) (by decide)
    show Steps p.tables e below (s₁.setTop (mkF m 15 #[.val (.int (Int32.ofNat n))] [(.int (1073741823 : Int32)), (.int (Int32.ofNat n))])) _
    refine XS.icmpYes X0.here hx rfl (pc0 := 15) (pc' := 55) rfl (hb hby d20_15) rfl (tlt hc15).1 (by decide) (by decide) ?_
    show Steps p.tables e below (s₁.setTop (mkF m 55 #[.val (.int (Int32.ofNat n))] [])) _
    refine XS.iloadN X0.here hx rfl (hb hby d20_55) rfl ?_
    show Steps p.tables e below (s₁.setTop (mkF m 56 #[.val (.int (Int32.ofNat n))] [(.int (Int32.ofNat n))])) _
    refine XS.iconst X0.here hx rfl (hb hby d20_56) ?_
    show Steps p.tables e below (s₁.setTop (mkF m 57 #[.val (.int (Int32.ofNat n))] [(.int (1 : Int32)), (.int (Int32.ofNat n))])) _
    refine XS.ishl X0.here hx rfl (hb hby d20_57) rfl ?_
    exact kt)
  have hv2 : ((Int32.ofNat n) <<< ((1 : Int32) &&& 31)) = (Int32.ofNat (2 * n)) := own_dbl n (by omega)
  rw [hv2] at pre1
  obtain ⟨fs, hr, hrun, hended, hW, hsame⟩ := X0.leave (v := some (.int (Int32.ofNat (2 * n)))) (fun h => by rw [Bd.returns] at h; cases h)
  refine ⟨_, _, pre1 _ ?_, hrun, hended, _, _, rfl, ?_, ⟨_, rfl⟩, hW, hsame.mono (by decide) (by decide)⟩
  · show Steps p.tables e below (s₁.setTop (mkF m 58 #[.val (.int (Int32.ofNat n))] [(.int (Int32.ofNat (2 * n)))])) _
    exact retI X0 hx Bd.returns (hb hby d20_58) hr
  · show Q20 Z n h0 n0 _ s₁.heap _
    rw [e0]
    exact ⟨rfl, N0, rfl⟩
theorem pn_19 : plainName "java/lang/StringUTF16" = true := by first | (simp [plainName, overriddenIn]; done) | decide +kernel
theorem ef_19 (m : MethodId) (x0 : Int32) : entryFrame m #[(.int x0)] 1 = mkF m 0 #[.val (.int x0)] [] := by first | (simp [entryFrame, mkF, argsToLocals, Value.category]; done) | rfl
theorem d19_0 : decode jdk_52_method_2_code 0 = .ok (.iload_n 0, 1) := by decide +kernel
theorem pd_7 : parseMethodDescriptor "(I)I" = some ⟨[.int], some .int⟩ := by decide +kernel
theorem d19_1 : decode jdk_52_method_2_code 1 = .ok (.invokestatic 11, 3) := by decide +kernel
theorem d19_4 : decode jdk_52_method_2_code 4 = .ok (.newarray .byte, 2) := by decide +kernel
theorem d19_6 : decode jdk_52_method_2_code 6 = .ok (.areturn, 1) := by decide +kernel
def Q19 (Z : State) (n : Nat) (h0 : Heap) (n0 : Nat) (v : Option Value) (h : Heap) (L : List Loc) : Prop := ∃ b, v = some (.ref b) ∧ Fr n0 L ∧ Keep h0 h [] ∧ h0.size ≤ b ∧ own_A Z h b .byte (2 * n) (fun _ => 0)
set_option maxRecDepth 65536 in
set_option maxHeartbeats 40000000 in
theorem rm19 (l : Launch) (Z : State) (a0 : Array Value) (hw : ∀ d ∈ tables_1, d.before a0 Z = true) (ws : List Jvm.Cond) (n : Nat) (h0 : Heap) (n0 : Nat) (Z0 : n0 ≤ h0.size) (hn : n ≤ 4) :
    MetFree l (⟨"java/lang/StringUTF16", "newBytesFor", "(I)[B"⟩ : MethodName) (head1 (Jvm.Cond.code (⟨"java/lang/StringUTF16", "newBytesFor", "(I)[B"⟩ : MethodName) jdk_52_method_2_code 1 (some (.array .byte)) :: ws) ({ frames := 1, cells := 1, slots := 8, locals := 12 } : Room)) (fun aa_ U => aa_ = #[(.int (Int32.ofNat n))] ∧ Z.Warmed39 U.vm ∧ U.heap = h0) (fun _ _ _ _ _ => True) (fun _ U o U' => ∃ v_ L_, o = .returned v_ ∧ Q19 Z n h0 n0 v_ U'.heap L_ ∧ FrameEnd U o U' L_ ({ frames := 1, cells := 1, slots := 8, locals := 12 } : Room).cells ({ frames := 1, cells := 1, slots := 8, locals := 12 } : Room).slots) := by
  refine MetFree.of_bodySF (plainFor_of_name pn_19) hisR ?_
  intro p e s m args below meth c s₁ Bd hml0 hP hK
  obtain ⟨rfl, hZ, hh⟩ := hP
  have hx := Bd.exec
  have hby := Bd.bytes
  have hml : c.maxLocals = 1 := hml0
  have hown : s.vm.findClass "java/lang/StringUTF16" = some m.cls := findClass_of_methodNamed Bd.named
  have hnm := (name_of_methodNamed Bd.named Bd.method).1
  have X0 : Stand p l e ({ frames := 1, cells := 1, slots := 8, locals := 12 } : Room) s m #[(.int (Int32.ofNat n))] below meth c s₁ [] 0 0 := Stand.of_body Bd
  have e0 : s₁.heap = h0 := by rw [← hh, Bd.state]; rfl
  have N0 := Fr.nil n0
  have pre0 : ∀ t, Steps p.tables e below (s₁.setTop (mkF m 0 #[.val (.int (Int32.ofNat n))] [])) t → Steps p.tables e below (s₁.setTop (entryFrame m #[(.int (Int32.ofNat n))] 1)) t := fun t k_ => castTop (ef_19 m (Int32.ofNat n)) k_
  have pre1 : ∀ t, Steps p.tables e below (s₁.setTop (mkF m 1 #[.val (.int (Int32.ofNat n))] [(.int (Int32.ofNat n))])) t → Steps p.tables e below _ t := fun t kt => pre0 t (by
    show Steps p.tables e below (s₁.setTop (mkF m 0 #[.val (.int (Int32.ofNat n))] [])) _
    refine XS.iloadN X0.here hx rfl (hb hby d19_0) rfl ?_
    exact kt)
  obtain ⟨_, _, ⟨T2, L2, k2, n2⟩, -, X2, ⟨Lc2, hQ2, l2, y2, z2⟩, st2⟩ := Jvm.LawKit.callS X0 hx (y := (⟨"java/lang/StringUTF16", "newBytesLength", "(I)I"⟩ : MethodName)) hown (mvT hZ (hw _ (List.mem_of_getElem? (i := 90) rfl))) (mvT hZ (hw _ (List.mem_of_getElem? (i := 91) rfl))) (mvT hZ (hw _ (List.mem_of_getElem? (i := 48) rfl))) (mvT hZ (hw _ (List.mem_of_getElem? (i := 92) rfl))) (by decide) (backOf (W := 0) (rm20 l Z a0 hw [] n h0 n0 Z0 hn) hZ (hw _ (List.mem_of_getElem? (i := 92) rfl)) (hw _ (List.mem_of_getElem? (i := 48) rfl)) (by decide) (by decide)) (g := (mkF m 1 #[.val (.int (Int32.ofNat n))] [(.int (Int32.ofNat n))])) rfl (by rw [hml]; rfl) (argsL := [(.int (Int32.ofNat n))]) (rest := []) (lenOf pd_7 rfl) rfl (by show 2 * 0 + _ ≤ _; exact Nat.le_of_eq rfl) (hb hby d19_1) (fun _ _ => ⟨rfl, e0, (by decide : 0 + 0 ≤ _), (by decide : 0 + 0 ≤ _)⟩)
  dsimp only [Pt.U, Pt.locs, Pt.cells, Pt.slots] at X2 l2 y2 z2 st2 hQ2
  subst l2 y2 z2
  obtain ⟨rfl, N2q, e2⟩ := hQ2
  have N2 := Fr.app N0 N2q
  have pre3 : ∀ t, Steps p.tables e below (T2.setTop (mkF m 4 #[.val (.int (Int32.ofNat n))] [(.int (Int32.ofNat (2 * n)))])) t → Steps p.tables e below _ t := fun t kt => pre1 t (by
    show Steps p.tables e below (s₁.setTop (mkF m 1 #[.val (.int (Int32.ofNat n))] [(.int (Int32.ofNat n))])) _
    refine st2 _ ?_
    exact kt)
  obtain ⟨T4, h4, k4, X4, e4, E4, A4, st4⟩ := newP X2 hx hZ (hw _ (List.mem_of_getElem? (i := 19) rfl)) e2 (g := (mkF m 4 #[.val (.int (Int32.ofNat n))] [(.int (Int32.ofNat (2 * n)))])) rfl (hb hby d19_4) rfl (own_nneg (by omega)) (cap := 8) (by rw [clamp_of (c := 2 * n) rfl (by omega)]; omega) (by decide) (by decide) (by decide)
  obtain ⟨b4, gb4⟩ : ∃ z, z = h0.size := ⟨_, rfl⟩
  rw [← gb4] at A4 st4
  have g_b4 : n0 ≤ b4 := Nat.le_trans Z0 (Nat.le_of_eq gb4.symm)
  have Zs4 : n0 ≤ h4.size := Nat.le_trans Z0 E4.1
  have sz_b4 : h0.size ≤ b4 := Nat.le_trans (Keep.refl h0 []).1 (Nat.le_of_eq gb4.symm)
  have Kp4 : Keep h0 h4 [] := (Keep.refl h0 []).ext E4
  have B0 : own_A Z h4 b4 .byte (2 * n) (fun _ => 0) := own_A_new A4 rfl (clamp_of (c := 2 * n) rfl (by omega))
  obtain ⟨fs, hr, hrun, hended, hW, hsame⟩ := X4.leave (v := some (.ref b4)) (fun h => by rw [Bd.returns] at h; cases h)
  refine ⟨_, _, pre3 _ ?_, hrun, hended, _, _, rfl, ?_, ⟨_, rfl⟩, hW, hsame.mono (by decide) (by decide)⟩
  · show Steps p.tables e below (T2.setTop (mkF m 4 #[.val (.int (Int32.ofNat n))] [(.int (Int32.ofNat (2 * n)))])) _
    refine st4 _ ?_
    show Steps p.tables e below (T4.setTop (mkF m 6 #[.val (.int (Int32.ofNat n))] [(.ref b4)])) _
    jvm_step X4.here [X4.here.top, hx, (hb hby d19_6), X4.method', Bd.returns, Value.isRef, FieldType.isReference]
    first | (intro acts; rw [hr _ acts rfl rfl rfl]) | rw [hr _ _ rfl rfl rfl]
    exact Steps.refl _
  · show Q19 Z n h0 n0 _ T4.heap _
    rw [e4]
    exact ⟨b4, rfl, N2, Kp4, sz_b4, B0⟩
theorem d18_8 : decode jdk_52_method_14_code 8 = .ok (.iload 4, 2) := by decide +kernel
theorem d18_10 : decode jdk_52_method_14_code 10 = .ok (.iload_n 2, 1) := by decide +kernel
theorem d18_11 : decode jdk_52_method_14_code 11 = .ok (.if_icmp .ge 21, 3) := by decide +kernel
theorem d18_14 : decode jdk_52_method_14_code 14 = .ok (.aload_n 3, 1) := by decide +kernel
theorem d18_15 : decode jdk_52_method_14_code 15 = .ok (.iload 4, 2) := by decide +kernel
theorem d18_17 : decode jdk_52_method_14_code 17 = .ok (.aload_n 0, 1) := by decide +kernel
theorem d18_18 : decode jdk_52_method_14_code 18 = .ok (.iload_n 1, 1) := by decide +kernel
theorem d18_19 : decode jdk_52_method_14_code 19 = .ok (.caload, 1) := by decide +kernel
theorem pd_8 : parseMethodDescriptor "([BII)V" = some ⟨[(.array .byte), .int, .int], none⟩ := by decide +kernel
theorem d18_20 : decode jdk_52_method_14_code 20 = .ok (.invokestatic 111, 3) := by decide +kernel
theorem d18_23 : decode jdk_52_method_14_code 23 = .ok (.iinc 1 1, 3) := by decide +kernel
theorem d18_26 : decode jdk_52_method_14_code 26 = .ok (.iinc 4 1, 3) := by decide +kernel
theorem d18_29 : decode jdk_52_method_14_code 29 = .ok (.goto (-21), 3) := by decide +kernel
set_option maxRecDepth 65536 in
set_option maxHeartbeats 40000000 in
theorem own_turn18 {p : Program} {l : Launch} {e : Env} {s : State} {m : MethodId} {args : Array Value} {below : List Frame} {meth : Method} {c : Code} {T0 : State} {locs : List Loc} {Z : State} {a0 : Array Value} {h0 : Heap} {n0 : Nat} (ca bt : Addr) (n i : Nat) (f : Nat → Int32)
    (X0 : Stand p l e ({ frames := 2, cells := 1, slots := 8, locals := 24 } : Room) s m args below meth c T0 locs 1 8) (hx : p.tables.exec = Jvm.exec) (hZ : Z.Warmed39 s.vm) (hw : ∀ d ∈ tables_1, d.before a0 Z = true) (hby : c.code = jdk_52_method_14_code) (hml : c.maxLocals = 5) (hown : s.vm.findClass "java/lang/StringUTF16" = some m.cls) (e0 : T0.heap = h0) (N0 : Fr n0 locs) (Z0 : n0 ≤ h0.size) (CA : own_A Z h0 ca .char n f) (BT : own_A Z h0 bt .byte (2 * n) (own_preU f i)) (AD : Sta Z h0 "java/lang/StringUTF16" "$assertionsDisabled" "Z" (.int (1 : Int32))) (HB : Sta Z h0 "java/lang/StringUTF16" "HI_BYTE_SHIFT" "I" (.int (0 : Int32))) (LB : Sta Z h0 "java/lang/StringUTF16" "LO_BYTE_SHIFT" "I" (.int (8 : Int32))) (hn : n ≤ 4) (hi : i < n) (gt : n0 ≤ bt) :
    ∃ (T' : State) (h' : Heap) (locs' : List Loc), Stand p l e ({ frames := 2, cells := 1, slots := 8, locals := 24 } : Room) s m args below meth c T' locs' 1 8 ∧ T'.heap = h' ∧ Fr n0 locs' ∧ Keep h0 h' [bt] ∧ own_A Z h' bt .byte (2 * n) (own_preU f (i + 1)) ∧
      ∀ t, Steps p.tables e below (T'.setTop (mkF m 8 #[.val (.ref ca), .val (.int (Int32.ofNat (i + 1))), .val (.int (Int32.ofNat n)), .val (.ref bt), .val (.int (Int32.ofNat (i + 1)))] [])) t → Steps p.tables e below (T0.setTop (mkF m 8 #[.val (.ref ca), .val (.int (Int32.ofNat i)), .val (.int (Int32.ofNat n)), .val (.ref bt), .val (.int (Int32.ofNat i))] [])) t := by
  have pre0 : ∀ t, Steps p.tables e below (T0.setTop (mkF m 8 #[.val (.ref ca), .val (.int (Int32.ofNat i)), .val (.int (Int32.ofNat n)), .val (.ref bt), .val (.int (Int32.ofNat i))] [])) t → Steps p.tables e below (T0.setTop (mkF m 8 #[.val (.ref ca), .val (.int (Int32.ofNat i)), .val (.int (Int32.ofNat n)), .val (.ref bt), .val (.int (Int32.ofNat i))] [])) t := fun t k => k
  have pre1 : ∀ t, Steps p.tables e below (T0.setTop (mkF m 19 #[.val (.ref ca), .val (.int (Int32.ofNat i)), .val (.int (Int32.ofNat n)), .val (.ref bt), .val (.int (Int32.ofNat i))] [(.int (Int32.ofNat i)), (.ref ca), (.int (Int32.ofNat i)), (.ref bt)])) t → Steps p.tables e below _ t := fun t kt => pre0 t (by
    show Steps p.tables e below (T0.setTop (mkF m 8 #[.val (.ref ca), .val (.int (Int32.ofNat i)), .val (.int (Int32.ofNat n)), .val (.ref bt), .val (.int (Int32.ofNat i))] [])) _
    refine XS.iload X0.here hx rfl (hb hby d18_8) rfl ?_
    show Steps p.tables e below (T0.setTop (mkF m 10 #[.val (.ref ca), .val (.int (Int32.ofNat i)), .val (.int (Int32.ofNat n)), .val (.ref bt), .val (.int (Int32.ofNat i))] [(.int (Int32.ofNat i))])) _
    refine XS.iloadN X0.here hx rfl (hb hby d18_10) rfl ?_
    have hc11 : (Int32.ofNat i) < (Int32.ofNat n) := own_lt hi (by omega)
    show Steps p.tables e below (T0.setTop (mkF m 11 #[.val (.ref ca), .val (.int (Int32.ofNat i)), .val (.int (Int32.ofNat n)), .val (.ref bt), .val (.int (Int32.ofNat i))] [(.int (Int32.ofNat n)), (.int (Int32.ofNat i))])) _
    refine XS.icmpNo X0.here hx rfl (hb hby d18_11) rfl (tlt hc11).2.1 ?_
    show Steps p.tables e below (T0.setTop (mkF m 14 #[.val (.ref ca), .val (.int (Int32.ofNat i)), .val (.int (Int32.ofNat n)), .val (.ref bt), .val (.int (Int32.ofNat i))] [])) _
    refine XS.aloadN X0.here hx rfl (hb hby d18_14) rfl rfl ?_
    show Steps p.tables e below (T0.setTop (mkF m 15 #[.val (.ref ca), .val (.int (Int32.ofNat i)), .val (.int (Int32.ofNat n)), .val (.ref bt), .val (.int (Int32.ofNat i))] [(.ref bt)])) _
    refine XS.iload X0.here hx rfl (hb hby d18_15) rfl ?_
    show Steps p.tables e below (T0.setTop (mkF m 17 #[.val (.ref ca), .val (.int (Int32.ofNat i)), .val (.int (Int32.ofNat n)), .val (.ref bt), .val (.int (Int32.ofNat i))] [(.int (Int32.ofNat i)), (.ref bt)])) _
    refine XS.aloadN X0.here hx rfl (hb hby d18_17) rfl rfl ?_
    show Steps p.tables e below (T0.setTop (mkF m 18 #[.val (.ref ca), .val (.int (Int32.ofNat i)), .val (.int (Int32.ofNat n)), .val (.ref bt), .val (.int (Int32.ofNat i))] [(.ref ca), (.int (Int32.ofNat i)), (.ref bt)])) _
    refine XS.iloadN X0.here hx rfl (hb hby d18_18) rfl ?_
    exact kt)
  obtain ⟨cc, Ac, Sc, Hc⟩ := id CA
  have pre2 : ∀ t, Steps p.tables e below (T0.setTop (mkF m 20 #[.val (.ref ca), .val (.int (Int32.ofNat i)), .val (.int (Int32.ofNat n)), .val (.ref bt), .val (.int (Int32.ofNat i))] [(.int (f i)), (.int (Int32.ofNat i)), (.ref bt)])) t → Steps p.tables e below _ t := fun t kt => pre1 t (by
    show Steps p.tables e below (T0.setTop (mkF m 19 #[.val (.ref ca), .val (.int (Int32.ofNat i)), .val (.int (Int32.ofNat n)), .val (.ref bt), .val (.int (Int32.ofNat i))] [(.int (Int32.ofNat i)), (.ref ca), (.int (Int32.ofNat i)), (.ref bt)])) _
    refine X0.caload hx (j := (Int32.ofNat i)) (v := (.int (f i))) (by rw [e0]; exact Ac.1) (State.isArrayOf_alike hZ.alike Ac.2.1) Ac.2.2 (within (c := i) rfl (by omega) (by omega)) (by rw [clamp_of (c := i) rfl (by omega)]; exact Hc _ hi) (g := (mkF m 19 #[.val (.ref ca), .val (.int (Int32.ofNat i)), .val (.int (Int32.ofNat n)), .val (.ref bt), .val (.int (Int32.ofNat i))] [(.int (Int32.ofNat i)), (.ref ca), (.int (Int32.ofNat i)), (.ref bt)])) rfl rfl (hb hby d18_19) _ ?_
    exact kt)
  obtain ⟨_, _, ⟨T3, L3, k3, n3⟩, -, X3, ⟨Lc3, hQ3, l3, y3, z3⟩, st3⟩ := Jvm.LawKit.callS X0 hx (y := (⟨"java/lang/StringUTF16", "putChar", "([BII)V"⟩ : MethodName)) hown (mvT hZ (hw _ (List.mem_of_getElem? (i := 94) rfl))) (mvT hZ (hw _ (List.mem_of_getElem? (i := 95) rfl))) (mvT hZ (hw _ (List.mem_of_getElem? (i := 48) rfl))) (mvT hZ (hw _ (List.mem_of_getElem? (i := 96) rfl))) (by decide) (backOf (W := 0) (rm21 l Z a0 hw [] bt i n (own_preU f i) (f i) h0 n0 Z0 AD HB LB BT hn hi gt) hZ (hw _ (List.mem_of_getElem? (i := 96) rfl)) (hw _ (List.mem_of_getElem? (i := 48) rfl)) (by decide) (by decide)) (g := (mkF m 20 #[.val (.ref ca), .val (.int (Int32.ofNat i)), .val (.int (Int32.ofNat n)), .val (.ref bt), .val (.int (Int32.ofNat i))] [(.int (f i)), (.int (Int32.ofNat i)), (.ref bt)])) rfl (by rw [hml]; rfl) (argsL := [(.ref bt), (.int (Int32.ofNat i)), (.int (f i))]) (rest := []) (lenOf pd_8 rfl) rfl (by show 2 * 0 + _ ≤ _; exact Nat.le_of_eq rfl) (hb hby d18_20) (fun _ _ => ⟨rfl, e0, (by decide : 1 + 0 ≤ _), (by decide : 8 + 0 ≤ _)⟩)
  dsimp only [Pt.U, Pt.locs, Pt.cells, Pt.slots] at X3 l3 y3 z3 st3 hQ3
  subst l3 y3 z3
  obtain ⟨rfl, N3q, Kp, Bp⟩ := hQ3
  have N3 := Fr.app N0 N3q
  have pre4 : ∀ t, Steps p.tables e below (T3.setTop (mkF m 8 #[.val (.ref ca), .val (.int ((Int32.ofNat i) + (1 : Int32))), .val (.int (Int32.ofNat n)), .val (.ref bt), .val (.int ((Int32.ofNat i) + (1 : Int32)))] [])) t → Steps p.tables e below _ t := fun t kt => pre2 t (by
    show Steps p.tables e below (T0.setTop (mkF m 20 #[.val (.ref ca), .val (.int (Int32.ofNat i)), .val (.int (Int32.ofNat n)), .val (.ref bt), .val (.int (Int32.ofNat i))] [(.int (f i)), (.int (Int32.ofNat i)), (.ref bt)])) _
    refine st3 _ ?_
    show Steps p.tables e below (T3.setTop (mkF m 23 #[.val (.ref ca), .val (.int (Int32.ofNat i)), .val (.int (Int32.ofNat n)), .val (.ref bt), .val (.int (Int32.ofNat i))] [])) _
    refine XS.iinc X3.here hx rfl (hb hby d18_23) rfl (l' := #[.val (.ref ca), .val (.int ((Int32.ofNat i) + (1 : Int32))), .val (.int (Int32.ofNat n)), .val (.ref bt), .val (.int (Int32.ofNat i))]) rfl ?_
    show Steps p.tables e below (T3.setTop (mkF m 26 #[.val (.ref ca), .val (.int ((Int32.ofNat i) + (1 : Int32))), .val (.int (Int32.ofNat n)), .val (.ref bt), .val (.int (Int32.ofNat i))] [])) _
    refine XS.iinc X3.here hx rfl (hb hby d18_26) rfl (l' := #[.val (.ref ca), .val (.int ((Int32.ofNat i) + (1 : Int32))), .val (.int (Int32.ofNat n)), .val (.ref bt), .val (.int ((Int32.ofNat i) + (1 : Int32)))]) rfl ?_
    show Steps p.tables e below (T3.setTop (mkF m 29 #[.val (.ref ca), .val (.int ((Int32.ofNat i) + (1 : Int32))), .val (.int (Int32.ofNat n)), .val (.ref bt), .val (.int ((Int32.ofNat i) + (1 : Int32)))] [])) _
    refine XS.goto X3.here hx rfl (pc0 := 29) (pc' := 8) rfl (hb hby d18_29) (by decide) (by decide) ?_
    exact kt)
  have hv5 : ((Int32.ofNat i) + (1 : Int32)) = (Int32.ofNat (i + 1)) := (inc_ofNat i).symm
  rw [hv5] at pre4
  rw [own_preU_succ] at Bp
  exact ⟨T3, T3.heap, _, X3, rfl, N3, Kp, Bp, pre4⟩

theorem own_Sta_keepA {Z : State} {h h' : Heap} {C n d : String} {v : Value} {a : Addr} {ty : FieldType} {k : Nat} {g : Nat → Int32} (F : Sta Z h C n d v) (K : Keep h h' [a]) (A : own_A Z h a ty k g) : Sta Z h' C n d v := by
  obtain ⟨cf, i, k, f, st, cell, h1, h2, h3, h4, h5, h6, h7⟩ := F
  obtain ⟨c, Ar, -⟩ := A
  have ne : st ≠ a := fun q => by
    subst q
    cases h5.symm.trans Ar.1
    rw [Ar.plain] at h6; cases h6
  exact ⟨cf, i, k, f, st, cell, h1, h2, h3, h4, K.2.1 st cell h5 (ninS ne nin0), h6, h7⟩
set_option maxRecDepth 65536 in
theorem own_loop18 {p : Program} {l : Launch} {e : Env} {s : State} {m : MethodId} {args : Array Value} {below : List Frame} {meth : Method} {c : Code} {Z : State} {a0 : Array Value} {n0 : Nat} (ca bt : Addr) (n : Nat) (f : Nat → Int32)
    (hx : p.tables.exec = Jvm.exec) (hZ : Z.Warmed39 s.vm) (hw : ∀ d ∈ tables_1, d.before a0 Z = true) (hby : c.code = jdk_52_method_14_code) (hml : c.maxLocals = 5) (hown : s.vm.findClass "java/lang/StringUTF16" = some m.cls) (hn : n ≤ 4) (gt : n0 ≤ bt) (nb : ca ≠ bt) :
    ∀ (k i : Nat) (T0 : State) (locs : List Loc) (h0 : Heap), i + k = n → Stand p l e ({ frames := 2, cells := 1, slots := 8, locals := 24 } : Room) s m args below meth c T0 locs 1 8 → T0.heap = h0 → Fr n0 locs → n0 ≤ h0.size → own_A Z h0 ca .char n f → own_A Z h0 bt .byte (2 * n) (own_preU f i) → Sta Z h0 "java/lang/StringUTF16" "$assertionsDisabled" "Z" (.int (1 : Int32)) → Sta Z h0 "java/lang/StringUTF16" "HI_BYTE_SHIFT" "I" (.int (0 : Int32)) → Sta Z h0 "java/lang/StringUTF16" "LO_BYTE_SHIFT" "I" (.int (8 : Int32)) →
    ∃ (T' : State) (h' : Heap) (locs' : List Loc), Stand p l e ({ frames := 2, cells := 1, slots := 8, locals := 24 } : Room) s m args below meth c T' locs' 1 8 ∧ T'.heap = h' ∧ Fr n0 locs' ∧ Keep h0 h' [bt] ∧ own_A Z h' bt .byte (2 * n) (own_preU f n) ∧
      ∀ t, Steps p.tables e below (T'.setTop (mkF m 8 #[.val (.ref ca), .val (.int (Int32.ofNat n)), .val (.int (Int32.ofNat n)), .val (.ref bt), .val (.int (Int32.ofNat n))] [])) t → Steps p.tables e below (T0.setTop (mkF m 8 #[.val (.ref ca), .val (.int (Int32.ofNat i)), .val (.int (Int32.ofNat n)), .val (.ref bt), .val (.int (Int32.ofNat i))] [])) t := by
  intro k
  induction k with
  | zero =>
    intro i T0 locs h0 hik X0 e0 N0 Z0 CA BT AD HB LB
    have hin : i = n := by omega
    subst hin
    exact ⟨T0, h0, locs, X0, e0, N0, Keep.refl _ _, BT, fun t kt => kt⟩
  | succ k ih =>
    intro i T0 locs h0 hik X0 e0 N0 Z0 CA BT AD HB LB
    obtain ⟨T1, h1, locs1, X1, e1, N1, K1, B1, st1⟩ := own_turn18 ca bt n i f X0 hx hZ hw hby hml hown e0 N0 Z0 CA BT AD HB LB hn (by omega) gt
    obtain ⟨T2, h2, locs2, X2, e2, N2, K2, B2, st2⟩ := ih (i + 1) T1 locs1 h1 (by omega) X1 e1 N1 (Nat.le_trans Z0 K1.1) (own_A_keep CA K1 (ninS nb nin0)) B1 (own_Sta_keepA AD K1 BT) (own_Sta_keepA HB K1 BT) (own_Sta_keepA LB K1 BT)
    exact ⟨T2, h2, locs2, X2, e2, N2, K1.trans K2 (fun x hx' => Or.inl hx'), B2, fun t kt => st1 t (st2 t kt)⟩
theorem pn_18 : plainName "java/lang/StringUTF16" = true := by first | (simp [plainName, overriddenIn]; done) | decide +kernel
theorem ef_18 (m : MethodId) (x0 : Addr) (x1 : Int32) (x2 : Int32) : entryFrame m #[(.ref x0), (.int x1), (.int x2)] 5 = mkF m 0 #[.val (.ref x0), .val (.int x1), .val (.int x2), .unset, .unset] [] := by first | (simp [entryFrame, mkF, argsToLocals, Value.category]; done) | rfl
theorem d18_0 : decode jdk_52_method_14_code 0 = .ok (.iload_n 2, 1) := by decide +kernel
theorem pd_9 : parseMethodDescriptor "(I)[B" = some ⟨[.int], some (.array .byte)⟩ := by decide +kernel
theorem d18_1 : decode jdk_52_method_14_code 1 = .ok (.invokestatic 107, 3) := by decide +kernel
theorem d18_4 : decode jdk_52_method_14_code 4 = .ok (.astore_n 3, 1) := by decide +kernel
theorem d18_5 : decode jdk_52_method_14_code 5 = .ok (.iconst 0, 1) := by decide +kernel
theorem d18_6 : decode jdk_52_method_14_code 6 = .ok (.istore 4, 2) := by decide +kernel
theorem d18_32 : decode jdk_52_method_14_code 32 = .ok (.aload_n 3, 1) := by decide +kernel
theorem d18_33 : decode jdk_52_method_14_code 33 = .ok (.areturn, 1) := by decide +kernel
def Q18 (Z : State) (n : Nat) (f : Nat → Int32) (h0 : Heap) (n0 : Nat) (v : Option Value) (h : Heap) (L : List Loc) : Prop := ∃ b, v = some (.ref b) ∧ Fr n0 L ∧ Keep h0 h [] ∧ h0.size ≤ b ∧ own_A Z h b .byte (2 * n) (own_utf f)
set_option maxRecDepth 65536 in
set_option maxHeartbeats 40000000 in
theorem rm18 (l : Launch) (Z : State) (a0 : Array Value) (hw : ∀ d ∈ tables_1, d.before a0 Z = true) (ws : List Jvm.Cond) (ca : Addr) (n : Nat) (f : Nat → Int32) (h0 : Heap) (n0 : Nat) (Z0 : n0 ≤ h0.size) (CA : own_A Z h0 ca .char n f) (AD : Sta Z h0 "java/lang/StringUTF16" "$assertionsDisabled" "Z" (.int (1 : Int32))) (HB : Sta Z h0 "java/lang/StringUTF16" "HI_BYTE_SHIFT" "I" (.int (0 : Int32))) (LB : Sta Z h0 "java/lang/StringUTF16" "LO_BYTE_SHIFT" "I" (.int (8 : Int32))) (hn : n ≤ 4) :
    MetFree l (⟨"java/lang/StringUTF16", "toBytes", "([CII)[B"⟩ : MethodName) (head1 (Jvm.Cond.code (⟨"java/lang/StringUTF16", "toBytes", "([CII)[B"⟩ : MethodName) jdk_52_method_14_code 5 (some (.array .byte)) :: ws) ({ frames := 2, cells := 1, slots := 8, locals := 24 } : Room)) (fun aa_ U => aa_ = #[(.ref ca), (.int (0 : Int32)), (.int (Int32.ofNat n))] ∧ Z.Warmed39 U.vm ∧ U.heap = h0) (fun _ _ _ _ _ => True) (fun _ U o U' => ∃ v_ L_, o = .returned v_ ∧ Q18 Z n f h0 n0 v_ U'.heap L_ ∧ FrameEnd U o U' L_ ({ frames := 2, cells := 1, slots := 8, locals := 24 } : Room).cells ({ frames := 2, cells := 1, slots := 8, locals := 24 } : Room).slots) := by
  refine MetFree.of_bodySF (plainFor_of_name pn_18) hisR ?_
  intro p e s m args below meth c s₁ Bd hml0 hP hK
  obtain ⟨rfl, hZ, hh⟩ := hP
  have hx := Bd.exec
  have hby := Bd.bytes
  have hml : c.maxLocals = 5 := hml0
  have hown : s.vm.findClass "java/lang/StringUTF16" = some m.cls := findClass_of_methodNamed Bd.named
  have hnm := (name_of_methodNamed Bd.named Bd.method).1
  have X0 : Stand p l e ({ frames := 2, cells := 1, slots := 8, locals := 24 } : Room) s m #[(.ref ca), (.int (0 : Int32)), (.int (Int32.ofNat n))] below meth c s₁ [] 0 0 := Stand.of_body Bd
  have e0 : s₁.heap = h0 := by rw [← hh, Bd.state]; rfl
  have N0 := Fr.nil n0
  have pre0 : ∀ t, Steps p.tables e below (s₁.setTop (mkF m 0 #[.val (.ref ca), .val (.int (0 : Int32)), .val (.int (Int32.ofNat n)), .unset, .unset] [])) t → Steps p.tables e below (s₁.setTop (entryFrame m #[(.ref ca), (.int (0 : Int32)), (.int (Int32.ofNat n))] 5)) t := fun t k_ => castTop (ef_18 m ca (0 : Int32) (Int32.ofNat n)) k_
  have pre1 : ∀ t, Steps p.tables e below (s₁.setTop (mkF m 1 #[.val (.ref ca), .val (.int (0 : Int32)), .val (.int (Int32.ofNat n)), .unset, .unset] [(.int (Int32.ofNat n))])) t → Steps p.tables e below _ t := fun t kt => pre0 t (by
    show Steps p.tables e below (s₁.setTop (mkF m 0 #[.val (.ref ca), .val (.int (0 : Int32)), .val (.int (Int32.ofNat n)), .unset, .unset] [])) _
    refine XS.iloadN X0.here hx rfl (hb hby d18_0) rfl ?_
    exact kt)
  obtain ⟨_, _, ⟨T2, L2, k2, n2⟩, -, X2, ⟨Lc2, hQ2, l2, y2, z2⟩, st2⟩ := Jvm.LawKit.callS X0 hx (y := (⟨"java/lang/StringUTF16", "newBytesFor", "(I)[B"⟩ : MethodName)) hown (mvT hZ (hw _ (List.mem_of_getElem? (i := 87) rfl))) (mvT hZ (hw _ (List.mem_of_getElem? (i := 88) rfl))) (mvT hZ (hw _ (List.mem_of_getElem? (i := 48) rfl))) (mvT hZ (hw _ (List.mem_of_getElem? (i := 89) rfl))) (by decide) (backOf (W := 0) (rm19 l Z a0 hw [] n h0 n0 Z0 hn) hZ (hw _ (List.mem_of_getElem? (i := 89) rfl)) (hw _ (List.mem_of_getElem? (i := 48) rfl)) (by decide) (by decide)) (g := (mkF m 1 #[.val (.ref ca), .val (.int (0 : Int32)), .val (.int (Int32.ofNat n)), .unset, .unset] [(.int (Int32.ofNat n))])) rfl (by rw [hml]; rfl) (argsL := [(.int (Int32.ofNat n))]) (rest := []) (lenOf pd_9 rfl) rfl (by show 2 * 0 + _ ≤ _; exact Nat.le_of_eq rfl) (hb hby d18_1) (fun _ _ => ⟨rfl, e0, (by decide : 0 + 1 ≤ _), (by decide : 0 + 8 ≤ _)⟩)
  dsimp only [Pt.U, Pt.locs, Pt.cells, Pt.slots] at X2 l2 y2 z2 st2 hQ2
  subst l2 y2 z2
  obtain ⟨bt, rfl, N2q, Kt, szt, Bt⟩ := hQ2
  have N2 := Fr.app N0 N2q
  have gt : n0 ≤ bt := Nat.le_trans Z0 szt
  have nb : ca ≠ bt := by have q := own_A_lt CA; intro z; subst z; exact absurd q (Nat.not_lt.mpr szt)
  have Zt : n0 ≤ T2.heap.size := Nat.le_trans Z0 Kt.1
  have pre3 : ∀ t, Steps p.tables e below (T2.setTop (mkF m 8 #[.val (.ref ca), .val (.int (0 : Int32)), .val (.int (Int32.ofNat n)), .val (.ref bt), .val (.int (0 : Int32))] [])) t → Steps p.tables e below _ t := fun t kt => pre1 t (by
    show Steps p.tables e below (s₁.setTop (mkF m 1 #[.val (.ref ca), .val (.int (0 : Int32)), .val (.int (Int32.ofNat n)), .unset, .unset] [(.int (Int32.ofNat n))])) _
    refine st2 _ ?_
    show Steps p.tables e below (T2.setTop (mkF m 4 #[.val (.ref ca), .val (.int (0 : Int32)), .val (.int (Int32.ofNat n)), .unset, .unset] [(.ref bt)])) _
    refine XS.astoreN X2.here hx rfl (hb hby d18_4) rfl rfl (l' := #[.val (.ref ca), .val (.int (0 : Int32)), .val (.int (Int32.ofNat n)), .val (.ref bt), .unset]) rfl ?_
    show Steps p.tables e below (T2.setTop (mkF m 5 #[.val (.ref ca), .val (.int (0 : Int32)), .val (.int (Int32.ofNat n)), .val (.ref bt), .unset] [])) _
    refine XS.iconst X2.here hx rfl (hb hby d18_5) ?_
    show Steps p.tables e below (T2.setTop (mkF m 6 #[.val (.ref ca), .val (.int (0 : Int32)), .val (.int (Int32.ofNat n)), .val (.ref bt), .unset] [(.int (0 : Int32))])) _
    refine XS.istore X2.here hx rfl (hb hby d18_6) rfl (l' := #[.val (.ref ca), .val (.int (0 : Int32)), .val (.int (Int32.ofNat n)), .val (.ref bt), .val (.int (0 : Int32))]) rfl ?_
    exact kt)
  have pre4 : ∀ t, Steps p.tables e below (T2.setTop (mkF m 8 #[.val (.ref ca), .val (.int (Int32.ofNat 0)), .val (.int (Int32.ofNat n)), .val (.ref bt), .val (.int (Int32.ofNat 0))] [])) t → Steps p.tables e below _ t := pre3
  have BT0 : own_A Z T2.heap bt .byte (2 * n) (own_preU f 0) := own_A_congr Bt (fun j _ => by unfold own_preU; rw [if_neg (by omega)])
  obtain ⟨T5, h5, L5, X5, e5, N5, K5, B5, st5⟩ := own_loop18 ca bt n f hx hZ hw hby hml hown hn gt nb n 0 T2 _ T2.heap (by omega) X2 rfl N2 Zt (own_A_keep CA Kt nin0) BT0 (own_Sta_keep AD Kt) (own_Sta_keep HB Kt) (own_Sta_keep LB Kt)
  have Ke : Keep h0 h5 [] := Kt.trans K5 (allS (Or.inr szt) all0)
  have Bu : own_A Z h5 bt .byte (2 * n) (own_utf f) := own_A_congr B5 (fun j hj => by unfold own_preU; rw [if_pos hj])
  obtain ⟨fs, hr, hrun, hended, hW, hsame⟩ := X5.leave (v := some (.ref bt)) (fun h => by rw [Bd.returns] at h; cases h)
  refine ⟨_, _, pre4 _ ?_, hrun, hended, _, _, rfl, ?_, ⟨_, rfl⟩, hW, hsame.mono (by decide) (by decide)⟩
  · show Steps p.tables e below (T2.setTop (mkF m 8 #[.val (.ref ca), .val (.int (Int32.ofNat 0)), .val (.int (Int32.ofNat n)), .val (.ref bt), .val (.int (Int32.ofNat 0))] [])) _
    refine st5 _ ?_
    show Steps p.tables e below (T5.setTop (mkF m 8 #[.val (.ref ca), .val (.int (Int32.ofNat n)), .val (.int (Int32.ofNat n)), .val (.ref bt), .val (.int (Int32.ofNat n))] [])) _
    refine XS.iload X5.here hx rfl (hb hby d18_8) rfl ?_
    show Steps p.tables e below (T5.setTop (mkF m 10 #[.val (.ref ca), .val (.int (Int32.ofNat n)), .val (.int (Int32.ofNat n)), .val (.ref bt), .val (.int (Int32.ofNat n))] [(.int (Int32.ofNat n))])) _
    refine XS.iloadN X5.here hx rfl (hb hby d18_10) rfl ?_
    have hc11 : ¬ ((Int32.ofNat n) < (Int32.ofNat n)) := own_nlt (Nat.le_refl _) (by omega)
    show Steps p.tables e below (T5.setTop (mkF m 11 #[.val (.ref ca), .val (.int (Int32.ofNat n)), .val (.int (Int32.ofNat n)), .val (.ref bt), .val (.int (Int32.ofNat n))] [(.int (Int32.ofNat n)), (.int (Int32.ofNat n))])) _
    refine XS.icmpYes X5.here hx rfl (pc0 := 11) (pc' := 32) rfl (hb hby d18_11) rfl (flt hc11).2.1 (by decide) (by decide) ?_
    show Steps p.tables e below (T5.setTop (mkF m 32 #[.val (.ref ca), .val (.int (Int32.ofNat n)), .val (.int (Int32.ofNat n)), .val (.ref bt), .val (.int (Int32.ofNat n))] [])) _
    refine XS.aloadN X5.here hx rfl (hb hby d18_32) rfl rfl ?_
    show Steps p.tables e below (T5.setTop (mkF m 33 #[.val (.ref ca), .val (.int (Int32.ofNat n)), .val (.int (Int32.ofNat n)), .val (.ref bt), .val (.int (Int32.ofNat n))] [(.ref bt)])) _
    jvm_step X5.here [X5.here.top, hx, (hb hby d18_33), X5.method', Bd.returns, Value.isRef, FieldType.isReference]
    first | (intro acts; rw [hr _ acts rfl rfl rfl]) | rw [hr _ _ rfl rfl rfl]
    exact Steps.refl _
  · show Q18 Z n f h0 n0 _ T5.heap _
    rw [e5]
    exact ⟨bt, rfl, N5, Ke, szt, Bu⟩
theorem d10_3 : decode jdk_52_method_21_code 3 = .ok (.iload 5, 2) := by decide +kernel
theorem d10_5 : decode jdk_52_method_21_code 5 = .ok (.iload 4, 2) := by decide +kernel
theorem d10_7 : decode jdk_52_method_21_code 7 = .ok (.if_icmp .ge 37, 3) := by decide +kernel
theorem d10_10 : decode jdk_52_method_21_code 10 = .ok (.aload_n 0, 1) := by decide +kernel
theorem d10_11 : decode jdk_52_method_21_code 11 = .ok (.iload_n 1, 1) := by decide +kernel
theorem d10_12 : decode jdk_52_method_21_code 12 = .ok (.caload, 1) := by decide +kernel
theorem d10_13 : decode jdk_52_method_21_code 13 = .ok (.istore 6, 2) := by decide +kernel
theorem d10_15 : decode jdk_52_method_21_code 15 = .ok (.iload 6, 2) := by decide +kernel
theorem d10_17 : decode jdk_52_method_21_code 17 = .ok (.sipush 255, 3) := by decide +kernel
theorem d10_20 : decode jdk_52_method_21_code 20 = .ok (.if_icmp .le 6, 3) := by decide +kernel
theorem d10_26 : decode jdk_52_method_21_code 26 = .ok (.aload_n 2, 1) := by decide +kernel
theorem d10_27 : decode jdk_52_method_21_code 27 = .ok (.iload_n 3, 1) := by decide +kernel
theorem d10_28 : decode jdk_52_method_21_code 28 = .ok (.iload 6, 2) := by decide +kernel
theorem d10_30 : decode jdk_52_method_21_code 30 = .ok (.i2b, 1) := by decide +kernel
theorem d10_31 : decode jdk_52_method_21_code 31 = .ok (.bastore, 1) := by decide +kernel
theorem d10_32 : decode jdk_52_method_21_code 32 = .ok (.iinc 1 1, 3) := by decide +kernel
theorem d10_35 : decode jdk_52_method_21_code 35 = .ok (.iinc 3 1, 3) := by decide +kernel
theorem d10_38 : decode jdk_52_method_21_code 38 = .ok (.iinc 5 1, 3) := by decide +kernel
theorem d10_41 : decode jdk_52_method_21_code 41 = .ok (.goto (-38), 3) := by decide +kernel
set_option maxRecDepth 65536 in
set_option maxHeartbeats 40000000 in
theorem own_turn10 {p : Program} {l : Launch} {e : Env} {R : Room} {s : State} {m : MethodId} {args : Array Value} {below : List Frame} {meth : Method} {c : Code} {T0 : State} {locs : List Loc} {cells slots : Nat} {Z : State} {a0 : Array Value} {h0 : Heap} {n0 : Nat} (ca b : Addr) (n i : Nat) (f : Nat → Int32) (s6 : Slot)
    (X0 : Stand p l e R s m args below meth c T0 locs cells slots) (hx : p.tables.exec = Jvm.exec) (hZ : Z.Warmed39 s.vm) (hw : ∀ d ∈ tables_1, d.before a0 Z = true) (hby : c.code = jdk_52_method_21_code) (hml : c.maxLocals = 7) (hown : s.vm.findClass "java/lang/StringUTF16" = some m.cls) (e0 : T0.heap = h0) (N0 : Fr n0 locs) (Z0 : n0 ≤ h0.size) (hs6 : One s6) (CA : own_A Z h0 ca .char n f) (BB : own_A Z h0 b .byte n (own_pre f i)) (hn : n ≤ 4) (hi : i < n) (hs : ¬ ((255 : Int32) < f i)) (gb : n0 ≤ b) :
    ∃ (T' : State) (h' : Heap) (locs' : List Loc), Stand p l e R s m args below meth c T' locs' cells slots ∧ T'.heap = h' ∧ Fr n0 locs' ∧ Keep h0 h' [b] ∧ own_A Z h' b .byte n (own_pre f (i + 1)) ∧
      ∀ t, Steps p.tables e below (T'.setTop (mkF m 3 #[.val (.ref ca), .val (.int (Int32.ofNat (i + 1))), .val (.ref b), .val (.int (Int32.ofNat (i + 1))), .val (.int (Int32.ofNat n)), .val (.int (Int32.ofNat (i + 1))), .val (.int (f i))] [])) t → Steps p.tables e below (T0.setTop (mkF m 3 #[.val (.ref ca), .val (.int (Int32.ofNat i)), .val (.ref b), .val (.int (Int32.ofNat i)), .val (.int (Int32.ofNat n)), .val (.int (Int32.ofNat i)), s6] [])) t := by
  have pre0 : ∀ t, Steps p.tables e below (T0.setTop (mkF m 3 #[.val (.ref ca), .val (.int (Int32.ofNat i)), .val (.ref b), .val (.int (Int32.ofNat i)), .val (.int (Int32.ofNat n)), .val (.int (Int32.ofNat i)), s6] [])) t → Steps p.tables e below (T0.setTop (mkF m 3 #[.val (.ref ca), .val (.int (Int32.ofNat i)), .val (.ref b), .val (.int (Int32.ofNat i)), .val (.int (Int32.ofNat n)), .val (.int (Int32.ofNat i)), s6] [])) t := fun t k => k
  have pre1 : ∀ t, Steps p.tables e below (T0.setTop (mkF m 12 #[.val (.ref ca), .val (.int (Int32.ofNat i)), .val (.ref b), .val (.int (Int32.ofNat i)), .val (.int (Int32.ofNat n)), .val (.int (Int32.ofNat i)), s6] [(.int (Int32.ofNat i)), (.ref ca)])) t → Steps p.tables e below _ t := fun t kt => pre0 t (by
    show Steps p.tables e below (T0.setTop (mkF m 3 #[.val (.ref ca), .val (.int (Int32.ofNat i)), .val (.ref b), .val (.int (Int32.ofNat i)), .val (.int (Int32.ofNat n)), .val (.int (Int32.ofNat i)), s6] [])) _
    refine XS.iload X0.here hx rfl (hb hby d10_3) rfl ?_
    show Steps p.tables e below (T0.setTop (mkF m 5 #[.val (.ref ca), .val (.int (Int32.ofNat i)), .val (.ref b), .val (.int (Int32.ofNat i)), .val (.int (Int32.ofNat n)), .val (.int (Int32.ofNat i)), s6] [(.int (Int32.ofNat i))])) _
    refine XS.iload X0.here hx rfl (hb hby d10_5) rfl ?_
    have hc7 : (Int32.ofNat i) < (Int32.ofNat n) := own_lt hi (by omega)
    show Steps p.tables e below (T0.setTop (mkF m 7 #[.val (.ref ca), .val (.int (Int32.ofNat i)), .val (.ref b), .val (.int (Int32.ofNat i)), .val (.int (Int32.ofNat n)), .val (.int (Int32.ofNat i)), s6] [(.int (Int32.ofNat n)), (.int (Int32.ofNat i))])) _
    refine XS.icmpNo X0.here hx rfl (hb hby d10_7) rfl (tlt hc7).2.1 ?_
    show Steps p.tables e below (T0.setTop (mkF m 10 #[.val (.ref ca), .val (.int (Int32.ofNat i)), .val (.ref b), .val (.int (Int32.ofNat i)), .val (.int (Int32.ofNat n)), .val (.int (Int32.ofNat i)), s6] [])) _
    refine XS.aloadN X0.here hx rfl (hb hby d10_10) rfl rfl ?_
    show Steps p.tables e below (T0.setTop (mkF m 11 #[.val (.ref ca), .val (.int (Int32.ofNat i)), .val (.ref b), .val (.int (Int32.ofNat i)), .val (.int (Int32.ofNat n)), .val (.int (Int32.ofNat i)), s6] [(.ref ca)])) _
    refine XS.iloadN X0.here hx rfl (hb hby d10_11) rfl ?_
    exact kt)
  obtain ⟨cc, Ac, Sc, Hc⟩ := id CA
  have pre2 : ∀ t, Steps p.tables e below (T0.setTop (mkF m 31 #[.val (.ref ca), .val (.int (Int32.ofNat i)), .val (.ref b), .val (.int (Int32.ofNat i)), .val (.int (Int32.ofNat n)), .val (.int (Int32.ofNat i)), .val (.int (f i))] [(.int ((f i).toInt8.toInt32)), (.int (Int32.ofNat i)), (.ref b)])) t → Steps p.tables e below _ t := fun t kt => pre1 t (by
    show Steps p.tables e below (T0.setTop (mkF m 12 #[.val (.ref ca), .val (.int (Int32.ofNat i)), .val (.ref b), .val (.int (Int32.ofNat i)), .val (.int (Int32.ofNat n)), .val (.int (Int32.ofNat i)), s6] [(.int (Int32.ofNat i)), (.ref ca)])) _
    refine X0.caload hx (j := (Int32.ofNat i)) (v := (.int (f i))) (by rw [e0]; exact Ac.1) (State.isArrayOf_alike hZ.alike Ac.2.1) Ac.2.2 (within (c := i) rfl (by omega) (by omega)) (by rw [clamp_of (c := i) rfl (by omega)]; exact Hc _ hi) (g := (mkF m 12 #[.val (.ref ca), .val (.int (Int32.ofNat i)), .val (.ref b), .val (.int (Int32.ofNat i)), .val (.int (Int32.ofNat n)), .val (.int (Int32.ofNat i)), s6] [(.int (Int32.ofNat i)), (.ref ca)])) rfl rfl (hb hby d10_12) _ ?_
    show Steps p.tables e below (T0.setTop (mkF m 13 #[.val (.ref ca), .val (.int (Int32.ofNat i)), .val (.ref b), .val (.int (Int32.ofNat i)), .val (.int (Int32.ofNat n)), .val (.int (Int32.ofNat i)), s6] [(.int (f i))])) _
    refine XS.istore X0.here hx rfl (hb hby d10_13) rfl (l' := #[.val (.ref ca), .val (.int (Int32.ofNat i)), .val (.ref b), .val (.int (Int32.ofNat i)), .val (.int (Int32.ofNat n)), .val (.int (Int32.ofNat i)), .val (.int (f i))]) (own_os28 hs6) ?_
    show Steps p.tables e below (T0.setTop (mkF m 15 #[.val (.ref ca), .val (.int (Int32.ofNat i)), .val (.ref b), .val (.int (Int32.ofNat i)), .val (.int (Int32.ofNat n)), .val (.int (Int32.ofNat i)), .val (.int (f i))] [])) _
    refine XS.iload X0.here hx rfl (hb hby d10_15) rfl ?_
    show Steps p.tables e below (T0.setTop (mkF m 17 #[.val (.ref ca), .val (.int (Int32.ofNat i)), .val (.ref b), .val (.int (Int32.ofNat i)), .val (.int (Int32.ofNat n)), .val (.int (Int32.ofNat i)), .val (.int (f i))] [(.int (f i))])) _
    refine XS.sipush X0.here hx rfl (hb hby d10_17) ?_
    have hc20 : ¬ ((255 : Int32) < (f i)) := hs
    show Steps p.tables e below (T0.setTop (mkF m 20 #[.val (.ref ca), .val (.int (Int32.ofNat i)), .val (.ref b), .val (.int (Int32.ofNat i)), .val (.int (Int32.ofNat n)), .val (.int (Int32.ofNat i)), .val (.int (f i))] [(.int (255 : Int32)), (.int (f i))])) _
    refine XS.icmpYes X0.here hx rfl (pc0 := 20) (pc' := 26) rfl (hb hby d10_20) rfl (flt hc20).2.2.2 (by decide) (by decide) ?_
    show Steps p.tables e below (T0.setTop (mkF m 26 #[.val (.ref ca), .val (.int (Int32.ofNat i)), .val (.ref b), .val (.int (Int32.ofNat i)), .val (.int (Int32.ofNat n)), .val (.int (Int32.ofNat i)), .val (.int (f i))] [])) _
    refine XS.aloadN X0.here hx rfl (hb hby d10_26) rfl rfl ?_
    show Steps p.tables e below (T0.setTop (mkF m 27 #[.val (.ref ca), .val (.int (Int32.ofNat i)), .val (.ref b), .val (.int (Int32.ofNat i)), .val (.int (Int32.ofNat n)), .val (.int (Int32.ofNat i)), .val (.int (f i))] [(.ref b)])) _
    refine XS.iloadN X0.here hx rfl (hb hby d10_27) rfl ?_
    show Steps p.tables e below (T0.setTop (mkF m 28 #[.val (.ref ca), .val (.int (Int32.ofNat i)), .val (.ref b), .val (.int (Int32.ofNat i)), .val (.int (Int32.ofNat n)), .val (.int (Int32.ofNat i)), .val (.int (f i))] [(.int (Int32.ofNat i)), (.ref b)])) _
    refine XS.iload X0.here hx rfl (hb hby d10_28) rfl ?_
    show Steps p.tables e below (T0.setTop (mkF m 30 #[.val (.ref ca), .val (.int (Int32.ofNat i)), .val (.ref b), .val (.int (Int32.ofNat i)), .val (.int (Int32.ofNat n)), .val (.int (Int32.ofNat i)), .val (.int (f i))] [(.int (f i)), (.int (Int32.ofNat i)), (.ref b)])) _
    refine XS.i2b X0.here hx rfl (hb hby d10_30) rfl ?_
    exact kt)
  obtain ⟨cb, Ab, Sb, -⟩ := id BB
  obtain ⟨T3, h3, X3, e3, W3, st3⟩ := stB X0 hx hZ e0 Ab (j := (Int32.ofNat i)) (within (c := i) rfl (by omega) (by omega)) (g := (mkF m 31 #[.val (.ref ca), .val (.int (Int32.ofNat i)), .val (.ref b), .val (.int (Int32.ofNat i)), .val (.int (Int32.ofNat n)), .val (.int (Int32.ofNat i)), .val (.int (f i))] [(.int ((f i).toInt8.toInt32)), (.int (Int32.ofNat i)), (.ref b)])) rfl rfl (hb hby d10_31)
  have N3 := Fr.snoc X3 N0 gb
  have Zs3 : n0 ≤ h3.size := Nat.le_trans Z0 (Nat.le_of_eq W3.size.symm)
  have Kp3 : Keep h0 h3 [b] := (Keep.refl h0 [b]).wr W3 (Or.inl (List.mem_of_getElem? (i := 0) rfl))
  have V3 : Wr h0 h3 b i (.int (own_lt1 (f i))) := by have z := W3; rw [clamp_of (c := i) rfl (by omega)] at z; exact z
  have F1 := own_A_set BB V3
  rw [own_pre_succ] at F1
  have pre4 : ∀ t, Steps p.tables e below (T3.setTop (mkF m 3 #[.val (.ref ca), .val (.int ((Int32.ofNat i) + (1 : Int32))), .val (.ref b), .val (.int ((Int32.ofNat i) + (1 : Int32))), .val (.int (Int32.ofNat n)), .val (.int ((Int32.ofNat i) + (1 : Int32))), .val (.int (f i))] [])) t → Steps p.tables e below _ t := fun t kt => pre2 t (by
    show Steps p.tables e below (T0.setTop (mkF m 31 #[.val (.ref ca), .val (.int (Int32.ofNat i)), .val (.ref b), .val (.int (Int32.ofNat i)), .val (.int (Int32.ofNat n)), .val (.int (Int32.ofNat i)), .val (.int (f i))] [(.int ((f i).toInt8.toInt32)), (.int (Int32.ofNat i)), (.ref b)])) _
    refine st3 _ ?_
    show Steps p.tables e below (T3.setTop (mkF m 32 #[.val (.ref ca), .val (.int (Int32.ofNat i)), .val (.ref b), .val (.int (Int32.ofNat i)), .val (.int (Int32.ofNat n)), .val (.int (Int32.ofNat i)), .val (.int (f i))] [])) _
    refine XS.iinc X3.here hx rfl (hb hby d10_32) rfl (l' := #[.val (.ref ca), .val (.int ((Int32.ofNat i) + (1 : Int32))), .val (.ref b), .val (.int (Int32.ofNat i)), .val (.int (Int32.ofNat n)), .val (.int (Int32.ofNat i)), .val (.int (f i))]) rfl ?_
    show Steps p.tables e below (T3.setTop (mkF m 35 #[.val (.ref ca), .val (.int ((Int32.ofNat i) + (1 : Int32))), .val (.ref b), .val (.int (Int32.ofNat i)), .val (.int (Int32.ofNat n)), .val (.int (Int32.ofNat i)), .val (.int (f i))] [])) _
    refine XS.iinc X3.here hx rfl (hb hby d10_35) rfl (l' := #[.val (.ref ca), .val (.int ((Int32.ofNat i) + (1 : Int32))), .val (.ref b), .val (.int ((Int32.ofNat i) + (1 : Int32))), .val (.int (Int32.ofNat n)), .val (.int (Int32.ofNat i)), .val (.int (f i))]) rfl ?_
    show Steps p.tables e below (T3.setTop (mkF m 38 #[.val (.ref ca), .val (.int ((Int32.ofNat i) + (1 : Int32))), .val (.ref b), .val (.int ((Int32.ofNat i) + (1 : Int32))), .val (.int (Int32.ofNat n)), .val (.int (Int32.ofNat i)), .val (.int (f i))] [])) _
    refine XS.iinc X3.here hx rfl (hb hby d10_38) rfl (l' := #[.val (.ref ca), .val (.int ((Int32.ofNat i) + (1 : Int32))), .val (.ref b), .val (.int ((Int32.ofNat i) + (1 : Int32))), .val (.int (Int32.ofNat n)), .val (.int ((Int32.ofNat i) + (1 : Int32))), .val (.int (f i))]) rfl ?_
    show Steps p.tables e below (T3.setTop (mkF m 41 #[.val (.ref ca), .val (.int ((Int32.ofNat i) + (1 : Int32))), .val (.ref b), .val (.int ((Int32.ofNat i) + (1 : Int32))), .val (.int (Int32.ofNat n)), .val (.int ((Int32.ofNat i) + (1 : Int32))), .val (.int (f i))] [])) _
    refine XS.goto X3.here hx rfl (pc0 := 41) (pc' := 3) rfl (hb hby d10_41) (by decide) (by decide) ?_
    exact kt)
  have hv5 : ((Int32.ofNat i) + (1 : Int32)) = (Int32.ofNat (i + 1)) := (inc_ofNat i).symm
  rw [hv5] at pre4
  exact ⟨T3, h3, _, X3, e3, N3, Kp3, F1, pre4⟩

set_option maxRecDepth 65536 in
theorem own_loop10 {p : Program} {l : Launch} {e : Env} {R : Room} {s : State} {m : MethodId} {args : Array Value} {below : List Frame} {meth : Method} {c : Code} {cells slots : Nat} {Z : State} {a0 : Array Value} {n0 : Nat} (ca b : Addr) (n : Nat) (f : Nat → Int32)
    (hx : p.tables.exec = Jvm.exec) (hZ : Z.Warmed39 s.vm) (hw : ∀ d ∈ tables_1, d.before a0 Z = true) (hby : c.code = jdk_52_method_21_code) (hml : c.maxLocals = 7) (hown : s.vm.findClass "java/lang/StringUTF16" = some m.cls) (hn : n ≤ 4) (gb : n0 ≤ b) (nb : ca ≠ b) :
    ∀ (k i : Nat) (T0 : State) (locs : List Loc) (h0 : Heap) (s6 : Slot), i + k = n → One s6 → (∀ j, j < i → ¬ ((255 : Int32) < f j)) → Stand p l e R s m args below meth c T0 locs cells slots → T0.heap = h0 → Fr n0 locs → n0 ≤ h0.size → own_A Z h0 ca .char n f → own_A Z h0 b .byte n (own_pre f i) →
    ∃ (T' : State) (h' : Heap) (locs' : List Loc) (q : Nat) (s6' : Slot), q ≤ n ∧ (∀ j, j < q → ¬ ((255 : Int32) < f j)) ∧ (q = n ∨ (255 : Int32) < f q) ∧ One s6' ∧ Stand p l e R s m args below meth c T' locs' cells slots ∧ T'.heap = h' ∧ Fr n0 locs' ∧ Keep h0 h' [b] ∧ own_A Z h' ca .char n f ∧ own_A Z h' b .byte n (own_pre f q) ∧
      ∀ t, Steps p.tables e below (T'.setTop (mkF m 3 #[.val (.ref ca), .val (.int (Int32.ofNat q)), .val (.ref b), .val (.int (Int32.ofNat q)), .val (.int (Int32.ofNat n)), .val (.int (Int32.ofNat q)), s6'] [])) t → Steps p.tables e below (T0.setTop (mkF m 3 #[.val (.ref ca), .val (.int (Int32.ofNat i)), .val (.ref b), .val (.int (Int32.ofNat i)), .val (.int (Int32.ofNat n)), .val (.int (Int32.ofNat i)), s6] [])) t := by
  intro k
  induction k with
  | zero =>
    intro i T0 locs h0 s6 hik hs6 hs X0 e0 N0 Z0 CA BB
    exact ⟨T0, h0, locs, i, s6, by omega, hs, Or.inl (by omega), hs6, X0, e0, N0, Keep.refl _ _, CA, BB, fun t kt => kt⟩
  | succ k ih =>
    intro i T0 locs h0 s6 hik hs6 hs X0 e0 N0 Z0 CA BB
    by_cases hc : (255 : Int32) < f i
    · exact ⟨T0, h0, locs, i, s6, by omega, hs, Or.inr hc, hs6, X0, e0, N0, Keep.refl _ _, CA, BB, fun t kt => kt⟩
    · obtain ⟨T1, h1, locs1, X1, e1, N1, K1, B1, st1⟩ := own_turn10 ca b n i f s6 X0 hx hZ hw hby hml hown e0 N0 Z0 hs6 CA BB hn (by omega) hc gb
      obtain ⟨T2, h2, locs2, q, s62, q1, q2, q3, q4, X2, e2, N2, K2, C2, B2, st2⟩ := ih (i + 1) T1 locs1 h1 (.val (.int (f i))) (by omega) (One.val rfl) (fun j hj => by
        by_cases hji : j = i
        · subst hji; exact hc
        · exact hs j (by omega)) X1 e1 N1 (Nat.le_trans Z0 K1.1) (own_A_keep CA K1 (ninS nb nin0)) B1
      exact ⟨T2, h2, locs2, q, s62, q1, q2, q3, q4, X2, e2, N2, K1.trans K2 (fun x hx' => Or.inl hx'), C2, B2, fun t kt => st1 t (st2 t kt)⟩
theorem pn_10 : plainName "java/lang/StringUTF16" = true := by first | (simp [plainName, overriddenIn]; done) | decide +kernel
theorem ef_10 (m : MethodId) (x0 : Addr) (x1 : Int32) (x2 : Addr) (x3 : Int32) (x4 : Int32) : entryFrame m #[(.ref x0), (.int x1), (.ref x2), (.int x3), (.int x4)] 7 = mkF m 0 #[.val (.ref x0), .val (.int x1), .val (.ref x2), .val (.int x3), .val (.int x4), .unset, .unset] [] := by first | (simp [entryFrame, mkF, argsToLocals, Value.category]; done) | rfl
theorem d10_0 : decode jdk_52_method_21_code 0 = .ok (.iconst 0, 1) := by decide +kernel
theorem d10_1 : decode jdk_52_method_21_code 1 = .ok (.istore 5, 2) := by decide +kernel
theorem d10_44 : decode jdk_52_method_21_code 44 = .ok (.iload 4, 2) := by decide +kernel
theorem d10_46 : decode jdk_52_method_21_code 46 = .ok (.ireturn, 1) := by decide +kernel
theorem d10_23 : decode jdk_52_method_21_code 23 = .ok (.iload 5, 2) := by decide +kernel
theorem d10_25 : decode jdk_52_method_21_code 25 = .ok (.ireturn, 1) := by decide +kernel
def Q10 (Z : State) (ca b : Addr) (n : Nat) (f : Nat → Int32) (h0 : Heap) (n0 : Nat) (v : Option Value) (h : Heap) (L : List Loc) : Prop := ∃ q, v = some (.int (Int32.ofNat q)) ∧ Fr n0 L ∧ Keep h0 h [b] ∧ own_A Z h ca .char n f ∧ ((q = n ∧ (∀ j, j < n → ¬ ((255 : Int32) < f j)) ∧ own_A Z h b .byte n (fun j => own_lt1 (f j))) ∨ (q < n ∧ (255 : Int32) < f q))
set_option maxRecDepth 65536 in
set_option maxHeartbeats 40000000 in
theorem rm10 (l : Launch) (Z : State) (a0 : Array Value) (hw : ∀ d ∈ tables_1, d.before a0 Z = true) (ws : List Jvm.Cond) (ca : Addr) (b : Addr) (n : Nat) (f : Nat → Int32) (h0 : Heap) (n0 : Nat) (Z0 : n0 ≤ h0.size) (CA : own_A Z h0 ca .char n f) (BB : own_A Z h0 b .byte n (fun _ => 0)) (hn : n ≤ 4) (gb : n0 ≤ b) (nb : ca ≠ b) :
    MetFree l (⟨"java/lang/StringUTF16", "compress", "([CI[BII)I"⟩ : MethodName) (head1 (Jvm.Cond.code (⟨"java/lang/StringUTF16", "compress", "([CI[BII)I"⟩ : MethodName) jdk_52_method_21_code 7 (some .int) :: ws) ({ frames := 0, cells := 0, slots := 0, locals := 0 } : Room)) (fun aa_ U => aa_ = #[(.ref ca), (.int (0 : Int32)), (.ref b), (.int (0 : Int32)), (.int (Int32.ofNat n))] ∧ Z.Warmed39 U.vm ∧ U.heap = h0) (fun _ _ _ _ _ => True) (fun _ U o U' => ∃ v_ L_, o = .returned v_ ∧ Q10 Z ca b n f h0 n0 v_ U'.heap L_ ∧ FrameEnd U o U' L_ ({ frames := 0, cells := 0, slots := 0, locals := 0 } : Room).cells ({ frames := 0, cells := 0, slots := 0, locals := 0 } : Room).slots) := by
  refine MetFree.of_bodySF (plainFor_of_name pn_10) hisR ?_
  intro p e s m args below meth c s₁ Bd hml0 hP hK
  obtain ⟨rfl, hZ, hh⟩ := hP
  have hx := Bd.exec
  have hby := Bd.bytes
  have hml : c.maxLocals = 7 := hml0
  have hown : s.vm.findClass "java/lang/StringUTF16" = some m.cls := findClass_of_methodNamed Bd.named
  have hnm := (name_of_methodNamed Bd.named Bd.method).1
  have X0 : Stand p l e ({ frames := 0, cells := 0, slots := 0, locals := 0 } : Room) s m #[(.ref ca), (.int (0 : Int32)), (.ref b), (.int (0 : Int32)), (.int (Int32.ofNat n))] below meth c s₁ [] 0 0 := Stand.of_body Bd
  have e0 : s₁.heap = h0 := by rw [← hh, Bd.state]; rfl
  have N0 := Fr.nil n0
  have pre0 : ∀ t, Steps p.tables e below (s₁.setTop (mkF m 0 #[.val (.ref ca), .val (.int (0 : Int32)), .val (.ref b), .val (.int (0 : Int32)), .val (.int (Int32.ofNat n)), .unset, .unset] [])) t → Steps p.tables e below (s₁.setTop (entryFrame m #[(.ref ca), (.int (0 : Int32)), (.ref b), (.int (0 : Int32)), (.int (Int32.ofNat n))] 7)) t := fun t k_ => castTop (ef_10 m ca (0 : Int32) b (0 : Int32) (Int32.ofNat n)) k_
  have pre1 : ∀ t, Steps p.tables e below (s₁.setTop (mkF m 3 #[.val (.ref ca), .val (.int (0 : Int32)), .val (.ref b), .val (.int (0 : Int32)), .val (.int (Int32.ofNat n)), .val (.int (0 : Int32)), .unset] [])) t → Steps p.tables e below _ t := fun t kt => pre0 t (by
    show Steps p.tables e below (s₁.setTop (mkF m 0 #[.val (.ref ca), .val (.int (0 : Int32)), .val (.ref b), .val (.int (0 : Int32)), .val (.int (Int32.ofNat n)), .unset, .unset] [])) _
    refine XS.iconst X0.here hx rfl (hb hby d10_0) ?_
    show Steps p.tables e below (s₁.setTop (mkF m 1 #[.val (.ref ca), .val (.int (0 : Int32)), .val (.ref b), .val (.int (0 : Int32)), .val (.int (Int32.ofNat n)), .unset, .unset] [(.int (0 : Int32))])) _
    refine XS.istore X0.here hx rfl (hb hby d10_1) rfl (l' := #[.val (.ref ca), .val (.int (0 : Int32)), .val (.ref b), .val (.int (0 : Int32)), .val (.int (Int32.ofNat n)), .val (.int (0 : Int32)), .unset]) rfl ?_
    exact kt)
  have pre2 : ∀ t, Steps p.tables e below (s₁.setTop (mkF m 3 #[.val (.ref ca), .val (.int (Int32.ofNat 0)), .val (.ref b), .val (.int (Int32.ofNat 0)), .val (.int (Int32.ofNat n)), .val (.int (Int32.ofNat 0)), .unset] [])) t → Steps p.tables e below _ t := pre1
  have BT0 : own_A Z h0 b .byte n (own_pre f 0) := own_A_congr BB (fun j _ => by unfold own_pre; rw [if_neg (by omega)])
  obtain ⟨T3, h3, L3, q, s6', hq1, hq2, hq3, hs6, X3, e3, N3, K3, CAe, B3, st3⟩ := own_loop10 ca b n f hx hZ hw hby hml hown hn gb nb n 0 s₁ _ h0 .unset (by omega) One.u (fun j hj => absurd hj (Nat.not_lt_zero _)) X0 e0 N0 Z0 CA BT0
  have pre4 : ∀ t, Steps p.tables e below (T3.setTop (mkF m 3 #[.val (.ref ca), .val (.int (Int32.ofNat q)), .val (.ref b), .val (.int (Int32.ofNat q)), .val (.int (Int32.ofNat n)), .val (.int (Int32.ofNat q)), s6'] [])) t → Steps p.tables e below _ t := fun t kt => pre2 t (by
    show Steps p.tables e below (s₁.setTop (mkF m 3 #[.val (.ref ca), .val (.int (Int32.ofNat 0)), .val (.ref b), .val (.int (Int32.ofNat 0)), .val (.int (Int32.ofNat n)), .val (.int (Int32.ofNat 0)), .unset] [])) _
    refine st3 _ ?_
    exact kt)
  by_cases hqn : q = n
  · obtain ⟨fs, hr, hrun, hended, hW, hsame⟩ := X3.leave (v := some (.int (Int32.ofNat n))) (fun h => by rw [Bd.returns] at h; cases h)
    refine ⟨_, _, pre4 _ ?_, hrun, hended, _, _, rfl, ?_, ⟨_, rfl⟩, hW, hsame.mono (by decide) (by decide)⟩
    · show Steps p.tables e below (T3.setTop (mkF m 3 #[.val (.ref ca), .val (.int (Int32.ofNat q)), .val (.ref b), .val (.int (Int32.ofNat q)), .val (.int (Int32.ofNat n)), .val (.int (Int32.ofNat q)), s6'] [])) _
      refine XS.iload X3.here hx rfl (hb hby d10_3) rfl ?_
      show Steps p.tables e below (T3.setTop (mkF m 5 #[.val (.ref ca), .val (.int (Int32.ofNat q)), .val (.ref b), .val (.int (Int32.ofNat q)), .val (.int (Int32.ofNat n)), .val (.int (Int32.ofNat q)), s6'] [(.int (Int32.ofNat q))])) _
      refine XS.iload X3.here hx rfl (hb hby d10_5) rfl ?_
      have hc7 : ¬ ((Int32.ofNat q) < (Int32.ofNat n)) := own_nlt (Nat.le_of_eq hqn.symm) (by omega)
      show Steps p.tables e below (T3.setTop (mkF m 7 #[.val (.ref ca), .val (.int (Int32.ofNat q)), .val (.ref b), .val (.int (Int32.ofNat q)), .val (.int (Int32.ofNat n)), .val (.int (Int32.ofNat q)), s6'] [(.int (Int32.ofNat n)), (.int (Int32.ofNat q))])) _
      refine XS.icmpYes X3.here hx rfl (pc0 := 7) (pc' := 44) rfl (hb hby d10_7) rfl (flt hc7).2.1 (by decide) (by decide) ?_
      show Steps p.tables e below (T3.setTop (mkF m 44 #[.val (.ref ca), .val (.int (Int32.ofNat q)), .val (.ref b), .val (.int (Int32.ofNat q)), .val (.int (Int32.ofNat n)), .val (.int (Int32.ofNat q)), s6'] [])) _
      refine XS.iload X3.here hx rfl (hb hby d10_44) rfl ?_
      show Steps p.tables e below (T3.setTop (mkF m 46 #[.val (.ref ca), .val (.int (Int32.ofNat q)), .val (.ref b), .val (.int (Int32.ofNat q)), .val (.int (Int32.ofNat n)), .val (.int (Int32.ofNat q)), s6'] [(.int (Int32.ofNat n))])) _
      exact retI X3 hx Bd.returns (hb hby d10_46) hr
    · show Q10 Z ca b n f h0 n0 _ T3.heap _
      rw [e3]
      exact ⟨n, rfl, N3, K3, CAe, Or.inl ⟨rfl, fun j hj => hq2 j (by omega), own_A_congr B3 (fun j hj => by unfold own_pre; rw [if_pos (by omega)])⟩⟩
  · have hbig : (255 : Int32) < f q := hq3.resolve_left hqn
    have CA := CAe
    have hqn' : q < n := by omega
    have pre5 : ∀ t, Steps p.tables e below (T3.setTop (mkF m 12 #[.val (.ref ca), .val (.int (Int32.ofNat q)), .val (.ref b), .val (.int (Int32.ofNat q)), .val (.int (Int32.ofNat n)), .val (.int (Int32.ofNat q)), s6'] [(.int (Int32.ofNat q)), (.ref ca)])) t → Steps p.tables e below _ t := fun t kt => pre4 t (by
      show Steps p.tables e below (T3.setTop (mkF m 3 #[.val (.ref ca), .val (.int (Int32.ofNat q)), .val (.ref b), .val (.int (Int32.ofNat q)), .val (.int (Int32.ofNat n)), .val (.int (Int32.ofNat q)), s6'] [])) _
      refine XS.iload X3.here hx rfl (hb hby d10_3) rfl ?_
      show Steps p.tables e below (T3.setTop (mkF m 5 #[.val (.ref ca), .val (.int (Int32.ofNat q)), .val (.ref b), .val (.int (Int32.ofNat q)), .val (.int (Int32.ofNat n)), .val (.int (Int32.ofNat q)), s6'] [(.int (Int32.ofNat q))])) _
      refine XS.iload X3.here hx rfl (hb hby d10_5) rfl ?_
      have hc7 : (Int32.ofNat q) < (Int32.ofNat n) := own_lt hqn' (by omega)
      show Steps p.tables e below (T3.setTop (mkF m 7 #[.val (.ref ca), .val (.int (Int32.ofNat q)), .val (.ref b), .val (.int (Int32.ofNat q)), .val (.int (Int32.ofNat n)), .val (.int (Int32.ofNat q)), s6'] [(.int (Int32.ofNat n)), (.int (Int32.ofNat q))])) _
      refine XS.icmpNo X3.here hx rfl (hb hby d10_7) rfl (tlt hc7).2.1 ?_
      show Steps p.tables e below (T3.setTop (mkF m 10 #[.val (.ref ca), .val (.int (Int32.ofNat q)), .val (.ref b), .val (.int (Int32.ofNat q)), .val (.int (Int32.ofNat n)), .val (.int (Int32.ofNat q)), s6'] [])) _
      refine XS.aloadN X3.here hx rfl (hb hby d10_10) rfl rfl ?_
      show Steps p.tables e below (T3.setTop (mkF m 11 #[.val (.ref ca), .val (.int (Int32.ofNat q)), .val (.ref b), .val (.int (Int32.ofNat q)), .val (.int (Int32.ofNat n)), .val (.int (Int32.ofNat q)), s6'] [(.ref ca)])) _
      refine XS.iloadN X3.here hx rfl (hb hby d10_11) rfl ?_
      exact kt)
    obtain ⟨cc, Ac, Sc, Hc⟩ := id CA
    obtain ⟨fs, hr, hrun, hended, hW, hsame⟩ := X3.leave (v := some (.int (Int32.ofNat q))) (fun h => by rw [Bd.returns] at h; cases h)
    refine ⟨_, _, pre5 _ ?_, hrun, hended, _, _, rfl, ?_, ⟨_, rfl⟩, hW, hsame.mono (by decide) (by decide)⟩
    · show Steps p.tables e below (T3.setTop (mkF m 12 #[.val (.ref ca), .val (.int (Int32.ofNat q)), .val (.ref b), .val (.int (Int32.ofNat q)), .val (.int (Int32.ofNat n)), .val (.int (Int32.ofNat q)), s6'] [(.int (Int32.ofNat q)), (.ref ca)])) _
      refine X3.caload hx (j := (Int32.ofNat q)) (v := (.int (f q))) (by rw [e3]; exact Ac.1) (State.isArrayOf_alike hZ.alike Ac.2.1) Ac.2.2 (within (c := q) rfl (by omega) (by omega)) (by rw [clamp_of (c := q) rfl (by omega)]; exact Hc _ hqn') (g := (mkF m 12 #[.val (.ref ca), .val (.int (Int32.ofNat q)), .val (.ref b), .val (.int (Int32.ofNat q)), .val (.int (Int32.ofNat n)), .val (.int (Int32.ofNat q)), s6'] [(.int (Int32.ofNat q)), (.ref ca)])) rfl rfl (hb hby d10_12) _ ?_
      show Steps p.tables e below (T3.setTop (mkF m 13 #[.val (.ref ca), .val (.int (Int32.ofNat q)), .val (.ref b), .val (.int (Int32.ofNat q)), .val (.int (Int32.ofNat n)), .val (.int (Int32.ofNat q)), s6'] [(.int (f q))])) _
      refine XS.istore X3.here hx rfl (hb hby d10_13) rfl (l' := #[.val (.ref ca), .val (.int (Int32.ofNat q)), .val (.ref b), .val (.int (Int32.ofNat q)), .val (.int (Int32.ofNat n)), .val (.int (Int32.ofNat q)), .val (.int (f q))]) (own_os28 hs6) ?_
      show Steps p.tables e below (T3.setTop (mkF m 15 #[.val (.ref ca), .val (.int (Int32.ofNat q)), .val (.ref b), .val (.int (Int32.ofNat q)), .val (.int (Int32.ofNat n)), .val (.int (Int32.ofNat q)), .val (.int (f q))] [])) _
      refine XS.iload X3.here hx rfl (hb hby d10_15) rfl ?_
      show Steps p.tables e below (T3.setTop (mkF m 17 #[.val (.ref ca), .val (.int (Int32.ofNat q)), .val (.ref b), .val (.int (Int32.ofNat q)), .val (.int (Int32.ofNat n)), .val (.int (Int32.ofNat q)), .val (.int (f q))] [(.int (f q))])) _
      refine XS.sipush X3.here hx rfl (hb hby d10_17) ?_
      have hc20 : (255 : Int32) < (f q) := hbig
      show Steps p.tables e below (T3.setTop (mkF m 20 #[.val (.ref ca), .val (.int (Int32.ofNat q)), .val (.ref b), .val (.int (Int32.ofNat q)), .val (.int (Int32.ofNat n)), .val (.int (Int32.ofNat q)), .val (.int (f q))] [(.int (255 : Int32)), (.int (f q))])) _
      refine XS.icmpNo X3.here hx rfl (hb hby d10_20) rfl (tlt hc20).2.2.2 ?_
      show Steps p.tables e below (T3.setTop (mkF m 23 #[.val (.ref ca), .val (.int (Int32.ofNat q)), .val (.ref b), .val (.int (Int32.ofNat q)), .val (.int (Int32.ofNat n)), .val (.int (Int32.ofNat q)), .val (.int (f q))] [])) _
      refine XS.iload X3.here hx rfl (hb hby d10_23) rfl ?_
      show Steps p.tables e below (T3.setTop (mkF m 25 #[.val (.ref ca), .val (.int (Int32.ofNat q)), .val (.ref b), .val (.int (Int32.ofNat q)), .val (.int (Int32.ofNat n)), .val (.int (Int32.ofNat q)), .val (.int (f q))] [(.int (Int32.ofNat q))])) _
      exact retI X3 hx Bd.returns (hb hby d10_25) hr
    · show Q10 Z ca b n f h0 n0 _ T3.heap _
      rw [e3]
      exact ⟨q, rfl, N3, K3, CAe, Or.inr ⟨hqn', hbig⟩⟩
theorem pn_9 : plainName "java/lang/StringUTF16" = true := by first | (simp [plainName, overriddenIn]; done) | decide +kernel
theorem ef_9 (m : MethodId) (x0 : Addr) (x1 : Int32) (x2 : Int32) : entryFrame m #[(.ref x0), (.int x1), (.int x2)] 6 = mkF m 0 #[.val (.ref x0), .val (.int x1), .val (.int x2), .unset, .unset, .unset] [] := by first | (simp [entryFrame, mkF, argsToLocals, Value.category]; done) | rfl
theorem d9_0 : decode jdk_52_method_16_code 0 = .ok (.iload_n 2, 1) := by decide +kernel
theorem d9_1 : decode jdk_52_method_16_code 1 = .ok (.newarray .byte, 2) := by decide +kernel
theorem d9_3 : decode jdk_52_method_16_code 3 = .ok (.astore_n 3, 1) := by decide +kernel
theorem d9_4 : decode jdk_52_method_16_code 4 = .ok (.aload_n 0, 1) := by decide +kernel
theorem d9_5 : decode jdk_52_method_16_code 5 = .ok (.iload_n 1, 1) := by decide +kernel
theorem d9_6 : decode jdk_52_method_16_code 6 = .ok (.aload_n 3, 1) := by decide +kernel
theorem d9_7 : decode jdk_52_method_16_code 7 = .ok (.iconst 0, 1) := by decide +kernel
theorem d9_8 : decode jdk_52_method_16_code 8 = .ok (.iload_n 2, 1) := by decide +kernel
theorem pd_10 : parseMethodDescriptor "([CI[BII)I" = some ⟨[(.array .char), .int, (.array .byte), .int, .int], some .int⟩ := by decide +kernel
theorem d9_9 : decode jdk_52_method_16_code 9 = .ok (.invokestatic 115, 3) := by decide +kernel
theorem d9_12 : decode jdk_52_method_16_code 12 = .ok (.istore 4, 2) := by decide +kernel
theorem d9_14 : decode jdk_52_method_16_code 14 = .ok (.iload 4, 2) := by decide +kernel
theorem d9_16 : decode jdk_52_method_16_code 16 = .ok (.iload_n 2, 1) := by decide +kernel
theorem d9_17 : decode jdk_52_method_16_code 17 = .ok (.if_icmp .eq 40, 3) := by decide +kernel
theorem d9_57 : decode jdk_52_method_16_code 57 = .ok (.aload_n 3, 1) := by decide +kernel
theorem d9_58 : decode jdk_52_method_16_code 58 = .ok (.areturn, 1) := by decide +kernel
theorem d9_20 : decode jdk_52_method_16_code 20 = .ok (.aload_n 0, 1) := by decide +kernel
theorem d9_21 : decode jdk_52_method_16_code 21 = .ok (.iload_n 1, 1) := by decide +kernel
theorem d9_22 : decode jdk_52_method_16_code 22 = .ok (.iload_n 2, 1) := by decide +kernel
theorem pd_11 : parseMethodDescriptor "([CII)[B" = some ⟨[(.array .char), .int, .int], some (.array .byte)⟩ := by decide +kernel
theorem d9_23 : decode jdk_52_method_16_code 23 = .ok (.invokestatic 119, 3) := by decide +kernel
theorem d9_26 : decode jdk_52_method_16_code 26 = .ok (.astore 5, 2) := by decide +kernel
theorem d9_28 : decode jdk_52_method_16_code 28 = .ok (.aload 5, 2) := by decide +kernel
theorem d9_30 : decode jdk_52_method_16_code 30 = .ok (.iload 4, 2) := by decide +kernel
theorem d9_32 : decode jdk_52_method_16_code 32 = .ok (.invokestatic 71, 3) := by decide +kernel
theorem d9_35 : decode jdk_52_method_16_code 35 = .ok (.sipush 255, 3) := by decide +kernel
theorem d9_38 : decode jdk_52_method_16_code 38 = .ok (.if_icmp .gt 16, 3) := by decide +kernel
theorem d9_54 : decode jdk_52_method_16_code 54 = .ok (.aload 5, 2) := by decide +kernel
theorem d9_56 : decode jdk_52_method_16_code 56 = .ok (.areturn, 1) := by decide +kernel
def Q9 (Z : State) (n : Nat) (f : Nat → Int32) (h0 : Heap) (n0 : Nat) (v : Option Value) (h : Heap) (L : List Loc) : Prop := ∃ b, v = some (.ref b) ∧ Fr n0 L ∧ Keep h0 h [] ∧ h0.size ≤ b ∧ ((own_A Z h b .byte n (fun j => own_lt1 (f j)) ∧ ∀ j, j < n → ¬ ((255 : Int32) < f j)) ∨ own_A Z h b .byte (2 * n) (own_utf f))
set_option maxRecDepth 65536 in
set_option maxHeartbeats 40000000 in
theorem rm9 (l : Launch) (Z : State) (a0 : Array Value) (hw : ∀ d ∈ tables_1, d.before a0 Z = true) (ws : List Jvm.Cond) (ca : Addr) (n : Nat) (f : Nat → Int32) (h0 : Heap) (n0 : Nat) (Z0 : n0 ≤ h0.size) (CA : own_A Z h0 ca .char n f) (AD : Sta Z h0 "java/lang/StringUTF16" "$assertionsDisabled" "Z" (.int (1 : Int32))) (HB : Sta Z h0 "java/lang/StringUTF16" "HI_BYTE_SHIFT" "I" (.int (0 : Int32))) (LB : Sta Z h0 "java/lang/StringUTF16" "LO_BYTE_SHIFT" "I" (.int (8 : Int32))) (hn : n ≤ 4) (hf : ∀ j, j < n → 0 ≤ (f j).toInt ∧ (f j).toInt < 65536) :
    MetFree l (⟨"java/lang/StringUTF16", "compress", "([CII)[B"⟩ : MethodName) (head1 (Jvm.Cond.code (⟨"java/lang/StringUTF16", "compress", "([CII)[B"⟩ : MethodName) jdk_52_method_16_code 6 (some (.array .byte)) :: ws) ({ frames := 3, cells := 2, slots := 12, locals := 40 } : Room)) (fun aa_ U => aa_ = #[(.ref ca), (.int (0 : Int32)), (.int (Int32.ofNat n))] ∧ Z.Warmed39 U.vm ∧ U.heap = h0) (fun _ _ _ _ _ => True) (fun _ U o U' => ∃ v_ L_, o = .returned v_ ∧ Q9 Z n f h0 n0 v_ U'.heap L_ ∧ FrameEnd U o U' L_ ({ frames := 3, cells := 2, slots := 12, locals := 40 } : Room).cells ({ frames := 3, cells := 2, slots := 12, locals := 40 } : Room).slots) := by
  refine MetFree.of_bodySF (plainFor_of_name pn_9) hisR ?_
  intro p e s m args below meth c s₁ Bd hml0 hP hK
  obtain ⟨rfl, hZ, hh⟩ := hP
  have hx := Bd.exec
  have hby := Bd.bytes
  have hml : c.maxLocals = 6 := hml0
  have hown : s.vm.findClass "java/lang/StringUTF16" = some m.cls := findClass_of_methodNamed Bd.named
  have hnm := (name_of_methodNamed Bd.named Bd.method).1
  have X0 : Stand p l e ({ frames := 3, cells := 2, slots := 12, locals := 40 } : Room) s m #[(.ref ca), (.int (0 : Int32)), (.int (Int32.ofNat n))] below meth c s₁ [] 0 0 := Stand.of_body Bd
  have e0 : s₁.heap = h0 := by rw [← hh, Bd.state]; rfl
  have N0 := Fr.nil n0
  have pre0 : ∀ t, Steps p.tables e below (s₁.setTop (mkF m 0 #[.val (.ref ca), .val (.int (0 : Int32)), .val (.int (Int32.ofNat n)), .unset, .unset, .unset] [])) t → Steps p.tables e below (s₁.setTop (entryFrame m #[(.ref ca), (.int (0 : Int32)), (.int (Int32.ofNat n))] 6)) t := fun t k_ => castTop (ef_9 m ca (0 : Int32) (Int32.ofNat n)) k_
  have pre1 : ∀ t, Steps p.tables e below (s₁.setTop (mkF m 1 #[.val (.ref ca), .val (.int (0 : Int32)), .val (.int (Int32.ofNat n)), .unset, .unset, .unset] [(.int (Int32.ofNat n))])) t → Steps p.tables e below _ t := fun t kt => pre0 t (by
    show Steps p.tables e below (s₁.setTop (mkF m 0 #[.val (.ref ca), .val (.int (0 : Int32)), .val (.int (Int32.ofNat n)), .unset, .unset, .unset] [])) _
    refine XS.iloadN X0.here hx rfl (hb hby d9_0) rfl ?_
    exact kt)
  obtain ⟨T2, h2, k2, X2, e2, E2, A2, st2⟩ := newP X0 hx hZ (hw _ (List.mem_of_getElem? (i := 19) rfl)) e0 (g := (mkF m 1 #[.val (.ref ca), .val (.int (0 : Int32)), .val (.int (Int32.ofNat n)), .unset, .unset, .unset] [(.int (Int32.ofNat n))])) rfl (hb hby d9_1) rfl (own_nneg (by omega)) (cap := 4) (by rw [clamp_of (c := n) rfl (by omega)]; omega) (by decide) (by decide) (by decide)
  obtain ⟨b2, gb2⟩ : ∃ z, z = h0.size := ⟨_, rfl⟩
  rw [← gb2] at A2 st2
  have g_b2 : n0 ≤ b2 := Nat.le_trans Z0 (Nat.le_of_eq gb2.symm)
  have Zs2 : n0 ≤ h2.size := Nat.le_trans Z0 E2.1
  have sz_b2 : h0.size ≤ b2 := Nat.le_trans (Keep.refl h0 []).1 (Nat.le_of_eq gb2.symm)
  have Kp2 : Keep h0 h2 [] := (Keep.refl h0 []).ext E2
  have B0 : own_A Z h2 b2 .byte n (fun _ => 0) := own_A_new A2 rfl (clamp_of (c := n) rfl (by omega))
  have CA1 := own_A_ext CA E2
  have nb : ca ≠ b2 := by have q := own_A_lt CA; rw [gb2]; exact Nat.ne_of_lt q
  have pre3 : ∀ t, Steps p.tables e below (T2.setTop (mkF m 9 #[.val (.ref ca), .val (.int (0 : Int32)), .val (.int (Int32.ofNat n)), .val (.ref b2), .unset, .unset] [(.int (Int32.ofNat n)), (.int (0 : Int32)), (.ref b2), (.int (0 : Int32)), (.ref ca)])) t → Steps p.tables e below _ t := fun t kt => pre1 t (by
    show Steps p.tables e below (s₁.setTop (mkF m 1 #[.val (.ref ca), .val (.int (0 : Int32)), .val (.int (Int32.ofNat n)), .unset, .unset, .unset] [(.int (Int32.ofNat n))])) _
    refine st2 _ ?_
    show Steps p.tables e below (T2.setTop (mkF m 3 #[.val (.ref ca), .val (.int (0 : Int32)), .val (.int (Int32.ofNat n)), .unset, .unset, .unset] [(.ref b2)])) _
    refine XS.astoreN X2.here hx rfl (hb hby d9_3) rfl rfl (l' := #[.val (.ref ca), .val (.int (0 : Int32)), .val (.int (Int32.ofNat n)), .val (.ref b2), .unset, .unset]) rfl ?_
    show Steps p.tables e below (T2.setTop (mkF m 4 #[.val (.ref ca), .val (.int (0 : Int32)), .val (.int (Int32.ofNat n)), .val (.ref b2), .unset, .unset] [])) _
    refine XS.aloadN X2.here hx rfl (hb hby d9_4) rfl rfl ?_
    show Steps p.tables e below (T2.setTop (mkF m 5 #[.val (.ref ca), .val (.int (0 : Int32)), .val (.int (Int32.ofNat n)), .val (.ref b2), .unset, .unset] [(.ref ca)])) _
    refine XS.iloadN X2.here hx rfl (hb hby d9_5) rfl ?_
    show Steps p.tables e below (T2.setTop (mkF m 6 #[.val (.ref ca), .val (.int (0 : Int32)), .val (.int (Int32.ofNat n)), .val (.ref b2), .unset, .unset] [(.int (0 : Int32)), (.ref ca)])) _
    refine XS.aloadN X2.here hx rfl (hb hby d9_6) rfl rfl ?_
    show Steps p.tables e below (T2.setTop (mkF m 7 #[.val (.ref ca), .val (.int (0 : Int32)), .val (.int (Int32.ofNat n)), .val (.ref b2), .unset, .unset] [(.ref b2), (.int (0 : Int32)), (.ref ca)])) _
    refine XS.iconst X2.here hx rfl (hb hby d9_7) ?_
    show Steps p.tables e below (T2.setTop (mkF m 8 #[.val (.ref ca), .val (.int (0 : Int32)), .val (.int (Int32.ofNat n)), .val (.ref b2), .unset, .unset] [(.int (0 : Int32)), (.ref b2), (.int (0 : Int32)), (.ref ca)])) _
    refine XS.iloadN X2.here hx rfl (hb hby d9_8) rfl ?_
    exact kt)
  obtain ⟨_, _, ⟨T4, L4, k4, n4⟩, -, X4, ⟨Lc4, hQ4, l4, y4, z4⟩, st4⟩ := Jvm.LawKit.callS X2 hx (y := (⟨"java/lang/StringUTF16", "compress", "([CI[BII)I"⟩ : MethodName)) hown (mvT hZ (hw _ (List.mem_of_getElem? (i := 50) rfl))) (mvT hZ (hw _ (List.mem_of_getElem? (i := 51) rfl))) (mvT hZ (hw _ (List.mem_of_getElem? (i := 48) rfl))) (mvT hZ (hw _ (List.mem_of_getElem? (i := 52) rfl))) (by decide) (backOf (W := 0) (rm10 l Z a0 hw [] ca b2 n f h2 n0 Zs2 CA1 B0 hn g_b2 nb) hZ (hw _ (List.mem_of_getElem? (i := 52) rfl)) (hw _ (List.mem_of_getElem? (i := 48) rfl)) (by decide) (by decide)) (g := (mkF m 9 #[.val (.ref ca), .val (.int (0 : Int32)), .val (.int (Int32.ofNat n)), .val (.ref b2), .unset, .unset] [(.int (Int32.ofNat n)), (.int (0 : Int32)), (.ref b2), (.int (0 : Int32)), (.ref ca)])) rfl (by rw [hml]; rfl) (argsL := [(.ref ca), (.int (0 : Int32)), (.ref b2), (.int (0 : Int32)), (.int (Int32.ofNat n))]) (rest := []) (lenOf pd_10 rfl) rfl (by show 2 * 0 + _ ≤ _; exact Nat.le_of_eq rfl) (hb hby d9_9) (fun _ _ => ⟨rfl, e2, (by decide : 1 + 0 ≤ _), (by decide : 4 + 0 ≤ _)⟩)
  dsimp only [Pt.U, Pt.locs, Pt.cells, Pt.slots] at X4 l4 y4 z4 st4 hQ4
  subst l4 y4 z4
  obtain ⟨q, rfl, N4q, Kc, CAc, Rc⟩ := hQ4
  have N4 := Fr.app N0 N4q
  have Kd : Keep h0 T4.heap [] := Kp2.trans Kc (allS (Or.inr sz_b2) all0)
  have Zd : n0 ≤ T4.heap.size := Nat.le_trans Z0 Kd.1
  rcases Rc with ⟨hqe, hall, Bl⟩ | ⟨hqn, hbig⟩
  · obtain ⟨fs, hr, hrun, hended, hW, hsame⟩ := X4.leave (v := some (.ref b2)) (fun h => by rw [Bd.returns] at h; cases h)
    refine ⟨_, _, pre3 _ ?_, hrun, hended, _, _, rfl, ?_, ⟨_, rfl⟩, hW, hsame.mono (by decide) (by decide)⟩
    · show Steps p.tables e below (T2.setTop (mkF m 9 #[.val (.ref ca), .val (.int (0 : Int32)), .val (.int (Int32.ofNat n)), .val (.ref b2), .unset, .unset] [(.int (Int32.ofNat n)), (.int (0 : Int32)), (.ref b2), (.int (0 : Int32)), (.ref ca)])) _
      refine st4 _ ?_
      show Steps p.tables e below (T4.setTop (mkF m 12 #[.val (.ref ca), .val (.int (0 : Int32)), .val (.int (Int32.ofNat n)), .val (.ref b2), .unset, .unset] [(.int (Int32.ofNat q))])) _
      refine XS.istore X4.here hx rfl (hb hby d9_12) rfl (l' := #[.val (.ref ca), .val (.int (0 : Int32)), .val (.int (Int32.ofNat n)), .val (.ref b2), .val (.int (Int32.ofNat q)), .unset]) rfl ?_
      show Steps p.tables e below (T4.setTop (mkF m 14 #[.val (.ref ca), .val (.int (0 : Int32)), .val (.int (Int32.ofNat n)), .val (.ref b2), .val (.int (Int32.ofNat q)), .unset] [])) _
      refine XS.iload X4.here hx rfl (hb hby d9_14) rfl ?_
      show Steps p.tables e below (T4.setTop (mkF m 16 #[.val (.ref ca), .val (.int (0 : Int32)), .val (.int (Int32.ofNat n)), .val (.ref b2), .val (.int (Int32.ofNat q)), .unset] [(.int (Int32.ofNat q))])) _
      refine XS.iloadN X4.here hx rfl (hb hby d9_16) rfl ?_
      have hc17 : (Int32.ofNat q) = (Int32.ofNat n) := by rw [hqe]
      show Steps p.tables e below (T4.setTop (mkF m 17 #[.val (.ref ca), .val (.int (0 : Int32)), .val (.int (Int32.ofNat n)), .val (.ref b2), .val (.int (Int32.ofNat q)), .unset] [(.int (Int32.ofNat n)), (.int (Int32.ofNat q))])) _
      refine XS.icmpYes X4.here hx rfl (pc0 := 17) (pc' := 57) rfl (hb hby d9_17) rfl (teq hc17).1 (by decide) (by decide) ?_
      show Steps p.tables e below (T4.setTop (mkF m 57 #[.val (.ref ca), .val (.int (0 : Int32)), .val (.int (Int32.ofNat n)), .val (.ref b2), .val (.int (Int32.ofNat q)), .unset] [])) _
      refine XS.aloadN X4.here hx rfl (hb hby d9_57) rfl rfl ?_
      show Steps p.tables e below (T4.setTop (mkF m 58 #[.val (.ref ca), .val (.int (0 : Int32)), .val (.int (Int32.ofNat n)), .val (.ref b2), .val (.int (Int32.ofNat q)), .unset] [(.ref b2)])) _
      jvm_step X4.here [X4.here.top, hx, (hb hby d9_58), X4.method', Bd.returns, Value.isRef, FieldType.isReference]
      first | (intro acts; rw [hr _ acts rfl rfl rfl]) | rw [hr _ _ rfl rfl rfl]
      exact Steps.refl _
    · exact ⟨b2, rfl, N4, Kd, sz_b2, Or.inl ⟨Bl, hall⟩⟩
  · have pre5 : ∀ t, Steps p.tables e below (T4.setTop (mkF m 23 #[.val (.ref ca), .val (.int (0 : Int32)), .val (.int (Int32.ofNat n)), .val (.ref b2), .val (.int (Int32.ofNat q)), .unset] [(.int (Int32.ofNat n)), (.int (0 : Int32)), (.ref ca)])) t → Steps p.tables e below _ t := fun t kt => pre3 t (by
      show Steps p.tables e below (T2.setTop (mkF m 9 #[.val (.ref ca), .val (.int (0 : Int32)), .val (.int (Int32.ofNat n)), .val (.ref b2), .unset, .unset] [(.int (Int32.ofNat n)), (.int (0 : Int32)), (.ref b2), (.int (0 : Int32)), (.ref ca)])) _
      refine st4 _ ?_
      show Steps p.tables e below (T4.setTop (mkF m 12 #[.val (.ref ca), .val (.int (0 : Int32)), .val (.int (Int32.ofNat n)), .val (.ref b2), .unset, .unset] [(.int (Int32.ofNat q))])) _
      refine XS.istore X4.here hx rfl (hb hby d9_12) rfl (l' := #[.val (.ref ca), .val (.int (0 : Int32)), .val (.int (Int32.ofNat n)), .val (.ref b2), .val (.int (Int32.ofNat q)), .unset]) rfl ?_
      show Steps p.tables e below (T4.setTop (mkF m 14 #[.val (.ref ca), .val (.int (0 : Int32)), .val (.int (Int32.ofNat n)), .val (.ref b2), .val (.int (Int32.ofNat q)), .unset] [])) _
      refine XS.iload X4.here hx rfl (hb hby d9_14) rfl ?_
      show Steps p.tables e below (T4.setTop (mkF m 16 #[.val (.ref ca), .val (.int (0 : Int32)), .val (.int (Int32.ofNat n)), .val (.ref b2), .val (.int (Int32.ofNat q)), .unset] [(.int (Int32.ofNat q))])) _
      refine XS.iloadN X4.here hx rfl (hb hby d9_16) rfl ?_
      have hc17 : ¬ ((Int32.ofNat q) = (Int32.ofNat n)) := own_ne (Nat.ne_of_lt hqn) (by omega) (by omega)
      show Steps p.tables e below (T4.setTop (mkF m 17 #[.val (.ref ca), .val (.int (0 : Int32)), .val (.int (Int32.ofNat n)), .val (.ref b2), .val (.int (Int32.ofNat q)), .unset] [(.int (Int32.ofNat n)), (.int (Int32.ofNat q))])) _
      refine XS.icmpNo X4.here hx rfl (hb hby d9_17) rfl (feq hc17).1 ?_
      show Steps p.tables e below (T4.setTop (mkF m 20 #[.val (.ref ca), .val (.int (0 : Int32)), .val (.int (Int32.ofNat n)), .val (.ref b2), .val (.int (Int32.ofNat q)), .unset] [])) _
      refine XS.aloadN X4.here hx rfl (hb hby d9_20) rfl rfl ?_
      show Steps p.tables e below (T4.setTop (mkF m 21 #[.val (.ref ca), .val (.int (0 : Int32)), .val (.int (Int32.ofNat n)), .val (.ref b2), .val (.int (Int32.ofNat q)), .unset] [(.ref ca)])) _
      refine XS.iloadN X4.here hx rfl (hb hby d9_21) rfl ?_
      show Steps p.tables e below (T4.setTop (mkF m 22 #[.val (.ref ca), .val (.int (0 : Int32)), .val (.int (Int32.ofNat n)), .val (.ref b2), .val (.int (Int32.ofNat q)), .unset] [(.int (0 : Int32)), (.ref ca)])) _
      refine XS.iloadN X4.here hx rfl (hb hby d9_22) rfl ?_
      exact kt)
    obtain ⟨_, _, ⟨T6, L6, k6, n6⟩, -, X6, ⟨Lc6, hQ6, l6, y6, z6⟩, st6⟩ := Jvm.LawKit.callS X4 hx (y := (⟨"java/lang/StringUTF16", "toBytes", "([CII)[B"⟩ : MethodName)) hown (mvT hZ (hw _ (List.mem_of_getElem? (i := 84) rfl))) (mvT hZ (hw _ (List.mem_of_getElem? (i := 85) rfl))) (mvT hZ (hw _ (List.mem_of_getElem? (i := 48) rfl))) (mvT hZ (hw _ (List.mem_of_getElem? (i := 86) rfl))) (by decide) (backOf (W := 0) (rm18 l Z a0 hw [] ca n f T4.heap n0 Zd CAc (own_Sta_keep AD Kd) (own_Sta_keep HB Kd) (own_Sta_keep LB Kd) hn) hZ (hw _ (List.mem_of_getElem? (i := 86) rfl)) (hw _ (List.mem_of_getElem? (i := 48) rfl)) (by decide) (by decide)) (g := (mkF m 23 #[.val (.ref ca), .val (.int (0 : Int32)), .val (.int (Int32.ofNat n)), .val (.ref b2), .val (.int (Int32.ofNat q)), .unset] [(.int (Int32.ofNat n)), (.int (0 : Int32)), (.ref ca)])) rfl (by rw [hml]; rfl) (argsL := [(.ref ca), (.int (0 : Int32)), (.int (Int32.ofNat n))]) (rest := []) (lenOf pd_11 rfl) rfl (by show 2 * 0 + _ ≤ _; exact Nat.le_of_eq rfl) (hb hby d9_23) (fun _ _ => ⟨rfl, rfl, (by decide : 1 + 1 ≤ _), (by decide : 4 + 8 ≤ _)⟩)
    dsimp only [Pt.U, Pt.locs, Pt.cells, Pt.slots] at X6 l6 y6 z6 st6 hQ6
    subst l6 y6 z6
    obtain ⟨bu, rfl, N6q, Ku, szu, Bu⟩ := hQ6
    have N6 := Fr.app N4 N6q
    have Ke : Keep h0 T6.heap [] := Kd.trans Ku all0
    have Ze : n0 ≤ T6.heap.size := Nat.le_trans Z0 Ke.1
    have pre7 : ∀ t, Steps p.tables e below (T6.setTop (mkF m 32 #[.val (.ref ca), .val (.int (0 : Int32)), .val (.int (Int32.ofNat n)), .val (.ref b2), .val (.int (Int32.ofNat q)), .val (.ref bu)] [(.int (Int32.ofNat q)), (.ref bu)])) t → Steps p.tables e below _ t := fun t kt => pre5 t (by
      show Steps p.tables e below (T4.setTop (mkF m 23 #[.val (.ref ca), .val (.int (0 : Int32)), .val (.int (Int32.ofNat n)), .val (.ref b2), .val (.int (Int32.ofNat q)), .unset] [(.int (Int32.ofNat n)), (.int (0 : Int32)), (.ref ca)])) _
      refine st6 _ ?_
      show Steps p.tables e below (T6.setTop (mkF m 26 #[.val (.ref ca), .val (.int (0 : Int32)), .val (.int (Int32.ofNat n)), .val (.ref b2), .val (.int (Int32.ofNat q)), .unset] [(.ref bu)])) _
      refine XS.astore X6.here hx rfl (hb hby d9_26) rfl rfl (l' := #[.val (.ref ca), .val (.int (0 : Int32)), .val (.int (Int32.ofNat n)), .val (.ref b2), .val (.int (Int32.ofNat q)), .val (.ref bu)]) rfl ?_
      show Steps p.tables e below (T6.setTop (mkF m 28 #[.val (.ref ca), .val (.int (0 : Int32)), .val (.int (Int32.ofNat n)), .val (.ref b2), .val (.int (Int32.ofNat q)), .val (.ref bu)] [])) _
      refine XS.aload X6.here hx rfl (hb hby d9_28) rfl rfl ?_
      show Steps p.tables e below (T6.setTop (mkF m 30 #[.val (.ref ca), .val (.int (0 : Int32)), .val (.int (Int32.ofNat n)), .val (.ref b2), .val (.int (Int32.ofNat q)), .val (.ref bu)] [(.ref bu)])) _
      refine XS.iload X6.here hx rfl (hb hby d9_30) rfl ?_
      exact kt)
    obtain ⟨cu, Au, Su, Hu⟩ := id Bu
    obtain ⟨_, _, ⟨T8, L8, k8, n8⟩, -, X8, ⟨Lc8, hQ8, l8, y8, z8⟩, st8⟩ := Jvm.LawKit.callS X6 hx (y := (⟨"java/lang/StringUTF16", "getChar", "([BI)C"⟩ : MethodName)) hown (mvT hZ (hw _ (List.mem_of_getElem? (i := 100) rfl))) (mvT hZ (hw _ (List.mem_of_getElem? (i := 101) rfl))) (mvT hZ (hw _ (List.mem_of_getElem? (i := 48) rfl))) (mvT hZ (hw _ (List.mem_of_getElem? (i := 102) rfl))) (by decide) (backOf (W := 0) (rm22 l Z a0 hw [] bu q n cu (own_utf f) T6.heap n0 Ze (own_Sta_keep AD Ke) (own_Sta_keep HB Ke) (own_Sta_keep LB Ke) Au Su hn Hu hqn) hZ (hw _ (List.mem_of_getElem? (i := 102) rfl)) (hw _ (List.mem_of_getElem? (i := 48) rfl)) (by decide) (by decide)) (g := (mkF m 32 #[.val (.ref ca), .val (.int (0 : Int32)), .val (.int (Int32.ofNat n)), .val (.ref b2), .val (.int (Int32.ofNat q)), .val (.ref bu)] [(.int (Int32.ofNat q)), (.ref bu)])) rfl (by rw [hml]; rfl) (argsL := [(.ref bu), (.int (Int32.ofNat q))]) (rest := []) (lenOf pd_4 rfl) rfl (by show 2 * 0 + _ ≤ _; exact Nat.le_of_eq rfl) (hb hby d9_32) (fun _ _ => ⟨rfl, rfl, (by decide : 2 + 0 ≤ _), (by decide : 12 + 0 ≤ _)⟩)
    dsimp only [Pt.U, Pt.locs, Pt.cells, Pt.slots] at X8 l8 y8 z8 st8 hQ8
    subst l8 y8 z8
    obtain ⟨rfl, N8q, e8⟩ := hQ8
    have N8 := Fr.app N6 N8q
    have pre9 : ∀ t, Steps p.tables e below (T8.setTop (mkF m 35 #[.val (.ref ca), .val (.int (0 : Int32)), .val (.int (Int32.ofNat n)), .val (.ref b2), .val (.int (Int32.ofNat q)), .val (.ref bu)] [(.int (own_gc (own_utf f (2 * q)) (own_utf f (2 * q + 1))))])) t → Steps p.tables e below _ t := fun t kt => pre7 t (by
      show Steps p.tables e below (T6.setTop (mkF m 32 #[.val (.ref ca), .val (.int (0 : Int32)), .val (.int (Int32.ofNat n)), .val (.ref b2), .val (.int (Int32.ofNat q)), .val (.ref bu)] [(.int (Int32.ofNat q)), (.ref bu)])) _
      refine st8 _ ?_
      exact kt)
    have hv10 : (own_gc (own_utf f (2 * q)) (own_utf f (2 * q + 1))) = (f q) := by rw [own_utf0, own_utf1, own_gc_eq (hf q hqn).1 (hf q hqn).2]
    rw [hv10] at pre9
    obtain ⟨fs, hr, hrun, hended, hW, hsame⟩ := X8.leave (v := some (.ref bu)) (fun h => by rw [Bd.returns] at h; cases h)
    refine ⟨_, _, pre9 _ ?_, hrun, hended, _, _, rfl, ?_, ⟨_, rfl⟩, hW, hsame.mono (by decide) (by decide)⟩
    · show Steps p.tables e below (T8.setTop (mkF m 35 #[.val (.ref ca), .val (.int (0 : Int32)), .val (.int (Int32.ofNat n)), .val (.ref b2), .val (.int (Int32.ofNat q)), .val (.ref bu)] [(.int (f q))])) _
      refine XS.sipush X8.here hx rfl (hb hby d9_35) ?_
      have hc38 : (255 : Int32) < (f q) := hbig
      show Steps p.tables e below (T8.setTop (mkF m 38 #[.val (.ref ca), .val (.int (0 : Int32)), .val (.int (Int32.ofNat n)), .val (.ref b2), .val (.int (Int32.ofNat q)), .val (.ref bu)] [(.int (255 : Int32)), (.int (f q))])) _
      refine XS.icmpYes X8.here hx rfl (pc0 := 38) (pc' := 54) rfl (hb hby d9_38) rfl (tlt hc38).2.2.1 (by decide) (by decide) ?_
      show Steps p.tables e below (T8.setTop (mkF m 54 #[.val (.ref ca), .val (.int (0 : Int32)), .val (.int (Int32.ofNat n)), .val (.ref b2), .val (.int (Int32.ofNat q)), .val (.ref bu)] [])) _
      refine XS.aload X8.here hx rfl (hb hby d9_54) rfl rfl ?_
      show Steps p.tables e below (T8.setTop (mkF m 56 #[.val (.ref ca), .val (.int (0 : Int32)), .val (.int (Int32.ofNat n)), .val (.ref b2), .val (.int (Int32.ofNat q)), .val (.ref bu)] [(.ref bu)])) _
      jvm_step X8.here [X8.here.top, hx, (hb hby d9_56), X8.method', Bd.returns, Value.isRef, FieldType.isReference]
      first | (intro acts; rw [hr _ acts rfl rfl rfl]) | rw [hr _ _ rfl rfl rfl]
      exact Steps.refl _
    · show Q9 Z n f h0 n0 _ T8.heap _
      rw [e8]
      exact ⟨bu, rfl, N8, Ke, Nat.le_trans Kd.1 szu, Or.inr Bu⟩
theorem own_neg31 : ∀ n, n < 5 → 0 < n → ((((Int32.ofNat n) - (Int32.ofNat (2 * n))).toUInt32 >>> ((31 : Int32) &&& 31).toUInt32).toInt32) = (1 : Int32) := by decide
theorem pn_11 : plainName "java/lang/StringUTF16" = true := by first | (simp [plainName, overriddenIn]; done) | decide +kernel
theorem ef_11L (m : MethodId) (x0 : Addr) (x1 : Int32) : entryFrame m #[(.ref x0), (.int x1)] 2 = mkF m 0 #[.val (.ref x0), .val (.int x1)] [] := by first | (simp [entryFrame, mkF, argsToLocals, Value.category]; done) | rfl
theorem d11_0 : decode jdk_52_method_15_code 0 = .ok (.iload_n 1, 1) := by decide +kernel
theorem d11_1 : decode jdk_52_method_15_code 1 = .ok (.aload_n 0, 1) := by decide +kernel
theorem d11_2 : decode jdk_52_method_15_code 2 = .ok (.arraylength, 1) := by decide +kernel
theorem d11_3 : decode jdk_52_method_15_code 3 = .ok (.isub, 1) := by decide +kernel
theorem d11_4 : decode jdk_52_method_15_code 4 = .ok (.bipush 31, 2) := by decide +kernel
theorem d11_6 : decode jdk_52_method_15_code 6 = .ok (.iushr, 1) := by decide +kernel
theorem d11_7 : decode jdk_52_method_15_code 7 = .ok (.i2b, 1) := by decide +kernel
theorem d11_8 : decode jdk_52_method_15_code 8 = .ok (.ireturn, 1) := by decide +kernel
def Q11 (Z : State) (r : Int32) (h0 : Heap) (n0 : Nat) (v : Option Value) (h : Heap) (L : List Loc) : Prop := v = some (.int r) ∧ Fr n0 L ∧ h = h0
set_option maxRecDepth 65536 in
set_option maxHeartbeats 40000000 in
theorem rm11L (l : Launch) (Z : State) (a0 : Array Value) (hw : ∀ d ∈ tables_1, d.before a0 Z = true) (ws : List Jvm.Cond) (b : Addr) (n : Nat) (cl : Cell) (h0 : Heap) (n0 : Nat) (Z0 : n0 ≤ h0.size) (Ar : Arr Z h0 b cl .byte) (Sz : cl.slots.size = n) (hn : n ≤ 4) (hp : 0 < n) :
    MetFree l (⟨"java/lang/StringUTF16", "coderFromArrayLen", "([BI)B"⟩ : MethodName) (head1 (Jvm.Cond.code (⟨"java/lang/StringUTF16", "coderFromArrayLen", "([BI)B"⟩ : MethodName) jdk_52_method_15_code 2 (some .byte) :: ws) ({ frames := 0, cells := 0, slots := 0, locals := 0 } : Room)) (fun aa_ U => aa_ = #[(.ref b), (.int (Int32.ofNat n))] ∧ Z.Warmed39 U.vm ∧ U.heap = h0) (fun _ _ _ _ _ => True) (fun _ U o U' => ∃ v_ L_, o = .returned v_ ∧ Q11 Z (0 : Int32) h0 n0 v_ U'.heap L_ ∧ FrameEnd U o U' L_ ({ frames := 0, cells := 0, slots := 0, locals := 0 } : Room).cells ({ frames := 0, cells := 0, slots := 0, locals := 0 } : Room).slots) := by
  refine MetFree.of_bodySF (plainFor_of_name pn_11) hisR ?_
  intro p e s m args below meth c s₁ Bd hml0 hP hK
  obtain ⟨rfl, hZ, hh⟩ := hP
  have hx := Bd.exec
  have hby := Bd.bytes
  have hml : c.maxLocals = 2 := hml0
  have hown : s.vm.findClass "java/lang/StringUTF16" = some m.cls := findClass_of_methodNamed Bd.named
  have hnm := (name_of_methodNamed Bd.named Bd.method).1
  have X0 : Stand p l e ({ frames := 0, cells := 0, slots := 0, locals := 0 } : Room) s m #[(.ref b), (.int (Int32.ofNat n))] below meth c s₁ [] 0 0 := Stand.of_body Bd
  have e0 : s₁.heap = h0 := by rw [← hh, Bd.state]; rfl
  have N0 := Fr.nil n0
  have pre0 : ∀ t, Steps p.tables e below (s₁.setTop (mkF m 0 #[.val (.ref b), .val (.int (Int32.ofNat n))] [])) t → Steps p.tables e below (s₁.setTop (entryFrame m #[(.ref b), (.int (Int32.ofNat n))] 2)) t := fun t k_ => castTop (ef_11L m b (Int32.ofNat n)) k_
  have pre1 : ∀ t, Steps p.tables e below (s₁.setTop (mkF m 4 #[.val (.ref b), .val (.int (Int32.ofNat n))] [(.int ((Int32.ofNat n) - (Int32.ofNat n)))])) t → Steps p.tables e below _ t := fun t kt => pre0 t (by
    show Steps p.tables e below (s₁.setTop (mkF m 0 #[.val (.ref b), .val (.int (Int32.ofNat n))] [])) _
    refine XS.iloadN X0.here hx rfl (hb hby d11_0) rfl ?_
    show Steps p.tables e below (s₁.setTop (mkF m 1 #[.val (.ref b), .val (.int (Int32.ofNat n))] [(.int (Int32.ofNat n))])) _
    refine XS.aloadN X0.here hx rfl (hb hby d11_1) rfl rfl ?_
    show Steps p.tables e below (s₁.setTop (mkF m 2 #[.val (.ref b), .val (.int (Int32.ofNat n))] [(.ref b), (.int (Int32.ofNat n))])) _
    refine X0.arraylength hx (by rw [e0]; exact Ar.1) (State.isArrayOf_alike hZ.alike Ar.2.1) (g := (mkF m 2 #[.val (.ref b), .val (.int (Int32.ofNat n))] [(.ref b), (.int (Int32.ofNat n))])) rfl rfl (hb hby d11_2) _ ?_
    rw [len_of (by rw [Sz, clamp_of (c := n) rfl (by omega)] : cl.slots.size = (Int32.ofNat n).toNatClampNeg) (own_nneg (by omega))]
    show Steps p.tables e below (s₁.setTop (mkF m 3 #[.val (.ref b), .val (.int (Int32.ofNat n))] [(.int (Int32.ofNat n)), (.int (Int32.ofNat n))])) _
    refine XS.isub X0.here hx rfl (hb hby d11_3) rfl ?_
    exact kt)
  have hv2 : ((Int32.ofNat n) - (Int32.ofNat n)) = (0 : Int32) := Int32.sub_self _
  rw [hv2] at pre1
  have pre3 : ∀ t, Steps p.tables e below (s₁.setTop (mkF m 7 #[.val (.ref b), .val (.int (Int32.ofNat n))] [(.int (((0 : Int32).toUInt32 >>> ((31 : Int32) &&& 31).toUInt32).toInt32))])) t → Steps p.tables e below _ t := fun t kt => pre1 t (by
    show Steps p.tables e below (s₁.setTop (mkF m 4 #[.val (.ref b), .val (.int (Int32.ofNat n))] [(.int (0 : Int32))])) _
    refine XS.bipush X0.here hx rfl (hb hby d11_4) ?_
    show Steps p.tables e below (s₁.setTop (mkF m 6 #[.val (.ref b), .val (.int (Int32.ofNat n))] [(.int (31 : Int32)), (.int (0 : Int32))])) _
    refine XS.iushr X0.here hx rfl (hb hby d11_6) rfl ?_
    exact kt)
  have hv4 : (((0 : Int32).toUInt32 >>> ((31 : Int32) &&& 31).toUInt32).toInt32) = (0 : Int32) := by decide
  rw [hv4] at pre3
  have pre5 : ∀ t, Steps p.tables e below (s₁.setTop (mkF m 8 #[.val (.ref b), .val (.int (Int32.ofNat n))] [(.int ((0 : Int32).toInt8.toInt32))])) t → Steps p.tables e below _ t := fun t kt => pre3 t (by
    show Steps p.tables e below (s₁.setTop (mkF m 7 #[.val (.ref b), .val (.int (Int32.ofNat n))] [(.int (0 : Int32))])) _
    refine XS.i2b X0.here hx rfl (hb hby d11_7) rfl ?_
    exact kt)
  have hv6 : ((0 : Int32).toInt8.toInt32) = (0 : Int32) := by decide
  rw [hv6] at pre5
  obtain ⟨fs, hr, hrun, hended, hW, hsame⟩ := X0.leave (v := some (.int (0 : Int32))) (fun h => by rw [Bd.returns] at h; cases h)
  refine ⟨_, _, pre5 _ ?_, hrun, hended, _, _, rfl, ?_, ⟨_, rfl⟩, hW, hsame.mono (by decide) (by decide)⟩
  · show Steps p.tables e below (s₁.setTop (mkF m 8 #[.val (.ref b), .val (.int (Int32.ofNat n))] [(.int (0 : Int32))])) _
    exact retN X0 hx (t := .byte) Bd.returns (by simp) (hb hby d11_8) hr
  · show Q11 Z (0 : Int32) h0 n0 _ s₁.heap _
    rw [e0]
    exact ⟨rfl, N0, rfl⟩
theorem ef_11U (m : MethodId) (x0 : Addr) (x1 : Int32) : entryFrame m #[(.ref x0), (.int x1)] 2 = mkF m 0 #[.val (.ref x0), .val (.int x1)] [] := by first | (simp [entryFrame, mkF, argsToLocals, Value.category]; done) | rfl
set_option maxRecDepth 65536 in
set_option maxHeartbeats 40000000 in
theorem rm11U (l : Launch) (Z : State) (a0 : Array Value) (hw : ∀ d ∈ tables_1, d.before a0 Z = true) (ws : List Jvm.Cond) (b : Addr) (n : Nat) (cl : Cell) (h0 : Heap) (n0 : Nat) (Z0 : n0 ≤ h0.size) (Ar : Arr Z h0 b cl .byte) (Sz : cl.slots.size = (2 * n)) (hn : n ≤ 4) (hp : 0 < n) :
    MetFree l (⟨"java/lang/StringUTF16", "coderFromArrayLen", "([BI)B"⟩ : MethodName) (head1 (Jvm.Cond.code (⟨"java/lang/StringUTF16", "coderFromArrayLen", "([BI)B"⟩ : MethodName) jdk_52_method_15_code 2 (some .byte) :: ws) ({ frames := 0, cells := 0, slots := 0, locals := 0 } : Room)) (fun aa_ U => aa_ = #[(.ref b), (.int (Int32.ofNat n))] ∧ Z.Warmed39 U.vm ∧ U.heap = h0) (fun _ _ _ _ _ => True) (fun _ U o U' => ∃ v_ L_, o = .returned v_ ∧ Q11 Z (1 : Int32) h0 n0 v_ U'.heap L_ ∧ FrameEnd U o U' L_ ({ frames := 0, cells := 0, slots := 0, locals := 0 } : Room).cells ({ frames := 0, cells := 0, slots := 0, locals := 0 } : Room).slots) := by
  refine MetFree.of_bodySF (plainFor_of_name pn_11) hisR ?_
  intro p e s m args below meth c s₁ Bd hml0 hP hK
  obtain ⟨rfl, hZ, hh⟩ := hP
  have hx := Bd.exec
  have hby := Bd.bytes
  have hml : c.maxLocals = 2 := hml0
  have hown : s.vm.findClass "java/lang/StringUTF16" = some m.cls := findClass_of_methodNamed Bd.named
  have hnm := (name_of_methodNamed Bd.named Bd.method).1
  have X0 : Stand p l e ({ frames := 0, cells := 0, slots := 0, locals := 0 } : Room) s m #[(.ref b), (.int (Int32.ofNat n))] below meth c s₁ [] 0 0 := Stand.of_body Bd
  have e0 : s₁.heap = h0 := by rw [← hh, Bd.state]; rfl
  have N0 := Fr.nil n0
  have pre0 : ∀ t, Steps p.tables e below (s₁.setTop (mkF m 0 #[.val (.ref b), .val (.int (Int32.ofNat n))] [])) t → Steps p.tables e below (s₁.setTop (entryFrame m #[(.ref b), (.int (Int32.ofNat n))] 2)) t := fun t k_ => castTop (ef_11U m b (Int32.ofNat n)) k_
  have pre1 : ∀ t, Steps p.tables e below (s₁.setTop (mkF m 7 #[.val (.ref b), .val (.int (Int32.ofNat n))] [(.int ((((Int32.ofNat n) - (Int32.ofNat (2 * n))).toUInt32 >>> ((31 : Int32) &&& 31).toUInt32).toInt32))])) t → Steps p.tables e below _ t := fun t kt => pre0 t (by
    show Steps p.tables e below (s₁.setTop (mkF m 0 #[.val (.ref b), .val (.int (Int32.ofNat n))] [])) _
    refine XS.iloadN X0.here hx rfl (hb hby d11_0) rfl ?_
    show Steps p.tables e below (s₁.setTop (mkF m 1 #[.val (.ref b), .val (.int (Int32.ofNat n))] [(.int (Int32.ofNat n))])) _
    refine XS.aloadN X0.here hx rfl (hb hby d11_1) rfl rfl ?_
    show Steps p.tables e below (s₁.setTop (mkF m 2 #[.val (.ref b), .val (.int (Int32.ofNat n))] [(.ref b), (.int (Int32.ofNat n))])) _
    refine X0.arraylength hx (by rw [e0]; exact Ar.1) (State.isArrayOf_alike hZ.alike Ar.2.1) (g := (mkF m 2 #[.val (.ref b), .val (.int (Int32.ofNat n))] [(.ref b), (.int (Int32.ofNat n))])) rfl rfl (hb hby d11_2) _ ?_
    rw [len_of (by rw [Sz, clamp_of (c := (2 * n)) rfl (by omega)] : cl.slots.size = (Int32.ofNat (2 * n)).toNatClampNeg) (own_nneg (by omega))]
    show Steps p.tables e below (s₁.setTop (mkF m 3 #[.val (.ref b), .val (.int (Int32.ofNat n))] [(.int (Int32.ofNat (2 * n))), (.int (Int32.ofNat n))])) _
    refine XS.isub X0.here hx rfl (hb hby d11_3) rfl ?_
    show Steps p.tables e below (s₁.setTop (mkF m 4 #[.val (.ref b), .val (.int (Int32.ofNat n))] [(.int ((Int32.ofNat n) - (Int32.ofNat (2 * n))))])) _
    refine XS.bipush X0.here hx rfl (hb hby d11_4) ?_
    show Steps p.tables e below (s₁.setTop (mkF m 6 #[.val (.ref b), .val (.int (Int32.ofNat n))] [(.int (31 : Int32)), (.int ((Int32.ofNat n) - (Int32.ofNat (2 * n))))])) _
    refine XS.iushr X0.here hx rfl (hb hby d11_6) rfl ?_
    exact kt)
  have hv2 : ((((Int32.ofNat n) - (Int32.ofNat (2 * n))).toUInt32 >>> ((31 : Int32) &&& 31).toUInt32).toInt32) = (1 : Int32) := own_neg31 n (by omega) hp
  rw [hv2] at pre1
  have pre3 : ∀ t, Steps p.tables e below (s₁.setTop (mkF m 8 #[.val (.ref b), .val (.int (Int32.ofNat n))] [(.int ((1 : Int32).toInt8.toInt32))])) t → Steps p.tables e below _ t := fun t kt => pre1 t (by
    show Steps p.tables e below (s₁.setTop (mkF m 7 #[.val (.ref b), .val (.int (Int32.ofNat n))] [(.int (1 : Int32))])) _
    refine XS.i2b X0.here hx rfl (hb hby d11_7) rfl ?_
    exact kt)
  have hv4 : ((1 : Int32).toInt8.toInt32) = (1 : Int32) := by decide
  rw [hv4] at pre3
  obtain ⟨fs, hr, hrun, hended, hW, hsame⟩ := X0.leave (v := some (.int (1 : Int32))) (fun h => by rw [Bd.returns] at h; cases h)
  refine ⟨_, _, pre3 _ ?_, hrun, hended, _, _, rfl, ?_, ⟨_, rfl⟩, hW, hsame.mono (by decide) (by decide)⟩
  · show Steps p.tables e below (s₁.setTop (mkF m 8 #[.val (.ref b), .val (.int (Int32.ofNat n))] [(.int (1 : Int32))])) _
    exact retN X0 hx (t := .byte) Bd.returns (by simp) (hb hby d11_8) hr
  · show Q11 Z (1 : Int32) h0 n0 _ s₁.heap _
    rw [e0]
    exact ⟨rfl, N0, rfl⟩
theorem pn_3 : plainName "java/lang/String" = true := by first | (simp [plainName, overriddenIn]; done) | decide +kernel
theorem ef_3 (m : MethodId) (x0 : Addr) (x1 : Addr) (x2 : Int32) (x3 : Int32) : entryFrame m #[(.ref x0), (.ref x1), (.int x2), (.int x3), .null] 6 = mkF m 0 #[.val (.ref x0), .val (.ref x1), .val (.int x2), .val (.int x3), .val .null, .unset] [] := by first | (simp [entryFrame, mkF, argsToLocals, Value.category]; done) | rfl
theorem d3_0 : decode jdk_42_method_149_code 0 = .ok (.aload_n 0, 1) := by decide +kernel
theorem d3_1 : decode jdk_42_method_149_code 1 = .ok (.invokespecial 1, 3) := by decide +kernel
theorem d3_4 : decode jdk_42_method_149_code 4 = .ok (.iload_n 3, 1) := by decide +kernel
theorem d3_5 : decode jdk_42_method_149_code 5 = .ok (.ifCond .ne 22, 3) := by decide +kernel
theorem d3_27 : decode jdk_42_method_149_code 27 = .ok (.getstatic 38, 3) := by decide +kernel
theorem d3_30 : decode jdk_42_method_149_code 30 = .ok (.ifCond .eq 28, 3) := by decide +kernel
theorem d3_33 : decode jdk_42_method_149_code 33 = .ok (.aload_n 1, 1) := by decide +kernel
theorem d3_34 : decode jdk_42_method_149_code 34 = .ok (.iload_n 2, 1) := by decide +kernel
theorem d3_35 : decode jdk_42_method_149_code 35 = .ok (.iload_n 3, 1) := by decide +kernel
theorem d3_36 : decode jdk_42_method_149_code 36 = .ok (.invokestatic 177, 3) := by decide +kernel
theorem d3_39 : decode jdk_42_method_149_code 39 = .ok (.astore 5, 2) := by decide +kernel
theorem d3_41 : decode jdk_42_method_149_code 41 = .ok (.aload_n 0, 1) := by decide +kernel
theorem d3_42 : decode jdk_42_method_149_code 42 = .ok (.aload 5, 2) := by decide +kernel
theorem d3_44 : decode jdk_42_method_149_code 44 = .ok (.iload_n 3, 1) := by decide +kernel
theorem pd_12 : parseMethodDescriptor "([BI)B" = some ⟨[(.array .byte), .int], some .byte⟩ := by decide +kernel
theorem d3_45 : decode jdk_42_method_149_code 45 = .ok (.invokestatic 47, 3) := by decide +kernel
theorem d3_48 : decode jdk_42_method_149_code 48 = .ok (.putfield 15, 3) := by decide +kernel
theorem d3_51 : decode jdk_42_method_149_code 51 = .ok (.aload_n 0, 1) := by decide +kernel
theorem d3_52 : decode jdk_42_method_149_code 52 = .ok (.aload 5, 2) := by decide +kernel
theorem d3_54 : decode jdk_42_method_149_code 54 = .ok (.putfield 9, 3) := by decide +kernel
theorem d3_57 : decode jdk_42_method_149_code 57 = .ok (.return_, 1) := by decide +kernel
def Q3 (Z : State) (a1 : Addr) (n : Nat) (f : Nat → Int32) (h0 : Heap) (n0 : Nat) (v : Option Value) (h : Heap) (L : List Loc) : Prop := v = none ∧ Fr n0 L ∧ Keep h0 h [a1] ∧ own_St Z h a1 n f
set_option maxRecDepth 65536 in
set_option maxHeartbeats 40000000 in
theorem rm3 (l : Launch) (Z : State) (a0 : Array Value) (hw : ∀ d ∈ tables_1, d.before a0 Z = true) (ws : List Jvm.Cond) (a1 : Addr) (ca : Addr) (n : Nat) (f : Nat → Int32) (G1 : Int32) (h0 : Heap) (n0 : Nat) (Z0 : n0 ≤ h0.size) (Ea : Exa Z h0 a1 "java/lang/String") (Fv : Fld Z h0 a1 "java/lang/String" "value" "[B" .null) (Fc : Fld Z h0 a1 "java/lang/String" "coder" "B" (.int (0 : Int32))) (ga : n0 ≤ a1) (CA : own_A Z h0 ca .char n f) (O2 : Sta Z h0 "java/lang/String" "COMPACT_STRINGS" "Z" (.int G1)) (P5 : ¬ (G1 = (0 : Int32))) (AD : Sta Z h0 "java/lang/StringUTF16" "$assertionsDisabled" "Z" (.int (1 : Int32))) (HB : Sta Z h0 "java/lang/StringUTF16" "HI_BYTE_SHIFT" "I" (.int (0 : Int32))) (LB : Sta Z h0 "java/lang/StringUTF16" "LO_BYTE_SHIFT" "I" (.int (8 : Int32))) (hn : n ≤ 4) (hp : 0 < n) (hf : ∀ j, j < n → 0 ≤ (f j).toInt ∧ (f j).toInt < 65536) :
    MetFree l (⟨"java/lang/String", "<init>", "([CIILjava/lang/Void;)V"⟩ : MethodName) (head1 (Jvm.Cond.code (⟨"java/lang/String", "<init>", "([CIILjava/lang/Void;)V"⟩ : MethodName) jdk_42_method_149_code 6 none :: ws) ({ frames := 4, cells := 2, slots := 12, locals := 57 } : Room)) (fun aa_ U => aa_ = #[(.ref a1), (.ref ca), (.int (0 : Int32)), (.int (Int32.ofNat n)), .null] ∧ Z.Warmed39 U.vm ∧ U.heap = h0) (fun _ _ _ _ _ => True) (fun _ U o U' => ∃ v_ L_, o = .returned v_ ∧ Q3 Z a1 n f h0 n0 v_ U'.heap L_ ∧ FrameEnd U o U' L_ ({ frames := 4, cells := 2, slots := 12, locals := 57 } : Room).cells ({ frames := 4, cells := 2, slots := 12, locals := 57 } : Room).slots) := by
  refine MetFree.of_bodySF (plainFor_of_name pn_3) hisR ?_
  intro p e s m args below meth c s₁ Bd hml0 hP hK
  obtain ⟨rfl, hZ, hh⟩ := hP
  have hx := Bd.exec
  have hby := Bd.bytes
  have hml : c.maxLocals = 6 := hml0
  have hown : s.vm.findClass "java/lang/String" = some m.cls := findClass_of_methodNamed Bd.named
  have hnm := (name_of_methodNamed Bd.named Bd.method).1
  have X0 : Stand p l e ({ frames := 4, cells := 2, slots := 12, locals := 57 } : Room) s m #[(.ref a1), (.ref ca), (.int (0 : Int32)), (.int (Int32.ofNat n)), .null] below meth c s₁ [] 0 0 := Stand.of_body Bd
  have e0 : s₁.heap = h0 := by rw [← hh, Bd.state]; rfl
  have N0 := Fr.nil n0
  have pre0 : ∀ t, Steps p.tables e below (s₁.setTop (mkF m 0 #[.val (.ref a1), .val (.ref ca), .val (.int (0 : Int32)), .val (.int (Int32.ofNat n)), .val .null, .unset] [])) t → Steps p.tables e below (s₁.setTop (entryFrame m #[(.ref a1), (.ref ca), (.int (0 : Int32)), (.int (Int32.ofNat n)), .null] 6)) t := fun t k_ => castTop (ef_3 m a1 ca (0 : Int32) (Int32.ofNat n)) k_
  have pre1 : ∀ t, Steps p.tables e below (s₁.setTop (mkF m 1 #[.val (.ref a1), .val (.ref ca), .val (.int (0 : Int32)), .val (.int (Int32.ofNat n)), .val .null, .unset] [(.ref a1)])) t → Steps p.tables e below _ t := fun t kt => pre0 t (by
    show Steps p.tables e below (s₁.setTop (mkF m 0 #[.val (.ref a1), .val (.ref ca), .val (.int (0 : Int32)), .val (.int (Int32.ofNat n)), .val .null, .unset] [])) _
    refine XS.aloadN X0.here hx rfl (hb hby d3_0) rfl rfl ?_
    exact kt)
  obtain ⟨T2, X2, e2, st2⟩ := initO X0 hx hZ hown (hw _ (List.mem_of_getElem? (i := 15) rfl)) (hw _ (List.mem_of_getElem? (i := 16) rfl)) (hw _ (List.mem_of_getElem? (i := 17) rfl)) e0 (g := (mkF m 1 #[.val (.ref a1), .val (.ref ca), .val (.int (0 : Int32)), .val (.int (Int32.ofNat n)), .val .null, .unset] [(.ref a1)])) rfl (by rw [hml]; rfl) rfl (hb hby d3_1) (by decide) (W := 0) (by show 2 * 0 + _ ≤ _; exact Nat.le_of_eq rfl) (by decide)
  have pre3 : ∀ t, Steps p.tables e below (T2.setTop (mkF m 27 #[.val (.ref a1), .val (.ref ca), .val (.int (0 : Int32)), .val (.int (Int32.ofNat n)), .val .null, .unset] [])) t → Steps p.tables e below _ t := fun t kt => pre1 t (by
    show Steps p.tables e below (s₁.setTop (mkF m 1 #[.val (.ref a1), .val (.ref ca), .val (.int (0 : Int32)), .val (.int (Int32.ofNat n)), .val .null, .unset] [(.ref a1)])) _
    refine st2 _ ?_
    show Steps p.tables e below (T2.setTop (mkF m 4 #[.val (.ref a1), .val (.ref ca), .val (.int (0 : Int32)), .val (.int (Int32.ofNat n)), .val .null, .unset] [])) _
    refine XS.iloadN X2.here hx rfl (hb hby d3_4) rfl ?_
    have hc5 : ¬ ((Int32.ofNat n) = (0 : Int32)) := own_ne (n := 0) (by omega) (by omega) (by decide)
    show Steps p.tables e below (T2.setTop (mkF m 5 #[.val (.ref a1), .val (.ref ca), .val (.int (0 : Int32)), .val (.int (Int32.ofNat n)), .val .null, .unset] [(.int (Int32.ofNat n))])) _
    refine XS.ifYes X2.here hx rfl (pc0 := 5) (pc' := 27) rfl (hb hby d3_5) rfl ((if0 _ _).trans (feq hc5).2) (by decide) (by decide) ?_
    exact kt)
  obtain ⟨T4, X4, e4, st4⟩ := getS X2 hx hZ hown (hw _ (List.mem_of_getElem? (i := 45) rfl)) Via.refl e2 O2 (g := (mkF m 27 #[.val (.ref a1), .val (.ref ca), .val (.int (0 : Int32)), .val (.int (Int32.ofNat n)), .val .null, .unset] [])) rfl (hb hby d3_27) (host := "")
  have pre5 : ∀ t, Steps p.tables e below (T4.setTop (mkF m 36 #[.val (.ref a1), .val (.ref ca), .val (.int (0 : Int32)), .val (.int (Int32.ofNat n)), .val .null, .unset] [(.int (Int32.ofNat n)), (.int (0 : Int32)), (.ref ca)])) t → Steps p.tables e below _ t := fun t kt => pre3 t (by
    show Steps p.tables e below (T2.setTop (mkF m 27 #[.val (.ref a1), .val (.ref ca), .val (.int (0 : Int32)), .val (.int (Int32.ofNat n)), .val .null, .unset] [])) _
    refine st4 _ ?_
    have hc30 : ¬ (G1 = (0 : Int32)) := P5
    show Steps p.tables e below (T4.setTop (mkF m 30 #[.val (.ref a1), .val (.ref ca), .val (.int (0 : Int32)), .val (.int (Int32.ofNat n)), .val .null, .unset] [(.int G1)])) _
    refine XS.ifNo X4.here hx rfl (hb hby d3_30) rfl ((if0 _ _).trans (feq hc30).1) ?_
    show Steps p.tables e below (T4.setTop (mkF m 33 #[.val (.ref a1), .val (.ref ca), .val (.int (0 : Int32)), .val (.int (Int32.ofNat n)), .val .null, .unset] [])) _
    refine XS.aloadN X4.here hx rfl (hb hby d3_33) rfl rfl ?_
    show Steps p.tables e below (T4.setTop (mkF m 34 #[.val (.ref a1), .val (.ref ca), .val (.int (0 : Int32)), .val (.int (Int32.ofNat n)), .val .null, .unset] [(.ref ca)])) _
    refine XS.iloadN X4.here hx rfl (hb hby d3_34) rfl ?_
    show Steps p.tables e below (T4.setTop (mkF m 35 #[.val (.ref a1), .val (.ref ca), .val (.int (0 : Int32)), .val (.int (Int32.ofNat n)), .val .null, .unset] [(.int (0 : Int32)), (.ref ca)])) _
    refine XS.iloadN X4.here hx rfl (hb hby d3_35) rfl ?_
    exact kt)
  obtain ⟨_, _, ⟨T6, L6, k6, n6⟩, -, X6, ⟨Lc6, hQ6, l6, y6, z6⟩, st6⟩ := Jvm.LawKit.callS X4 hx (y := (⟨"java/lang/StringUTF16", "compress", "([CII)[B"⟩ : MethodName)) hown (mvT hZ (hw _ (List.mem_of_getElem? (i := 46) rfl))) (mvT hZ (hw _ (List.mem_of_getElem? (i := 47) rfl))) (mvT hZ (hw _ (List.mem_of_getElem? (i := 48) rfl))) (mvT hZ (hw _ (List.mem_of_getElem? (i := 49) rfl))) (by decide) (backOf (W := 0) (rm9 l Z a0 hw [] ca n f h0 n0 Z0 CA AD HB LB hn hf) hZ (hw _ (List.mem_of_getElem? (i := 49) rfl)) (hw _ (List.mem_of_getElem? (i := 48) rfl)) (by decide) (by decide)) (g := (mkF m 36 #[.val (.ref a1), .val (.ref ca), .val (.int (0 : Int32)), .val (.int (Int32.ofNat n)), .val .null, .unset] [(.int (Int32.ofNat n)), (.int (0 : Int32)), (.ref ca)])) rfl (by rw [hml]; rfl) (argsL := [(.ref ca), (.int (0 : Int32)), (.int (Int32.ofNat n))]) (rest := []) (lenOf pd_11 rfl) rfl (by show 2 * 0 + _ ≤ _; exact Nat.le_of_eq rfl) (hb hby d3_36) (fun _ _ => ⟨rfl, e4, (by decide : 0 + 2 ≤ _), (by decide : 0 + 12 ≤ _)⟩)
  dsimp only [Pt.U, Pt.locs, Pt.cells, Pt.slots] at X6 l6 y6 z6 st6 hQ6
  subst l6 y6 z6
  obtain ⟨bn, rfl, N6q, Kb, sb, Rb⟩ := hQ6
  have N6 := Fr.app N0 N6q
  have Kg : Keep h0 T6.heap [a1] := (Keep.refl h0 [a1]).trans Kb all0
  have Zb : n0 ≤ T6.heap.size := Nat.le_trans Z0 Kb.1
  have nba : bn ≠ a1 := by have q := Ea.lt; intro z; subst z; exact absurd q (Nat.not_lt.mpr sb)
  rcases Rb with ⟨Bf, hall⟩ | Bf
  · obtain ⟨cb, Ab, Sb, Hb⟩ := id Bf
    have pre7 : ∀ t, Steps p.tables e below (T6.setTop (mkF m 45 #[.val (.ref a1), .val (.ref ca), .val (.int (0 : Int32)), .val (.int (Int32.ofNat n)), .val .null, .val (.ref bn)] [(.int (Int32.ofNat n)), (.ref bn), (.ref a1)])) t → Steps p.tables e below _ t := fun t kt => pre5 t (by
      show Steps p.tables e below (T4.setTop (mkF m 36 #[.val (.ref a1), .val (.ref ca), .val (.int (0 : Int32)), .val (.int (Int32.ofNat n)), .val .null, .unset] [(.int (Int32.ofNat n)), (.int (0 : Int32)), (.ref ca)])) _
      refine st6 _ ?_
      show Steps p.tables e below (T6.setTop (mkF m 39 #[.val (.ref a1), .val (.ref ca), .val (.int (0 : Int32)), .val (.int (Int32.ofNat n)), .val .null, .unset] [(.ref bn)])) _
      refine XS.astore X6.here hx rfl (hb hby d3_39) rfl rfl (l' := #[.val (.ref a1), .val (.ref ca), .val (.int (0 : Int32)), .val (.int (Int32.ofNat n)), .val .null, .val (.ref bn)]) rfl ?_
      show Steps p.tables e below (T6.setTop (mkF m 41 #[.val (.ref a1), .val (.ref ca), .val (.int (0 : Int32)), .val (.int (Int32.ofNat n)), .val .null, .val (.ref bn)] [])) _
      refine XS.aloadN X6.here hx rfl (hb hby d3_41) rfl rfl ?_
      show Steps p.tables e below (T6.setTop (mkF m 42 #[.val (.ref a1), .val (.ref ca), .val (.int (0 : Int32)), .val (.int (Int32.ofNat n)), .val .null, .val (.ref bn)] [(.ref a1)])) _
      refine XS.aload X6.here hx rfl (hb hby d3_42) rfl rfl ?_
      show Steps p.tables e below (T6.setTop (mkF m 44 #[.val (.ref a1), .val (.ref ca), .val (.int (0 : Int32)), .val (.int (Int32.ofNat n)), .val .null, .val (.ref bn)] [(.ref bn), (.ref a1)])) _
      refine XS.iloadN X6.here hx rfl (hb hby d3_44) rfl ?_
      exact kt)
    obtain ⟨_, _, ⟨T8, L8, k8, n8⟩, -, X8, ⟨Lc8, hQ8, l8, y8, z8⟩, st8⟩ := Jvm.LawKit.callS X6 hx (y := (⟨"java/lang/StringUTF16", "coderFromArrayLen", "([BI)B"⟩ : MethodName)) hown (mvT hZ (hw _ (List.mem_of_getElem? (i := 53) rfl))) (mvT hZ (hw _ (List.mem_of_getElem? (i := 54) rfl))) (mvT hZ (hw _ (List.mem_of_getElem? (i := 48) rfl))) (mvT hZ (hw _ (List.mem_of_getElem? (i := 55) rfl))) (by decide) (backOf (W := 1) (rm11L l Z a0 hw [] bn n cb T6.heap n0 Zb Ab Sb hn hp) hZ (hw _ (List.mem_of_getElem? (i := 55) rfl)) (hw _ (List.mem_of_getElem? (i := 48) rfl)) (by decide) (by decide)) (g := (mkF m 45 #[.val (.ref a1), .val (.ref ca), .val (.int (0 : Int32)), .val (.int (Int32.ofNat n)), .val .null, .val (.ref bn)] [(.int (Int32.ofNat n)), (.ref bn), (.ref a1)])) rfl (by rw [hml]; rfl) (argsL := [(.ref bn), (.int (Int32.ofNat n))]) (rest := [(.ref a1)]) (lenOf pd_12 rfl) rfl (by show 2 * 0 + _ ≤ _; exact Nat.le_of_eq rfl) (hb hby d3_45) (fun _ _ => ⟨rfl, rfl, (by decide : 2 + 0 ≤ _), (by decide : 12 + 0 ≤ _)⟩)
    dsimp only [Pt.U, Pt.locs, Pt.cells, Pt.slots] at X8 l8 y8 z8 st8 hQ8
    subst l8 y8 z8
    obtain ⟨rfl, N8q, e8⟩ := hQ8
    have N8 := Fr.app N6 N8q
    have pre9 : ∀ t, Steps p.tables e below (T8.setTop (mkF m 48 #[.val (.ref a1), .val (.ref ca), .val (.int (0 : Int32)), .val (.int (Int32.ofNat n)), .val .null, .val (.ref bn)] [(.int (0 : Int32)), (.ref a1)])) t → Steps p.tables e below _ t := fun t kt => pre7 t (by
      show Steps p.tables e below (T6.setTop (mkF m 45 #[.val (.ref a1), .val (.ref ca), .val (.int (0 : Int32)), .val (.int (Int32.ofNat n)), .val .null, .val (.ref bn)] [(.int (Int32.ofNat n)), (.ref bn), (.ref a1)])) _
      refine st8 _ ?_
      exact kt)
    obtain ⟨T10, h10, X10, e10, W10, st10⟩ := putFN X8 hx hZ hown (hw _ (List.mem_of_getElem? (i := 25) rfl)) Via.refl e8 (Fc.keep Kb nin0) (Ea.keep Kb) (Or.inr ⟨(hw _ (List.mem_of_getElem? (i := 21) rfl)), rfl, hnm⟩) (hw _ (List.mem_of_getElem? (i := 6) rfl)) (ty := .byte) (v' := .int (nar .byte (0 : Int32))) (by decide) rfl (fits_nar_byte _) (g := (mkF m 48 #[.val (.ref a1), .val (.ref ca), .val (.int (0 : Int32)), .val (.int (Int32.ofNat n)), .val .null, .val (.ref bn)] [(.int (0 : Int32)), (.ref a1)])) rfl rfl (hb hby d3_48)
    have Fw10 := (Fc.keep Kb nin0).same W10
    have N10 := Fr.snoc X10 N8 ga
    have Zs10 : n0 ≤ h10.size := Nat.le_trans Zb (Nat.le_of_eq W10.size.symm)
    have Kp10 : Keep h0 h10 [a1] := Kg.wr W10 (Or.inl (List.mem_of_getElem? (i := 0) rfl))
    have Ec := (Ea.keep Kb).wr W10
    have Fvc := ((Fv.keep Kb nin0).other W10 (Or.inr (slot_ne (Or.inr (hw _ (List.mem_of_getElem? (i := 20) rfl))) (Or.inr (hw _ (List.mem_of_getElem? (i := 21) rfl))) (by decide) (t := (.array .byte)) (t' := .byte) (by decide) (by decide))))
    have Fcd : Fld Z h10 a1 "java/lang/String" "coder" "B" (.int (0 : Int32)) := Fw10
    have Bg := own_A_other Bf W10 nba
    have pre11 : ∀ t, Steps p.tables e below (T10.setTop (mkF m 54 #[.val (.ref a1), .val (.ref ca), .val (.int (0 : Int32)), .val (.int (Int32.ofNat n)), .val .null, .val (.ref bn)] [(.ref bn), (.ref a1)])) t → Steps p.tables e below _ t := fun t kt => pre9 t (by
      show Steps p.tables e below (T8.setTop (mkF m 48 #[.val (.ref a1), .val (.ref ca), .val (.int (0 : Int32)), .val (.int (Int32.ofNat n)), .val .null, .val (.ref bn)] [(.int (0 : Int32)), (.ref a1)])) _
      refine st10 _ ?_
      show Steps p.tables e below (T10.setTop (mkF m 51 #[.val (.ref a1), .val (.ref ca), .val (.int (0 : Int32)), .val (.int (Int32.ofNat n)), .val .null, .val (.ref bn)] [])) _
      refine XS.aloadN X10.here hx rfl (hb hby d3_51) rfl rfl ?_
      show Steps p.tables e below (T10.setTop (mkF m 52 #[.val (.ref a1), .val (.ref ca), .val (.int (0 : Int32)), .val (.int (Int32.ofNat n)), .val .null, .val (.ref bn)] [(.ref a1)])) _
      refine XS.aload X10.here hx rfl (hb hby d3_52) rfl rfl ?_
      exact kt)
    obtain ⟨T12, h12, X12, e12, W12, st12⟩ := putF X10 hx hZ hown (host := "") (Or.inl (hw _ (List.mem_of_getElem? (i := 24) rfl))) Via.refl e10 Fvc Ec (Or.inr ⟨(hw _ (List.mem_of_getElem? (i := 20) rfl)), rfl, hnm⟩) (hw _ (List.mem_of_getElem? (i := 6) rfl)) (ty := (.array .byte)) (by decide) rfl rfl (g := (mkF m 54 #[.val (.ref a1), .val (.ref ca), .val (.int (0 : Int32)), .val (.int (Int32.ofNat n)), .val .null, .val (.ref bn)] [(.ref bn), (.ref a1)])) rfl rfl (hb hby d3_54)
    have Fw12 := Fvc.same W12
    have N12 := Fr.snoc X12 N10 ga
    have Zs12 : n0 ≤ h12.size := Nat.le_trans Zs10 (Nat.le_of_eq W12.size.symm)
    have Kp12 : Keep h0 h12 [a1] := Kp10.wr W12 (Or.inl (List.mem_of_getElem? (i := 0) rfl))
    have Ed := Ec.wr W12
    have Fce := (Fcd.other W12 (Or.inr (slot_ne (Or.inr (hw _ (List.mem_of_getElem? (i := 21) rfl))) (Or.inr (hw _ (List.mem_of_getElem? (i := 20) rfl))) (by decide) (t := .byte) (t' := (.array .byte)) (by decide) (by decide))))
    have Fve : Fld Z h12 a1 "java/lang/String" "value" "[B" (.ref bn) := Fw12
    have Bh := own_A_other Bg W12 nba
    obtain ⟨fs, hr, hrun, hended, hW, hsame⟩ := X12.leave (v := none) (fun _ => rfl)
    refine ⟨_, _, pre11 _ ?_, hrun, hended, _, _, rfl, ?_, ⟨_, rfl⟩, hW, hsame.mono (by decide) (by decide)⟩
    · show Steps p.tables e below (T10.setTop (mkF m 54 #[.val (.ref a1), .val (.ref ca), .val (.int (0 : Int32)), .val (.int (Int32.ofNat n)), .val .null, .val (.ref bn)] [(.ref bn), (.ref a1)])) _
      refine st12 _ ?_
      show Steps p.tables e below (T12.setTop (mkF m 57 #[.val (.ref a1), .val (.ref ca), .val (.int (0 : Int32)), .val (.int (Int32.ofNat n)), .val .null, .val (.ref bn)] [])) _
      exact X12.returnOut hx Bd.returns (hb hby d3_57) hr
    · show Q3 Z a1 n f h0 n0 _ T12.heap _
      rw [e12]
      exact ⟨rfl, N12, Kp12, Or.inl ⟨bn, Ed, Fce, Fve, Bh, hall⟩⟩
  · obtain ⟨cb, Ab, Sb, Hb⟩ := id Bf
    have pre13 : ∀ t, Steps p.tables e below (T6.setTop (mkF m 45 #[.val (.ref a1), .val (.ref ca), .val (.int (0 : Int32)), .val (.int (Int32.ofNat n)), .val .null, .val (.ref bn)] [(.int (Int32.ofNat n)), (.ref bn), (.ref a1)])) t → Steps p.tables e below _ t := fun t kt => pre5 t (by
      show Steps p.tables e below (T4.setTop (mkF m 36 #[.val (.ref a1), .val (.ref ca), .val (.int (0 : Int32)), .val (.int (Int32.ofNat n)), .val .null, .unset] [(.int (Int32.ofNat n)), (.int (0 : Int32)), (.ref ca)])) _
      refine st6 _ ?_
      show Steps p.tables e below (T6.setTop (mkF m 39 #[.val (.ref a1), .val (.ref ca), .val (.int (0 : Int32)), .val (.int (Int32.ofNat n)), .val .null, .unset] [(.ref bn)])) _
      refine XS.astore X6.here hx rfl (hb hby d3_39) rfl rfl (l' := #[.val (.ref a1), .val (.ref ca), .val (.int (0 : Int32)), .val (.int (Int32.ofNat n)), .val .null, .val (.ref bn)]) rfl ?_
      show Steps p.tables e below (T6.setTop (mkF m 41 #[.val (.ref a1), .val (.ref ca), .val (.int (0 : Int32)), .val (.int (Int32.ofNat n)), .val .null, .val (.ref bn)] [])) _
      refine XS.aloadN X6.here hx rfl (hb hby d3_41) rfl rfl ?_
      show Steps p.tables e below (T6.setTop (mkF m 42 #[.val (.ref a1), .val (.ref ca), .val (.int (0 : Int32)), .val (.int (Int32.ofNat n)), .val .null, .val (.ref bn)] [(.ref a1)])) _
      refine XS.aload X6.here hx rfl (hb hby d3_42) rfl rfl ?_
      show Steps p.tables e below (T6.setTop (mkF m 44 #[.val (.ref a1), .val (.ref ca), .val (.int (0 : Int32)), .val (.int (Int32.ofNat n)), .val .null, .val (.ref bn)] [(.ref bn), (.ref a1)])) _
      refine XS.iloadN X6.here hx rfl (hb hby d3_44) rfl ?_
      exact kt)
    obtain ⟨_, _, ⟨T14, L14, k14, n14⟩, -, X14, ⟨Lc14, hQ14, l14, y14, z14⟩, st14⟩ := Jvm.LawKit.callS X6 hx (y := (⟨"java/lang/StringUTF16", "coderFromArrayLen", "([BI)B"⟩ : MethodName)) hown (mvT hZ (hw _ (List.mem_of_getElem? (i := 53) rfl))) (mvT hZ (hw _ (List.mem_of_getElem? (i := 54) rfl))) (mvT hZ (hw _ (List.mem_of_getElem? (i := 48) rfl))) (mvT hZ (hw _ (List.mem_of_getElem? (i := 55) rfl))) (by decide) (backOf (W := 1) (rm11U l Z a0 hw [] bn n cb T6.heap n0 Zb Ab Sb hn hp) hZ (hw _ (List.mem_of_getElem? (i := 55) rfl)) (hw _ (List.mem_of_getElem? (i := 48) rfl)) (by decide) (by decide)) (g := (mkF m 45 #[.val (.ref a1), .val (.ref ca), .val (.int (0 : Int32)), .val (.int (Int32.ofNat n)), .val .null, .val (.ref bn)] [(.int (Int32.ofNat n)), (.ref bn), (.ref a1)])) rfl (by rw [hml]; rfl) (argsL := [(.ref bn), (.int (Int32.ofNat n))]) (rest := [(.ref a1)]) (lenOf pd_12 rfl) rfl (by show 2 * 0 + _ ≤ _; exact Nat.le_of_eq rfl) (hb hby d3_45) (fun _ _ => ⟨rfl, rfl, (by decide : 2 + 0 ≤ _), (by decide : 12 + 0 ≤ _)⟩)
    dsimp only [Pt.U, Pt.locs, Pt.cells, Pt.slots] at X14 l14 y14 z14 st14 hQ14
    subst l14 y14 z14
    obtain ⟨rfl, N14q, e14⟩ := hQ14
    have N14 := Fr.app N6 N14q
    have pre15 : ∀ t, Steps p.tables e below (T14.setTop (mkF m 48 #[.val (.ref a1), .val (.ref ca), .val (.int (0 : Int32)), .val (.int (Int32.ofNat n)), .val .null, .val (.ref bn)] [(.int (1 : Int32)), (.ref a1)])) t → Steps p.tables e below _ t := fun t kt => pre13 t (by
      show Steps p.tables e below (T6.setTop (mkF m 45 #[.val (.ref a1), .val (.ref ca), .val (.int (0 : Int32)), .val (.int (Int32.ofNat n)), .val .null, .val (.ref bn)] [(.int (Int32.ofNat n)), (.ref bn), (.ref a1)])) _
      refine st14 _ ?_
      exact kt)
    obtain ⟨T16, h16, X16, e16, W16, st16⟩ := putFN X14 hx hZ hown (hw _ (List.mem_of_getElem? (i := 25) rfl)) Via.refl e14 (Fc.keep Kb nin0) (Ea.keep Kb) (Or.inr ⟨(hw _ (List.mem_of_getElem? (i := 21) rfl)), rfl, hnm⟩) (hw _ (List.mem_of_getElem? (i := 6) rfl)) (ty := .byte) (v' := .int (nar .byte (1 : Int32))) (by decide) rfl (fits_nar_byte _) (g := (mkF m 48 #[.val (.ref a1), .val (.ref ca), .val (.int (0 : Int32)), .val (.int (Int32.ofNat n)), .val .null, .val (.ref bn)] [(.int (1 : Int32)), (.ref a1)])) rfl rfl (hb hby d3_48)
    have Fw16 := (Fc.keep Kb nin0).same W16
    have N16 := Fr.snoc X16 N14 ga
    have Zs16 : n0 ≤ h16.size := Nat.le_trans Zb (Nat.le_of_eq W16.size.symm)
    have Kp16 : Keep h0 h16 [a1] := Kg.wr W16 (Or.inl (List.mem_of_getElem? (i := 0) rfl))
    have Ec := (Ea.keep Kb).wr W16
    have Fvc := ((Fv.keep Kb nin0).other W16 (Or.inr (slot_ne (Or.inr (hw _ (List.mem_of_getElem? (i := 20) rfl))) (Or.inr (hw _ (List.mem_of_getElem? (i := 21) rfl))) (by decide) (t := (.array .byte)) (t' := .byte) (by decide) (by decide))))
    have Fcd : Fld Z h16 a1 "java/lang/String" "coder" "B" (.int (1 : Int32)) := Fw16
    have Bg := own_A_other Bf W16 nba
    have pre17 : ∀ t, Steps p.tables e below (T16.setTop (mkF m 54 #[.val (.ref a1), .val (.ref ca), .val (.int (0 : Int32)), .val (.int (Int32.ofNat n)), .val .null, .val (.ref bn)] [(.ref bn), (.ref a1)])) t → Steps p.tables e below _ t := fun t kt => pre15 t (by
      show Steps p.tables e below (T14.setTop (mkF m 48 #[.val (.ref a1), .val (.ref ca), .val (.int (0 : Int32)), .val (.int (Int32.ofNat n)), .val .null, .val (.ref bn)] [(.int (1 : Int32)), (.ref a1)])) _
      refine st16 _ ?_
      show Steps p.tables e below (T16.setTop (mkF m 51 #[.val (.ref a1), .val (.ref ca), .val (.int (0 : Int32)), .val (.int (Int32.ofNat n)), .val .null, .val (.ref bn)] [])) _
      refine XS.aloadN X16.here hx rfl (hb hby d3_51) rfl rfl ?_
      show Steps p.tables e below (T16.setTop (mkF m 52 #[.val (.ref a1), .val (.ref ca), .val (.int (0 : Int32)), .val (.int (Int32.ofNat n)), .val .null, .val (.ref bn)] [(.ref a1)])) _
      refine XS.aload X16.here hx rfl (hb hby d3_52) rfl rfl ?_
      exact kt)
    obtain ⟨T18, h18, X18, e18, W18, st18⟩ := putF X16 hx hZ hown (host := "") (Or.inl (hw _ (List.mem_of_getElem? (i := 24) rfl))) Via.refl e16 Fvc Ec (Or.inr ⟨(hw _ (List.mem_of_getElem? (i := 20) rfl)), rfl, hnm⟩) (hw _ (List.mem_of_getElem? (i := 6) rfl)) (ty := (.array .byte)) (by decide) rfl rfl (g := (mkF m 54 #[.val (.ref a1), .val (.ref ca), .val (.int (0 : Int32)), .val (.int (Int32.ofNat n)), .val .null, .val (.ref bn)] [(.ref bn), (.ref a1)])) rfl rfl (hb hby d3_54)
    have Fw18 := Fvc.same W18
    have N18 := Fr.snoc X18 N16 ga
    have Zs18 : n0 ≤ h18.size := Nat.le_trans Zs16 (Nat.le_of_eq W18.size.symm)
    have Kp18 : Keep h0 h18 [a1] := Kp16.wr W18 (Or.inl (List.mem_of_getElem? (i := 0) rfl))
    have Ed := Ec.wr W18
    have Fce := (Fcd.other W18 (Or.inr (slot_ne (Or.inr (hw _ (List.mem_of_getElem? (i := 21) rfl))) (Or.inr (hw _ (List.mem_of_getElem? (i := 20) rfl))) (by decide) (t := .byte) (t' := (.array .byte)) (by decide) (by decide))))
    have Fve : Fld Z h18 a1 "java/lang/String" "value" "[B" (.ref bn) := Fw18
    have Bh := own_A_other Bg W18 nba
    obtain ⟨fs, hr, hrun, hended, hW, hsame⟩ := X18.leave (v := none) (fun _ => rfl)
    refine ⟨_, _, pre17 _ ?_, hrun, hended, _, _, rfl, ?_, ⟨_, rfl⟩, hW, hsame.mono (by decide) (by decide)⟩
    · show Steps p.tables e below (T16.setTop (mkF m 54 #[.val (.ref a1), .val (.ref ca), .val (.int (0 : Int32)), .val (.int (Int32.ofNat n)), .val .null, .val (.ref bn)] [(.ref bn), (.ref a1)])) _
      refine st18 _ ?_
      show Steps p.tables e below (T18.setTop (mkF m 57 #[.val (.ref a1), .val (.ref ca), .val (.int (0 : Int32)), .val (.int (Int32.ofNat n)), .val .null, .val (.ref bn)] [])) _
      exact X18.returnOut hx Bd.returns (hb hby d3_57) hr
    · show Q3 Z a1 n f h0 n0 _ T18.heap _
      rw [e18]
      exact ⟨rfl, N18, Kp18, Or.inr ⟨bn, Ed, Fce, Fve, Bh⟩⟩
theorem pn_2 : plainName "java/lang/String" = true := by first | (simp [plainName, overriddenIn]; done) | decide +kernel
theorem ef_2 (m : MethodId) (x0 : Addr) (x1 : Addr) : entryFrame m #[(.ref x0), (.ref x1)] 2 = mkF m 0 #[.val (.ref x0), .val (.ref x1)] [] := by first | (simp [entryFrame, mkF, argsToLocals, Value.category]; done) | rfl
theorem d2_0 : decode jdk_42_method_3_code 0 = .ok (.aload_n 0, 1) := by decide +kernel
theorem d2_1 : decode jdk_42_method_3_code 1 = .ok (.aload_n 1, 1) := by decide +kernel
theorem d2_2 : decode jdk_42_method_3_code 2 = .ok (.iconst 0, 1) := by decide +kernel
theorem d2_3 : decode jdk_42_method_3_code 3 = .ok (.aload_n 1, 1) := by decide +kernel
theorem d2_4 : decode jdk_42_method_3_code 4 = .ok (.arraylength, 1) := by decide +kernel
theorem d2_5 : decode jdk_42_method_3_code 5 = .ok (.aconst_null, 1) := by decide +kernel
theorem pd_13 : parseMethodDescriptor "([CIILjava/lang/Void;)V" = some ⟨[(.array .char), .int, .int, (.object "java/lang/Void")], none⟩ := by decide +kernel
theorem d2_6 : decode jdk_42_method_3_code 6 = .ok (.invokespecial 27, 3) := by decide +kernel
theorem d2_9 : decode jdk_42_method_3_code 9 = .ok (.return_, 1) := by decide +kernel
def Q2 (Z : State) (a1 : Addr) (n : Nat) (f : Nat → Int32) (h0 : Heap) (n0 : Nat) (v : Option Value) (h : Heap) (L : List Loc) : Prop := v = none ∧ Fr n0 L ∧ Keep h0 h [a1] ∧ own_St Z h a1 n f
set_option maxRecDepth 65536 in
set_option maxHeartbeats 40000000 in
theorem rm2 (l : Launch) (Z : State) (a0 : Array Value) (hw : ∀ d ∈ tables_1, d.before a0 Z = true) (ws : List Jvm.Cond) (a1 : Addr) (ca : Addr) (n : Nat) (f : Nat → Int32) (G1 : Int32) (h0 : Heap) (n0 : Nat) (Z0 : n0 ≤ h0.size) (Ea : Exa Z h0 a1 "java/lang/String") (Fv : Fld Z h0 a1 "java/lang/String" "value" "[B" .null) (Fc : Fld Z h0 a1 "java/lang/String" "coder" "B" (.int (0 : Int32))) (ga : n0 ≤ a1) (CA : own_A Z h0 ca .char n f) (O2 : Sta Z h0 "java/lang/String" "COMPACT_STRINGS" "Z" (.int G1)) (P5 : ¬ (G1 = (0 : Int32))) (AD : Sta Z h0 "java/lang/StringUTF16" "$assertionsDisabled" "Z" (.int (1 : Int32))) (HB : Sta Z h0 "java/lang/StringUTF16" "HI_BYTE_SHIFT" "I" (.int (0 : Int32))) (LB : Sta Z h0 "java/lang/StringUTF16" "LO_BYTE_SHIFT" "I" (.int (8 : Int32))) (hn : n ≤ 4) (hp : 0 < n) (hf : ∀ j, j < n → 0 ≤ (f j).toInt ∧ (f j).toInt < 65536) :
    MetFree l (⟨"java/lang/String", "<init>", "([C)V"⟩ : MethodName) (head1 (Jvm.Cond.code (⟨"java/lang/String", "<init>", "([C)V"⟩ : MethodName) jdk_42_method_3_code 2 none :: ws) ({ frames := 5, cells := 2, slots := 12, locals := 74 } : Room)) (fun aa_ U => aa_ = #[(.ref a1), (.ref ca)] ∧ Z.Warmed39 U.vm ∧ U.heap = h0) (fun _ _ _ _ _ => True) (fun _ U o U' => ∃ v_ L_, o = .returned v_ ∧ Q2 Z a1 n f h0 n0 v_ U'.heap L_ ∧ FrameEnd U o U' L_ ({ frames := 5, cells := 2, slots := 12, locals := 74 } : Room).cells ({ frames := 5, cells := 2, slots := 12, locals := 74 } : Room).slots) := by
  refine MetFree.of_bodySF (plainFor_of_name pn_2) hisR ?_
  intro p e s m args below meth c s₁ Bd hml0 hP hK
  obtain ⟨rfl, hZ, hh⟩ := hP
  have hx := Bd.exec
  have hby := Bd.bytes
  have hml : c.maxLocals = 2 := hml0
  have hown : s.vm.findClass "java/lang/String" = some m.cls := findClass_of_methodNamed Bd.named
  have hnm := (name_of_methodNamed Bd.named Bd.method).1
  have X0 : Stand p l e ({ frames := 5, cells := 2, slots := 12, locals := 74 } : Room) s m #[(.ref a1), (.ref ca)] below meth c s₁ [] 0 0 := Stand.of_body Bd
  have e0 : s₁.heap = h0 := by rw [← hh, Bd.state]; rfl
  have N0 := Fr.nil n0
  have pre0 : ∀ t, Steps p.tables e below (s₁.setTop (mkF m 0 #[.val (.ref a1), .val (.ref ca)] [])) t → Steps p.tables e below (s₁.setTop (entryFrame m #[(.ref a1), (.ref ca)] 2)) t := fun t k_ => castTop (ef_2 m a1 ca) k_
  obtain ⟨cc, Ac, Sc, Hc⟩ := id CA
  have pre1 : ∀ t, Steps p.tables e below (s₁.setTop (mkF m 6 #[.val (.ref a1), .val (.ref ca)] [.null, (.int (Int32.ofNat n)), (.int (0 : Int32)), (.ref ca), (.ref a1)])) t → Steps p.tables e below _ t := fun t kt => pre0 t (by
    show Steps p.tables e below (s₁.setTop (mkF m 0 #[.val (.ref a1), .val (.ref ca)] [])) _
    refine XS.aloadN X0.here hx rfl (hb hby d2_0) rfl rfl ?_
    show Steps p.tables e below (s₁.setTop (mkF m 1 #[.val (.ref a1), .val (.ref ca)] [(.ref a1)])) _
    refine XS.aloadN X0.here hx rfl (hb hby d2_1) rfl rfl ?_
    show Steps p.tables e below (s₁.setTop (mkF m 2 #[.val (.ref a1), .val (.ref ca)] [(.ref ca), (.ref a1)])) _
    refine XS.iconst X0.here hx rfl (hb hby d2_2) ?_
    show Steps p.tables e below (s₁.setTop (mkF m 3 #[.val (.ref a1), .val (.ref ca)] [(.int (0 : Int32)), (.ref ca), (.ref a1)])) _
    refine XS.aloadN X0.here hx rfl (hb hby d2_3) rfl rfl ?_
    show Steps p.tables e below (s₁.setTop (mkF m 4 #[.val (.ref a1), .val (.ref ca)] [(.ref ca), (.int (0 : Int32)), (.ref ca), (.ref a1)])) _
    refine X0.arraylength hx (by rw [e0]; exact Ac.1) (State.isArrayOf_alike hZ.alike Ac.2.1) (g := (mkF m 4 #[.val (.ref a1), .val (.ref ca)] [(.ref ca), (.int (0 : Int32)), (.ref ca), (.ref a1)])) rfl rfl (hb hby d2_4) _ ?_
    rw [len_of (by rw [Sc, clamp_of (c := n) rfl (by omega)] : cc.slots.size = (Int32.ofNat n).toNatClampNeg) (own_nneg (by omega))]
    show Steps p.tables e below (s₁.setTop (mkF m 5 #[.val (.ref a1), .val (.ref ca)] [(.int (Int32.ofNat n)), (.int (0 : Int32)), (.ref ca), (.ref a1)])) _
    refine XS.aconstNull X0.here hx rfl (hb hby d2_5) ?_
    exact kt)
  obtain ⟨_, _, ⟨T2, L2, k2, n2⟩, -, X2, ⟨Lc2, hQ2, l2, y2, z2⟩, st2⟩ := X0.specialBack hx (y := (⟨"java/lang/String", "<init>", "([CIILjava/lang/Void;)V"⟩ : MethodName)) rfl hown (mvT hZ (hw _ (List.mem_of_getElem? (i := 11) rfl))) (mvT hZ (hw _ (List.mem_of_getElem? (i := 12) rfl))) (mvT hZ (hw _ (List.mem_of_getElem? (i := 14) rfl))) (by decide) (backOf (W := 0) (rm3 l Z a0 hw [] a1 ca n f G1 h0 n0 Z0 Ea Fv Fc ga CA O2 P5 AD HB LB hn hp hf) hZ (hw _ (List.mem_of_getElem? (i := 14) rfl)) (hw _ (List.mem_of_getElem? (i := 7) rfl)) (by decide) (by decide)) (g := (mkF m 6 #[.val (.ref a1), .val (.ref ca)] [.null, (.int (Int32.ofNat n)), (.int (0 : Int32)), (.ref ca), (.ref a1)])) rfl (by rw [hml]; rfl) (Steps.refl _) (a := a1) (argsL := [(.ref ca), (.int (0 : Int32)), (.int (Int32.ofNat n)), .null]) (rest := []) (lenOf pd_13 rfl) rfl (by show 2 * 0 + _ ≤ _; exact Nat.le_of_eq rfl) (hb hby d2_6) (fun _ _ => ⟨rfl, e0, (by decide : 0 + 2 ≤ _), (by decide : 0 + 12 ≤ _)⟩)
  dsimp only [Pt.U, Pt.locs, Pt.cells, Pt.slots] at X2 l2 y2 z2 st2 hQ2
  subst l2 y2 z2
  obtain ⟨rfl, N2q, Kq, Sq⟩ := hQ2
  have N2 := Fr.app N0 N2q
  obtain ⟨fs, hr, hrun, hended, hW, hsame⟩ := X2.leave (v := none) (fun _ => rfl)
  refine ⟨_, _, pre1 _ ?_, hrun, hended, _, _, rfl, ?_, ⟨_, rfl⟩, hW, hsame.mono (by decide) (by decide)⟩
  · show Steps p.tables e below (s₁.setTop (mkF m 6 #[.val (.ref a1), .val (.ref ca)] [.null, (.int (Int32.ofNat n)), (.int (0 : Int32)), (.ref ca), (.ref a1)])) _
    refine st2.trans ?_
    show Steps p.tables e below (T2.setTop (mkF m 9 #[.val (.ref a1), .val (.ref ca)] [])) _
    exact X2.returnOut hx Bd.returns (hb hby d2_9) hr
  · exact ⟨rfl, N2, Kq, Sq⟩
theorem ef_3n0 (m : MethodId) (x0 : Addr) (x1 : Addr) (x2 : Int32) (x3 : Int32) : entryFrame m #[(.ref x0), (.ref x1), (.int x2), (.int x3), .null] 6 = mkF m 0 #[.val (.ref x0), .val (.ref x1), .val (.int x2), .val (.int x3), .val .null, .unset] [] := by first | (simp [entryFrame, mkF, argsToLocals, Value.category]; done) | rfl
theorem d3_8 : decode jdk_42_method_149_code 8 = .ok (.aload_n 0, 1) := by decide +kernel
theorem d3_9 : decode jdk_42_method_149_code 9 = .ok (.ldc 7, 2) := by decide +kernel
theorem d3_11 : decode jdk_42_method_149_code 11 = .ok (.getfield 9, 3) := by decide +kernel
theorem d3_14 : decode jdk_42_method_149_code 14 = .ok (.putfield 9, 3) := by decide +kernel
theorem d3_17 : decode jdk_42_method_149_code 17 = .ok (.aload_n 0, 1) := by decide +kernel
theorem d3_18 : decode jdk_42_method_149_code 18 = .ok (.ldc 7, 2) := by decide +kernel
theorem d3_20 : decode jdk_42_method_149_code 20 = .ok (.getfield 15, 3) := by decide +kernel
theorem d3_23 : decode jdk_42_method_149_code 23 = .ok (.putfield 15, 3) := by decide +kernel
theorem d3_26 : decode jdk_42_method_149_code 26 = .ok (.return_, 1) := by decide +kernel
def Q3n0 (Z : State) (a1 : Addr) (h0 : Heap) (n0 : Nat) (v : Option Value) (h : Heap) (vm : Vm) (L : List Loc) : Prop := v = none ∧ Fr n0 L ∧ Keep h0 h [a1] ∧ ∀ f : Nat → Int32, own_St Z h a1 0 f
set_option maxRecDepth 65536 in
set_option maxHeartbeats 40000000 in
theorem rm3n0 (l : Launch) (Z : State) (a0 : Array Value) (hw : ∀ d ∈ tables_1, d.before a0 Z = true) (ws : List Jvm.Cond) (a1 : Addr) (ca : Addr) (h0 : Heap) (n0 : Nat) (Z0 : n0 ≤ h0.size) (Ea : Exa Z h0 a1 "java/lang/String") (Fv : Fld Z h0 a1 "java/lang/String" "value" "[B" .null) (Fc : Fld Z h0 a1 "java/lang/String" "coder" "B" (.int (0 : Int32))) (ga : n0 ≤ a1) (KZ : ∀ (b : Addr) (cl : Cell), Z.heap[b]? = some cl → h0[b]? = some cl) (hh7 : Jvm.Lit.constHeld Z "java/lang/String" 7) (hcw : Jvm.Lit.compactW.before a0 Z = true) :
    MetFree l (⟨"java/lang/String", "<init>", "([CIILjava/lang/Void;)V"⟩ : MethodName) (head1 (Jvm.Cond.code (⟨"java/lang/String", "<init>", "([CIILjava/lang/Void;)V"⟩ : MethodName) jdk_42_method_149_code 6 none :: ws) ({ frames := 1, cells := 2, slots := 4, locals := 12 } : Room)) (fun aa_ U => aa_ = #[(.ref a1), (.ref ca), (.int (0 : Int32)), (.int (0 : Int32)), .null] ∧ Z.Warmed39 U.vm ∧ U.heap = h0 ∧ IB Z U.vm []) (fun _ _ _ _ _ => True) (fun _ U o U' => ∃ v_ L_, o = .returned v_ ∧ Q3n0 Z a1 h0 n0 v_ U'.heap U'.vm L_ ∧ ReturnedEndW U o U' L_ ({ frames := 1, cells := 2, slots := 4, locals := 12 } : Room).cells ({ frames := 1, cells := 2, slots := 4, locals := 12 } : Room).slots) := by
  refine MetFree.of_bodySF (plainFor_of_name pn_3) hisR ?_
  intro p e s m args below meth c s₁ Bd hml0 hP hK
  obtain ⟨rfl, hZ, hh, hIb⟩ := hP
  have hx := Bd.exec
  have hby := Bd.bytes
  have hml : c.maxLocals = 6 := hml0
  have hown : s.vm.findClass "java/lang/String" = some m.cls := findClass_of_methodNamed Bd.named
  have hnm := (name_of_methodNamed Bd.named Bd.method).1
  have X0 : Stand p l e ({ frames := 1, cells := 2, slots := 4, locals := 12 } : Room) s m #[(.ref a1), (.ref ca), (.int (0 : Int32)), (.int (0 : Int32)), .null] below meth c s₁ [] 0 0 := Stand.of_body Bd
  have e0 : s₁.heap = h0 := by rw [← hh, Bd.state]; rfl
  have N0 := Fr.nil n0
  have pre0 : ∀ t, Steps p.tables e below (s₁.setTop (mkF m 0 #[.val (.ref a1), .val (.ref ca), .val (.int (0 : Int32)), .val (.int (0 : Int32)), .val .null, .unset] [])) t → Steps p.tables e below (s₁.setTop (entryFrame m #[(.ref a1), (.ref ca), (.int (0 : Int32)), (.int (0 : Int32)), .null] 6)) t := fun t k_ => castTop (ef_3n0 m a1 ca (0 : Int32) (0 : Int32)) k_
  have wS : ∀ a ∈ Bundle.stringAtoms, a.before a0 Z = true := fun d hd => by
    simp only [Bundle.stringAtoms, List.mem_cons, List.not_mem_nil, or_false] at hd
    rcases hd with rfl | rfl | rfl | rfl | rfl | rfl | rfl
    · exact (hw _ (List.mem_of_getElem? (i := 7) rfl))
    · exact (hw _ (List.mem_of_getElem? (i := 6) rfl))
    · exact (hw _ (List.mem_of_getElem? (i := 19) rfl))
    · exact (hw _ (List.mem_of_getElem? (i := 20) rfl))
    · exact (hw _ (List.mem_of_getElem? (i := 21) rfl))
    · exact (hw _ (List.mem_of_getElem? (i := 22) rfl))
    · exact (hw _ (List.mem_of_getElem? (i := 23) rfl))
  have pre1 : ∀ t, Steps p.tables e below (s₁.setTop (mkF m 1 #[.val (.ref a1), .val (.ref ca), .val (.int (0 : Int32)), .val (.int (0 : Int32)), .val .null, .unset] [(.ref a1)])) t → Steps p.tables e below _ t := fun t kt => pre0 t (by
    show Steps p.tables e below (s₁.setTop (mkF m 0 #[.val (.ref a1), .val (.ref ca), .val (.int (0 : Int32)), .val (.int (0 : Int32)), .val .null, .unset] [])) _
    refine XS.aloadN X0.here hx rfl (hb hby d3_0) rfl rfl ?_
    exact kt)
  obtain ⟨T2, X2, e2, st2⟩ := initO X0 hx hZ hown (hw _ (List.mem_of_getElem? (i := 15) rfl)) (hw _ (List.mem_of_getElem? (i := 16) rfl)) (hw _ (List.mem_of_getElem? (i := 17) rfl)) e0 (g := (mkF m 1 #[.val (.ref a1), .val (.ref ca), .val (.int (0 : Int32)), .val (.int (0 : Int32)), .val .null, .unset] [(.ref a1)])) rfl (by rw [hml]; rfl) rfl (hb hby d3_1) (by decide) (W := 0) (by show 2 * 0 + _ ≤ _; exact Nat.le_of_eq rfl) (by decide)
  have pre3 : ∀ t, Steps p.tables e below (T2.setTop (mkF m 9 #[.val (.ref a1), .val (.ref ca), .val (.int (0 : Int32)), .val (.int (0 : Int32)), .val .null, .unset] [(.ref a1)])) t → Steps p.tables e below _ t := fun t kt => pre1 t (by
    show Steps p.tables e below (s₁.setTop (mkF m 1 #[.val (.ref a1), .val (.ref ca), .val (.int (0 : Int32)), .val (.int (0 : Int32)), .val .null, .unset] [(.ref a1)])) _
    refine st2 _ ?_
    show Steps p.tables e below (T2.setTop (mkF m 4 #[.val (.ref a1), .val (.ref ca), .val (.int (0 : Int32)), .val (.int (0 : Int32)), .val .null, .unset] [])) _
    refine XS.iloadN X2.here hx rfl (hb hby d3_4) rfl ?_
    have hc5 : (0 : Int32) = (0 : Int32) := rfl
    show Steps p.tables e below (T2.setTop (mkF m 5 #[.val (.ref a1), .val (.ref ca), .val (.int (0 : Int32)), .val (.int (0 : Int32)), .val .null, .unset] [(.int (0 : Int32))])) _
    refine XS.ifNo X2.here hx rfl (hb hby d3_5) rfl ((if0 _ _).trans (teq hc5).2) ?_
    show Steps p.tables e below (T2.setTop (mkF m 8 #[.val (.ref a1), .val (.ref ca), .val (.int (0 : Int32)), .val (.int (0 : Int32)), .val .null, .unset] [])) _
    refine XS.aloadN X2.here hx rfl (hb hby d3_8) rfl rfl ?_
    exact kt)
  obtain ⟨as4, T4, h4, ks4, bb4, kk4, X4, e4, E4, Sj4, hj4, hz4, how4, Ex4, Fd4, Fw4, Av4, -, -, I4, Li4, st4⟩ := ldcSVL (s := s) (vm0 := s.vm) (text := "") (show Stand p l e ({ frames := 1, cells := 2, slots := 4, locals := 12 } : Room) (s.setVm s.vm) m #[(.ref a1), (.ref ca), (.int (0 : Int32)), (.int (0 : Int32)), .null] below meth c T2 _ _ _ from X2) hx hZ hown (hw _ (List.mem_of_getElem? (i := 18) rfl)) wS e2 (State.WarmedH.since (State.WarmedH.refl s) 0) (Nat.zero_le _) (Fr.nil _) (fun b_ cl_ q_ => by rw [hh]; exact KZ b_ cl_ q_) (Ts := []) hIb (by decide) hh7 hcw (z := (0 : Int32)) ⟨by decide, rfl⟩ (by decide) (by decide) (g := (mkF m 9 #[.val (.ref a1), .val (.ref ca), .val (.int (0 : Int32)), .val (.int (0 : Int32)), .val .null, .unset] [(.ref a1)])) rfl (hb hby d3_9) (n := 0) (by decide) (by decide) (by decide) (by decide)
  have Zs4 : n0 ≤ h4.size := Nat.le_trans Z0 E4.1
  have Kp4 : Keep h0 h4 [a1] := (Keep.refl h0 [a1]).ext E4
  have Si4 : s.Since T4.vm h4.size := ⟨Sj4.1, Sj4.2.mono hj4⟩
  have pre5 : ∀ t, Steps p.tables e below (T4.setTop (mkF m 11 #[.val (.ref a1), .val (.ref ca), .val (.int (0 : Int32)), .val (.int (0 : Int32)), .val .null, .unset] [(.ref as4), (.ref a1)])) t → Steps p.tables e below _ t := fun t kt => pre3 t (by
    show Steps p.tables e below (T2.setTop (mkF m 9 #[.val (.ref a1), .val (.ref ca), .val (.int (0 : Int32)), .val (.int (0 : Int32)), .val .null, .unset] [(.ref a1)])) _
    refine st4 _ ?_
    exact kt)
  obtain ⟨T6, X6, e6, st6⟩ := getF X4 hx hz4 how4 (host := "") (Or.inl (hw _ (List.mem_of_getElem? (i := 24) rfl))) Via.refl e4 Fw4 (g := (mkF m 11 #[.val (.ref a1), .val (.ref ca), .val (.int (0 : Int32)), .val (.int (0 : Int32)), .val .null, .unset] [(.ref as4), (.ref a1)])) rfl rfl (hb hby d3_11)
  have pre7 : ∀ t, Steps p.tables e below (T6.setTop (mkF m 14 #[.val (.ref a1), .val (.ref ca), .val (.int (0 : Int32)), .val (.int (0 : Int32)), .val .null, .unset] [(.ref bb4), (.ref a1)])) t → Steps p.tables e below _ t := fun t kt => pre5 t (by
    show Steps p.tables e below (T4.setTop (mkF m 11 #[.val (.ref a1), .val (.ref ca), .val (.int (0 : Int32)), .val (.int (0 : Int32)), .val .null, .unset] [(.ref as4), (.ref a1)])) _
    refine st6 _ ?_
    exact kt)
  obtain ⟨T8, h8, X8, e8, W8, st8⟩ := putF X6 hx hz4 how4 (host := "") (Or.inl (hw _ (List.mem_of_getElem? (i := 24) rfl))) Via.refl e6 (Fv.ext E4) (Ea.ext E4) (Or.inr ⟨(hw _ (List.mem_of_getElem? (i := 20) rfl)), rfl, hnm⟩) (hw _ (List.mem_of_getElem? (i := 6) rfl)) (ty := (.array .byte)) (by decide) rfl rfl (g := (mkF m 14 #[.val (.ref a1), .val (.ref ca), .val (.int (0 : Int32)), .val (.int (0 : Int32)), .val .null, .unset] [(.ref bb4), (.ref a1)])) rfl rfl (hb hby d3_14)
  have Fw8 := (Fv.ext E4).same W8
  have N8 := Fr.snoc X8 N0 ga
  have Zs8 : n0 ≤ h8.size := Nat.le_trans Zs4 (Nat.le_of_eq W8.size.symm)
  have Kp8 : Keep h0 h8 [a1] := Kp4.wr W8 (Or.inl (List.mem_of_getElem? (i := 0) rfl))
  have Ec := (Ea.ext E4).wr W8
  have Fcc := ((Fc.ext E4).other W8 (Or.inr (slot_ne (Or.inr (hw _ (List.mem_of_getElem? (i := 21) rfl))) (Or.inr (hw _ (List.mem_of_getElem? (i := 20) rfl))) (by decide) (t := .byte) (t' := (.array .byte)) (by decide) (by decide))))
  have Fcs := (Fd4.other W8 (Or.inr (slot_ne (Or.inr (hw _ (List.mem_of_getElem? (i := 21) rfl))) (Or.inr (hw _ (List.mem_of_getElem? (i := 20) rfl))) (by decide) (t := .byte) (t' := (.array .byte)) (by decide) (by decide))))
  have nab := Exa.neArv (a0 := a0) (Ea.ext E4) Av4 (hw _ (List.mem_of_getElem? (i := 6) rfl))
  have Be : own_A Z h4 bb4 .byte 0 (fun _ => 0) := by obtain ⟨c_, Ar_, -, S_, -⟩ := id Av4; exact ⟨c_, Ar_, S_, fun j hj => absurd hj (Nat.not_lt_zero _)⟩
  have Bf := own_A_other Be W8 (Ne.symm nab)
  have Fvd : Fld Z h8 a1 "java/lang/String" "value" "[B" (.ref bb4) := Fw8
  have pre9 : ∀ t, Steps p.tables e below (T8.setTop (mkF m 18 #[.val (.ref a1), .val (.ref ca), .val (.int (0 : Int32)), .val (.int (0 : Int32)), .val .null, .unset] [(.ref a1)])) t → Steps p.tables e below _ t := fun t kt => pre7 t (by
    show Steps p.tables e below (T6.setTop (mkF m 14 #[.val (.ref a1), .val (.ref ca), .val (.int (0 : Int32)), .val (.int (0 : Int32)), .val .null, .unset] [(.ref bb4), (.ref a1)])) _
    refine st8 _ ?_
    show Steps p.tables e below (T8.setTop (mkF m 17 #[.val (.ref a1), .val (.ref ca), .val (.int (0 : Int32)), .val (.int (0 : Int32)), .val .null, .unset] [])) _
    refine XS.aloadN X8.here hx rfl (hb hby d3_17) rfl rfl ?_
    exact kt)
  have pre10 : ∀ t, Steps p.tables e below (T8.setTop (mkF m 20 #[.val (.ref a1), .val (.ref ca), .val (.int (0 : Int32)), .val (.int (0 : Int32)), .val .null, .unset] [(.ref as4), (.ref a1)])) t → Steps p.tables e below _ t := fun t kt => pre9 t (by
    show Steps p.tables e below (T8.setTop (mkF m 18 #[.val (.ref a1), .val (.ref ca), .val (.int (0 : Int32)), .val (.int (0 : Int32)), .val .null, .unset] [(.ref a1)])) _
    refine ldcAgain (s := s) (vm0 := T4.vm) X8 hx hz4 how4 (hw _ (List.mem_of_getElem? (i := 18) rfl)) Li4 (g := (mkF m 18 #[.val (.ref a1), .val (.ref ca), .val (.int (0 : Int32)), .val (.int (0 : Int32)), .val .null, .unset] [(.ref a1)])) rfl (hb hby d3_18) _ ?_
    exact kt)
  obtain ⟨T11, X11, e11, st11⟩ := getF X8 hx hz4 how4 (host := "") (Or.inl (hw _ (List.mem_of_getElem? (i := 25) rfl))) Via.refl e8 Fcs (g := (mkF m 20 #[.val (.ref a1), .val (.ref ca), .val (.int (0 : Int32)), .val (.int (0 : Int32)), .val .null, .unset] [(.ref as4), (.ref a1)])) rfl rfl (hb hby d3_20)
  have pre12 : ∀ t, Steps p.tables e below (T11.setTop (mkF m 23 #[.val (.ref a1), .val (.ref ca), .val (.int (0 : Int32)), .val (.int (0 : Int32)), .val .null, .unset] [(.int (0 : Int32)), (.ref a1)])) t → Steps p.tables e below _ t := fun t kt => pre10 t (by
    show Steps p.tables e below (T8.setTop (mkF m 20 #[.val (.ref a1), .val (.ref ca), .val (.int (0 : Int32)), .val (.int (0 : Int32)), .val .null, .unset] [(.ref as4), (.ref a1)])) _
    refine st11 _ ?_
    exact kt)
  obtain ⟨T13, h13, X13, e13, W13, st13⟩ := putFN X11 hx hz4 how4 (hw _ (List.mem_of_getElem? (i := 25) rfl)) Via.refl e11 Fcc Ec (Or.inr ⟨(hw _ (List.mem_of_getElem? (i := 21) rfl)), rfl, hnm⟩) (hw _ (List.mem_of_getElem? (i := 6) rfl)) (ty := .byte) (v' := .int (nar .byte (0 : Int32))) (by decide) rfl (fits_nar_byte _) (g := (mkF m 23 #[.val (.ref a1), .val (.ref ca), .val (.int (0 : Int32)), .val (.int (0 : Int32)), .val .null, .unset] [(.int (0 : Int32)), (.ref a1)])) rfl rfl (hb hby d3_23)
  have Fw13 := Fcc.same W13
  have N13 := Fr.snoc X13 N8 ga
  have Zs13 : n0 ≤ h13.size := Nat.le_trans Zs8 (Nat.le_of_eq W13.size.symm)
  have Kp13 : Keep h0 h13 [a1] := Kp8.wr W13 (Or.inl (List.mem_of_getElem? (i := 0) rfl))
  have Ed := Ec.wr W13
  have Bg := own_A_other Bf W13 (Ne.symm nab)
  have Fve := (Fvd.other W13 (Or.inr (slot_ne (Or.inr (hw _ (List.mem_of_getElem? (i := 20) rfl))) (Or.inr (hw _ (List.mem_of_getElem? (i := 21) rfl))) (by decide) (t := (.array .byte)) (t' := .byte) (by decide) (by decide))))
  have Fce : Fld Z h13 a1 "java/lang/String" "coder" "B" (.int (0 : Int32)) := Fw13
  obtain ⟨fs, hr, hrun, hended, -, hW, hI, hsame⟩ := X13.leaveW Si4 (Nat.le_of_eq (by rw [e13]; exact W8.size.symm.trans W13.size.symm)) (v := none) (fun _ => rfl)
  refine ⟨_, _, pre12 _ ?_, hrun, hended, _, _, rfl, ?_, ⟨_, rfl⟩, hW, hI, hsame.mono (by decide) (by decide)⟩
  · show Steps p.tables e below (T11.setTop (mkF m 23 #[.val (.ref a1), .val (.ref ca), .val (.int (0 : Int32)), .val (.int (0 : Int32)), .val .null, .unset] [(.int (0 : Int32)), (.ref a1)])) _
    refine st13 _ ?_
    show Steps p.tables e below (T13.setTop (mkF m 26 #[.val (.ref a1), .val (.ref ca), .val (.int (0 : Int32)), .val (.int (0 : Int32)), .val .null, .unset] [])) _
    exact X13.returnOut hx Bd.returns (hb hby d3_26) hr
  · show Q3n0 Z a1 h0 n0 _ T13.heap _ _
    rw [e13]
    exact ⟨rfl, N13, Kp13, fun f => Or.inl ⟨_, Ed, Fce, Fve, own_A_congr Bg (fun j hj => absurd hj (Nat.not_lt_zero _)), fun j hj => absurd hj (Nat.not_lt_zero _)⟩⟩
theorem ef_2n0 (m : MethodId) (x0 : Addr) (x1 : Addr) : entryFrame m #[(.ref x0), (.ref x1)] 2 = mkF m 0 #[.val (.ref x0), .val (.ref x1)] [] := by first | (simp [entryFrame, mkF, argsToLocals, Value.category]; done) | rfl
def Q2n0 (Z : State) (a1 : Addr) (h0 : Heap) (n0 : Nat) (v : Option Value) (h : Heap) (vm : Vm) (L : List Loc) : Prop := v = none ∧ Fr n0 L ∧ Keep h0 h [a1] ∧ ∀ f : Nat → Int32, own_St Z h a1 0 f
set_option maxRecDepth 65536 in
set_option maxHeartbeats 40000000 in
theorem rm2n0 (l : Launch) (Z : State) (a0 : Array Value) (hw : ∀ d ∈ tables_1, d.before a0 Z = true) (ws : List Jvm.Cond) (a1 : Addr) (ca : Addr) (h0 : Heap) (n0 : Nat) (Z0 : n0 ≤ h0.size) (Ea : Exa Z h0 a1 "java/lang/String") (Fv : Fld Z h0 a1 "java/lang/String" "value" "[B" .null) (Fc : Fld Z h0 a1 "java/lang/String" "coder" "B" (.int (0 : Int32))) (ga : n0 ≤ a1) (CA : own_A Z h0 ca .char 0 (fun _ => 0)) (KZ : ∀ (b : Addr) (cl : Cell), Z.heap[b]? = some cl → h0[b]? = some cl) (hh7 : Jvm.Lit.constHeld Z "java/lang/String" 7) (hcw : Jvm.Lit.compactW.before a0 Z = true) :
    MetFree l (⟨"java/lang/String", "<init>", "([C)V"⟩ : MethodName) (head1 (Jvm.Cond.code (⟨"java/lang/String", "<init>", "([C)V"⟩ : MethodName) jdk_42_method_3_code 2 none :: ws) ({ frames := 2, cells := 2, slots := 4, locals := 29 } : Room)) (fun aa_ U => aa_ = #[(.ref a1), (.ref ca)] ∧ Z.Warmed39 U.vm ∧ U.heap = h0 ∧ IB Z U.vm []) (fun _ _ _ _ _ => True) (fun _ U o U' => ∃ v_ L_, o = .returned v_ ∧ Q2n0 Z a1 h0 n0 v_ U'.heap U'.vm L_ ∧ ReturnedEndW U o U' L_ ({ frames := 2, cells := 2, slots := 4, locals := 29 } : Room).cells ({ frames := 2, cells := 2, slots := 4, locals := 29 } : Room).slots) := by
  refine MetFree.of_bodySF (plainFor_of_name pn_2) hisR ?_
  intro p e s m args below meth c s₁ Bd hml0 hP hK
  obtain ⟨rfl, hZ, hh, hIb⟩ := hP
  have hx := Bd.exec
  have hby := Bd.bytes
  have hml : c.maxLocals = 2 := hml0
  have hown : s.vm.findClass "java/lang/String" = some m.cls := findClass_of_methodNamed Bd.named
  have hnm := (name_of_methodNamed Bd.named Bd.method).1
  have X0 : Stand p l e ({ frames := 2, cells := 2, slots := 4, locals := 29 } : Room) s m #[(.ref a1), (.ref ca)] below meth c s₁ [] 0 0 := Stand.of_body Bd
  have e0 : s₁.heap = h0 := by rw [← hh, Bd.state]; rfl
  have N0 := Fr.nil n0
  have pre0 : ∀ t, Steps p.tables e below (s₁.setTop (mkF m 0 #[.val (.ref a1), .val (.ref ca)] [])) t → Steps p.tables e below (s₁.setTop (entryFrame m #[(.ref a1), (.ref ca)] 2)) t := fun t k_ => castTop (ef_2n0 m a1 ca) k_
  obtain ⟨cc, Ac, Sc, Hc⟩ := CA
  have pre1 : ∀ t, Steps p.tables e below (s₁.setTop (mkF m 6 #[.val (.ref a1), .val (.ref ca)] [.null, (.int (0 : Int32)), (.int (0 : Int32)), (.ref ca), (.ref a1)])) t → Steps p.tables e below _ t := fun t kt => pre0 t (by
    show Steps p.tables e below (s₁.setTop (mkF m 0 #[.val (.ref a1), .val (.ref ca)] [])) _
    refine XS.aloadN X0.here hx rfl (hb hby d2_0) rfl rfl ?_
    show Steps p.tables e below (s₁.setTop (mkF m 1 #[.val (.ref a1), .val (.ref ca)] [(.ref a1)])) _
    refine XS.aloadN X0.here hx rfl (hb hby d2_1) rfl rfl ?_
    show Steps p.tables e below (s₁.setTop (mkF m 2 #[.val (.ref a1), .val (.ref ca)] [(.ref ca), (.ref a1)])) _
    refine XS.iconst X0.here hx rfl (hb hby d2_2) ?_
    show Steps p.tables e below (s₁.setTop (mkF m 3 #[.val (.ref a1), .val (.ref ca)] [(.int (0 : Int32)), (.ref ca), (.ref a1)])) _
    refine XS.aloadN X0.here hx rfl (hb hby d2_3) rfl rfl ?_
    show Steps p.tables e below (s₁.setTop (mkF m 4 #[.val (.ref a1), .val (.ref ca)] [(.ref ca), (.int (0 : Int32)), (.ref ca), (.ref a1)])) _
    refine X0.arraylength hx (by rw [e0]; exact Ac.1) (State.isArrayOf_alike hZ.alike Ac.2.1) (g := (mkF m 4 #[.val (.ref a1), .val (.ref ca)] [(.ref ca), (.int (0 : Int32)), (.ref ca), (.ref a1)])) rfl rfl (hb hby d2_4) _ ?_
    rw [len_of (by rw [Sc]; rfl : cc.slots.size = (0 : Int32).toNatClampNeg) (by decide)]
    show Steps p.tables e below (s₁.setTop (mkF m 5 #[.val (.ref a1), .val (.ref ca)] [(.int (0 : Int32)), (.int (0 : Int32)), (.ref ca), (.ref a1)])) _
    refine XS.aconstNull X0.here hx rfl (hb hby d2_5) ?_
    exact kt)
  obtain ⟨_, _, ⟨T2, L2, k2, n2⟩, -, Y2, Sj2, hg2, ⟨Lc2, hQ2, l2, y2, z2⟩, st2⟩ := Jvm.Stand.specialBackS (s := s.setVm s.vm) (show Stand p l e ({ frames := 2, cells := 2, slots := 4, locals := 29 } : Room) (s.setVm s.vm) m #[(.ref a1), (.ref ca)] below meth c s₁ _ _ _ from X0) hx (y := (⟨"java/lang/String", "<init>", "([CIILjava/lang/Void;)V"⟩ : MethodName)) rfl hown (mvT hZ (hw _ (List.mem_of_getElem? (i := 11) rfl))) (mvT hZ (hw _ (List.mem_of_getElem? (i := 12) rfl))) (mvT hZ (hw _ (List.mem_of_getElem? (i := 14) rfl))) (by decide) (own_backS (W := 0) (I := fun vm => IB Z vm []) (rm3n0 l Z a0 hw [] a1 ca h0 n0 Z0 Ea Fv Fc ga KZ hh7 hcw) hZ (hw _ (List.mem_of_getElem? (i := 14) rfl)) (hw _ (List.mem_of_getElem? (i := 7) rfl)) (by decide) (by decide)) (g := (mkF m 6 #[.val (.ref a1), .val (.ref ca)] [.null, (.int (0 : Int32)), (.int (0 : Int32)), (.ref ca), (.ref a1)])) rfl (by rw [hml]; rfl) (Steps.refl _) (a := a1) (argsL := [(.ref ca), (.int (0 : Int32)), (.int (0 : Int32)), .null]) (rest := []) (lenOf pd_13 rfl) rfl (by show 2 * 0 + _ ≤ _; exact Nat.le_of_eq rfl) (hb hby d2_6) (fun vm₁ hv => ⟨⟨rfl, e0, own_IB_warm (s := s.setVm s.vm) hIb hv⟩, (by decide : 0 + 2 ≤ _), (by decide : 0 + 4 ≤ _)⟩)
  dsimp only [Pt.U, Pt.locs, Pt.cells, Pt.slots] at Y2 Sj2 hg2 l2 y2 z2 st2 hQ2
  subst l2 y2 z2
  obtain ⟨rfl, N2q, Kq, Sq⟩ := hQ2
  have N2 := Fr.app N0 N2q
  obtain ⟨X2, Si2, hz2, how2⟩ := rebS (s := s) (vm0 := s.vm) (State.WarmedH.since (State.WarmedH.refl s) 0) (Nat.zero_le _) Y2 Sj2 hg2 hZ hown
  obtain ⟨fs, hr, hrun, hended, -, hW, hI, hsame⟩ := X2.leaveW Si2 (Nat.le_refl _) (v := none) (fun _ => rfl)
  refine ⟨_, _, pre1 _ ?_, hrun, hended, _, _, rfl, ?_, ⟨_, rfl⟩, hW, hI, hsame.mono (by decide) (by decide)⟩
  · show Steps p.tables e below (s₁.setTop (mkF m 6 #[.val (.ref a1), .val (.ref ca)] [.null, (.int (0 : Int32)), (.int (0 : Int32)), (.ref ca), (.ref a1)])) _
    refine st2.trans ?_
    show Steps p.tables e below (T2.setTop (mkF m 9 #[.val (.ref a1), .val (.ref ca)] [])) _
    exact X2.returnOut hx Bd.returns (hb hby d2_9) hr
  · exact ⟨rfl, N2, Kq, Sq⟩
def own_tkf (j : Nat) : Int32 := if j < 33 then 0 else if j < 34 then 1 else if j < 35 then 0 else if j < 40 then 1 else if j < 41 then 0 else if j < 42 then 0 else if j < 43 then 1 else if j < 44 then 1 else if j < 45 then 0 else if j < 46 then 1 else if j < 47 then 1 else if j < 48 then 0 else if j < 58 then 1 else if j < 65 then 0 else if j < 91 then 1 else if j < 92 then 0 else if j < 93 then 0 else if j < 94 then 0 else if j < 123 then 1 else if j < 124 then 0 else if j < 125 then 1 else if j < 126 then 0 else if j < 127 then 1 else if j < 256 then 0 else 0

theorem own_tchk : ∀ k, k < 256 → own_tchar (Int32.ofNat k) = own_tkf k := by decide +kernel
theorem own_tkf01 : ∀ k, k < 256 → own_tkf k = 0 ∨ own_tkf k = 1 := by decide +kernel
theorem own_tchbig {c : Int32} (h : ¬ (c < (256 : Int32))) : own_tchar c = 0 := by
  have k256 : (256 : Int32).toInt = 256 := by decide
  rw [Int32.lt_iff_toInt_lt, k256] at h
  have L : ∀ z : Int32, z.toInt < 256 → ¬ (c < z) := fun z hz => by rw [Int32.lt_iff_toInt_lt]; omega
  have G : ∀ z : Int32, z.toInt < 256 → z < c := fun z hz => by rw [Int32.lt_iff_toInt_lt]; omega
  have N : ∀ z : Int32, z.toInt < 256 → ¬ (c = z) := fun z hz q => by subst q; omega
  unfold own_tchar
  simp only [if_neg (L 48 (by decide)), if_neg (L 65 (by decide)), if_neg (L 97 (by decide)), if_pos (G 57 (by decide)), if_pos (G 90 (by decide)), if_pos (G 122 (by decide)), if_neg (N 33 (by decide)), if_neg (N 35 (by decide)), if_neg (N 36 (by decide)), if_neg (N 37 (by decide)), if_neg (N 38 (by decide)), if_neg (N 39 (by decide)), if_neg (N 42 (by decide)), if_neg (N 43 (by decide)), if_neg (N 45 (by decide)), if_neg (N 46 (by decide)), if_neg (N 94 (by decide)), if_neg (N 95 (by decide)), if_neg (N 96 (by decide)), if_neg (N 124 (by decide)), if_neg (N 126 (by decide))]
theorem own_St_exa {Z : State} {h : Heap} {a : Addr} {n : Nat} {f : Nat → Int32} (S : own_St Z h a n f) : Exa Z h a "java/lang/String" := by
  rcases S with ⟨b, E, -⟩ | ⟨b, E, -⟩ <;> exact E
theorem own_k256 {c : Int32} (h1 : 0 ≤ c.toInt) (h2 : c < (256 : Int32)) : ∃ k : Nat, c = Int32.ofNat k ∧ k < 256 := by
  have k256 : (256 : Int32).toInt = 256 := by decide
  rw [Int32.lt_iff_toInt_lt, k256] at h2
  exact ⟨c.toInt.toNat, own_isN (by omega) (by omega), by omega⟩
theorem d5_15 : decode prog_7_method_8_code 15 = .ok (.iload_n 2, 1) := by decide +kernel
theorem d5_16 : decode prog_7_method_8_code 16 = .ok (.aload_n 0, 1) := by decide +kernel
theorem pd_14 : parseMethodDescriptor "()I" = some ⟨[], some .int⟩ := by decide +kernel
theorem d5_17 : decode prog_7_method_8_code 17 = .ok (.invokevirtual 112, 3) := by decide +kernel
theorem d5_20 : decode prog_7_method_8_code 20 = .ok (.if_icmp .ge 41, 3) := by decide +kernel
theorem d5_23 : decode prog_7_method_8_code 23 = .ok (.iload_n 1, 1) := by decide +kernel
theorem d5_24 : decode prog_7_method_8_code 24 = .ok (.ifCond .eq 37, 3) := by decide +kernel
theorem d5_27 : decode prog_7_method_8_code 27 = .ok (.aload_n 0, 1) := by decide +kernel
theorem d5_28 : decode prog_7_method_8_code 28 = .ok (.iload_n 2, 1) := by decide +kernel
theorem pd_15 : parseMethodDescriptor "(I)C" = some ⟨[.int], some .char⟩ := by decide +kernel
theorem d5_29 : decode prog_7_method_8_code 29 = .ok (.invokevirtual 116, 3) := by decide +kernel
theorem d5_32 : decode prog_7_method_8_code 32 = .ok (.istore_n 3, 1) := by decide +kernel
theorem d5_33 : decode prog_7_method_8_code 33 = .ok (.iload_n 3, 1) := by decide +kernel
theorem d5_34 : decode prog_7_method_8_code 34 = .ok (.getstatic 62, 3) := by decide +kernel
theorem d5_37 : decode prog_7_method_8_code 37 = .ok (.arraylength, 1) := by decide +kernel
theorem d5_38 : decode prog_7_method_8_code 38 = .ok (.if_icmp .ge 15, 3) := by decide +kernel
theorem d5_41 : decode prog_7_method_8_code 41 = .ok (.getstatic 62, 3) := by decide +kernel
theorem d5_44 : decode prog_7_method_8_code 44 = .ok (.iload_n 3, 1) := by decide +kernel
theorem d5_45 : decode prog_7_method_8_code 45 = .ok (.baload, 1) := by decide +kernel
theorem d5_46 : decode prog_7_method_8_code 46 = .ok (.ifCond .eq 7, 3) := by decide +kernel
theorem d5_53 : decode prog_7_method_8_code 53 = .ok (.iconst 0, 1) := by decide +kernel
theorem d5_54 : decode prog_7_method_8_code 54 = .ok (.istore_n 1, 1) := by decide +kernel
theorem d5_55 : decode prog_7_method_8_code 55 = .ok (.iinc 2 1, 3) := by decide +kernel
theorem d5_58 : decode prog_7_method_8_code 58 = .ok (.goto (-43), 3) := by decide +kernel
theorem d5_49 : decode prog_7_method_8_code 49 = .ok (.iconst 1, 1) := by decide +kernel
theorem d5_50 : decode prog_7_method_8_code 50 = .ok (.goto 4, 3) := by decide +kernel
set_option maxRecDepth 65536 in
set_option maxHeartbeats 40000000 in
theorem own_turn5 {p : Program} {l : Launch} {e : Env} {s : State} {m : MethodId} {args : Array Value} {below : List Frame} {meth : Method} {c : Code} {T0 : State} {locs : List Loc} {Z : State} {a0 : Array Value} {h0 : Heap} {n0 : Nat} (a ta : Addr) (n i : Nat) (f : Nat → Int32) (G1 : Int32) (G3 : Value) (s3 : Slot)
    (X0 : Stand p l e ({ frames := 5, cells := 0, slots := 0, locals := 66 } : Room) s m args below meth c T0 locs 0 0) (hx : p.tables.exec = Jvm.exec) (hZ : Z.Warmed39 s.vm) (hw : ∀ d ∈ tables_1, d.before a0 Z = true) (hby : c.code = prog_7_method_8_code) (hml : c.maxLocals = 4) (hown : s.vm.findClass "com/example/firm_warden/firmwarden/HeaderFields" = some m.cls) (e0 : T0.heap = h0) (N0 : Fr n0 locs) (Z0 : n0 ≤ h0.size) (hs3 : One s3) (hi : i < n) (rG3 : G3.isRef = true) (O4 : Sta Z h0 "jdk/internal/util/Preconditions" "SIOOBE_FORMATTER" "Ljava/util/function/BiFunction;" G3) (O2 : Sta Z h0 "java/lang/String" "COMPACT_STRINGS" "Z" (.int G1)) (P5 : ¬ (G1 = (0 : Int32))) (AD : Sta Z h0 "java/lang/StringUTF16" "$assertionsDisabled" "Z" (.int (1 : Int32))) (HB : Sta Z h0 "java/lang/StringUTF16" "HI_BYTE_SHIFT" "I" (.int (0 : Int32))) (LB : Sta Z h0 "java/lang/StringUTF16" "LO_BYTE_SHIFT" "I" (.int (8 : Int32))) (S : own_St Z h0 a n f) (hn : n ≤ 4) (hf : ∀ j, j < n → 0 ≤ (f j).toInt ∧ (f j).toInt < 65536) (TS : Sta Z h0 "com/example/firm_warden/firmwarden/HeaderFields" "TOKEN" "[Z" (.ref ta)) (TA : own_A Z h0 ta .boolean 256 own_tkf) :
    ∃ (T' : State) (locs' : List Loc) (v : Int32), Stand p l e ({ frames := 5, cells := 0, slots := 0, locals := 66 } : Room) s m args below meth c T' locs' 0 0 ∧ T'.heap = h0 ∧ Fr n0 locs' ∧ (v = 0 ∨ v = 1) ∧ own_tchar (f i) = v ∧
      ∀ t, Steps p.tables e below (T'.setTop (mkF m 15 #[.val (.ref a), .val (.int v), .val (.int (Int32.ofNat (i + 1))), .val (.int (f i))] [])) t → Steps p.tables e below (T0.setTop (mkF m 15 #[.val (.ref a), .val (.int (1 : Int32)), .val (.int (Int32.ofNat i)), s3] [])) t := by
  have pre0 : ∀ t, Steps p.tables e below (T0.setTop (mkF m 15 #[.val (.ref a), .val (.int (1 : Int32)), .val (.int (Int32.ofNat i)), s3] [])) t → Steps p.tables e below (T0.setTop (mkF m 15 #[.val (.ref a), .val (.int (1 : Int32)), .val (.int (Int32.ofNat i)), s3] [])) t := fun t k => k
  have Ea := own_St_exa S
  have pre1 : ∀ t, Steps p.tables e below (T0.setTop (mkF m 17 #[.val (.ref a), .val (.int (1 : Int32)), .val (.int (Int32.ofNat i)), s3] [(.ref a), (.int (Int32.ofNat i))])) t → Steps p.tables e below _ t := fun t kt => pre0 t (by
    show Steps p.tables e below (T0.setTop (mkF m 15 #[.val (.ref a), .val (.int (1 : Int32)), .val (.int (Int32.ofNat i)), s3] [])) _
    refine XS.iloadN X0.here hx rfl (hb hby d5_15) rfl ?_
    show Steps p.tables e below (T0.setTop (mkF m 16 #[.val (.ref a), .val (.int (1 : Int32)), .val (.int (Int32.ofNat i)), s3] [(.int (Int32.ofNat i))])) _
    refine XS.aloadN X0.here hx rfl (hb hby d5_16) rfl rfl ?_
    exact kt)
  obtain ⟨cq2, kq2, q2a, q2b, q2c⟩ := isOf hZ e0 Ea
  obtain ⟨_, _, ⟨T2, L2, k2, n2⟩, -, X2, ⟨Lc2, hQ2, l2, y2, z2⟩, st2⟩ := X0.virtualBack hx (y := (⟨"java/lang/String", "length", "()I"⟩ : MethodName)) (z := (⟨"java/lang/String", "length", "()I"⟩ : MethodName)) hown (mvT hZ (hw _ (List.mem_of_getElem? (i := 35) rfl))) (mvT hZ (hw _ (List.mem_of_getElem? (i := 36) rfl))) (notFace_of_selects (args := #[]) (mvT hZ (hw _ (List.mem_of_getElem? (i := 38) rfl)))) (mvT hZ (hw _ (List.mem_of_getElem? (i := 38) rfl))) (mvT hZ (hw _ (List.mem_of_getElem? (i := 37) rfl))) (by decide) (backOf (W := 1) (rm7 l Z a0 hw [] a n f G1 h0 n0 Z0 O2 P5 S hn) hZ (hw _ (List.mem_of_getElem? (i := 39) rfl)) (hw _ (List.mem_of_getElem? (i := 7) rfl)) (by decide) (by decide)) q2a q2c (g := (mkF m 17 #[.val (.ref a), .val (.int (1 : Int32)), .val (.int (Int32.ofNat i)), s3] [(.ref a), (.int (Int32.ofNat i))])) rfl (by rw [hml]; rfl) (Steps.refl _) (argsL := []) (rest := [(.int (Int32.ofNat i))]) (lenOf pd_14 rfl) rfl (by show 2 * 0 + _ ≤ _; exact Nat.le_of_eq rfl) (hb hby d5_17) (fun _ _ => ⟨rfl, e0, (by decide : 0 + 0 ≤ _), (by decide : 0 + 0 ≤ _)⟩)
  dsimp only [Pt.U, Pt.locs, Pt.cells, Pt.slots] at X2 l2 y2 z2 st2 hQ2
  subst l2 y2 z2
  obtain ⟨rfl, N2q, e2⟩ := hQ2
  have N2 := Fr.app N0 N2q
  have pre3 : ∀ t, Steps p.tables e below (T2.setTop (mkF m 29 #[.val (.ref a), .val (.int (1 : Int32)), .val (.int (Int32.ofNat i)), s3] [(.int (Int32.ofNat i)), (.ref a)])) t → Steps p.tables e below _ t := fun t kt => pre1 t (by
    show Steps p.tables e below (T0.setTop (mkF m 17 #[.val (.ref a), .val (.int (1 : Int32)), .val (.int (Int32.ofNat i)), s3] [(.ref a), (.int (Int32.ofNat i))])) _
    refine st2.trans ?_
    have hc20 : (Int32.ofNat i) < (Int32.ofNat n) := own_lt hi (by omega)
    show Steps p.tables e below (T2.setTop (mkF m 20 #[.val (.ref a), .val (.int (1 : Int32)), .val (.int (Int32.ofNat i)), s3] [(.int (Int32.ofNat n)), (.int (Int32.ofNat i))])) _
    refine XS.icmpNo X2.here hx rfl (hb hby d5_20) rfl (tlt hc20).2.1 ?_
    show Steps p.tables e below (T2.setTop (mkF m 23 #[.val (.ref a), .val (.int (1 : Int32)), .val (.int (Int32.ofNat i)), s3] [])) _
    refine XS.iloadN X2.here hx rfl (hb hby d5_23) rfl ?_
    have hc24 : ¬ ((1 : Int32) = (0 : Int32)) := by decide
    show Steps p.tables e below (T2.setTop (mkF m 24 #[.val (.ref a), .val (.int (1 : Int32)), .val (.int (Int32.ofNat i)), s3] [(.int (1 : Int32))])) _
    refine XS.ifNo X2.here hx rfl (hb hby d5_24) rfl ((if0 _ _).trans (feq hc24).1) ?_
    show Steps p.tables e below (T2.setTop (mkF m 27 #[.val (.ref a), .val (.int (1 : Int32)), .val (.int (Int32.ofNat i)), s3] [])) _
    refine XS.aloadN X2.here hx rfl (hb hby d5_27) rfl rfl ?_
    show Steps p.tables e below (T2.setTop (mkF m 28 #[.val (.ref a), .val (.int (1 : Int32)), .val (.int (Int32.ofNat i)), s3] [(.ref a)])) _
    refine XS.iloadN X2.here hx rfl (hb hby d5_28) rfl ?_
    exact kt)
  obtain ⟨cq4, kq4, q4a, q4b, q4c⟩ := isOf hZ e2 Ea
  obtain ⟨_, _, ⟨T4, L4, k4, n4⟩, -, X4, ⟨Lc4, hQ4, l4, y4, z4⟩, st4⟩ := X2.virtualBack hx (y := (⟨"java/lang/String", "charAt", "(I)C"⟩ : MethodName)) (z := (⟨"java/lang/String", "charAt", "(I)C"⟩ : MethodName)) hown (mvT hZ (hw _ (List.mem_of_getElem? (i := 59) rfl))) (mvT hZ (hw _ (List.mem_of_getElem? (i := 60) rfl))) (notFace_of_selects (args := #[]) (mvT hZ (hw _ (List.mem_of_getElem? (i := 62) rfl)))) (mvT hZ (hw _ (List.mem_of_getElem? (i := 62) rfl))) (mvT hZ (hw _ (List.mem_of_getElem? (i := 61) rfl))) (by decide) (backOf (W := 0) (rm13 l Z a0 hw [] a i n f G1 G3 h0 n0 Z0 rG3 O4 O2 P5 AD HB LB S hn hf hi) hZ (hw _ (List.mem_of_getElem? (i := 63) rfl)) (hw _ (List.mem_of_getElem? (i := 7) rfl)) (by decide) (by decide)) q4a q4c (g := (mkF m 29 #[.val (.ref a), .val (.int (1 : Int32)), .val (.int (Int32.ofNat i)), s3] [(.int (Int32.ofNat i)), (.ref a)])) rfl (by rw [hml]; rfl) (Steps.refl _) (argsL := [(.int (Int32.ofNat i))]) (rest := []) (lenOf pd_15 rfl) rfl (by show 2 * 0 + _ ≤ _; exact Nat.le_of_eq rfl) (hb hby d5_29) (fun _ _ => ⟨rfl, e2, (by decide : 0 + 0 ≤ _), (by decide : 0 + 0 ≤ _)⟩)
  dsimp only [Pt.U, Pt.locs, Pt.cells, Pt.slots] at X4 l4 y4 z4 st4 hQ4
  subst l4 y4 z4
  obtain ⟨rfl, N4q, e4⟩ := hQ4
  have N4 := Fr.app N2 N4q
  have pre5 : ∀ t, Steps p.tables e below (T4.setTop (mkF m 34 #[.val (.ref a), .val (.int (1 : Int32)), .val (.int (Int32.ofNat i)), .val (.int (f i))] [(.int (f i))])) t → Steps p.tables e below _ t := fun t kt => pre3 t (by
    show Steps p.tables e below (T2.setTop (mkF m 29 #[.val (.ref a), .val (.int (1 : Int32)), .val (.int (Int32.ofNat i)), s3] [(.int (Int32.ofNat i)), (.ref a)])) _
    refine st4.trans ?_
    show Steps p.tables e below (T4.setTop (mkF m 32 #[.val (.ref a), .val (.int (1 : Int32)), .val (.int (Int32.ofNat i)), s3] [(.int (f i))])) _
    refine XS.istoreN X4.here hx rfl (hb hby d5_32) rfl (l' := #[.val (.ref a), .val (.int (1 : Int32)), .val (.int (Int32.ofNat i)), .val (.int (f i))]) (own_os3 hs3) ?_
    show Steps p.tables e below (T4.setTop (mkF m 33 #[.val (.ref a), .val (.int (1 : Int32)), .val (.int (Int32.ofNat i)), .val (.int (f i))] [])) _
    refine XS.iloadN X4.here hx rfl (hb hby d5_33) rfl ?_
    exact kt)
  obtain ⟨T6, X6, e6, st6⟩ := getS X4 hx hZ hown (hw _ (List.mem_of_getElem? (i := 81) rfl)) Via.refl e4 TS (g := (mkF m 34 #[.val (.ref a), .val (.int (1 : Int32)), .val (.int (Int32.ofNat i)), .val (.int (f i))] [(.int (f i))])) rfl (hb hby d5_34) (host := "")
  have pre7 : ∀ t, Steps p.tables e below (T6.setTop (mkF m 37 #[.val (.ref a), .val (.int (1 : Int32)), .val (.int (Int32.ofNat i)), .val (.int (f i))] [(.ref ta), (.int (f i))])) t → Steps p.tables e below _ t := fun t kt => pre5 t (by
    show Steps p.tables e below (T4.setTop (mkF m 34 #[.val (.ref a), .val (.int (1 : Int32)), .val (.int (Int32.ofNat i)), .val (.int (f i))] [(.int (f i))])) _
    refine st6 _ ?_
    exact kt)
  obtain ⟨ct, At, Stt, Ht⟩ := id TA
  have pre8 : ∀ t, Steps p.tables e below (T6.setTop (mkF m 38 #[.val (.ref a), .val (.int (1 : Int32)), .val (.int (Int32.ofNat i)), .val (.int (f i))] [(.int (256 : Int32)), (.int (f i))])) t → Steps p.tables e below _ t := fun t kt => pre7 t (by
    show Steps p.tables e below (T6.setTop (mkF m 37 #[.val (.ref a), .val (.int (1 : Int32)), .val (.int (Int32.ofNat i)), .val (.int (f i))] [(.ref ta), (.int (f i))])) _
    refine X6.arraylength hx (by rw [e6]; exact At.1) (State.isArrayOf_alike hZ.alike At.2.1) (g := (mkF m 37 #[.val (.ref a), .val (.int (1 : Int32)), .val (.int (Int32.ofNat i)), .val (.int (f i))] [(.ref ta), (.int (f i))])) rfl rfl (hb hby d5_37) _ ?_
    rw [len_of (by rw [Stt]; rfl : ct.slots.size = (256 : Int32).toNatClampNeg) (by decide)]
    exact kt)
  by_cases hc38 : (f i) < (256 : Int32)
  · have pre9 : ∀ t, Steps p.tables e below (T6.setTop (mkF m 41 #[.val (.ref a), .val (.int (1 : Int32)), .val (.int (Int32.ofNat i)), .val (.int (f i))] [])) t → Steps p.tables e below _ t := fun t kt => pre8 t (by
      show Steps p.tables e below (T6.setTop (mkF m 38 #[.val (.ref a), .val (.int (1 : Int32)), .val (.int (Int32.ofNat i)), .val (.int (f i))] [(.int (256 : Int32)), (.int (f i))])) _
      refine XS.icmpNo X6.here hx rfl (hb hby d5_38) rfl (tlt hc38).2.1 ?_
      exact kt)
    obtain ⟨T10, X10, e10, st10⟩ := getS X6 hx hZ hown (hw _ (List.mem_of_getElem? (i := 81) rfl)) Via.refl e6 TS (g := (mkF m 41 #[.val (.ref a), .val (.int (1 : Int32)), .val (.int (Int32.ofNat i)), .val (.int (f i))] [])) rfl (hb hby d5_41) (host := "")
    have pre11 : ∀ t, Steps p.tables e below (T10.setTop (mkF m 45 #[.val (.ref a), .val (.int (1 : Int32)), .val (.int (Int32.ofNat i)), .val (.int (f i))] [(.int (f i)), (.ref ta)])) t → Steps p.tables e below _ t := fun t kt => pre9 t (by
      show Steps p.tables e below (T6.setTop (mkF m 41 #[.val (.ref a), .val (.int (1 : Int32)), .val (.int (Int32.ofNat i)), .val (.int (f i))] [])) _
      refine st10 _ ?_
      show Steps p.tables e below (T10.setTop (mkF m 44 #[.val (.ref a), .val (.int (1 : Int32)), .val (.int (Int32.ofNat i)), .val (.int (f i))] [(.ref ta)])) _
      refine XS.iloadN X10.here hx rfl (hb hby d5_44) rfl ?_
      exact kt)
    obtain ⟨kk, hkk, bkk⟩ := own_k256 (hf i hi).1 hc38
    have pre12 : ∀ t, Steps p.tables e below (T10.setTop (mkF m 46 #[.val (.ref a), .val (.int (1 : Int32)), .val (.int (Int32.ofNat i)), .val (.int (f i))] [(.int (own_tkf kk))])) t → Steps p.tables e below _ t := fun t kt => pre11 t (by
      show Steps p.tables e below (T10.setTop (mkF m 45 #[.val (.ref a), .val (.int (1 : Int32)), .val (.int (Int32.ofNat i)), .val (.int (f i))] [(.int (f i)), (.ref ta)])) _
      refine X10.baloadBooleans hx (j := (f i)) (v := (.int (own_tkf kk))) (by rw [e10]; exact At.1) (State.isArrayOf_alike hZ.alike At.2.1) At.2.2 (within (c := kk) hkk (by omega) (by omega)) (by rw [clamp_of (c := kk) hkk (by omega)]; exact Ht _ bkk) (g := (mkF m 45 #[.val (.ref a), .val (.int (1 : Int32)), .val (.int (Int32.ofNat i)), .val (.int (f i))] [(.int (f i)), (.ref ta)])) rfl rfl (hb hby d5_45) _ ?_
      exact kt)
    by_cases hc46 : (own_tkf kk) = (0 : Int32)
    · have pre13 : ∀ t, Steps p.tables e below (T10.setTop (mkF m 15 #[.val (.ref a), .val (.int (0 : Int32)), .val (.int ((Int32.ofNat i) + (1 : Int32))), .val (.int (f i))] [])) t → Steps p.tables e below _ t := fun t kt => pre12 t (by
        show Steps p.tables e below (T10.setTop (mkF m 46 #[.val (.ref a), .val (.int (1 : Int32)), .val (.int (Int32.ofNat i)), .val (.int (f i))] [(.int (own_tkf kk))])) _
        refine XS.ifYes X10.here hx rfl (pc0 := 46) (pc' := 53) rfl (hb hby d5_46) rfl ((if0 _ _).trans (teq hc46).1) (by decide) (by decide) ?_
        show Steps p.tables e below (T10.setTop (mkF m 53 #[.val (.ref a), .val (.int (1 : Int32)), .val (.int (Int32.ofNat i)), .val (.int (f i))] [])) _
        refine XS.iconst X10.here hx rfl (hb hby d5_53) ?_
        show Steps p.tables e below (T10.setTop (mkF m 54 #[.val (.ref a), .val (.int (1 : Int32)), .val (.int (Int32.ofNat i)), .val (.int (f i))] [(.int (0 : Int32))])) _
        refine XS.istoreN X10.here hx rfl (hb hby d5_54) rfl (l' := #[.val (.ref a), .val (.int (0 : Int32)), .val (.int (Int32.ofNat i)), .val (.int (f i))]) rfl ?_
        show Steps p.tables e below (T10.setTop (mkF m 55 #[.val (.ref a), .val (.int (0 : Int32)), .val (.int (Int32.ofNat i)), .val (.int (f i))] [])) _
        refine XS.iinc X10.here hx rfl (hb hby d5_55) rfl (l' := #[.val (.ref a), .val (.int (0 : Int32)), .val (.int ((Int32.ofNat i) + (1 : Int32))), .val (.int (f i))]) rfl ?_
        show Steps p.tables e below (T10.setTop (mkF m 58 #[.val (.ref a), .val (.int (0 : Int32)), .val (.int ((Int32.ofNat i) + (1 : Int32))), .val (.int (f i))] [])) _
        refine XS.goto X10.here hx rfl (pc0 := 58) (pc' := 15) rfl (hb hby d5_58) (by decide) (by decide) ?_
        exact kt)
      have hv14 : ((Int32.ofNat i) + (1 : Int32)) = (Int32.ofNat (i + 1)) := (inc_ofNat i).symm
      rw [hv14] at pre13
      exact ⟨T10, _, (0 : Int32), X10, e10, N4, Or.inl rfl, (by rw [hkk, own_tchk kk bkk]; exact hc46), pre13⟩
    · have pre15 : ∀ t, Steps p.tables e below (T10.setTop (mkF m 15 #[.val (.ref a), .val (.int (1 : Int32)), .val (.int ((Int32.ofNat i) + (1 : Int32))), .val (.int (f i))] [])) t → Steps p.tables e below _ t := fun t kt => pre12 t (by
        show Steps p.tables e below (T10.setTop (mkF m 46 #[.val (.ref a), .val (.int (1 : Int32)), .val (.int (Int32.ofNat i)), .val (.int (f i))] [(.int (own_tkf kk))])) _
        refine XS.ifNo X10.here hx rfl (hb hby d5_46) rfl ((if0 _ _).trans (feq hc46).1) ?_
        show Steps p.tables e below (T10.setTop (mkF m 49 #[.val (.ref a), .val (.int (1 : Int32)), .val (.int (Int32.ofNat i)), .val (.int (f i))] [])) _
        refine XS.iconst X10.here hx rfl (hb hby d5_49) ?_
        show Steps p.tables e below (T10.setTop (mkF m 50 #[.val (.ref a), .val (.int (1 : Int32)), .val (.int (Int32.ofNat i)), .val (.int (f i))] [(.int (1 : Int32))])) _
        refine XS.goto X10.here hx rfl (pc0 := 50) (pc' := 54) rfl (hb hby d5_50) (by decide) (by decide) ?_
        show Steps p.tables e below (T10.setTop (mkF m 54 #[.val (.ref a), .val (.int (1 : Int32)), .val (.int (Int32.ofNat i)), .val (.int (f i))] [(.int (1 : Int32))])) _
        refine XS.istoreN X10.here hx rfl (hb hby d5_54) rfl (l' := #[.val (.ref a), .val (.int (1 : Int32)), .val (.int (Int32.ofNat i)), .val (.int (f i))]) rfl ?_
        show Steps p.tables e below (T10.setTop (mkF m 55 #[.val (.ref a), .val (.int (1 : Int32)), .val (.int (Int32.ofNat i)), .val (.int (f i))] [])) _
        refine XS.iinc X10.here hx rfl (hb hby d5_55) rfl (l' := #[.val (.ref a), .val (.int (1 : Int32)), .val (.int ((Int32.ofNat i) + (1 : Int32))), .val (.int (f i))]) rfl ?_
        show Steps p.tables e below (T10.setTop (mkF m 58 #[.val (.ref a), .val (.int (1 : Int32)), .val (.int ((Int32.ofNat i) + (1 : Int32))), .val (.int (f i))] [])) _
        refine XS.goto X10.here hx rfl (pc0 := 58) (pc' := 15) rfl (hb hby d5_58) (by decide) (by decide) ?_
        exact kt)
      have hv16 : ((Int32.ofNat i) + (1 : Int32)) = (Int32.ofNat (i + 1)) := (inc_ofNat i).symm
      rw [hv16] at pre15
      exact ⟨T10, _, (1 : Int32), X10, e10, N4, Or.inr rfl, (by rw [hkk, own_tchk kk bkk]; exact (own_tkf01 kk bkk).resolve_left hc46), pre15⟩
  · have pre17 : ∀ t, Steps p.tables e below (T6.setTop (mkF m 15 #[.val (.ref a), .val (.int (0 : Int32)), .val (.int ((Int32.ofNat i) + (1 : Int32))), .val (.int (f i))] [])) t → Steps p.tables e below _ t := fun t kt => pre8 t (by
      show Steps p.tables e below (T6.setTop (mkF m 38 #[.val (.ref a), .val (.int (1 : Int32)), .val (.int (Int32.ofNat i)), .val (.int (f i))] [(.int (256 : Int32)), (.int (f i))])) _
      refine XS.icmpYes X6.here hx rfl (pc0 := 38) (pc' := 53) rfl (hb hby d5_38) rfl (flt hc38).2.1 (by decide) (by decide) ?_
      show Steps p.tables e below (T6.setTop (mkF m 53 #[.val (.ref a), .val (.int (1 : Int32)), .val (.int (Int32.ofNat i)), .val (.int (f i))] [])) _
      refine XS.iconst X6.here hx rfl (hb hby d5_53) ?_
      show Steps p.tables e below (T6.setTop (mkF m 54 #[.val (.ref a), .val (.int (1 : Int32)), .val (.int (Int32.ofNat i)), .val (.int (f i))] [(.int (0 : Int32))])) _
      refine XS.istoreN X6.here hx rfl (hb hby d5_54) rfl (l' := #[.val (.ref a), .val (.int (0 : Int32)), .val (.int (Int32.ofNat i)), .val (.int (f i))]) rfl ?_
      show Steps p.tables e below (T6.setTop (mkF m 55 #[.val (.ref a), .val (.int (0 : Int32)), .val (.int (Int32.ofNat i)), .val (.int (f i))] [])) _
      refine XS.iinc X6.here hx rfl (hb hby d5_55) rfl (l' := #[.val (.ref a), .val (.int (0 : Int32)), .val (.int ((Int32.ofNat i) + (1 : Int32))), .val (.int (f i))]) rfl ?_
      show Steps p.tables e below (T6.setTop (mkF m 58 #[.val (.ref a), .val (.int (0 : Int32)), .val (.int ((Int32.ofNat i) + (1 : Int32))), .val (.int (f i))] [])) _
      refine XS.goto X6.here hx rfl (pc0 := 58) (pc' := 15) rfl (hb hby d5_58) (by decide) (by decide) ?_
      exact kt)
    have hv18 : ((Int32.ofNat i) + (1 : Int32)) = (Int32.ofNat (i + 1)) := (inc_ofNat i).symm
    rw [hv18] at pre17
    exact ⟨T6, _, (0 : Int32), X6, e6, N4, Or.inl rfl, own_tchbig hc38, pre17⟩
set_option maxRecDepth 65536 in
set_option maxHeartbeats 40000000 in
theorem own_out0 {p : Program} {l : Launch} {e : Env} {s : State} {m : MethodId} {args : Array Value} {below : List Frame} {meth : Method} {c : Code} {T0 : State} {locs : List Loc} {Z : State} {a0 : Array Value} {h0 : Heap} {n0 : Nat} (a ta : Addr) (n i : Nat) (f : Nat → Int32) (G1 : Int32) (G3 : Value) (s3 : Slot)
    (X0 : Stand p l e ({ frames := 5, cells := 0, slots := 0, locals := 66 } : Room) s m args below meth c T0 locs 0 0) (hx : p.tables.exec = Jvm.exec) (hZ : Z.Warmed39 s.vm) (hw : ∀ d ∈ tables_1, d.before a0 Z = true) (hby : c.code = prog_7_method_8_code) (hml : c.maxLocals = 4) (hown : s.vm.findClass "com/example/firm_warden/firmwarden/HeaderFields" = some m.cls) (e0 : T0.heap = h0) (N0 : Fr n0 locs) (Z0 : n0 ≤ h0.size) (hi : i ≤ n) (rG3 : G3.isRef = true) (O4 : Sta Z h0 "jdk/internal/util/Preconditions" "SIOOBE_FORMATTER" "Ljava/util/function/BiFunction;" G3) (O2 : Sta Z h0 "java/lang/String" "COMPACT_STRINGS" "Z" (.int G1)) (P5 : ¬ (G1 = (0 : Int32))) (AD : Sta Z h0 "java/lang/StringUTF16" "$assertionsDisabled" "Z" (.int (1 : Int32))) (HB : Sta Z h0 "java/lang/StringUTF16" "HI_BYTE_SHIFT" "I" (.int (0 : Int32))) (LB : Sta Z h0 "java/lang/StringUTF16" "LO_BYTE_SHIFT" "I" (.int (8 : Int32))) (S : own_St Z h0 a n f) (hn : n ≤ 4) (hf : ∀ j, j < n → 0 ≤ (f j).toInt ∧ (f j).toInt < 65536) (TS : Sta Z h0 "com/example/firm_warden/firmwarden/HeaderFields" "TOKEN" "[Z" (.ref ta)) (TA : own_A Z h0 ta .boolean 256 own_tkf) :
    ∃ (T' : State) (locs' : List Loc), Stand p l e ({ frames := 5, cells := 0, slots := 0, locals := 66 } : Room) s m args below meth c T' locs' 0 0 ∧ T'.heap = h0 ∧ Fr n0 locs' ∧
      ∀ t, Steps p.tables e below (T'.setTop (mkF m 61 #[.val (.ref a), .val (.int (0 : Int32)), .val (.int (Int32.ofNat i)), s3] [])) t → Steps p.tables e below (T0.setTop (mkF m 15 #[.val (.ref a), .val (.int (0 : Int32)), .val (.int (Int32.ofNat i)), s3] [])) t := by
  have pre0 : ∀ t, Steps p.tables e below (T0.setTop (mkF m 15 #[.val (.ref a), .val (.int (0 : Int32)), .val (.int (Int32.ofNat i)), s3] [])) t → Steps p.tables e below (T0.setTop (mkF m 15 #[.val (.ref a), .val (.int (0 : Int32)), .val (.int (Int32.ofNat i)), s3] [])) t := fun t k => k
  have Ea := own_St_exa S
  have pre1 : ∀ t, Steps p.tables e below (T0.setTop (mkF m 17 #[.val (.ref a), .val (.int (0 : Int32)), .val (.int (Int32.ofNat i)), s3] [(.ref a), (.int (Int32.ofNat i))])) t → Steps p.tables e below _ t := fun t kt => pre0 t (by
    show Steps p.tables e below (T0.setTop (mkF m 15 #[.val (.ref a), .val (.int (0 : Int32)), .val (.int (Int32.ofNat i)), s3] [])) _
    refine XS.iloadN X0.here hx rfl (hb hby d5_15) rfl ?_
    show Steps p.tables e below (T0.setTop (mkF m 16 #[.val (.ref a), .val (.int (0 : Int32)), .val (.int (Int32.ofNat i)), s3] [(.int (Int32.ofNat i))])) _
    refine XS.aloadN X0.here hx rfl (hb hby d5_16) rfl rfl ?_
    exact kt)
  obtain ⟨cq2, kq2, q2a, q2b, q2c⟩ := isOf hZ e0 Ea
  obtain ⟨_, _, ⟨T2, L2, k2, n2⟩, -, X2, ⟨Lc2, hQ2, l2, y2, z2⟩, st2⟩ := X0.virtualBack hx (y := (⟨"java/lang/String", "length", "()I"⟩ : MethodName)) (z := (⟨"java/lang/String", "length", "()I"⟩ : MethodName)) hown (mvT hZ (hw _ (List.mem_of_getElem? (i := 35) rfl))) (mvT hZ (hw _ (List.mem_of_getElem? (i := 36) rfl))) (notFace_of_selects (args := #[]) (mvT hZ (hw _ (List.mem_of_getElem? (i := 38) rfl)))) (mvT hZ (hw _ (List.mem_of_getElem? (i := 38) rfl))) (mvT hZ (hw _ (List.mem_of_getElem? (i := 37) rfl))) (by decide) (backOf (W := 1) (rm7 l Z a0 hw [] a n f G1 h0 n0 Z0 O2 P5 S hn) hZ (hw _ (List.mem_of_getElem? (i := 39) rfl)) (hw _ (List.mem_of_getElem? (i := 7) rfl)) (by decide) (by decide)) q2a q2c (g := (mkF m 17 #[.val (.ref a), .val (.int (0 : Int32)), .val (.int (Int32.ofNat i)), s3] [(.ref a), (.int (Int32.ofNat i))])) rfl (by rw [hml]; rfl) (Steps.refl _) (argsL := []) (rest := [(.int (Int32.ofNat i))]) (lenOf pd_14 rfl) rfl (by show 2 * 0 + _ ≤ _; exact Nat.le_of_eq rfl) (hb hby d5_17) (fun _ _ => ⟨rfl, e0, (by decide : 0 + 0 ≤ _), (by decide : 0 + 0 ≤ _)⟩)
  dsimp only [Pt.U, Pt.locs, Pt.cells, Pt.slots] at X2 l2 y2 z2 st2 hQ2
  subst l2 y2 z2
  obtain ⟨rfl, N2q, e2⟩ := hQ2
  have N2 := Fr.app N0 N2q
  have pre3 : ∀ t, Steps p.tables e below (T2.setTop (mkF m 20 #[.val (.ref a), .val (.int (0 : Int32)), .val (.int (Int32.ofNat i)), s3] [(.int (Int32.ofNat n)), (.int (Int32.ofNat i))])) t → Steps p.tables e below _ t := fun t kt => pre1 t (by
    show Steps p.tables e below (T0.setTop (mkF m 17 #[.val (.ref a), .val (.int (0 : Int32)), .val (.int (Int32.ofNat i)), s3] [(.ref a), (.int (Int32.ofNat i))])) _
    refine st2.trans ?_
    exact kt)
  by_cases hc20 : (Int32.ofNat i) < (Int32.ofNat n)
  · have pre4 : ∀ t, Steps p.tables e below (T2.setTop (mkF m 61 #[.val (.ref a), .val (.int (0 : Int32)), .val (.int (Int32.ofNat i)), s3] [])) t → Steps p.tables e below _ t := fun t kt => pre3 t (by
      show Steps p.tables e below (T2.setTop (mkF m 20 #[.val (.ref a), .val (.int (0 : Int32)), .val (.int (Int32.ofNat i)), s3] [(.int (Int32.ofNat n)), (.int (Int32.ofNat i))])) _
      refine XS.icmpNo X2.here hx rfl (hb hby d5_20) rfl (tlt hc20).2.1 ?_
      show Steps p.tables e below (T2.setTop (mkF m 23 #[.val (.ref a), .val (.int (0 : Int32)), .val (.int (Int32.ofNat i)), s3] [])) _
      refine XS.iloadN X2.here hx rfl (hb hby d5_23) rfl ?_
      have hc24 : (0 : Int32) = (0 : Int32) := rfl
      show Steps p.tables e below (T2.setTop (mkF m 24 #[.val (.ref a), .val (.int (0 : Int32)), .val (.int (Int32.ofNat i)), s3] [(.int (0 : Int32))])) _
      refine XS.ifYes X2.here hx rfl (pc0 := 24) (pc' := 61) rfl (hb hby d5_24) rfl ((if0 _ _).trans (teq hc24).1) (by decide) (by decide) ?_
      exact kt)
    exact ⟨T2, _, X2, e2, N2, pre4⟩
  · have pre5 : ∀ t, Steps p.tables e below (T2.setTop (mkF m 61 #[.val (.ref a), .val (.int (0 : Int32)), .val (.int (Int32.ofNat i)), s3] [])) t → Steps p.tables e below _ t := fun t kt => pre3 t (by
      show Steps p.tables e below (T2.setTop (mkF m 20 #[.val (.ref a), .val (.int (0 : Int32)), .val (.int (Int32.ofNat i)), s3] [(.int (Int32.ofNat n)), (.int (Int32.ofNat i))])) _
      refine XS.icmpYes X2.here hx rfl (pc0 := 20) (pc' := 61) rfl (hb hby d5_20) rfl (flt hc20).2.1 (by decide) (by decide) ?_
      exact kt)
    exact ⟨T2, _, X2, e2, N2, pre5⟩
set_option maxRecDepth 65536 in
set_option maxHeartbeats 40000000 in
theorem own_outn {p : Program} {l : Launch} {e : Env} {s : State} {m : MethodId} {args : Array Value} {below : List Frame} {meth : Method} {c : Code} {T0 : State} {locs : List Loc} {Z : State} {a0 : Array Value} {h0 : Heap} {n0 : Nat} (a ta : Addr) (n i : Nat) (f : Nat → Int32) (G1 : Int32) (G3 : Value) (s3 : Slot)
    (X0 : Stand p l e ({ frames := 5, cells := 0, slots := 0, locals := 66 } : Room) s m args below meth c T0 locs 0 0) (hx : p.tables.exec = Jvm.exec) (hZ : Z.Warmed39 s.vm) (hw : ∀ d ∈ tables_1, d.before a0 Z = true) (hby : c.code = prog_7_method_8_code) (hml : c.maxLocals = 4) (hown : s.vm.findClass "com/example/firm_warden/firmwarden/HeaderFields" = some m.cls) (e0 : T0.heap = h0) (N0 : Fr n0 locs) (Z0 : n0 ≤ h0.size) (hi : i ≤ n) (hin : i = n) (rG3 : G3.isRef = true) (O4 : Sta Z h0 "jdk/internal/util/Preconditions" "SIOOBE_FORMATTER" "Ljava/util/function/BiFunction;" G3) (O2 : Sta Z h0 "java/lang/String" "COMPACT_STRINGS" "Z" (.int G1)) (P5 : ¬ (G1 = (0 : Int32))) (AD : Sta Z h0 "java/lang/StringUTF16" "$assertionsDisabled" "Z" (.int (1 : Int32))) (HB : Sta Z h0 "java/lang/StringUTF16" "HI_BYTE_SHIFT" "I" (.int (0 : Int32))) (LB : Sta Z h0 "java/lang/StringUTF16" "LO_BYTE_SHIFT" "I" (.int (8 : Int32))) (S : own_St Z h0 a n f) (hn : n ≤ 4) (hf : ∀ j, j < n → 0 ≤ (f j).toInt ∧ (f j).toInt < 65536) (TS : Sta Z h0 "com/example/firm_warden/firmwarden/HeaderFields" "TOKEN" "[Z" (.ref ta)) (TA : own_A Z h0 ta .boolean 256 own_tkf) :
    ∃ (T' : State) (locs' : List Loc), Stand p l e ({ frames := 5, cells := 0, slots := 0, locals := 66 } : Room) s m args below meth c T' locs' 0 0 ∧ T'.heap = h0 ∧ Fr n0 locs' ∧
      ∀ t, Steps p.tables e below (T'.setTop (mkF m 61 #[.val (.ref a), .val (.int (1 : Int32)), .val (.int (Int32.ofNat i)), s3] [])) t → Steps p.tables e below (T0.setTop (mkF m 15 #[.val (.ref a), .val (.int (1 : Int32)), .val (.int (Int32.ofNat i)), s3] [])) t := by
  have pre0 : ∀ t, Steps p.tables e below (T0.setTop (mkF m 15 #[.val (.ref a), .val (.int (1 : Int32)), .val (.int (Int32.ofNat i)), s3] [])) t → Steps p.tables e below (T0.setTop (mkF m 15 #[.val (.ref a), .val (.int (1 : Int32)), .val (.int (Int32.ofNat i)), s3] [])) t := fun t k => k
  have Ea := own_St_exa S
  have pre1 : ∀ t, Steps p.tables e below (T0.setTop (mkF m 17 #[.val (.ref a), .val (.int (1 : Int32)), .val (.int (Int32.ofNat i)), s3] [(.ref a), (.int (Int32.ofNat i))])) t → Steps p.tables e below _ t := fun t kt => pre0 t (by
    show Steps p.tables e below (T0.setTop (mkF m 15 #[.val (.ref a), .val (.int (1 : Int32)), .val (.int (Int32.ofNat i)), s3] [])) _
    refine XS.iloadN X0.here hx rfl (hb hby d5_15) rfl ?_
    show Steps p.tables e below (T0.setTop (mkF m 16 #[.val (.ref a), .val (.int (1 : Int32)), .val (.int (Int32.ofNat i)), s3] [(.int (Int32.ofNat i))])) _
    refine XS.aloadN X0.here hx rfl (hb hby d5_16) rfl rfl ?_
    exact kt)
  obtain ⟨cq2, kq2, q2a, q2b, q2c⟩ := isOf hZ e0 Ea
  obtain ⟨_, _, ⟨T2, L2, k2, n2⟩, -, X2, ⟨Lc2, hQ2, l2, y2, z2⟩, st2⟩ := X0.virtualBack hx (y := (⟨"java/lang/String", "length", "()I"⟩ : MethodName)) (z := (⟨"java/lang/String", "length", "()I"⟩ : MethodName)) hown (mvT hZ (hw _ (List.mem_of_getElem? (i := 35) rfl))) (mvT hZ (hw _ (List.mem_of_getElem? (i := 36) rfl))) (notFace_of_selects (args := #[]) (mvT hZ (hw _ (List.mem_of_getElem? (i := 38) rfl)))) (mvT hZ (hw _ (List.mem_of_getElem? (i := 38) rfl))) (mvT hZ (hw _ (List.mem_of_getElem? (i := 37) rfl))) (by decide) (backOf (W := 1) (rm7 l Z a0 hw [] a n f G1 h0 n0 Z0 O2 P5 S hn) hZ (hw _ (List.mem_of_getElem? (i := 39) rfl)) (hw _ (List.mem_of_getElem? (i := 7) rfl)) (by decide) (by decide)) q2a q2c (g := (mkF m 17 #[.val (.ref a), .val (.int (1 : Int32)), .val (.int (Int32.ofNat i)), s3] [(.ref a), (.int (Int32.ofNat i))])) rfl (by rw [hml]; rfl) (Steps.refl _) (argsL := []) (rest := [(.int (Int32.ofNat i))]) (lenOf pd_14 rfl) rfl (by show 2 * 0 + _ ≤ _; exact Nat.le_of_eq rfl) (hb hby d5_17) (fun _ _ => ⟨rfl, e0, (by decide : 0 + 0 ≤ _), (by decide : 0 + 0 ≤ _)⟩)
  dsimp only [Pt.U, Pt.locs, Pt.cells, Pt.slots] at X2 l2 y2 z2 st2 hQ2
  subst l2 y2 z2
  obtain ⟨rfl, N2q, e2⟩ := hQ2
  have N2 := Fr.app N0 N2q
  have pre3 : ∀ t, Steps p.tables e below (T2.setTop (mkF m 61 #[.val (.ref a), .val (.int (1 : Int32)), .val (.int (Int32.ofNat i)), s3] [])) t → Steps p.tables e below _ t := fun t kt => pre1 t (by
    show Steps p.tables e below (T0.setTop (mkF m 17 #[.val (.ref a), .val (.int (1 : Int32)), .val (.int (Int32.ofNat i)), s3] [(.ref a), (.int (Int32.ofNat i))])) _
    refine st2.trans ?_
    have hc20 : ¬ ((Int32.ofNat i) < (Int32.ofNat n)) := own_nlt (Nat.le_of_eq hin.symm) (by omega)
    show Steps p.tables e below (T2.setTop (mkF m 20 #[.val (.ref a), .val (.int (1 : Int32)), .val (.int (Int32.ofNat i)), s3] [(.int (Int32.ofNat n)), (.int (Int32.ofNat i))])) _
    refine XS.icmpYes X2.here hx rfl (pc0 := 20) (pc' := 61) rfl (hb hby d5_20) rfl (flt hc20).2.1 (by decide) (by decide) ?_
    exact kt)
  exact ⟨T2, _, X2, e2, N2, pre3⟩

set_option maxRecDepth 65536 in
theorem own_loop5 {p : Program} {l : Launch} {e : Env} {s : State} {m : MethodId} {args : Array Value} {below : List Frame} {meth : Method} {c : Code} {Z : State} {a0 : Array Value} {h0 : Heap} {n0 : Nat} (a ta : Addr) (n : Nat) (f : Nat → Int32) (G1 : Int32) (G3 : Value)
    (hx : p.tables.exec = Jvm.exec) (hZ : Z.Warmed39 s.vm) (hw : ∀ d ∈ tables_1, d.before a0 Z = true) (hby : c.code = prog_7_method_8_code) (hml : c.maxLocals = 4) (hown : s.vm.findClass "com/example/firm_warden/firmwarden/HeaderFields" = some m.cls) (Z0 : n0 ≤ h0.size) (rG3 : G3.isRef = true) (O4 : Sta Z h0 "jdk/internal/util/Preconditions" "SIOOBE_FORMATTER" "Ljava/util/function/BiFunction;" G3) (O2 : Sta Z h0 "java/lang/String" "COMPACT_STRINGS" "Z" (.int G1)) (P5 : ¬ (G1 = (0 : Int32))) (AD : Sta Z h0 "java/lang/StringUTF16" "$assertionsDisabled" "Z" (.int (1 : Int32))) (HB : Sta Z h0 "java/lang/StringUTF16" "HI_BYTE_SHIFT" "I" (.int (0 : Int32))) (LB : Sta Z h0 "java/lang/StringUTF16" "LO_BYTE_SHIFT" "I" (.int (8 : Int32))) (S : own_St Z h0 a n f) (hn : n ≤ 4) (hf : ∀ j, j < n → 0 ≤ (f j).toInt ∧ (f j).toInt < 65536) (TS : Sta Z h0 "com/example/firm_warden/firmwarden/HeaderFields" "TOKEN" "[Z" (.ref ta)) (TA : own_A Z h0 ta .boolean 256 own_tkf) :
    ∀ (k i : Nat) (T0 : State) (locs : List Loc) (s3 : Slot), i + k = n → One s3 → (∀ j, j < i → own_tchar (f j) = 1) → Stand p l e ({ frames := 5, cells := 0, slots := 0, locals := 66 } : Room) s m args below meth c T0 locs 0 0 → T0.heap = h0 → Fr n0 locs →
    ∃ (T' : State) (locs' : List Loc) (r : Int32) (x : Nat) (s3' : Slot), ((r = 1 ∧ ∀ j, j < n → own_tchar (f j) = 1) ∨ (r = 0 ∧ ∃ j, j < n ∧ own_tchar (f j) = 0)) ∧ Stand p l e ({ frames := 5, cells := 0, slots := 0, locals := 66 } : Room) s m args below meth c T' locs' 0 0 ∧ T'.heap = h0 ∧ Fr n0 locs' ∧
      ∀ t, Steps p.tables e below (T'.setTop (mkF m 61 #[.val (.ref a), .val (.int r), .val (.int (Int32.ofNat x)), s3'] [])) t → Steps p.tables e below (T0.setTop (mkF m 15 #[.val (.ref a), .val (.int (1 : Int32)), .val (.int (Int32.ofNat i)), s3] [])) t := by
  intro k
  induction k with
  | zero =>
    intro i T0 locs s3 hik hs3 hs X0 e0 N0
    obtain ⟨T1, locs1, X1, e1, N1, st1⟩ := own_outn a ta n i f G1 G3 s3 X0 hx hZ hw hby hml hown e0 N0 Z0 (by omega) (by omega) rG3 O4 O2 P5 AD HB LB S hn hf TS TA
    exact ⟨T1, locs1, 1, i, s3, Or.inl ⟨rfl, fun j hj => hs j (by omega)⟩, X1, e1, N1, st1⟩
  | succ k ih =>
    intro i T0 locs s3 hik hs3 hs X0 e0 N0
    have hi : i < n := by omega
    obtain ⟨T1, locs1, v, X1, e1, N1, hv, ht, st1⟩ := own_turn5 a ta n i f G1 G3 s3 X0 hx hZ hw hby hml hown e0 N0 Z0 hs3 hi rG3 O4 O2 P5 AD HB LB S hn hf TS TA
    rcases hv with rfl | rfl
    · obtain ⟨T2, locs2, X2, e2, N2, st2⟩ := own_out0 a ta n (i + 1) f G1 G3 (.val (.int (f i))) X1 hx hZ hw hby hml hown e1 N1 Z0 (by omega) rG3 O4 O2 P5 AD HB LB S hn hf TS TA
      exact ⟨T2, locs2, 0, i + 1, _, Or.inr ⟨rfl, i, hi, ht⟩, X2, e2, N2, fun t kt => st1 t (st2 t kt)⟩
    · obtain ⟨T2, locs2, r, x, s32, hr, X2, e2, N2, st2⟩ := ih (i + 1) T1 locs1 (.val (.int (f i))) (by omega) (One.val rfl) (fun j hj => by
        by_cases hji : j = i
        · subst hji; exact ht
        · exact hs j (by omega)) X1 e1 N1
      exact ⟨T2, locs2, r, x, s32, hr, X2, e2, N2, fun t kt => st1 t (st2 t kt)⟩
theorem own_St_val {Z : State} {h : Heap} {a : Addr} {n : Nat} {f : Nat → Int32} (S : own_St Z h a n f) : ∃ b cl sz, Fld Z h a "java/lang/String" "value" "[B" (.ref b) ∧ Arr Z h b cl .byte ∧ cl.slots.size = sz ∧ (sz = n ∨ sz = 2 * n) := by
  rcases S with ⟨b, E, C, V, ⟨cl, A, S, -⟩, -⟩ | ⟨b, E, C, V, cl, A, S, -⟩
  · exact ⟨b, cl, n, V, A, S, Or.inl rfl⟩
  · exact ⟨b, cl, 2 * n, V, A, S, Or.inr rfl⟩
theorem pn_5 : plainName "com/example/firm_warden/firmwarden/HeaderFields" = true := by first | (simp [plainName, overriddenIn]; done) | decide +kernel
theorem ef_5E (m : MethodId) (x0 : Addr) : entryFrame m #[(.ref x0)] 4 = mkF m 0 #[.val (.ref x0), .unset, .unset, .unset] [] := by first | (simp [entryFrame, mkF, argsToLocals, Value.category]; done) | rfl
theorem d5_0 : decode prog_7_method_8_code 0 = .ok (.aload_n 0, 1) := by decide +kernel
theorem d5_1 : decode prog_7_method_8_code 1 = .ok (.invokevirtual 108, 3) := by decide +kernel
theorem d5_4 : decode prog_7_method_8_code 4 = .ok (.ifCond .ne 7, 3) := by decide +kernel
theorem d5_11 : decode prog_7_method_8_code 11 = .ok (.iconst 0, 1) := by decide +kernel
theorem d5_12 : decode prog_7_method_8_code 12 = .ok (.istore_n 1, 1) := by decide +kernel
theorem d5_13 : decode prog_7_method_8_code 13 = .ok (.iconst 0, 1) := by decide +kernel
theorem d5_14 : decode prog_7_method_8_code 14 = .ok (.istore_n 2, 1) := by decide +kernel
theorem d5_61 : decode prog_7_method_8_code 61 = .ok (.iload_n 1, 1) := by decide +kernel
theorem d5_62 : decode prog_7_method_8_code 62 = .ok (.ireturn, 1) := by decide +kernel
def Q5 (Z : State) (n : Nat) (f : Nat → Int32) (h0 : Heap) (n0 : Nat) (v : Option Value) (h : Heap) (L : List Loc) : Prop := ∃ r : Int32, v = some (.int r) ∧ Fr n0 L ∧ h = h0 ∧ ((r = 1 ∧ 0 < n ∧ ∀ j, j < n → own_tchar (f j) = 1) ∨ (r = 0 ∧ (n = 0 ∨ ∃ j, j < n ∧ own_tchar (f j) = 0)))
set_option maxRecDepth 65536 in
set_option maxHeartbeats 40000000 in
theorem rm5E (l : Launch) (Z : State) (a0 : Array Value) (hw : ∀ d ∈ tables_1, d.before a0 Z = true) (ws : List Jvm.Cond) (a : Addr) (ta : Addr) (n : Nat) (f : Nat → Int32) (G1 : Int32) (G3 : Value) (h0 : Heap) (n0 : Nat) (Z0 : n0 ≤ h0.size) (hz : n = 0) (rG3 : G3.isRef = true) (O4 : Sta Z h0 "jdk/internal/util/Preconditions" "SIOOBE_FORMATTER" "Ljava/util/function/BiFunction;" G3) (O2 : Sta Z h0 "java/lang/String" "COMPACT_STRINGS" "Z" (.int G1)) (P5 : ¬ (G1 = (0 : Int32))) (AD : Sta Z h0 "java/lang/StringUTF16" "$assertionsDisabled" "Z" (.int (1 : Int32))) (HB : Sta Z h0 "java/lang/StringUTF16" "HI_BYTE_SHIFT" "I" (.int (0 : Int32))) (LB : Sta Z h0 "java/lang/StringUTF16" "LO_BYTE_SHIFT" "I" (.int (8 : Int32))) (S : own_St Z h0 a n f) (hn : n ≤ 4) (hf : ∀ j, j < n → 0 ≤ (f j).toInt ∧ (f j).toInt < 65536) (TS : Sta Z h0 "com/example/firm_warden/firmwarden/HeaderFields" "TOKEN" "[Z" (.ref ta)) (TA : own_A Z h0 ta .boolean 256 own_tkf) :
    MetFree l (⟨"com/example/firm_warden/firmwarden/HeaderFields", "isToken", "(Ljava/lang/String;)Z"⟩ : MethodName) (head1 (Jvm.Cond.code (⟨"com/example/firm_warden/firmwarden/HeaderFields", "isToken", "(Ljava/lang/String;)Z"⟩ : MethodName) prog_7_method_8_code 4 (some .boolean) :: ws) ({ frames := 5, cells := 0, slots := 0, locals := 66 } : Room)) (fun aa_ U => aa_ = #[(.ref a)] ∧ Z.Warmed39 U.vm ∧ U.heap = h0) (fun _ _ _ _ _ => True) (fun _ U o U' => ∃ v_ L_, o = .returned v_ ∧ Q5 Z n f h0 n0 v_ U'.heap L_ ∧ FrameEnd U o U' L_ ({ frames := 5, cells := 0, slots := 0, locals := 66 } : Room).cells ({ frames := 5, cells := 0, slots := 0, locals := 66 } : Room).slots) := by
  refine MetFree.of_bodySF (plainFor_of_name pn_5) hisR ?_
  intro p e s m args below meth c s₁ Bd hml0 hP hK
  obtain ⟨rfl, hZ, hh⟩ := hP
  have hx := Bd.exec
  have hby := Bd.bytes
  have hml : c.maxLocals = 4 := hml0
  have hown : s.vm.findClass "com/example/firm_warden/firmwarden/HeaderFields" = some m.cls := findClass_of_methodNamed Bd.named
  have hnm := (name_of_methodNamed Bd.named Bd.method).1
  have X0 : Stand p l e ({ frames := 5, cells := 0, slots := 0, locals := 66 } : Room) s m #[(.ref a)] below meth c s₁ [] 0 0 := Stand.of_body Bd
  have e0 : s₁.heap = h0 := by rw [← hh, Bd.state]; rfl
  have N0 := Fr.nil n0
  have pre0 : ∀ t, Steps p.tables e below (s₁.setTop (mkF m 0 #[.val (.ref a), .unset, .unset, .unset] [])) t → Steps p.tables e below (s₁.setTop (entryFrame m #[(.ref a)] 4)) t := fun t k_ => castTop (ef_5E m a) k_
  have Ea := own_St_exa S
  obtain ⟨bv, cv, sz, Fv, Av, Sv, hsv⟩ := own_St_val S
  have pre1 : ∀ t, Steps p.tables e below (s₁.setTop (mkF m 1 #[.val (.ref a), .unset, .unset, .unset] [(.ref a)])) t → Steps p.tables e below _ t := fun t kt => pre0 t (by
    show Steps p.tables e below (s₁.setTop (mkF m 0 #[.val (.ref a), .unset, .unset, .unset] [])) _
    refine XS.aloadN X0.here hx rfl (hb hby d5_0) rfl rfl ?_
    exact kt)
  obtain ⟨cq2, kq2, q2a, q2b, q2c⟩ := isOf hZ e0 Ea
  obtain ⟨_, _, ⟨T2, L2, k2, n2⟩, -, X2, ⟨Lc2, hQ2, l2, y2, z2⟩, st2⟩ := X0.virtualBack hx (y := (⟨"java/lang/String", "isEmpty", "()Z"⟩ : MethodName)) (z := (⟨"java/lang/String", "isEmpty", "()Z"⟩ : MethodName)) hown (mvT hZ (hw _ (List.mem_of_getElem? (i := 30) rfl))) (mvT hZ (hw _ (List.mem_of_getElem? (i := 31) rfl))) (notFace_of_selects (args := #[]) (mvT hZ (hw _ (List.mem_of_getElem? (i := 33) rfl)))) (mvT hZ (hw _ (List.mem_of_getElem? (i := 33) rfl))) (mvT hZ (hw _ (List.mem_of_getElem? (i := 32) rfl))) (by decide) (backOf (W := 0) (rm6E l Z a0 hw [] a bv sz cv h0 n0 Z0 Fv Av Sv (by omega) (by omega)) hZ (hw _ (List.mem_of_getElem? (i := 34) rfl)) (hw _ (List.mem_of_getElem? (i := 7) rfl)) (by decide) (by decide)) q2a q2c (g := (mkF m 1 #[.val (.ref a), .unset, .unset, .unset] [(.ref a)])) rfl (by rw [hml]; rfl) (Steps.refl _) (argsL := []) (rest := []) (lenOf pd_6 rfl) rfl (by show 2 * 0 + _ ≤ _; exact Nat.le_of_eq rfl) (hb hby d5_1) (fun _ _ => ⟨rfl, e0, (by decide : 0 + 0 ≤ _), (by decide : 0 + 0 ≤ _)⟩)
  dsimp only [Pt.U, Pt.locs, Pt.cells, Pt.slots] at X2 l2 y2 z2 st2 hQ2
  subst l2 y2 z2
  obtain ⟨rfl, N2q, e2⟩ := hQ2
  have N2 := Fr.app N0 N2q
  have pre3 : ∀ t, Steps p.tables e below (T2.setTop (mkF m 15 #[.val (.ref a), .val (.int (0 : Int32)), .val (.int (0 : Int32)), .unset] [])) t → Steps p.tables e below _ t := fun t kt => pre1 t (by
    show Steps p.tables e below (s₁.setTop (mkF m 1 #[.val (.ref a), .unset, .unset, .unset] [(.ref a)])) _
    refine st2.trans ?_
    have hc4 : ¬ ((1 : Int32) = (0 : Int32)) := by decide
    show Steps p.tables e below (T2.setTop (mkF m 4 #[.val (.ref a), .unset, .unset, .unset] [(.int (1 : Int32))])) _
    refine XS.ifYes X2.here hx rfl (pc0 := 4) (pc' := 11) rfl (hb hby d5_4) rfl ((if0 _ _).trans (feq hc4).2) (by decide) (by decide) ?_
    show Steps p.tables e below (T2.setTop (mkF m 11 #[.val (.ref a), .unset, .unset, .unset] [])) _
    refine XS.iconst X2.here hx rfl (hb hby d5_11) ?_
    show Steps p.tables e below (T2.setTop (mkF m 12 #[.val (.ref a), .unset, .unset, .unset] [(.int (0 : Int32))])) _
    refine XS.istoreN X2.here hx rfl (hb hby d5_12) rfl (l' := #[.val (.ref a), .val (.int (0 : Int32)), .unset, .unset]) rfl ?_
    show Steps p.tables e below (T2.setTop (mkF m 13 #[.val (.ref a), .val (.int (0 : Int32)), .unset, .unset] [])) _
    refine XS.iconst X2.here hx rfl (hb hby d5_13) ?_
    show Steps p.tables e below (T2.setTop (mkF m 14 #[.val (.ref a), .val (.int (0 : Int32)), .unset, .unset] [(.int (0 : Int32))])) _
    refine XS.istoreN X2.here hx rfl (hb hby d5_14) rfl (l' := #[.val (.ref a), .val (.int (0 : Int32)), .val (.int (0 : Int32)), .unset]) rfl ?_
    exact kt)
  have pre4 : ∀ t, Steps p.tables e below (T2.setTop (mkF m 15 #[.val (.ref a), .val (.int (0 : Int32)), .val (.int (Int32.ofNat 0)), .unset] [])) t → Steps p.tables e below _ t := pre3
  obtain ⟨T5, L5, X5, e5, N5, st5⟩ := own_out0 a ta n 0 f G1 G3 .unset X2 hx hZ hw hby hml hown e2 N2 Z0 (by omega) rG3 O4 O2 P5 AD HB LB S hn hf TS TA
  obtain ⟨fs, hr, hrun, hended, hW, hsame⟩ := X5.leave (v := some (.int (0 : Int32))) (fun h => by rw [Bd.returns] at h; cases h)
  refine ⟨_, _, pre4 _ ?_, hrun, hended, _, _, rfl, ?_, ⟨_, rfl⟩, hW, hsame.mono (by decide) (by decide)⟩
  · show Steps p.tables e below (T2.setTop (mkF m 15 #[.val (.ref a), .val (.int (0 : Int32)), .val (.int (Int32.ofNat 0)), .unset] [])) _
    refine st5 _ ?_
    show Steps p.tables e below (T5.setTop (mkF m 61 #[.val (.ref a), .val (.int (0 : Int32)), .val (.int (Int32.ofNat 0)), .unset] [])) _
    refine XS.iloadN X5.here hx rfl (hb hby d5_61) rfl ?_
    show Steps p.tables e below (T5.setTop (mkF m 62 #[.val (.ref a), .val (.int (0 : Int32)), .val (.int (Int32.ofNat 0)), .unset] [(.int (0 : Int32))])) _
    exact retN X5 hx (t := .boolean) Bd.returns (by simp) (hb hby d5_62) hr
  · show Q5 Z n f h0 n0 _ T5.heap _
    rw [e5]
    exact ⟨_, rfl, N5, rfl, Or.inr ⟨rfl, Or.inl hz⟩⟩
theorem ef_5F (m : MethodId) (x0 : Addr) : entryFrame m #[(.ref x0)] 4 = mkF m 0 #[.val (.ref x0), .unset, .unset, .unset] [] := by first | (simp [entryFrame, mkF, argsToLocals, Value.category]; done) | rfl
theorem d5_7 : decode prog_7_method_8_code 7 = .ok (.iconst 1, 1) := by decide +kernel
theorem d5_8 : decode prog_7_method_8_code 8 = .ok (.goto 4, 3) := by decide +kernel
set_option maxRecDepth 65536 in
set_option maxHeartbeats 40000000 in
theorem rm5F (l : Launch) (Z : State) (a0 : Array Value) (hw : ∀ d ∈ tables_1, d.before a0 Z = true) (ws : List Jvm.Cond) (a : Addr) (ta : Addr) (n : Nat) (f : Nat → Int32) (G1 : Int32) (G3 : Value) (h0 : Heap) (n0 : Nat) (Z0 : n0 ≤ h0.size) (hz : 0 < n) (rG3 : G3.isRef = true) (O4 : Sta Z h0 "jdk/internal/util/Preconditions" "SIOOBE_FORMATTER" "Ljava/util/function/BiFunction;" G3) (O2 : Sta Z h0 "java/lang/String" "COMPACT_STRINGS" "Z" (.int G1)) (P5 : ¬ (G1 = (0 : Int32))) (AD : Sta Z h0 "java/lang/StringUTF16" "$assertionsDisabled" "Z" (.int (1 : Int32))) (HB : Sta Z h0 "java/lang/StringUTF16" "HI_BYTE_SHIFT" "I" (.int (0 : Int32))) (LB : Sta Z h0 "java/lang/StringUTF16" "LO_BYTE_SHIFT" "I" (.int (8 : Int32))) (S : own_St Z h0 a n f) (hn : n ≤ 4) (hf : ∀ j, j < n → 0 ≤ (f j).toInt ∧ (f j).toInt < 65536) (TS : Sta Z h0 "com/example/firm_warden/firmwarden/HeaderFields" "TOKEN" "[Z" (.ref ta)) (TA : own_A Z h0 ta .boolean 256 own_tkf) :
    MetFree l (⟨"com/example/firm_warden/firmwarden/HeaderFields", "isToken", "(Ljava/lang/String;)Z"⟩ : MethodName) (head1 (Jvm.Cond.code (⟨"com/example/firm_warden/firmwarden/HeaderFields", "isToken", "(Ljava/lang/String;)Z"⟩ : MethodName) prog_7_method_8_code 4 (some .boolean) :: ws) ({ frames := 5, cells := 0, slots := 0, locals := 66 } : Room)) (fun aa_ U => aa_ = #[(.ref a)] ∧ Z.Warmed39 U.vm ∧ U.heap = h0) (fun _ _ _ _ _ => True) (fun _ U o U' => ∃ v_ L_, o = .returned v_ ∧ Q5 Z n f h0 n0 v_ U'.heap L_ ∧ FrameEnd U o U' L_ ({ frames := 5, cells := 0, slots := 0, locals := 66 } : Room).cells ({ frames := 5, cells := 0, slots := 0, locals := 66 } : Room).slots) := by
  refine MetFree.of_bodySF (plainFor_of_name pn_5) hisR ?_
  intro p e s m args below meth c s₁ Bd hml0 hP hK
  obtain ⟨rfl, hZ, hh⟩ := hP
  have hx := Bd.exec
  have hby := Bd.bytes
  have hml : c.maxLocals = 4 := hml0
  have hown : s.vm.findClass "com/example/firm_warden/firmwarden/HeaderFields" = some m.cls := findClass_of_methodNamed Bd.named
  have hnm := (name_of_methodNamed Bd.named Bd.method).1
  have X0 : Stand p l e ({ frames := 5, cells := 0, slots := 0, locals := 66 } : Room) s m #[(.ref a)] below meth c s₁ [] 0 0 := Stand.of_body Bd
  have e0 : s₁.heap = h0 := by rw [← hh, Bd.state]; rfl
  have N0 := Fr.nil n0
  have pre0 : ∀ t, Steps p.tables e below (s₁.setTop (mkF m 0 #[.val (.ref a), .unset, .unset, .unset] [])) t → Steps p.tables e below (s₁.setTop (entryFrame m #[(.ref a)] 4)) t := fun t k_ => castTop (ef_5F m a) k_
  have Ea := own_St_exa S
  obtain ⟨bv, cv, sz, Fv, Av, Sv, hsv⟩ := own_St_val S
  have pre1 : ∀ t, Steps p.tables e below (s₁.setTop (mkF m 1 #[.val (.ref a), .unset, .unset, .unset] [(.ref a)])) t → Steps p.tables e below _ t := fun t kt => pre0 t (by
    show Steps p.tables e below (s₁.setTop (mkF m 0 #[.val (.ref a), .unset, .unset, .unset] [])) _
    refine XS.aloadN X0.here hx rfl (hb hby d5_0) rfl rfl ?_
    exact kt)
  obtain ⟨cq2, kq2, q2a, q2b, q2c⟩ := isOf hZ e0 Ea
  obtain ⟨_, _, ⟨T2, L2, k2, n2⟩, -, X2, ⟨Lc2, hQ2, l2, y2, z2⟩, st2⟩ := X0.virtualBack hx (y := (⟨"java/lang/String", "isEmpty", "()Z"⟩ : MethodName)) (z := (⟨"java/lang/String", "isEmpty", "()Z"⟩ : MethodName)) hown (mvT hZ (hw _ (List.mem_of_getElem? (i := 30) rfl))) (mvT hZ (hw _ (List.mem_of_getElem? (i := 31) rfl))) (notFace_of_selects (args := #[]) (mvT hZ (hw _ (List.mem_of_getElem? (i := 33) rfl)))) (mvT hZ (hw _ (List.mem_of_getElem? (i := 33) rfl))) (mvT hZ (hw _ (List.mem_of_getElem? (i := 32) rfl))) (by decide) (backOf (W := 0) (rm6F l Z a0 hw [] a bv sz cv h0 n0 Z0 Fv Av Sv (by omega) (by omega)) hZ (hw _ (List.mem_of_getElem? (i := 34) rfl)) (hw _ (List.mem_of_getElem? (i := 7) rfl)) (by decide) (by decide)) q2a q2c (g := (mkF m 1 #[.val (.ref a), .unset, .unset, .unset] [(.ref a)])) rfl (by rw [hml]; rfl) (Steps.refl _) (argsL := []) (rest := []) (lenOf pd_6 rfl) rfl (by show 2 * 0 + _ ≤ _; exact Nat.le_of_eq rfl) (hb hby d5_1) (fun _ _ => ⟨rfl, e0, (by decide : 0 + 0 ≤ _), (by decide : 0 + 0 ≤ _)⟩)
  dsimp only [Pt.U, Pt.locs, Pt.cells, Pt.slots] at X2 l2 y2 z2 st2 hQ2
  subst l2 y2 z2
  obtain ⟨rfl, N2q, e2⟩ := hQ2
  have N2 := Fr.app N0 N2q
  have pre3 : ∀ t, Steps p.tables e below (T2.setTop (mkF m 15 #[.val (.ref a), .val (.int (1 : Int32)), .val (.int (0 : Int32)), .unset] [])) t → Steps p.tables e below _ t := fun t kt => pre1 t (by
    show Steps p.tables e below (s₁.setTop (mkF m 1 #[.val (.ref a), .unset, .unset, .unset] [(.ref a)])) _
    refine st2.trans ?_
    have hc4 : (0 : Int32) = (0 : Int32) := rfl
    show Steps p.tables e below (T2.setTop (mkF m 4 #[.val (.ref a), .unset, .unset, .unset] [(.int (0 : Int32))])) _
    refine XS.ifNo X2.here hx rfl (hb hby d5_4) rfl ((if0 _ _).trans (teq hc4).2) ?_
    show Steps p.tables e below (T2.setTop (mkF m 7 #[.val (.ref a), .unset, .unset, .unset] [])) _
    refine XS.iconst X2.here hx rfl (hb hby d5_7) ?_
    show Steps p.tables e below (T2.setTop (mkF m 8 #[.val (.ref a), .unset, .unset, .unset] [(.int (1 : Int32))])) _
    refine XS.goto X2.here hx rfl (pc0 := 8) (pc' := 12) rfl (hb hby d5_8) (by decide) (by decide) ?_
    show Steps p.tables e below (T2.setTop (mkF m 12 #[.val (.ref a), .unset, .unset, .unset] [(.int (1 : Int32))])) _
    refine XS.istoreN X2.here hx rfl (hb hby d5_12) rfl (l' := #[.val (.ref a), .val (.int (1 : Int32)), .unset, .unset]) rfl ?_
    show Steps p.tables e below (T2.setTop (mkF m 13 #[.val (.ref a), .val (.int (1 : Int32)), .unset, .unset] [])) _
    refine XS.iconst X2.here hx rfl (hb hby d5_13) ?_
    show Steps p.tables e below (T2.setTop (mkF m 14 #[.val (.ref a), .val (.int (1 : Int32)), .unset, .unset] [(.int (0 : Int32))])) _
    refine XS.istoreN X2.here hx rfl (hb hby d5_14) rfl (l' := #[.val (.ref a), .val (.int (1 : Int32)), .val (.int (0 : Int32)), .unset]) rfl ?_
    exact kt)
  have pre4 : ∀ t, Steps p.tables e below (T2.setTop (mkF m 15 #[.val (.ref a), .val (.int (1 : Int32)), .val (.int (Int32.ofNat 0)), .unset] [])) t → Steps p.tables e below _ t := pre3
  obtain ⟨T5, L5, r, x, s3', hr5, X5, e5, N5, st5⟩ := own_loop5 a ta n f G1 G3 hx hZ hw hby hml hown Z0 rG3 O4 O2 P5 AD HB LB S hn hf TS TA n 0 T2 _ .unset (by omega) One.u (fun j hj => absurd hj (Nat.not_lt_zero _)) X2 e2 N2
  have pre6 : ∀ t, Steps p.tables e below (T5.setTop (mkF m 61 #[.val (.ref a), .val (.int r), .val (.int (Int32.ofNat x)), s3'] [])) t → Steps p.tables e below _ t := fun t kt => pre4 t (by
    show Steps p.tables e below (T2.setTop (mkF m 15 #[.val (.ref a), .val (.int (1 : Int32)), .val (.int (Int32.ofNat 0)), .unset] [])) _
    refine st5 _ ?_
    exact kt)
  rcases hr5 with ⟨rfl, hall⟩ | ⟨rfl, hex⟩
  · obtain ⟨fs, hr, hrun, hended, hW, hsame⟩ := X5.leave (v := some (.int (1 : Int32))) (fun h => by rw [Bd.returns] at h; cases h)
    refine ⟨_, _, pre6 _ ?_, hrun, hended, _, _, rfl, ?_, ⟨_, rfl⟩, hW, hsame.mono (by decide) (by decide)⟩
    · show Steps p.tables e below (T5.setTop (mkF m 61 #[.val (.ref a), .val (.int (1 : Int32)), .val (.int (Int32.ofNat x)), s3'] [])) _
      refine XS.iloadN X5.here hx rfl (hb hby d5_61) rfl ?_
      show Steps p.tables e below (T5.setTop (mkF m 62 #[.val (.ref a), .val (.int (1 : Int32)), .val (.int (Int32.ofNat x)), s3'] [(.int (1 : Int32))])) _
      exact retN X5 hx (t := .boolean) Bd.returns (by simp) (hb hby d5_62) hr
    · show Q5 Z n f h0 n0 _ T5.heap _
      rw [e5]
      exact ⟨_, rfl, N5, rfl, Or.inl ⟨rfl, hz, hall⟩⟩
  · obtain ⟨fs, hr, hrun, hended, hW, hsame⟩ := X5.leave (v := some (.int (0 : Int32))) (fun h => by rw [Bd.returns] at h; cases h)
    refine ⟨_, _, pre6 _ ?_, hrun, hended, _, _, rfl, ?_, ⟨_, rfl⟩, hW, hsame.mono (by decide) (by decide)⟩
    · show Steps p.tables e below (T5.setTop (mkF m 61 #[.val (.ref a), .val (.int (0 : Int32)), .val (.int (Int32.ofNat x)), s3'] [])) _
      refine XS.iloadN X5.here hx rfl (hb hby d5_61) rfl ?_
      show Steps p.tables e below (T5.setTop (mkF m 62 #[.val (.ref a), .val (.int (0 : Int32)), .val (.int (Int32.ofNat x)), s3'] [(.int (0 : Int32))])) _
      exact retN X5 hx (t := .boolean) Bd.returns (by simp) (hb hby d5_62) hr
    · show Q5 Z n f h0 n0 _ T5.heap _
      rw [e5]
      exact ⟨_, rfl, N5, rfl, Or.inr ⟨rfl, Or.inr hex⟩⟩

theorem own_five (x : Int32) : (x &&& (7 : Int32)) % (5 : Int32) = 0 ∨ (x &&& (7 : Int32)) % (5 : Int32) = 1 ∨ (x &&& (7 : Int32)) % (5 : Int32) = 2 ∨ (x &&& (7 : Int32)) % (5 : Int32) = 3 ∨ (x &&& (7 : Int32)) % (5 : Int32) = 4 := by
  obtain ⟨n, h, hb⟩ := own_mask x 7 (k := 3) (by decide) (by decide)
  rw [h]
  have H : ∀ i, i < 8 → (Int32.ofNat i) % (5 : Int32) = 0 ∨ (Int32.ofNat i) % (5 : Int32) = 1 ∨ (Int32.ofNat i) % (5 : Int32) = 2 ∨ (Int32.ofNat i) % (5 : Int32) = 3 ∨ (Int32.ofNat i) % (5 : Int32) = 4 := by decide
  exact H n hb
theorem own_draw_rng (x : Int32) : 0 ≤ (own_draw x).toInt ∧ (own_draw x).toInt < 65536 := by
  have H : ∀ y, 0 ≤ (nar .char y).toInt ∧ (nar .char y).toInt < 65536 := fun y => own_c16 y
  unfold own_draw
  split <;> exact H _
theorem pn_0 : plainName "com/example/firm_warden/firmwarden/HeaderFieldsIsTokenPinLaw" = true := by first | (simp [plainName, overriddenIn]; done) | decide +kernel
theorem ef_0 (m : MethodId) (x0 : Int32) (x1 : Int32) (x2 : Int32) (x3 : Int32) (x4 : Int32) : entryFrame m #[(.int x0), (.int x1), (.int x2), (.int x3), (.int x4)] maxLocals = mkF m 0 #[.val (.int x0), .val (.int x1), .val (.int x2), .val (.int x3), .val (.int x4), .unset, .unset, .unset, .unset, .unset, .unset, .unset, .unset] [] := by first | (simp [entryFrame, mkF, argsToLocals, Value.category, maxLocals]; done) | rfl
theorem pd_16 : parseMethodDescriptor "([C)V" = some ⟨[(.array .char)], none⟩ := by decide +kernel
theorem pd_17 : parseMethodDescriptor "(Ljava/lang/String;)Z" = some ⟨[(.object "java/lang/String")], some .boolean⟩ := by decide +kernel
theorem pd_18 : parseMethodDescriptor "(C)Z" = some ⟨[.char], some .boolean⟩ := by decide +kernel
def Q0 (Z : State) (h0 : Heap) (n0 : Nat) (v : Option Value) (h : Heap) (L : List Loc) : Prop := v = some (.int (1 : Int32)) ∧ Fr n0 L
set_option maxRecDepth 65536 in
set_option maxHeartbeats 40000000 in
theorem rm0 (l : Launch) (Z : State) (a0 : Array Value) (hw : ∀ d ∈ tables_1, d.before a0 Z = true) (ws : List Jvm.Cond) (p1 : Int32) (p2 : Int32) (p3 : Int32) (p4 : Int32) (p5 : Int32) (G1 : Int32) (G3 : Value) (ta : Addr) (h0 : Heap) (n0 : Nat) (Z0 : n0 ≤ h0.size) (rG3 : G3.isRef = true) (O4 : Sta Z h0 "jdk/internal/util/Preconditions" "SIOOBE_FORMATTER" "Ljava/util/function/BiFunction;" G3) (O2 : Sta Z h0 "java/lang/String" "COMPACT_STRINGS" "Z" (.int G1)) (P5 : ¬ (G1 = (0 : Int32))) (AD : Sta Z h0 "java/lang/StringUTF16" "$assertionsDisabled" "Z" (.int (1 : Int32))) (HB : Sta Z h0 "java/lang/StringUTF16" "HI_BYTE_SHIFT" "I" (.int (0 : Int32))) (LB : Sta Z h0 "java/lang/StringUTF16" "LO_BYTE_SHIFT" "I" (.int (8 : Int32))) (TS : Sta Z h0 "com/example/firm_warden/firmwarden/HeaderFields" "TOKEN" "[Z" (.ref ta)) (TA : own_A Z h0 ta .boolean 256 own_tkf) (KZ : ∀ (b : Addr) (cl : Cell), Z.heap[b]? = some cl → h0[b]? = some cl) (hh7 : Jvm.Lit.constHeld Z "java/lang/String" 7) (hcw : Jvm.Lit.compactW.before a0 Z = true) :
    MetFree l x (head1 (Jvm.Cond.code x code maxLocals ret :: ws) room_1) (fun aa_ U => aa_ = #[(.int p1), (.int p2), (.int p3), (.int p4), (.int p5)] ∧ Z.Warmed39 U.vm ∧ U.heap = h0 ∧ IB Z U.vm []) (fun _ _ _ _ _ => True) (fun _ U o U' => ∃ v_ L_, o = .returned v_ ∧ Q0 Z  h0 n0 v_ U'.heap L_ ∧ ReturnedEndW U o U' L_ room_1.cells room_1.slots) := by
  refine MetFree.of_bodySF (plainFor_of_name pn_0) hisR ?_
  intro p e s m args below meth c s₁ Bd hml0 hP hK
  obtain ⟨rfl, hZ, hh, hIb⟩ := hP
  have hx := Bd.exec
  have hby := Bd.bytes
  have hml : c.maxLocals = 13 := hml0
  have hown : s.vm.findClass "com/example/firm_warden/firmwarden/HeaderFieldsIsTokenPinLaw" = some m.cls := findClass_of_methodNamed Bd.named
  have hnm := (name_of_methodNamed Bd.named Bd.method).1
  have X0 : Stand p l e room_1 s m #[(.int p1), (.int p2), (.int p3), (.int p4), (.int p5)] below meth c s₁ [] 0 0 := Stand.of_body Bd
  have e0 : s₁.heap = h0 := by rw [← hh, Bd.state]; rfl
  have N0 := Fr.nil n0
  have pre0 : ∀ t, Steps p.tables e below (s₁.setTop (mkF m 0 #[.val (.int p1), .val (.int p2), .val (.int p3), .val (.int p4), .val (.int p5), .unset, .unset, .unset, .unset, .unset, .unset, .unset, .unset] [])) t → Steps p.tables e below (s₁.setTop (entryFrame m #[(.int p1), (.int p2), (.int p3), (.int p4), (.int p5)] maxLocals)) t := fun t k_ => castTop (ef_0 m p1 p2 p3 p4 p5) k_
  have pre1 : ∀ t, Steps p.tables e below (s₁.setTop (mkF m 9 #[.val (.int p1), .val (.int p2), .val (.int p3), .val (.int p4), .val (.int p5), .val (.int ((p1 &&& (7 : Int32)) % (5 : Int32))), .unset, .unset, .unset, .unset, .unset, .unset, .unset] [(.int p2)])) t → Steps p.tables e below _ t := fun t kt => pre0 t (by
    show Steps p.tables e below (s₁.setTop (mkF m 0 #[.val (.int p1), .val (.int p2), .val (.int p3), .val (.int p4), .val (.int p5), .unset, .unset, .unset, .unset, .unset, .unset, .unset, .unset] [])) _
    refine XS.iloadN X0.here hx rfl (hb hby at_0) rfl ?_
    refine XS.bipush X0.here hx rfl (hb hby at_1) ?_
    refine XS.iand X0.here hx rfl (hb hby at_3) rfl ?_
    show Steps p.tables e below (s₁.setTop (mkF m 4 #[.val (.int p1), .val (.int p2), .val (.int p3), .val (.int p4), .val (.int p5), .unset, .unset, .unset, .unset, .unset, .unset, .unset, .unset] [(.int (p1 &&& (7 : Int32)))])) _
    refine XS.iconst X0.here hx rfl (hb hby at_4) ?_
    refine iremM X0 hx rfl (hb hby at_5) rfl (by decide) ?_
    refine XS.istore X0.here hx rfl (hb hby at_6) rfl (l' := #[.val (.int p1), .val (.int p2), .val (.int p3), .val (.int p4), .val (.int p5), .val (.int ((p1 &&& (7 : Int32)) % (5 : Int32))), .unset, .unset, .unset, .unset, .unset, .unset, .unset]) rfl ?_
    show Steps p.tables e below (s₁.setTop (mkF m 8 #[.val (.int p1), .val (.int p2), .val (.int p3), .val (.int p4), .val (.int p5), .val (.int ((p1 &&& (7 : Int32)) % (5 : Int32))), .unset, .unset, .unset, .unset, .unset, .unset, .unset] [])) _
    refine XS.iloadN X0.here hx rfl (hb hby at_8) rfl ?_
    exact kt)
  obtain ⟨_, _, ⟨T2, L2, k2, n2⟩, -, X2, ⟨Lc2, hQ2, l2, y2, z2⟩, st2⟩ := Jvm.LawKit.callS X0 hx (y := (⟨"com/example/firm_warden/firmwarden/HeaderFieldsIsTokenPinLaw", "draw", "(I)C"⟩ : MethodName)) hown (mvT hZ (hw _ (List.mem_of_getElem? (i := 0) rfl))) (mvT hZ (hw _ (List.mem_of_getElem? (i := 1) rfl))) (mvT hZ (hw _ (List.mem_of_getElem? (i := 2) rfl))) (mvT hZ (hw _ (List.mem_of_getElem? (i := 3) rfl))) (by decide) (backOf (W := 0) (rm1 l Z a0 hw [] p2 h0 n0 Z0) hZ (hw _ (List.mem_of_getElem? (i := 3) rfl)) (hw _ (List.mem_of_getElem? (i := 2) rfl)) (by decide) (by decide)) (g := (mkF m 9 #[.val (.int p1), .val (.int p2), .val (.int p3), .val (.int p4), .val (.int p5), .val (.int ((p1 &&& (7 : Int32)) % (5 : Int32))), .unset, .unset, .unset, .unset, .unset, .unset, .unset] [(.int p2)])) rfl (by rw [hml]; rfl) (argsL := [(.int p2)]) (rest := []) (lenOf pd_15 rfl) rfl (by show 2 * 0 + _ ≤ _; exact Nat.le_of_eq rfl) (hb hby at_9) (fun _ _ => ⟨rfl, e0, (by decide : 0 + 0 ≤ _), (by decide : 0 + 0 ≤ _)⟩)
  dsimp only [Pt.U, Pt.locs, Pt.cells, Pt.slots] at X2 l2 y2 z2 st2 hQ2
  subst l2 y2 z2
  obtain ⟨rfl, N2q, e2⟩ := hQ2
  have N2 := Fr.app N0 N2q
  have pre3 : ∀ t, Steps p.tables e below (T2.setTop (mkF m 15 #[.val (.int p1), .val (.int p2), .val (.int p3), .val (.int p4), .val (.int p5), .val (.int ((p1 &&& (7 : Int32)) % (5 : Int32))), .val (.int (own_draw p2)), .unset, .unset, .unset, .unset, .unset, .unset] [(.int p3)])) t → Steps p.tables e below _ t := fun t kt => pre1 t (by
    show Steps p.tables e below (s₁.setTop (mkF m 9 #[.val (.int p1), .val (.int p2), .val (.int p3), .val (.int p4), .val (.int p5), .val (.int ((p1 &&& (7 : Int32)) % (5 : Int32))), .unset, .unset, .unset, .unset, .unset, .unset, .unset] [(.int p2)])) _
    refine st2 _ ?_
    refine XS.istore X2.here hx rfl (hb hby at_12) rfl (l' := #[.val (.int p1), .val (.int p2), .val (.int p3), .val (.int p4), .val (.int p5), .val (.int ((p1 &&& (7 : Int32)) % (5 : Int32))), .val (.int (own_draw p2)), .unset, .unset, .unset, .unset, .unset, .unset]) rfl ?_
    refine XS.iloadN X2.here hx rfl (hb hby at_14) rfl ?_
    exact kt)
  obtain ⟨_, _, ⟨T4, L4, k4, n4⟩, -, X4, ⟨Lc4, hQ4, l4, y4, z4⟩, st4⟩ := Jvm.LawKit.callS X2 hx (y := (⟨"com/example/firm_warden/firmwarden/HeaderFieldsIsTokenPinLaw", "draw", "(I)C"⟩ : MethodName)) hown (mvT hZ (hw _ (List.mem_of_getElem? (i := 0) rfl))) (mvT hZ (hw _ (List.mem_of_getElem? (i := 1) rfl))) (mvT hZ (hw _ (List.mem_of_getElem? (i := 2) rfl))) (mvT hZ (hw _ (List.mem_of_getElem? (i := 3) rfl))) (by decide) (backOf (W := 0) (rm1 l Z a0 hw [] p3 h0 n0 Z0) hZ (hw _ (List.mem_of_getElem? (i := 3) rfl)) (hw _ (List.mem_of_getElem? (i := 2) rfl)) (by decide) (by decide)) (g := (mkF m 15 #[.val (.int p1), .val (.int p2), .val (.int p3), .val (.int p4), .val (.int p5), .val (.int ((p1 &&& (7 : Int32)) % (5 : Int32))), .val (.int (own_draw p2)), .unset, .unset, .unset, .unset, .unset, .unset] [(.int p3)])) rfl (by rw [hml]; rfl) (argsL := [(.int p3)]) (rest := []) (lenOf pd_15 rfl) rfl (by show 2 * 0 + _ ≤ _; exact Nat.le_of_eq rfl) (hb hby at_15) (fun _ _ => ⟨rfl, e2, (by decide : 0 + 0 ≤ _), (by decide : 0 + 0 ≤ _)⟩)
  dsimp only [Pt.U, Pt.locs, Pt.cells, Pt.slots] at X4 l4 y4 z4 st4 hQ4
  subst l4 y4 z4
  obtain ⟨rfl, N4q, e4⟩ := hQ4
  have N4 := Fr.app N2 N4q
  have pre5 : ∀ t, Steps p.tables e below (T4.setTop (mkF m 21 #[.val (.int p1), .val (.int p2), .val (.int p3), .val (.int p4), .val (.int p5), .val (.int ((p1 &&& (7 : Int32)) % (5 : Int32))), .val (.int (own_draw p2)), .val (.int (own_draw p3)), .unset, .unset, .unset, .unset, .unset] [(.int p4)])) t → Steps p.tables e below _ t := fun t kt => pre3 t (by
    show Steps p.tables e below (T2.setTop (mkF m 15 #[.val (.int p1), .val (.int p2), .val (.int p3), .val (.int p4), .val (.int p5), .val (.int ((p1 &&& (7 : Int32)) % (5 : Int32))), .val (.int (own_draw p2)), .unset, .unset, .unset, .unset, .unset, .unset] [(.int p3)])) _
    refine st4 _ ?_
    refine XS.istore X4.here hx rfl (hb hby at_18) rfl (l' := #[.val (.int p1), .val (.int p2), .val (.int p3), .val (.int p4), .val (.int p5), .val (.int ((p1 &&& (7 : Int32)) % (5 : Int32))), .val (.int (own_draw p2)), .val (.int (own_draw p3)), .unset, .unset, .unset, .unset, .unset]) rfl ?_
    refine XS.iloadN X4.here hx rfl (hb hby at_20) rfl ?_
    exact kt)
  obtain ⟨_, _, ⟨T6, L6, k6, n6⟩, -, X6, ⟨Lc6, hQ6, l6, y6, z6⟩, st6⟩ := Jvm.LawKit.callS X4 hx (y := (⟨"com/example/firm_warden/firmwarden/HeaderFieldsIsTokenPinLaw", "draw", "(I)C"⟩ : MethodName)) hown (mvT hZ (hw _ (List.mem_of_getElem? (i := 0) rfl))) (mvT hZ (hw _ (List.mem_of_getElem? (i := 1) rfl))) (mvT hZ (hw _ (List.mem_of_getElem? (i := 2) rfl))) (mvT hZ (hw _ (List.mem_of_getElem? (i := 3) rfl))) (by decide) (backOf (W := 0) (rm1 l Z a0 hw [] p4 h0 n0 Z0) hZ (hw _ (List.mem_of_getElem? (i := 3) rfl)) (hw _ (List.mem_of_getElem? (i := 2) rfl)) (by decide) (by decide)) (g := (mkF m 21 #[.val (.int p1), .val (.int p2), .val (.int p3), .val (.int p4), .val (.int p5), .val (.int ((p1 &&& (7 : Int32)) % (5 : Int32))), .val (.int (own_draw p2)), .val (.int (own_draw p3)), .unset, .unset, .unset, .unset, .unset] [(.int p4)])) rfl (by rw [hml]; rfl) (argsL := [(.int p4)]) (rest := []) (lenOf pd_15 rfl) rfl (by show 2 * 0 + _ ≤ _; exact Nat.le_of_eq rfl) (hb hby at_21) (fun _ _ => ⟨rfl, e4, (by decide : 0 + 0 ≤ _), (by decide : 0 + 0 ≤ _)⟩)
  dsimp only [Pt.U, Pt.locs, Pt.cells, Pt.slots] at X6 l6 y6 z6 st6 hQ6
  subst l6 y6 z6
  obtain ⟨rfl, N6q, e6⟩ := hQ6
  have N6 := Fr.app N4 N6q
  have pre7 : ∀ t, Steps p.tables e below (T6.setTop (mkF m 28 #[.val (.int p1), .val (.int p2), .val (.int p3), .val (.int p4), .val (.int p5), .val (.int ((p1 &&& (7 : Int32)) % (5 : Int32))), .val (.int (own_draw p2)), .val (.int (own_draw p3)), .val (.int (own_draw p4)), .unset, .unset, .unset, .unset] [(.int p5)])) t → Steps p.tables e below _ t := fun t kt => pre5 t (by
    show Steps p.tables e below (T4.setTop (mkF m 21 #[.val (.int p1), .val (.int p2), .val (.int p3), .val (.int p4), .val (.int p5), .val (.int ((p1 &&& (7 : Int32)) % (5 : Int32))), .val (.int (own_draw p2)), .val (.int (own_draw p3)), .unset, .unset, .unset, .unset, .unset] [(.int p4)])) _
    refine st6 _ ?_
    refine XS.istore X6.here hx rfl (hb hby at_24) rfl (l' := #[.val (.int p1), .val (.int p2), .val (.int p3), .val (.int p4), .val (.int p5), .val (.int ((p1 &&& (7 : Int32)) % (5 : Int32))), .val (.int (own_draw p2)), .val (.int (own_draw p3)), .val (.int (own_draw p4)), .unset, .unset, .unset, .unset]) rfl ?_
    refine XS.iload X6.here hx rfl (hb hby at_26) rfl ?_
    exact kt)
  obtain ⟨_, _, ⟨T8, L8, k8, n8⟩, -, X8, ⟨Lc8, hQ8, l8, y8, z8⟩, st8⟩ := Jvm.LawKit.callS X6 hx (y := (⟨"com/example/firm_warden/firmwarden/HeaderFieldsIsTokenPinLaw", "draw", "(I)C"⟩ : MethodName)) hown (mvT hZ (hw _ (List.mem_of_getElem? (i := 0) rfl))) (mvT hZ (hw _ (List.mem_of_getElem? (i := 1) rfl))) (mvT hZ (hw _ (List.mem_of_getElem? (i := 2) rfl))) (mvT hZ (hw _ (List.mem_of_getElem? (i := 3) rfl))) (by decide) (backOf (W := 0) (rm1 l Z a0 hw [] p5 h0 n0 Z0) hZ (hw _ (List.mem_of_getElem? (i := 3) rfl)) (hw _ (List.mem_of_getElem? (i := 2) rfl)) (by decide) (by decide)) (g := (mkF m 28 #[.val (.int p1), .val (.int p2), .val (.int p3), .val (.int p4), .val (.int p5), .val (.int ((p1 &&& (7 : Int32)) % (5 : Int32))), .val (.int (own_draw p2)), .val (.int (own_draw p3)), .val (.int (own_draw p4)), .unset, .unset, .unset, .unset] [(.int p5)])) rfl (by rw [hml]; rfl) (argsL := [(.int p5)]) (rest := []) (lenOf pd_15 rfl) rfl (by show 2 * 0 + _ ≤ _; exact Nat.le_of_eq rfl) (hb hby at_28) (fun _ _ => ⟨rfl, e6, (by decide : 0 + 0 ≤ _), (by decide : 0 + 0 ≤ _)⟩)
  dsimp only [Pt.U, Pt.locs, Pt.cells, Pt.slots] at X8 l8 y8 z8 st8 hQ8
  subst l8 y8 z8
  obtain ⟨rfl, N8q, e8⟩ := hQ8
  have N8 := Fr.app N6 N8q
  have pre9 : ∀ t, Steps p.tables e below (T8.setTop (mkF m 33 #[.val (.int p1), .val (.int p2), .val (.int p3), .val (.int p4), .val (.int p5), .val (.int ((p1 &&& (7 : Int32)) % (5 : Int32))), .val (.int (own_draw p2)), .val (.int (own_draw p3)), .val (.int (own_draw p4)), .val (.int (own_draw p5)), .unset, .unset, .unset] [])) t → Steps p.tables e below _ t := fun t kt => pre7 t (by
    show Steps p.tables e below (T6.setTop (mkF m 28 #[.val (.int p1), .val (.int p2), .val (.int p3), .val (.int p4), .val (.int p5), .val (.int ((p1 &&& (7 : Int32)) % (5 : Int32))), .val (.int (own_draw p2)), .val (.int (own_draw p3)), .val (.int (own_draw p4)), .unset, .unset, .unset, .unset] [(.int p5)])) _
    refine st8 _ ?_
    refine XS.istore X8.here hx rfl (hb hby at_31) rfl (l' := #[.val (.int p1), .val (.int p2), .val (.int p3), .val (.int p4), .val (.int p5), .val (.int ((p1 &&& (7 : Int32)) % (5 : Int32))), .val (.int (own_draw p2)), .val (.int (own_draw p3)), .val (.int (own_draw p4)), .val (.int (own_draw p5)), .unset, .unset, .unset]) rfl ?_
    exact kt)
  obtain ⟨c0, hc0⟩ : ∃ z : Int32, z = (own_draw p2) := ⟨_, rfl⟩
  rw [← hc0] at pre9
  have rc0 : 0 ≤ c0.toInt ∧ c0.toInt < 65536 := by rw [hc0]; exact own_draw_rng _
  obtain ⟨c1, hc1⟩ : ∃ z : Int32, z = (own_draw p3) := ⟨_, rfl⟩
  rw [← hc1] at pre9
  have rc1 : 0 ≤ c1.toInt ∧ c1.toInt < 65536 := by rw [hc1]; exact own_draw_rng _
  obtain ⟨c2, hc2⟩ : ∃ z : Int32, z = (own_draw p4) := ⟨_, rfl⟩
  rw [← hc2] at pre9
  have rc2 : 0 ≤ c2.toInt ∧ c2.toInt < 65536 := by rw [hc2]; exact own_draw_rng _
  obtain ⟨c3, hc3⟩ : ∃ z : Int32, z = (own_draw p5) := ⟨_, rfl⟩
  rw [← hc3] at pre9
  have rc3 : 0 ≤ c3.toInt ∧ c3.toInt < 65536 := by rw [hc3]; exact own_draw_rng _
  rcases own_five p1 with h5 | h5 | h5 | h5 | h5
  · have hv10 : ((p1 &&& (7 : Int32)) % (5 : Int32)) = (0 : Int32) := h5
    rw [hv10] at pre9
    have pre11 : ∀ t, Steps p.tables e below (T8.setTop (mkF m 35 #[.val (.int p1), .val (.int p2), .val (.int p3), .val (.int p4), .val (.int p5), .val (.int (0 : Int32)), .val (.int c0), .val (.int c1), .val (.int c2), .val (.int c3), .unset, .unset, .unset] [(.int (0 : Int32))])) t → Steps p.tables e below _ t := fun t kt => pre9 t (by
      show Steps p.tables e below (T8.setTop (mkF m 33 #[.val (.int p1), .val (.int p2), .val (.int p3), .val (.int p4), .val (.int p5), .val (.int (0 : Int32)), .val (.int c0), .val (.int c1), .val (.int c2), .val (.int c3), .unset, .unset, .unset] [])) _
      refine XS.iload X8.here hx rfl (hb hby at_33) rfl ?_
      exact kt)
    obtain ⟨T12, h12, k12, X12, e12, E12, A12, st12⟩ := newP X8 hx hZ (hw _ (List.mem_of_getElem? (i := 4) rfl)) e8 (g := (mkF m 35 #[.val (.int p1), .val (.int p2), .val (.int p3), .val (.int p4), .val (.int p5), .val (.int (0 : Int32)), .val (.int c0), .val (.int c1), .val (.int c2), .val (.int c3), .unset, .unset, .unset] [(.int (0 : Int32))])) rfl (hb hby at_35) rfl (by decide) (cap := 0) (by decide) (by decide) (by decide) (by decide)
    obtain ⟨b12, gb12⟩ : ∃ z, z = h0.size := ⟨_, rfl⟩
    rw [← gb12] at A12 st12
    have g_b12 : n0 ≤ b12 := Nat.le_trans Z0 (Nat.le_of_eq gb12.symm)
    have Zs12 : n0 ≤ h12.size := Nat.le_trans Z0 E12.1
    have sz_b12 : h0.size ≤ b12 := Nat.le_trans (Keep.refl h0 []).1 (Nat.le_of_eq gb12.symm)
    have Kp12 : Keep h0 h12 [] := (Keep.refl h0 []).ext E12
    have CA0 : own_A Z h12 b12 .char 0 (fun _ => 0) := own_A_new A12 rfl rfl
    have pre13 : ∀ t, Steps p.tables e below (T12.setTop (mkF m 86 #[.val (.int p1), .val (.int p2), .val (.int p3), .val (.int p4), .val (.int p5), .val (.int (0 : Int32)), .val (.int c0), .val (.int c1), .val (.int c2), .val (.int c3), .val (.ref b12), .unset, .unset] [])) t → Steps p.tables e below _ t := fun t kt => pre11 t (by
      show Steps p.tables e below (T8.setTop (mkF m 35 #[.val (.int p1), .val (.int p2), .val (.int p3), .val (.int p4), .val (.int p5), .val (.int (0 : Int32)), .val (.int c0), .val (.int c1), .val (.int c2), .val (.int c3), .unset, .unset, .unset] [(.int (0 : Int32))])) _
      refine st12 _ ?_
      refine XS.astore X12.here hx rfl (hb hby at_37) rfl rfl (l' := #[.val (.int p1), .val (.int p2), .val (.int p3), .val (.int p4), .val (.int p5), .val (.int (0 : Int32)), .val (.int c0), .val (.int c1), .val (.int c2), .val (.int c3), .val (.ref b12), .unset, .unset]) rfl ?_
      refine XS.iload X12.here hx rfl (hb hby at_39) rfl ?_
      have hc41 : ¬ ((0 : Int32) < (0 : Int32)) := by decide
      show Steps p.tables e below (T12.setTop (mkF m 41 #[.val (.int p1), .val (.int p2), .val (.int p3), .val (.int p4), .val (.int p5), .val (.int (0 : Int32)), .val (.int c0), .val (.int c1), .val (.int c2), .val (.int c3), .val (.ref b12), .unset, .unset] [(.int (0 : Int32))])) _
      refine XS.ifYes X12.here hx rfl (pc0 := 41) (pc' := 50) rfl (hb hby at_41) rfl ((if0 _ _).trans (flt hc41).2.2.2) (by decide) (by decide) ?_
      refine XS.iload X12.here hx rfl (hb hby at_50) rfl ?_
      refine XS.iconst X12.here hx rfl (hb hby at_52) ?_
      have hc53 : ¬ ((1 : Int32) < (0 : Int32)) := by decide
      show Steps p.tables e below (T12.setTop (mkF m 53 #[.val (.int p1), .val (.int p2), .val (.int p3), .val (.int p4), .val (.int p5), .val (.int (0 : Int32)), .val (.int c0), .val (.int c1), .val (.int c2), .val (.int c3), .val (.ref b12), .unset, .unset] [(.int (1 : Int32)), (.int (0 : Int32))])) _
      refine XS.icmpYes X12.here hx rfl (pc0 := 53) (pc' := 62) rfl (hb hby at_53) rfl (flt hc53).2.2.2 (by decide) (by decide) ?_
      refine XS.iload X12.here hx rfl (hb hby at_62) rfl ?_
      refine XS.iconst X12.here hx rfl (hb hby at_64) ?_
      have hc65 : ¬ ((2 : Int32) < (0 : Int32)) := by decide
      show Steps p.tables e below (T12.setTop (mkF m 65 #[.val (.int p1), .val (.int p2), .val (.int p3), .val (.int p4), .val (.int p5), .val (.int (0 : Int32)), .val (.int c0), .val (.int c1), .val (.int c2), .val (.int c3), .val (.ref b12), .unset, .unset] [(.int (2 : Int32)), (.int (0 : Int32))])) _
      refine XS.icmpYes X12.here hx rfl (pc0 := 65) (pc' := 74) rfl (hb hby at_65) rfl (flt hc65).2.2.2 (by decide) (by decide) ?_
      refine XS.iload X12.here hx rfl (hb hby at_74) rfl ?_
      refine XS.iconst X12.here hx rfl (hb hby at_76) ?_
      have hc77 : ¬ ((3 : Int32) < (0 : Int32)) := by decide
      show Steps p.tables e below (T12.setTop (mkF m 77 #[.val (.int p1), .val (.int p2), .val (.int p3), .val (.int p4), .val (.int p5), .val (.int (0 : Int32)), .val (.int c0), .val (.int c1), .val (.int c2), .val (.int c3), .val (.ref b12), .unset, .unset] [(.int (3 : Int32)), (.int (0 : Int32))])) _
      refine XS.icmpYes X12.here hx rfl (pc0 := 77) (pc' := 86) rfl (hb hby at_77) rfl (flt hc77).2.2.2 (by decide) (by decide) ?_
      exact kt)
    obtain ⟨T14, h14, X14, e14, E14, A14, D14, -, st14⟩ := newO X12 hx hZ hown (hw _ (List.mem_of_getElem? (i := 5) rfl)) (hw _ (List.mem_of_getElem? (i := 6) rfl)) (hw _ (List.mem_of_getElem? (i := 7) rfl)) e12 (g := (mkF m 86 #[.val (.int p1), .val (.int p2), .val (.int p3), .val (.int p4), .val (.int p5), .val (.int (0 : Int32)), .val (.int c0), .val (.int c1), .val (.int c2), .val (.int c3), .val (.ref b12), .unset, .unset] [])) rfl (hb hby at_86) (by decide) (by decide)
    obtain ⟨b14, gb14⟩ : ∃ z, z = h12.size := ⟨_, rfl⟩
    rw [← gb14] at A14 D14 st14
    have g_b14 : n0 ≤ b14 := Nat.le_trans Zs12 (Nat.le_of_eq gb14.symm)
    have Zs14 : n0 ≤ h14.size := Nat.le_trans Zs12 E14.1
    have sz_b14 : h0.size ≤ b14 := Nat.le_trans Kp12.1 (Nat.le_of_eq gb14.symm)
    have Kp14 : Keep h0 h14 [] := Kp12.ext E14
    have Eas := A14
    have Fvs : Fld Z h14 b14 "java/lang/String" "value" "[B" .null := D14 (Or.inr (hw _ (List.mem_of_getElem? (i := 20) rfl))) (ty := (.array .byte)) (by decide)
    have Fcs : Fld Z h14 b14 "java/lang/String" "coder" "B" (.int (0 : Int32)) := D14 (Or.inr (hw _ (List.mem_of_getElem? (i := 21) rfl))) (ty := .byte) (by decide)
    have CAs := own_A_ext CA0 E14
    have hff : ∀ j, j < 0 → 0 ≤ ((fun _ => 0 : Nat → Int32) j).toInt ∧ ((fun _ => 0 : Nat → Int32) j).toInt < 65536 := fun j hj => absurd hj (Nat.not_lt_zero _)
    have pre15 : ∀ t, Steps p.tables e below (T14.setTop (mkF m 92 #[.val (.int p1), .val (.int p2), .val (.int p3), .val (.int p4), .val (.int p5), .val (.int (0 : Int32)), .val (.int c0), .val (.int c1), .val (.int c2), .val (.int c3), .val (.ref b12), .unset, .unset] [(.ref b12), (.ref b14), (.ref b14)])) t → Steps p.tables e below _ t := fun t kt => pre13 t (by
      show Steps p.tables e below (T12.setTop (mkF m 86 #[.val (.int p1), .val (.int p2), .val (.int p3), .val (.int p4), .val (.int p5), .val (.int (0 : Int32)), .val (.int c0), .val (.int c1), .val (.int c2), .val (.int c3), .val (.ref b12), .unset, .unset] [])) _
      refine st14 _ ?_
      refine XS.dup X14.here hx rfl (hb hby at_89) rfl rfl ?_
      refine XS.aload X14.here hx rfl (hb hby at_90) rfl rfl ?_
      exact kt)
    obtain ⟨_, _, ⟨T16, L16, k16, n16⟩, -, Y16, Sj16, hg16, ⟨Lc16, hQ16, l16, y16, z16⟩, st16⟩ := Jvm.Stand.specialBackS (s := s.setVm s.vm) (show Stand p l e room_1 (s.setVm s.vm) m #[(.int p1), (.int p2), (.int p3), (.int p4), (.int p5)] below meth c T14 _ _ _ from X14) hx (y := (⟨"java/lang/String", "<init>", "([C)V"⟩ : MethodName)) rfl hown (mvT hZ (hw _ (List.mem_of_getElem? (i := 8) rfl))) (mvT hZ (hw _ (List.mem_of_getElem? (i := 9) rfl))) (mvT hZ (hw _ (List.mem_of_getElem? (i := 10) rfl))) (by decide) (own_backS (W := 1) (I := fun vm => IB Z vm []) (rm2n0 l Z a0 hw [] b14 b12 h14 n0 Zs14 Eas Fvs Fcs g_b14 CAs (fun b_ cl_ q_ => Kp14.2.1 b_ cl_ (KZ b_ cl_ q_) nin0) hh7 hcw) hZ (hw _ (List.mem_of_getElem? (i := 10) rfl)) (hw _ (List.mem_of_getElem? (i := 7) rfl)) (by decide) (by decide)) (g := (mkF m 92 #[.val (.int p1), .val (.int p2), .val (.int p3), .val (.int p4), .val (.int p5), .val (.int (0 : Int32)), .val (.int c0), .val (.int c1), .val (.int c2), .val (.int c3), .val (.ref b12), .unset, .unset] [(.ref b12), (.ref b14), (.ref b14)])) rfl (by rw [hml]; rfl) (Steps.refl _) (a := b14) (argsL := [(.ref b12)]) (rest := [(.ref b14)]) (lenOf pd_16 rfl) rfl (by show 2 * 0 + _ ≤ _; exact Nat.le_of_eq rfl) (hb hby at_92) (fun vm₁ hv => ⟨⟨rfl, e14, own_IB_warm (s := s.setVm s.vm) hIb hv⟩, (by decide : 2 + 2 ≤ _), (by decide : 4 + 4 ≤ _)⟩)
    dsimp only [Pt.U, Pt.locs, Pt.cells, Pt.slots] at Y16 Sj16 hg16 l16 y16 z16 st16 hQ16
    subst l16 y16 z16
    obtain ⟨rfl, N16q, Kq, Sq0⟩ := hQ16
    have N16 := Fr.app N8 N16q
    obtain ⟨X16, Si16, hz16, how16⟩ := rebS (s := s) (vm0 := s.vm) (State.WarmedH.since (State.WarmedH.refl s) 0) (Nat.zero_le _) Y16 Sj16 hg16 hZ hown
    have Sq := Sq0 (fun _ => 0)
    have Ke : Keep h0 T16.heap [] := Kp14.trans Kq (allS (Or.inr sz_b14) all0)
    have Ze : n0 ≤ T16.heap.size := Nat.le_trans Z0 Ke.1
    have pre17 : ∀ t, Steps p.tables e below (T16.setTop (mkF m 167 #[.val (.int p1), .val (.int p2), .val (.int p3), .val (.int p4), .val (.int p5), .val (.int (0 : Int32)), .val (.int c0), .val (.int c1), .val (.int c2), .val (.int c3), .val (.ref b12), .val (.ref b14), .val (.int (0 : Int32))] [(.ref b14)])) t → Steps p.tables e below _ t := fun t kt => pre15 t (by
      show Steps p.tables e below (T14.setTop (mkF m 92 #[.val (.int p1), .val (.int p2), .val (.int p3), .val (.int p4), .val (.int p5), .val (.int (0 : Int32)), .val (.int c0), .val (.int c1), .val (.int c2), .val (.int c3), .val (.ref b12), .unset, .unset] [(.ref b12), (.ref b14), (.ref b14)])) _
      refine st16.trans ?_
      refine XS.astore X16.here hx rfl (hb hby at_95) rfl rfl (l' := #[.val (.int p1), .val (.int p2), .val (.int p3), .val (.int p4), .val (.int p5), .val (.int (0 : Int32)), .val (.int c0), .val (.int c1), .val (.int c2), .val (.int c3), .val (.ref b12), .val (.ref b14), .unset]) rfl ?_
      refine XS.iload X16.here hx rfl (hb hby at_97) rfl ?_
      have hc99 : ¬ ((0 : Int32) < (0 : Int32)) := by decide
      show Steps p.tables e below (T16.setTop (mkF m 99 #[.val (.int p1), .val (.int p2), .val (.int p3), .val (.int p4), .val (.int p5), .val (.int (0 : Int32)), .val (.int c0), .val (.int c1), .val (.int c2), .val (.int c3), .val (.ref b12), .val (.ref b14), .unset] [(.int (0 : Int32))])) _
      refine XS.ifYes X16.here hx rfl (pc0 := 99) (pc' := 162) rfl (hb hby at_99) rfl ((if0 _ _).trans (flt hc99).2.2.2) (by decide) (by decide) ?_
      refine XS.iconst X16.here hx rfl (hb hby at_162) ?_
      refine XS.istore X16.here hx rfl (hb hby at_163) rfl (l' := #[.val (.int p1), .val (.int p2), .val (.int p3), .val (.int p4), .val (.int p5), .val (.int (0 : Int32)), .val (.int c0), .val (.int c1), .val (.int c2), .val (.int c3), .val (.ref b12), .val (.ref b14), .val (.int (0 : Int32))]) rfl ?_
      show Steps p.tables e below (T16.setTop (mkF m 165 #[.val (.int p1), .val (.int p2), .val (.int p3), .val (.int p4), .val (.int p5), .val (.int (0 : Int32)), .val (.int c0), .val (.int c1), .val (.int c2), .val (.int c3), .val (.ref b12), .val (.ref b14), .val (.int (0 : Int32))] [])) _
      refine XS.aload X16.here hx rfl (hb hby at_165) rfl rfl ?_
      exact kt)
    obtain ⟨_, _, ⟨T18, L18, k18, n18⟩, -, X18, ⟨Lc18, hQ18, l18, y18, z18⟩, st18⟩ := Jvm.LawKit.callS X16 hx (y := (⟨"com/example/firm_warden/firmwarden/HeaderFields", "isToken", "(Ljava/lang/String;)Z"⟩ : MethodName)) how16 (mvT hz16 (hw _ (List.mem_of_getElem? (i := 26) rfl))) (mvT hz16 (hw _ (List.mem_of_getElem? (i := 27) rfl))) (mvT hz16 (hw _ (List.mem_of_getElem? (i := 28) rfl))) (mvT hz16 (hw _ (List.mem_of_getElem? (i := 29) rfl))) (by decide) (backOf (W := 0) (rm5E l Z a0 hw [] b14 ta 0 (fun _ => 0) G1 G3 T16.heap n0 Ze rfl rG3 (own_Sta_keep O4 Ke) (own_Sta_keep O2 Ke) P5 (own_Sta_keep AD Ke) (own_Sta_keep HB Ke) (own_Sta_keep LB Ke) Sq (by decide) hff (own_Sta_keep TS Ke) (own_A_keep TA Ke nin0)) hz16 (hw _ (List.mem_of_getElem? (i := 29) rfl)) (hw _ (List.mem_of_getElem? (i := 28) rfl)) (by decide) (by decide)) (g := (mkF m 167 #[.val (.int p1), .val (.int p2), .val (.int p3), .val (.int p4), .val (.int p5), .val (.int (0 : Int32)), .val (.int c0), .val (.int c1), .val (.int c2), .val (.int c3), .val (.ref b12), .val (.ref b14), .val (.int (0 : Int32))] [(.ref b14)])) rfl (by rw [hml]; rfl) (argsL := [(.ref b14)]) (rest := []) (lenOf pd_17 rfl) rfl (by show 2 * 0 + _ ≤ _; exact Nat.le_of_eq rfl) (hb hby at_167) (fun _ _ => ⟨rfl, rfl, (by decide : 4 + 0 ≤ _), (by decide : 8 + 0 ≤ _)⟩)
    dsimp only [Pt.U, Pt.locs, Pt.cells, Pt.slots] at X18 l18 y18 z18 st18 hQ18
    subst l18 y18 z18
    obtain ⟨r5, rfl, N18q, e18, R5⟩ := hQ18
    have N18 := Fr.app N16 N18q
    have pre19 : ∀ t, Steps p.tables e below (T18.setTop (mkF m 170 #[.val (.int p1), .val (.int p2), .val (.int p3), .val (.int p4), .val (.int p5), .val (.int (0 : Int32)), .val (.int c0), .val (.int c1), .val (.int c2), .val (.int c3), .val (.ref b12), .val (.ref b14), .val (.int (0 : Int32))] [(.int r5)])) t → Steps p.tables e below _ t := fun t kt => pre17 t (by
      show Steps p.tables e below (T16.setTop (mkF m 167 #[.val (.int p1), .val (.int p2), .val (.int p3), .val (.int p4), .val (.int p5), .val (.int (0 : Int32)), .val (.int c0), .val (.int c1), .val (.int c2), .val (.int c3), .val (.ref b12), .val (.ref b14), .val (.int (0 : Int32))] [(.ref b14)])) _
      refine st18 _ ?_
      exact kt)
    rcases R5 with ⟨rfl, hpos, hall⟩ | ⟨rfl, hex⟩
    · exact absurd hpos (by decide)
    · obtain ⟨fs, hr, hrun, hended, -, hW, hI, hsame⟩ := X18.leaveW Si16 (by rw [e18]; exact Nat.le_refl _) (v := some (.int (1 : Int32))) (fun h => by rw [Bd.returns] at h; cases h)
      refine ⟨_, _, pre19 _ ?_, hrun, hended, _, _, rfl, ?_, ⟨_, rfl⟩, hW, hI, hsame.mono (by decide) (by decide)⟩
      · show Steps p.tables e below (T18.setTop (mkF m 170 #[.val (.int p1), .val (.int p2), .val (.int p3), .val (.int p4), .val (.int p5), .val (.int (0 : Int32)), .val (.int c0), .val (.int c1), .val (.int c2), .val (.int c3), .val (.ref b12), .val (.ref b14), .val (.int (0 : Int32))] [(.int (0 : Int32))])) _
        refine XS.iload X18.here hx rfl (hb hby at_170) rfl ?_
        have hc172 : (0 : Int32) = (0 : Int32) := rfl
        refine XS.icmpNo X18.here hx rfl (hb hby at_172) rfl (teq hc172).2 ?_
        refine XS.iconst X18.here hx rfl (hb hby at_175) ?_
        show Steps p.tables e below (T18.setTop (mkF m 176 #[.val (.int p1), .val (.int p2), .val (.int p3), .val (.int p4), .val (.int p5), .val (.int (0 : Int32)), .val (.int c0), .val (.int c1), .val (.int c2), .val (.int c3), .val (.ref b12), .val (.ref b14), .val (.int (0 : Int32))] [(.int (1 : Int32))])) _
        refine XS.goto X18.here hx rfl (pc0 := 176) (pc' := 180) rfl (hb hby at_176) (by decide) (by decide) ?_
        show Steps p.tables e below (T18.setTop (mkF m 180 #[.val (.int p1), .val (.int p2), .val (.int p3), .val (.int p4), .val (.int p5), .val (.int (0 : Int32)), .val (.int c0), .val (.int c1), .val (.int c2), .val (.int c3), .val (.ref b12), .val (.ref b14), .val (.int (0 : Int32))] [(.int (1 : Int32))])) _
        exact retN X18 hx (t := .boolean) Bd.returns (by simp) (hb hby at_180) hr
      · exact ⟨rfl, N18⟩
  · have hv20 : ((p1 &&& (7 : Int32)) % (5 : Int32)) = (1 : Int32) := h5
    rw [hv20] at pre9
    have pre21 : ∀ t, Steps p.tables e below (T8.setTop (mkF m 35 #[.val (.int p1), .val (.int p2), .val (.int p3), .val (.int p4), .val (.int p5), .val (.int (1 : Int32)), .val (.int c0), .val (.int c1), .val (.int c2), .val (.int c3), .unset, .unset, .unset] [(.int (1 : Int32))])) t → Steps p.tables e below _ t := fun t kt => pre9 t (by
      show Steps p.tables e below (T8.setTop (mkF m 33 #[.val (.int p1), .val (.int p2), .val (.int p3), .val (.int p4), .val (.int p5), .val (.int (1 : Int32)), .val (.int c0), .val (.int c1), .val (.int c2), .val (.int c3), .unset, .unset, .unset] [])) _
      refine XS.iload X8.here hx rfl (hb hby at_33) rfl ?_
      exact kt)
    obtain ⟨T22, h22, k22, X22, e22, E22, A22, st22⟩ := newP X8 hx hZ (hw _ (List.mem_of_getElem? (i := 4) rfl)) e8 (g := (mkF m 35 #[.val (.int p1), .val (.int p2), .val (.int p3), .val (.int p4), .val (.int p5), .val (.int (1 : Int32)), .val (.int c0), .val (.int c1), .val (.int c2), .val (.int c3), .unset, .unset, .unset] [(.int (1 : Int32))])) rfl (hb hby at_35) rfl (by decide) (cap := 1) (by decide) (by decide) (by decide) (by decide)
    obtain ⟨b22, gb22⟩ : ∃ z, z = h0.size := ⟨_, rfl⟩
    rw [← gb22] at A22 st22
    have g_b22 : n0 ≤ b22 := Nat.le_trans Z0 (Nat.le_of_eq gb22.symm)
    have Zs22 : n0 ≤ h22.size := Nat.le_trans Z0 E22.1
    have sz_b22 : h0.size ≤ b22 := Nat.le_trans (Keep.refl h0 []).1 (Nat.le_of_eq gb22.symm)
    have Kp22 : Keep h0 h22 [] := (Keep.refl h0 []).ext E22
    have CA0 : own_A Z h22 b22 .char 1 (fun _ => 0) := own_A_new A22 rfl rfl
    have pre23 : ∀ t, Steps p.tables e below (T22.setTop (mkF m 49 #[.val (.int p1), .val (.int p2), .val (.int p3), .val (.int p4), .val (.int p5), .val (.int (1 : Int32)), .val (.int c0), .val (.int c1), .val (.int c2), .val (.int c3), .val (.ref b22), .unset, .unset] [(.int c0), (.int (0 : Int32)), (.ref b22)])) t → Steps p.tables e below _ t := fun t kt => pre21 t (by
      show Steps p.tables e below (T8.setTop (mkF m 35 #[.val (.int p1), .val (.int p2), .val (.int p3), .val (.int p4), .val (.int p5), .val (.int (1 : Int32)), .val (.int c0), .val (.int c1), .val (.int c2), .val (.int c3), .unset, .unset, .unset] [(.int (1 : Int32))])) _
      refine st22 _ ?_
      refine XS.astore X22.here hx rfl (hb hby at_37) rfl rfl (l' := #[.val (.int p1), .val (.int p2), .val (.int p3), .val (.int p4), .val (.int p5), .val (.int (1 : Int32)), .val (.int c0), .val (.int c1), .val (.int c2), .val (.int c3), .val (.ref b22), .unset, .unset]) rfl ?_
      refine XS.iload X22.here hx rfl (hb hby at_39) rfl ?_
      have hc41 : (0 : Int32) < (1 : Int32) := by decide
      show Steps p.tables e below (T22.setTop (mkF m 41 #[.val (.int p1), .val (.int p2), .val (.int p3), .val (.int p4), .val (.int p5), .val (.int (1 : Int32)), .val (.int c0), .val (.int c1), .val (.int c2), .val (.int c3), .val (.ref b22), .unset, .unset] [(.int (1 : Int32))])) _
      refine XS.ifNo X22.here hx rfl (hb hby at_41) rfl ((if0 _ _).trans (tlt hc41).2.2.2) ?_
      refine XS.aload X22.here hx rfl (hb hby at_44) rfl rfl ?_
      refine XS.iconst X22.here hx rfl (hb hby at_46) ?_
      show Steps p.tables e below (T22.setTop (mkF m 47 #[.val (.int p1), .val (.int p2), .val (.int p3), .val (.int p4), .val (.int p5), .val (.int (1 : Int32)), .val (.int c0), .val (.int c1), .val (.int c2), .val (.int c3), .val (.ref b22), .unset, .unset] [(.int (0 : Int32)), (.ref b22)])) _
      refine XS.iload X22.here hx rfl (hb hby at_47) rfl ?_
      exact kt)
    obtain ⟨cl_0, Ar_0, Sz_0, -⟩ := id CA0
    obtain ⟨T24, h24, X24, e24, W24, st24⟩ := stC X22 hx hZ e22 Ar_0 (j := (0 : Int32)) (within (c := 0) rfl (by rw [Sz_0]; decide) (by rw [Sz_0]; decide)) (g := (mkF m 49 #[.val (.int p1), .val (.int p2), .val (.int p3), .val (.int p4), .val (.int p5), .val (.int (1 : Int32)), .val (.int c0), .val (.int c1), .val (.int c2), .val (.int c3), .val (.ref b22), .unset, .unset] [(.int c0), (.int (0 : Int32)), (.ref b22)])) rfl rfl (hb hby at_49)
    have N24 := Fr.snoc X24 N8 g_b22
    have Zs24 : n0 ≤ h24.size := Nat.le_trans Zs22 (Nat.le_of_eq W24.size.symm)
    have Kp24 : Keep h0 h24 [] := Kp22.wr W24 (Or.inr sz_b22)
    have V24 : Wr h22 h24 b22 0 (.int c0) := by have z := W24; rw [own_char rc0.1 rc0.2] at z; exact z
    have CA1 := own_A_set CA0 V24
    have pre25 : ∀ t, Steps p.tables e below (T24.setTop (mkF m 86 #[.val (.int p1), .val (.int p2), .val (.int p3), .val (.int p4), .val (.int p5), .val (.int (1 : Int32)), .val (.int c0), .val (.int c1), .val (.int c2), .val (.int c3), .val (.ref b22), .unset, .unset] [])) t → Steps p.tables e below _ t := fun t kt => pre23 t (by
      show Steps p.tables e below (T22.setTop (mkF m 49 #[.val (.int p1), .val (.int p2), .val (.int p3), .val (.int p4), .val (.int p5), .val (.int (1 : Int32)), .val (.int c0), .val (.int c1), .val (.int c2), .val (.int c3), .val (.ref b22), .unset, .unset] [(.int c0), (.int (0 : Int32)), (.ref b22)])) _
      refine st24 _ ?_
      refine XS.iload X24.here hx rfl (hb hby at_50) rfl ?_
      refine XS.iconst X24.here hx rfl (hb hby at_52) ?_
      have hc53 : ¬ ((1 : Int32) < (1 : Int32)) := by decide
      show Steps p.tables e below (T24.setTop (mkF m 53 #[.val (.int p1), .val (.int p2), .val (.int p3), .val (.int p4), .val (.int p5), .val (.int (1 : Int32)), .val (.int c0), .val (.int c1), .val (.int c2), .val (.int c3), .val (.ref b22), .unset, .unset] [(.int (1 : Int32)), (.int (1 : Int32))])) _
      refine XS.icmpYes X24.here hx rfl (pc0 := 53) (pc' := 62) rfl (hb hby at_53) rfl (flt hc53).2.2.2 (by decide) (by decide) ?_
      refine XS.iload X24.here hx rfl (hb hby at_62) rfl ?_
      refine XS.iconst X24.here hx rfl (hb hby at_64) ?_
      have hc65 : ¬ ((2 : Int32) < (1 : Int32)) := by decide
      show Steps p.tables e below (T24.setTop (mkF m 65 #[.val (.int p1), .val (.int p2), .val (.int p3), .val (.int p4), .val (.int p5), .val (.int (1 : Int32)), .val (.int c0), .val (.int c1), .val (.int c2), .val (.int c3), .val (.ref b22), .unset, .unset] [(.int (2 : Int32)), (.int (1 : Int32))])) _
      refine XS.icmpYes X24.here hx rfl (pc0 := 65) (pc' := 74) rfl (hb hby at_65) rfl (flt hc65).2.2.2 (by decide) (by decide) ?_
      refine XS.iload X24.here hx rfl (hb hby at_74) rfl ?_
      refine XS.iconst X24.here hx rfl (hb hby at_76) ?_
      have hc77 : ¬ ((3 : Int32) < (1 : Int32)) := by decide
      show Steps p.tables e below (T24.setTop (mkF m 77 #[.val (.int p1), .val (.int p2), .val (.int p3), .val (.int p4), .val (.int p5), .val (.int (1 : Int32)), .val (.int c0), .val (.int c1), .val (.int c2), .val (.int c3), .val (.ref b22), .unset, .unset] [(.int (3 : Int32)), (.int (1 : Int32))])) _
      refine XS.icmpYes X24.here hx rfl (pc0 := 77) (pc' := 86) rfl (hb hby at_77) rfl (flt hc77).2.2.2 (by decide) (by decide) ?_
      exact kt)
    obtain ⟨T26, h26, X26, e26, E26, A26, D26, -, st26⟩ := newO X24 hx hZ hown (hw _ (List.mem_of_getElem? (i := 5) rfl)) (hw _ (List.mem_of_getElem? (i := 6) rfl)) (hw _ (List.mem_of_getElem? (i := 7) rfl)) e24 (g := (mkF m 86 #[.val (.int p1), .val (.int p2), .val (.int p3), .val (.int p4), .val (.int p5), .val (.int (1 : Int32)), .val (.int c0), .val (.int c1), .val (.int c2), .val (.int c3), .val (.ref b22), .unset, .unset] [])) rfl (hb hby at_86) (by decide) (by decide)
    obtain ⟨b26, gb26⟩ : ∃ z, z = h24.size := ⟨_, rfl⟩
    rw [← gb26] at A26 D26 st26
    have g_b26 : n0 ≤ b26 := Nat.le_trans Zs24 (Nat.le_of_eq gb26.symm)
    have Zs26 : n0 ≤ h26.size := Nat.le_trans Zs24 E26.1
    have sz_b26 : h0.size ≤ b26 := Nat.le_trans Kp24.1 (Nat.le_of_eq gb26.symm)
    have Kp26 : Keep h0 h26 [] := Kp24.ext E26
    have Eas := A26
    have Fvs : Fld Z h26 b26 "java/lang/String" "value" "[B" .null := D26 (Or.inr (hw _ (List.mem_of_getElem? (i := 20) rfl))) (ty := (.array .byte)) (by decide)
    have Fcs : Fld Z h26 b26 "java/lang/String" "coder" "B" (.int (0 : Int32)) := D26 (Or.inr (hw _ (List.mem_of_getElem? (i := 21) rfl))) (ty := .byte) (by decide)
    have CAs := own_A_ext CA1 E26
    have hff : ∀ j, j < 1 → 0 ≤ ((upd (fun _ => 0) 0 c0) j).toInt ∧ ((upd (fun _ => 0) 0 c0) j).toInt < 65536 := by
      intro j hj
      have hj' : j = 0 := by omega
      rcases hj' with rfl
      · exact rc0
    have pre27 : ∀ t, Steps p.tables e below (T26.setTop (mkF m 92 #[.val (.int p1), .val (.int p2), .val (.int p3), .val (.int p4), .val (.int p5), .val (.int (1 : Int32)), .val (.int c0), .val (.int c1), .val (.int c2), .val (.int c3), .val (.ref b22), .unset, .unset] [(.ref b22), (.ref b26), (.ref b26)])) t → Steps p.tables e below _ t := fun t kt => pre25 t (by
      show Steps p.tables e below (T24.setTop (mkF m 86 #[.val (.int p1), .val (.int p2), .val (.int p3), .val (.int p4), .val (.int p5), .val (.int (1 : Int32)), .val (.int c0), .val (.int c1), .val (.int c2), .val (.int c3), .val (.ref b22), .unset, .unset] [])) _
      refine st26 _ ?_
      refine XS.dup X26.here hx rfl (hb hby at_89) rfl rfl ?_
      refine XS.aload X26.here hx rfl (hb hby at_90) rfl rfl ?_
      exact kt)
    obtain ⟨_, _, ⟨T28, L28, k28, n28⟩, -, X28, ⟨Lc28, hQ28, l28, y28, z28⟩, st28⟩ := X26.specialBack hx (y := (⟨"java/lang/String", "<init>", "([C)V"⟩ : MethodName)) rfl hown (mvT hZ (hw _ (List.mem_of_getElem? (i := 8) rfl))) (mvT hZ (hw _ (List.mem_of_getElem? (i := 9) rfl))) (mvT hZ (hw _ (List.mem_of_getElem? (i := 10) rfl))) (by decide) (backOf (W := 1) (rm2 l Z a0 hw [] b26 b22 1 (upd (fun _ => 0) 0 c0) G1 h26 n0 Zs26 Eas Fvs Fcs g_b26 CAs (own_Sta_keep O2 Kp26) P5 (own_Sta_keep AD Kp26) (own_Sta_keep HB Kp26) (own_Sta_keep LB Kp26) (by decide) (by decide) hff) hZ (hw _ (List.mem_of_getElem? (i := 10) rfl)) (hw _ (List.mem_of_getElem? (i := 7) rfl)) (by decide) (by decide)) (g := (mkF m 92 #[.val (.int p1), .val (.int p2), .val (.int p3), .val (.int p4), .val (.int p5), .val (.int (1 : Int32)), .val (.int c0), .val (.int c1), .val (.int c2), .val (.int c3), .val (.ref b22), .unset, .unset] [(.ref b22), (.ref b26), (.ref b26)])) rfl (by rw [hml]; rfl) (Steps.refl _) (a := b26) (argsL := [(.ref b22)]) (rest := [(.ref b26)]) (lenOf pd_16 rfl) rfl (by show 2 * 0 + _ ≤ _; exact Nat.le_of_eq rfl) (hb hby at_92) (fun _ _ => ⟨rfl, e26, (by decide : 2 + 2 ≤ _), (by decide : 5 + 12 ≤ _)⟩)
    dsimp only [Pt.U, Pt.locs, Pt.cells, Pt.slots] at X28 l28 y28 z28 st28 hQ28
    subst l28 y28 z28
    obtain ⟨rfl, N28q, Kq, Sq⟩ := hQ28
    have N28 := Fr.app N24 N28q
    have Ke : Keep h0 T28.heap [] := Kp26.trans Kq (allS (Or.inr sz_b26) all0)
    have Ze : n0 ≤ T28.heap.size := Nat.le_trans Z0 Ke.1
    have pre29 : ∀ t, Steps p.tables e below (T28.setTop (mkF m 110 #[.val (.int p1), .val (.int p2), .val (.int p3), .val (.int p4), .val (.int p5), .val (.int (1 : Int32)), .val (.int c0), .val (.int c1), .val (.int c2), .val (.int c3), .val (.ref b22), .val (.ref b26), .unset] [(.int c0)])) t → Steps p.tables e below _ t := fun t kt => pre27 t (by
      show Steps p.tables e below (T26.setTop (mkF m 92 #[.val (.int p1), .val (.int p2), .val (.int p3), .val (.int p4), .val (.int p5), .val (.int (1 : Int32)), .val (.int c0), .val (.int c1), .val (.int c2), .val (.int c3), .val (.ref b22), .unset, .unset] [(.ref b22), (.ref b26), (.ref b26)])) _
      refine st28.trans ?_
      refine XS.astore X28.here hx rfl (hb hby at_95) rfl rfl (l' := #[.val (.int p1), .val (.int p2), .val (.int p3), .val (.int p4), .val (.int p5), .val (.int (1 : Int32)), .val (.int c0), .val (.int c1), .val (.int c2), .val (.int c3), .val (.ref b22), .val (.ref b26), .unset]) rfl ?_
      refine XS.iload X28.here hx rfl (hb hby at_97) rfl ?_
      have hc99 : (0 : Int32) < (1 : Int32) := by decide
      show Steps p.tables e below (T28.setTop (mkF m 99 #[.val (.int p1), .val (.int p2), .val (.int p3), .val (.int p4), .val (.int p5), .val (.int (1 : Int32)), .val (.int c0), .val (.int c1), .val (.int c2), .val (.int c3), .val (.ref b22), .val (.ref b26), .unset] [(.int (1 : Int32))])) _
      refine XS.ifNo X28.here hx rfl (hb hby at_99) rfl ((if0 _ _).trans (tlt hc99).2.2.2) ?_
      refine XS.iload X28.here hx rfl (hb hby at_102) rfl ?_
      refine XS.iconst X28.here hx rfl (hb hby at_104) ?_
      have hc105 : ¬ ((1 : Int32) < (1 : Int32)) := by decide
      show Steps p.tables e below (T28.setTop (mkF m 105 #[.val (.int p1), .val (.int p2), .val (.int p3), .val (.int p4), .val (.int p5), .val (.int (1 : Int32)), .val (.int c0), .val (.int c1), .val (.int c2), .val (.int c3), .val (.ref b22), .val (.ref b26), .unset] [(.int (1 : Int32)), (.int (1 : Int32))])) _
      refine XS.icmpNo X28.here hx rfl (hb hby at_105) rfl (flt hc105).1 ?_
      refine XS.iload X28.here hx rfl (hb hby at_108) rfl ?_
      exact kt)
    obtain ⟨_, _, ⟨T30, L30, k30, n30⟩, -, X30, ⟨Lc30, hQ30, l30, y30, z30⟩, st30⟩ := Jvm.LawKit.callS X28 hx (y := (⟨"com/example/firm_warden/firmwarden/HeaderFieldsIsTokenPinLaw", "tchar", "(C)Z"⟩ : MethodName)) hown (mvT hZ (hw _ (List.mem_of_getElem? (i := 56) rfl))) (mvT hZ (hw _ (List.mem_of_getElem? (i := 57) rfl))) (mvT hZ (hw _ (List.mem_of_getElem? (i := 2) rfl))) (mvT hZ (hw _ (List.mem_of_getElem? (i := 58) rfl))) (by decide) (backOf (W := 0) (rm12 l Z a0 hw [] c0 T28.heap n0 Ze) hZ (hw _ (List.mem_of_getElem? (i := 58) rfl)) (hw _ (List.mem_of_getElem? (i := 2) rfl)) (by decide) (by decide)) (g := (mkF m 110 #[.val (.int p1), .val (.int p2), .val (.int p3), .val (.int p4), .val (.int p5), .val (.int (1 : Int32)), .val (.int c0), .val (.int c1), .val (.int c2), .val (.int c3), .val (.ref b22), .val (.ref b26), .unset] [(.int c0)])) rfl (by rw [hml]; rfl) (argsL := [(.int c0)]) (rest := []) (lenOf pd_18 rfl) rfl (by show 2 * 0 + _ ≤ _; exact Nat.le_of_eq rfl) (hb hby at_110) (fun _ _ => ⟨rfl, rfl, (by decide : 4 + 0 ≤ _), (by decide : 17 + 0 ≤ _)⟩)
    dsimp only [Pt.U, Pt.locs, Pt.cells, Pt.slots] at X30 l30 y30 z30 st30 hQ30
    subst l30 y30 z30
    obtain ⟨rfl, N30q, e30⟩ := hQ30
    have N30 := Fr.app N28 N30q
    have pre31 : ∀ t, Steps p.tables e below (T30.setTop (mkF m 113 #[.val (.int p1), .val (.int p2), .val (.int p3), .val (.int p4), .val (.int p5), .val (.int (1 : Int32)), .val (.int c0), .val (.int c1), .val (.int c2), .val (.int c3), .val (.ref b22), .val (.ref b26), .unset] [(.int (own_tchar c0))])) t → Steps p.tables e below _ t := fun t kt => pre29 t (by
      show Steps p.tables e below (T28.setTop (mkF m 110 #[.val (.int p1), .val (.int p2), .val (.int p3), .val (.int p4), .val (.int p5), .val (.int (1 : Int32)), .val (.int c0), .val (.int c1), .val (.int c2), .val (.int c3), .val (.ref b22), .val (.ref b26), .unset] [(.int c0)])) _
      refine st30 _ ?_
      exact kt)
    by_cases hc113 : (own_tchar c0) = (0 : Int32)
    · have pre32 : ∀ t, Steps p.tables e below (T30.setTop (mkF m 167 #[.val (.int p1), .val (.int p2), .val (.int p3), .val (.int p4), .val (.int p5), .val (.int (1 : Int32)), .val (.int c0), .val (.int c1), .val (.int c2), .val (.int c3), .val (.ref b22), .val (.ref b26), .val (.int (0 : Int32))] [(.ref b26)])) t → Steps p.tables e below _ t := fun t kt => pre31 t (by
        show Steps p.tables e below (T30.setTop (mkF m 113 #[.val (.int p1), .val (.int p2), .val (.int p3), .val (.int p4), .val (.int p5), .val (.int (1 : Int32)), .val (.int c0), .val (.int c1), .val (.int c2), .val (.int c3), .val (.ref b22), .val (.ref b26), .unset] [(.int (own_tchar c0))])) _
        refine XS.ifYes X30.here hx rfl (pc0 := 113) (pc' := 162) rfl (hb hby at_113) rfl ((if0 _ _).trans (teq hc113).1) (by decide) (by decide) ?_
        refine XS.iconst X30.here hx rfl (hb hby at_162) ?_
        refine XS.istore X30.here hx rfl (hb hby at_163) rfl (l' := #[.val (.int p1), .val (.int p2), .val (.int p3), .val (.int p4), .val (.int p5), .val (.int (1 : Int32)), .val (.int c0), .val (.int c1), .val (.int c2), .val (.int c3), .val (.ref b22), .val (.ref b26), .val (.int (0 : Int32))]) rfl ?_
        show Steps p.tables e below (T30.setTop (mkF m 165 #[.val (.int p1), .val (.int p2), .val (.int p3), .val (.int p4), .val (.int p5), .val (.int (1 : Int32)), .val (.int c0), .val (.int c1), .val (.int c2), .val (.int c3), .val (.ref b22), .val (.ref b26), .val (.int (0 : Int32))] [])) _
        refine XS.aload X30.here hx rfl (hb hby at_165) rfl rfl ?_
        exact kt)
      obtain ⟨_, _, ⟨T33, L33, k33, n33⟩, -, X33, ⟨Lc33, hQ33, l33, y33, z33⟩, st33⟩ := Jvm.LawKit.callS X30 hx (y := (⟨"com/example/firm_warden/firmwarden/HeaderFields", "isToken", "(Ljava/lang/String;)Z"⟩ : MethodName)) hown (mvT hZ (hw _ (List.mem_of_getElem? (i := 26) rfl))) (mvT hZ (hw _ (List.mem_of_getElem? (i := 27) rfl))) (mvT hZ (hw _ (List.mem_of_getElem? (i := 28) rfl))) (mvT hZ (hw _ (List.mem_of_getElem? (i := 29) rfl))) (by decide) (backOf (W := 0) (rm5F l Z a0 hw [] b26 ta 1 (upd (fun _ => 0) 0 c0) G1 G3 T28.heap n0 Ze (by decide) rG3 (own_Sta_keep O4 Ke) (own_Sta_keep O2 Ke) P5 (own_Sta_keep AD Ke) (own_Sta_keep HB Ke) (own_Sta_keep LB Ke) Sq (by decide) hff (own_Sta_keep TS Ke) (own_A_keep TA Ke nin0)) hZ (hw _ (List.mem_of_getElem? (i := 29) rfl)) (hw _ (List.mem_of_getElem? (i := 28) rfl)) (by decide) (by decide)) (g := (mkF m 167 #[.val (.int p1), .val (.int p2), .val (.int p3), .val (.int p4), .val (.int p5), .val (.int (1 : Int32)), .val (.int c0), .val (.int c1), .val (.int c2), .val (.int c3), .val (.ref b22), .val (.ref b26), .val (.int (0 : Int32))] [(.ref b26)])) rfl (by rw [hml]; rfl) (argsL := [(.ref b26)]) (rest := []) (lenOf pd_17 rfl) rfl (by show 2 * 0 + _ ≤ _; exact Nat.le_of_eq rfl) (hb hby at_167) (fun _ _ => ⟨rfl, e30, (by decide : 4 + 0 ≤ _), (by decide : 17 + 0 ≤ _)⟩)
      dsimp only [Pt.U, Pt.locs, Pt.cells, Pt.slots] at X33 l33 y33 z33 st33 hQ33
      subst l33 y33 z33
      obtain ⟨r5, rfl, N33q, e33, R5⟩ := hQ33
      have N33 := Fr.app N30 N33q
      have pre34 : ∀ t, Steps p.tables e below (T33.setTop (mkF m 170 #[.val (.int p1), .val (.int p2), .val (.int p3), .val (.int p4), .val (.int p5), .val (.int (1 : Int32)), .val (.int c0), .val (.int c1), .val (.int c2), .val (.int c3), .val (.ref b22), .val (.ref b26), .val (.int (0 : Int32))] [(.int r5)])) t → Steps p.tables e below _ t := fun t kt => pre32 t (by
        show Steps p.tables e below (T30.setTop (mkF m 167 #[.val (.int p1), .val (.int p2), .val (.int p3), .val (.int p4), .val (.int p5), .val (.int (1 : Int32)), .val (.int c0), .val (.int c1), .val (.int c2), .val (.int c3), .val (.ref b22), .val (.ref b26), .val (.int (0 : Int32))] [(.ref b26)])) _
        refine st33 _ ?_
        exact kt)
      rcases R5 with ⟨rfl, hpos, hall⟩ | ⟨rfl, hex⟩
      · have hcon : own_tchar c0 = 1 := hall 0 (by decide)
        rw [hc113] at hcon
        exact absurd hcon (by decide)
      · obtain ⟨fs, hr, hrun, hended, hW0, hsame⟩ := X33.leave (v := some (.int (1 : Int32))) (fun h => by rw [Bd.returns] at h; cases h)
        have hW := hW0.wide
        have hI := hW0.no_new_pair
        refine ⟨_, _, pre34 _ ?_, hrun, hended, _, _, rfl, ?_, ⟨_, rfl⟩, hW, hI _, hsame.mono (by decide) (by decide)⟩
        · show Steps p.tables e below (T33.setTop (mkF m 170 #[.val (.int p1), .val (.int p2), .val (.int p3), .val (.int p4), .val (.int p5), .val (.int (1 : Int32)), .val (.int c0), .val (.int c1), .val (.int c2), .val (.int c3), .val (.ref b22), .val (.ref b26), .val (.int (0 : Int32))] [(.int (0 : Int32))])) _
          refine XS.iload X33.here hx rfl (hb hby at_170) rfl ?_
          have hc172 : (0 : Int32) = (0 : Int32) := rfl
          refine XS.icmpNo X33.here hx rfl (hb hby at_172) rfl (teq hc172).2 ?_
          refine XS.iconst X33.here hx rfl (hb hby at_175) ?_
          show Steps p.tables e below (T33.setTop (mkF m 176 #[.val (.int p1), .val (.int p2), .val (.int p3), .val (.int p4), .val (.int p5), .val (.int (1 : Int32)), .val (.int c0), .val (.int c1), .val (.int c2), .val (.int c3), .val (.ref b22), .val (.ref b26), .val (.int (0 : Int32))] [(.int (1 : Int32))])) _
          refine XS.goto X33.here hx rfl (pc0 := 176) (pc' := 180) rfl (hb hby at_176) (by decide) (by decide) ?_
          show Steps p.tables e below (T33.setTop (mkF m 180 #[.val (.int p1), .val (.int p2), .val (.int p3), .val (.int p4), .val (.int p5), .val (.int (1 : Int32)), .val (.int c0), .val (.int c1), .val (.int c2), .val (.int c3), .val (.ref b22), .val (.ref b26), .val (.int (0 : Int32))] [(.int (1 : Int32))])) _
          exact retN X33 hx (t := .boolean) Bd.returns (by simp) (hb hby at_180) hr
        · exact ⟨rfl, N33⟩
    · have pre35 : ∀ t, Steps p.tables e below (T30.setTop (mkF m 167 #[.val (.int p1), .val (.int p2), .val (.int p3), .val (.int p4), .val (.int p5), .val (.int (1 : Int32)), .val (.int c0), .val (.int c1), .val (.int c2), .val (.int c3), .val (.ref b22), .val (.ref b26), .val (.int (1 : Int32))] [(.ref b26)])) t → Steps p.tables e below _ t := fun t kt => pre31 t (by
        show Steps p.tables e below (T30.setTop (mkF m 113 #[.val (.int p1), .val (.int p2), .val (.int p3), .val (.int p4), .val (.int p5), .val (.int (1 : Int32)), .val (.int c0), .val (.int c1), .val (.int c2), .val (.int c3), .val (.ref b22), .val (.ref b26), .unset] [(.int (own_tchar c0))])) _
        refine XS.ifNo X30.here hx rfl (hb hby at_113) rfl ((if0 _ _).trans (feq hc113).1) ?_
        refine XS.iload X30.here hx rfl (hb hby at_116) rfl ?_
        refine XS.iconst X30.here hx rfl (hb hby at_118) ?_
        have hc119 : (1 : Int32) < (2 : Int32) := by decide
        show Steps p.tables e below (T30.setTop (mkF m 119 #[.val (.int p1), .val (.int p2), .val (.int p3), .val (.int p4), .val (.int p5), .val (.int (1 : Int32)), .val (.int c0), .val (.int c1), .val (.int c2), .val (.int c3), .val (.ref b22), .val (.ref b26), .unset] [(.int (2 : Int32)), (.int (1 : Int32))])) _
        refine XS.icmpYes X30.here hx rfl (pc0 := 119) (pc' := 130) rfl (hb hby at_119) rfl (tlt hc119).1 (by decide) (by decide) ?_
        refine XS.iload X30.here hx rfl (hb hby at_130) rfl ?_
        refine XS.iconst X30.here hx rfl (hb hby at_132) ?_
        have hc133 : (1 : Int32) < (3 : Int32) := by decide
        show Steps p.tables e below (T30.setTop (mkF m 133 #[.val (.int p1), .val (.int p2), .val (.int p3), .val (.int p4), .val (.int p5), .val (.int (1 : Int32)), .val (.int c0), .val (.int c1), .val (.int c2), .val (.int c3), .val (.ref b22), .val (.ref b26), .unset] [(.int (3 : Int32)), (.int (1 : Int32))])) _
        refine XS.icmpYes X30.here hx rfl (pc0 := 133) (pc' := 144) rfl (hb hby at_133) rfl (tlt hc133).1 (by decide) (by decide) ?_
        refine XS.iload X30.here hx rfl (hb hby at_144) rfl ?_
        refine XS.iconst X30.here hx rfl (hb hby at_146) ?_
        have hc147 : (1 : Int32) < (4 : Int32) := by decide
        show Steps p.tables e below (T30.setTop (mkF m 147 #[.val (.int p1), .val (.int p2), .val (.int p3), .val (.int p4), .val (.int p5), .val (.int (1 : Int32)), .val (.int c0), .val (.int c1), .val (.int c2), .val (.int c3), .val (.ref b22), .val (.ref b26), .unset] [(.int (4 : Int32)), (.int (1 : Int32))])) _
        refine XS.icmpYes X30.here hx rfl (pc0 := 147) (pc' := 158) rfl (hb hby at_147) rfl (tlt hc147).1 (by decide) (by decide) ?_
        refine XS.iconst X30.here hx rfl (hb hby at_158) ?_
        refine XS.goto X30.here hx rfl (pc0 := 159) (pc' := 163) rfl (hb hby at_159) (by decide) (by decide) ?_
        show Steps p.tables e below (T30.setTop (mkF m 163 #[.val (.int p1), .val (.int p2), .val (.int p3), .val (.int p4), .val (.int p5), .val (.int (1 : Int32)), .val (.int c0), .val (.int c1), .val (.int c2), .val (.int c3), .val (.ref b22), .val (.ref b26), .unset] [(.int (1 : Int32))])) _
        refine XS.istore X30.here hx rfl (hb hby at_163) rfl (l' := #[.val (.int p1), .val (.int p2), .val (.int p3), .val (.int p4), .val (.int p5), .val (.int (1 : Int32)), .val (.int c0), .val (.int c1), .val (.int c2), .val (.int c3), .val (.ref b22), .val (.ref b26), .val (.int (1 : Int32))]) rfl ?_
        refine XS.aload X30.here hx rfl (hb hby at_165) rfl rfl ?_
        exact kt)
      obtain ⟨_, _, ⟨T36, L36, k36, n36⟩, -, X36, ⟨Lc36, hQ36, l36, y36, z36⟩, st36⟩ := Jvm.LawKit.callS X30 hx (y := (⟨"com/example/firm_warden/firmwarden/HeaderFields", "isToken", "(Ljava/lang/String;)Z"⟩ : MethodName)) hown (mvT hZ (hw _ (List.mem_of_getElem? (i := 26) rfl))) (mvT hZ (hw _ (List.mem_of_getElem? (i := 27) rfl))) (mvT hZ (hw _ (List.mem_of_getElem? (i := 28) rfl))) (mvT hZ (hw _ (List.mem_of_getElem? (i := 29) rfl))) (by decide) (backOf (W := 0) (rm5F l Z a0 hw [] b26 ta 1 (upd (fun _ => 0) 0 c0) G1 G3 T28.heap n0 Ze (by decide) rG3 (own_Sta_keep O4 Ke) (own_Sta_keep O2 Ke) P5 (own_Sta_keep AD Ke) (own_Sta_keep HB Ke) (own_Sta_keep LB Ke) Sq (by decide) hff (own_Sta_keep TS Ke) (own_A_keep TA Ke nin0)) hZ (hw _ (List.mem_of_getElem? (i := 29) rfl)) (hw _ (List.mem_of_getElem? (i := 28) rfl)) (by decide) (by decide)) (g := (mkF m 167 #[.val (.int p1), .val (.int p2), .val (.int p3), .val (.int p4), .val (.int p5), .val (.int (1 : Int32)), .val (.int c0), .val (.int c1), .val (.int c2), .val (.int c3), .val (.ref b22), .val (.ref b26), .val (.int (1 : Int32))] [(.ref b26)])) rfl (by rw [hml]; rfl) (argsL := [(.ref b26)]) (rest := []) (lenOf pd_17 rfl) rfl (by show 2 * 0 + _ ≤ _; exact Nat.le_of_eq rfl) (hb hby at_167) (fun _ _ => ⟨rfl, e30, (by decide : 4 + 0 ≤ _), (by decide : 17 + 0 ≤ _)⟩)
      dsimp only [Pt.U, Pt.locs, Pt.cells, Pt.slots] at X36 l36 y36 z36 st36 hQ36
      subst l36 y36 z36
      obtain ⟨r5, rfl, N36q, e36, R5⟩ := hQ36
      have N36 := Fr.app N30 N36q
      have pre37 : ∀ t, Steps p.tables e below (T36.setTop (mkF m 170 #[.val (.int p1), .val (.int p2), .val (.int p3), .val (.int p4), .val (.int p5), .val (.int (1 : Int32)), .val (.int c0), .val (.int c1), .val (.int c2), .val (.int c3), .val (.ref b22), .val (.ref b26), .val (.int (1 : Int32))] [(.int r5)])) t → Steps p.tables e below _ t := fun t kt => pre35 t (by
        show Steps p.tables e below (T30.setTop (mkF m 167 #[.val (.int p1), .val (.int p2), .val (.int p3), .val (.int p4), .val (.int p5), .val (.int (1 : Int32)), .val (.int c0), .val (.int c1), .val (.int c2), .val (.int c3), .val (.ref b22), .val (.ref b26), .val (.int (1 : Int32))] [(.ref b26)])) _
        refine st36 _ ?_
        exact kt)
      rcases R5 with ⟨rfl, hpos, hall⟩ | ⟨rfl, hex⟩
      · obtain ⟨fs, hr, hrun, hended, hW0, hsame⟩ := X36.leave (v := some (.int (1 : Int32))) (fun h => by rw [Bd.returns] at h; cases h)
        have hW := hW0.wide
        have hI := hW0.no_new_pair
        refine ⟨_, _, pre37 _ ?_, hrun, hended, _, _, rfl, ?_, ⟨_, rfl⟩, hW, hI _, hsame.mono (by decide) (by decide)⟩
        · show Steps p.tables e below (T36.setTop (mkF m 170 #[.val (.int p1), .val (.int p2), .val (.int p3), .val (.int p4), .val (.int p5), .val (.int (1 : Int32)), .val (.int c0), .val (.int c1), .val (.int c2), .val (.int c3), .val (.ref b22), .val (.ref b26), .val (.int (1 : Int32))] [(.int (1 : Int32))])) _
          refine XS.iload X36.here hx rfl (hb hby at_170) rfl ?_
          have hc172 : (1 : Int32) = (1 : Int32) := rfl
          refine XS.icmpNo X36.here hx rfl (hb hby at_172) rfl (teq hc172).2 ?_
          refine XS.iconst X36.here hx rfl (hb hby at_175) ?_
          show Steps p.tables e below (T36.setTop (mkF m 176 #[.val (.int p1), .val (.int p2), .val (.int p3), .val (.int p4), .val (.int p5), .val (.int (1 : Int32)), .val (.int c0), .val (.int c1), .val (.int c2), .val (.int c3), .val (.ref b22), .val (.ref b26), .val (.int (1 : Int32))] [(.int (1 : Int32))])) _
          refine XS.goto X36.here hx rfl (pc0 := 176) (pc' := 180) rfl (hb hby at_176) (by decide) (by decide) ?_
          show Steps p.tables e below (T36.setTop (mkF m 180 #[.val (.int p1), .val (.int p2), .val (.int p3), .val (.int p4), .val (.int p5), .val (.int (1 : Int32)), .val (.int c0), .val (.int c1), .val (.int c2), .val (.int c3), .val (.ref b22), .val (.ref b26), .val (.int (1 : Int32))] [(.int (1 : Int32))])) _
          exact retN X36 hx (t := .boolean) Bd.returns (by simp) (hb hby at_180) hr
        · exact ⟨rfl, N36⟩
      · exfalso
        rcases hex with h | ⟨j, hj, hq⟩
        · exact absurd h (by decide)
        · have hj' : j = 0 := by omega
          rcases hj' with rfl
          · exact hc113 hq
  · have hv38 : ((p1 &&& (7 : Int32)) % (5 : Int32)) = (2 : Int32) := h5
    rw [hv38] at pre9
    have pre39 : ∀ t, Steps p.tables e below (T8.setTop (mkF m 35 #[.val (.int p1), .val (.int p2), .val (.int p3), .val (.int p4), .val (.int p5), .val (.int (2 : Int32)), .val (.int c0), .val (.int c1), .val (.int c2), .val (.int c3), .unset, .unset, .unset] [(.int (2 : Int32))])) t → Steps p.tables e below _ t := fun t kt => pre9 t (by
      show Steps p.tables e below (T8.setTop (mkF m 33 #[.val (.int p1), .val (.int p2), .val (.int p3), .val (.int p4), .val (.int p5), .val (.int (2 : Int32)), .val (.int c0), .val (.int c1), .val (.int c2), .val (.int c3), .unset, .unset, .unset] [])) _
      refine XS.iload X8.here hx rfl (hb hby at_33) rfl ?_
      exact kt)
    obtain ⟨T40, h40, k40, X40, e40, E40, A40, st40⟩ := newP X8 hx hZ (hw _ (List.mem_of_getElem? (i := 4) rfl)) e8 (g := (mkF m 35 #[.val (.int p1), .val (.int p2), .val (.int p3), .val (.int p4), .val (.int p5), .val (.int (2 : Int32)), .val (.int c0), .val (.int c1), .val (.int c2), .val (.int c3), .unset, .unset, .unset] [(.int (2 : Int32))])) rfl (hb hby at_35) rfl (by decide) (cap := 2) (by decide) (by decide) (by decide) (by decide)
    obtain ⟨b40, gb40⟩ : ∃ z, z = h0.size := ⟨_, rfl⟩
    rw [← gb40] at A40 st40
    have g_b40 : n0 ≤ b40 := Nat.le_trans Z0 (Nat.le_of_eq gb40.symm)
    have Zs40 : n0 ≤ h40.size := Nat.le_trans Z0 E40.1
    have sz_b40 : h0.size ≤ b40 := Nat.le_trans (Keep.refl h0 []).1 (Nat.le_of_eq gb40.symm)
    have Kp40 : Keep h0 h40 [] := (Keep.refl h0 []).ext E40
    have CA0 : own_A Z h40 b40 .char 2 (fun _ => 0) := own_A_new A40 rfl rfl
    have pre41 : ∀ t, Steps p.tables e below (T40.setTop (mkF m 49 #[.val (.int p1), .val (.int p2), .val (.int p3), .val (.int p4), .val (.int p5), .val (.int (2 : Int32)), .val (.int c0), .val (.int c1), .val (.int c2), .val (.int c3), .val (.ref b40), .unset, .unset] [(.int c0), (.int (0 : Int32)), (.ref b40)])) t → Steps p.tables e below _ t := fun t kt => pre39 t (by
      show Steps p.tables e below (T8.setTop (mkF m 35 #[.val (.int p1), .val (.int p2), .val (.int p3), .val (.int p4), .val (.int p5), .val (.int (2 : Int32)), .val (.int c0), .val (.int c1), .val (.int c2), .val (.int c3), .unset, .unset, .unset] [(.int (2 : Int32))])) _
      refine st40 _ ?_
      refine XS.astore X40.here hx rfl (hb hby at_37) rfl rfl (l' := #[.val (.int p1), .val (.int p2), .val (.int p3), .val (.int p4), .val (.int p5), .val (.int (2 : Int32)), .val (.int c0), .val (.int c1), .val (.int c2), .val (.int c3), .val (.ref b40), .unset, .unset]) rfl ?_
      refine XS.iload X40.here hx rfl (hb hby at_39) rfl ?_
      have hc41 : (0 : Int32) < (2 : Int32) := by decide
      show Steps p.tables e below (T40.setTop (mkF m 41 #[.val (.int p1), .val (.int p2), .val (.int p3), .val (.int p4), .val (.int p5), .val (.int (2 : Int32)), .val (.int c0), .val (.int c1), .val (.int c2), .val (.int c3), .val (.ref b40), .unset, .unset] [(.int (2 : Int32))])) _
      refine XS.ifNo X40.here hx rfl (hb hby at_41) rfl ((if0 _ _).trans (tlt hc41).2.2.2) ?_
      refine XS.aload X40.here hx rfl (hb hby at_44) rfl rfl ?_
      refine XS.iconst X40.here hx rfl (hb hby at_46) ?_
      show Steps p.tables e below (T40.setTop (mkF m 47 #[.val (.int p1), .val (.int p2), .val (.int p3), .val (.int p4), .val (.int p5), .val (.int (2 : Int32)), .val (.int c0), .val (.int c1), .val (.int c2), .val (.int c3), .val (.ref b40), .unset, .unset] [(.int (0 : Int32)), (.ref b40)])) _
      refine XS.iload X40.here hx rfl (hb hby at_47) rfl ?_
      exact kt)
    obtain ⟨cl_0, Ar_0, Sz_0, -⟩ := id CA0
    obtain ⟨T42, h42, X42, e42, W42, st42⟩ := stC X40 hx hZ e40 Ar_0 (j := (0 : Int32)) (within (c := 0) rfl (by rw [Sz_0]; decide) (by rw [Sz_0]; decide)) (g := (mkF m 49 #[.val (.int p1), .val (.int p2), .val (.int p3), .val (.int p4), .val (.int p5), .val (.int (2 : Int32)), .val (.int c0), .val (.int c1), .val (.int c2), .val (.int c3), .val (.ref b40), .unset, .unset] [(.int c0), (.int (0 : Int32)), (.ref b40)])) rfl rfl (hb hby at_49)
    have N42 := Fr.snoc X42 N8 g_b40
    have Zs42 : n0 ≤ h42.size := Nat.le_trans Zs40 (Nat.le_of_eq W42.size.symm)
    have Kp42 : Keep h0 h42 [] := Kp40.wr W42 (Or.inr sz_b40)
    have V42 : Wr h40 h42 b40 0 (.int c0) := by have z := W42; rw [own_char rc0.1 rc0.2] at z; exact z
    have CA1 := own_A_set CA0 V42
    have pre43 : ∀ t, Steps p.tables e below (T42.setTop (mkF m 61 #[.val (.int p1), .val (.int p2), .val (.int p3), .val (.int p4), .val (.int p5), .val (.int (2 : Int32)), .val (.int c0), .val (.int c1), .val (.int c2), .val (.int c3), .val (.ref b40), .unset, .unset] [(.int c1), (.int (1 : Int32)), (.ref b40)])) t → Steps p.tables e below _ t := fun t kt => pre41 t (by
      show Steps p.tables e below (T40.setTop (mkF m 49 #[.val (.int p1), .val (.int p2), .val (.int p3), .val (.int p4), .val (.int p5), .val (.int (2 : Int32)), .val (.int c0), .val (.int c1), .val (.int c2), .val (.int c3), .val (.ref b40), .unset, .unset] [(.int c0), (.int (0 : Int32)), (.ref b40)])) _
      refine st42 _ ?_
      refine XS.iload X42.here hx rfl (hb hby at_50) rfl ?_
      refine XS.iconst X42.here hx rfl (hb hby at_52) ?_
      have hc53 : (1 : Int32) < (2 : Int32) := by decide
      show Steps p.tables e below (T42.setTop (mkF m 53 #[.val (.int p1), .val (.int p2), .val (.int p3), .val (.int p4), .val (.int p5), .val (.int (2 : Int32)), .val (.int c0), .val (.int c1), .val (.int c2), .val (.int c3), .val (.ref b40), .unset, .unset] [(.int (1 : Int32)), (.int (2 : Int32))])) _
      refine XS.icmpNo X42.here hx rfl (hb hby at_53) rfl (tlt hc53).2.2.2 ?_
      refine XS.aload X42.here hx rfl (hb hby at_56) rfl rfl ?_
      refine XS.iconst X42.here hx rfl (hb hby at_58) ?_
      show Steps p.tables e below (T42.setTop (mkF m 59 #[.val (.int p1), .val (.int p2), .val (.int p3), .val (.int p4), .val (.int p5), .val (.int (2 : Int32)), .val (.int c0), .val (.int c1), .val (.int c2), .val (.int c3), .val (.ref b40), .unset, .unset] [(.int (1 : Int32)), (.ref b40)])) _
      refine XS.iload X42.here hx rfl (hb hby at_59) rfl ?_
      exact kt)
    obtain ⟨cl_1, Ar_1, Sz_1, -⟩ := id CA1
    obtain ⟨T44, h44, X44, e44, W44, st44⟩ := stC X42 hx hZ e42 Ar_1 (j := (1 : Int32)) (within (c := 1) rfl (by rw [Sz_1]; decide) (by rw [Sz_1]; decide)) (g := (mkF m 61 #[.val (.int p1), .val (.int p2), .val (.int p3), .val (.int p4), .val (.int p5), .val (.int (2 : Int32)), .val (.int c0), .val (.int c1), .val (.int c2), .val (.int c3), .val (.ref b40), .unset, .unset] [(.int c1), (.int (1 : Int32)), (.ref b40)])) rfl rfl (hb hby at_61)
    have N44 := Fr.snoc X44 N42 g_b40
    have Zs44 : n0 ≤ h44.size := Nat.le_trans Zs42 (Nat.le_of_eq W44.size.symm)
    have Kp44 : Keep h0 h44 [] := Kp42.wr W44 (Or.inr sz_b40)
    have V44 : Wr h42 h44 b40 1 (.int c1) := by have z := W44; rw [own_char rc1.1 rc1.2] at z; exact z
    have CA2 := own_A_set CA1 V44
    have pre45 : ∀ t, Steps p.tables e below (T44.setTop (mkF m 86 #[.val (.int p1), .val (.int p2), .val (.int p3), .val (.int p4), .val (.int p5), .val (.int (2 : Int32)), .val (.int c0), .val (.int c1), .val (.int c2), .val (.int c3), .val (.ref b40), .unset, .unset] [])) t → Steps p.tables e below _ t := fun t kt => pre43 t (by
      show Steps p.tables e below (T42.setTop (mkF m 61 #[.val (.int p1), .val (.int p2), .val (.int p3), .val (.int p4), .val (.int p5), .val (.int (2 : Int32)), .val (.int c0), .val (.int c1), .val (.int c2), .val (.int c3), .val (.ref b40), .unset, .unset] [(.int c1), (.int (1 : Int32)), (.ref b40)])) _
      refine st44 _ ?_
      refine XS.iload X44.here hx rfl (hb hby at_62) rfl ?_
      refine XS.iconst X44.here hx rfl (hb hby at_64) ?_
      have hc65 : ¬ ((2 : Int32) < (2 : Int32)) := by decide
      show Steps p.tables e below (T44.setTop (mkF m 65 #[.val (.int p1), .val (.int p2), .val (.int p3), .val (.int p4), .val (.int p5), .val (.int (2 : Int32)), .val (.int c0), .val (.int c1), .val (.int c2), .val (.int c3), .val (.ref b40), .unset, .unset] [(.int (2 : Int32)), (.int (2 : Int32))])) _
      refine XS.icmpYes X44.here hx rfl (pc0 := 65) (pc' := 74) rfl (hb hby at_65) rfl (flt hc65).2.2.2 (by decide) (by decide) ?_
      refine XS.iload X44.here hx rfl (hb hby at_74) rfl ?_
      refine XS.iconst X44.here hx rfl (hb hby at_76) ?_
      have hc77 : ¬ ((3 : Int32) < (2 : Int32)) := by decide
      show Steps p.tables e below (T44.setTop (mkF m 77 #[.val (.int p1), .val (.int p2), .val (.int p3), .val (.int p4), .val (.int p5), .val (.int (2 : Int32)), .val (.int c0), .val (.int c1), .val (.int c2), .val (.int c3), .val (.ref b40), .unset, .unset] [(.int (3 : Int32)), (.int (2 : Int32))])) _
      refine XS.icmpYes X44.here hx rfl (pc0 := 77) (pc' := 86) rfl (hb hby at_77) rfl (flt hc77).2.2.2 (by decide) (by decide) ?_
      exact kt)
    obtain ⟨T46, h46, X46, e46, E46, A46, D46, -, st46⟩ := newO X44 hx hZ hown (hw _ (List.mem_of_getElem? (i := 5) rfl)) (hw _ (List.mem_of_getElem? (i := 6) rfl)) (hw _ (List.mem_of_getElem? (i := 7) rfl)) e44 (g := (mkF m 86 #[.val (.int p1), .val (.int p2), .val (.int p3), .val (.int p4), .val (.int p5), .val (.int (2 : Int32)), .val (.int c0), .val (.int c1), .val (.int c2), .val (.int c3), .val (.ref b40), .unset, .unset] [])) rfl (hb hby at_86) (by decide) (by decide)
    obtain ⟨b46, gb46⟩ : ∃ z, z = h44.size := ⟨_, rfl⟩
    rw [← gb46] at A46 D46 st46
    have g_b46 : n0 ≤ b46 := Nat.le_trans Zs44 (Nat.le_of_eq gb46.symm)
    have Zs46 : n0 ≤ h46.size := Nat.le_trans Zs44 E46.1
    have sz_b46 : h0.size ≤ b46 := Nat.le_trans Kp44.1 (Nat.le_of_eq gb46.symm)
    have Kp46 : Keep h0 h46 [] := Kp44.ext E46
    have Eas := A46
    have Fvs : Fld Z h46 b46 "java/lang/String" "value" "[B" .null := D46 (Or.inr (hw _ (List.mem_of_getElem? (i := 20) rfl))) (ty := (.array .byte)) (by decide)
    have Fcs : Fld Z h46 b46 "java/lang/String" "coder" "B" (.int (0 : Int32)) := D46 (Or.inr (hw _ (List.mem_of_getElem? (i := 21) rfl))) (ty := .byte) (by decide)
    have CAs := own_A_ext CA2 E46
    have hff : ∀ j, j < 2 → 0 ≤ ((upd (upd (fun _ => 0) 0 c0) 1 c1) j).toInt ∧ ((upd (upd (fun _ => 0) 0 c0) 1 c1) j).toInt < 65536 := by
      intro j hj
      have hj' : j = 0 ∨ j = 1 := by omega
      rcases hj' with rfl | rfl
      · exact rc0
      · exact rc1
    have pre47 : ∀ t, Steps p.tables e below (T46.setTop (mkF m 92 #[.val (.int p1), .val (.int p2), .val (.int p3), .val (.int p4), .val (.int p5), .val (.int (2 : Int32)), .val (.int c0), .val (.int c1), .val (.int c2), .val (.int c3), .val (.ref b40), .unset, .unset] [(.ref b40), (.ref b46), (.ref b46)])) t → Steps p.tables e below _ t := fun t kt => pre45 t (by
      show Steps p.tables e below (T44.setTop (mkF m 86 #[.val (.int p1), .val (.int p2), .val (.int p3), .val (.int p4), .val (.int p5), .val (.int (2 : Int32)), .val (.int c0), .val (.int c1), .val (.int c2), .val (.int c3), .val (.ref b40), .unset, .unset] [])) _
      refine st46 _ ?_
      refine XS.dup X46.here hx rfl (hb hby at_89) rfl rfl ?_
      refine XS.aload X46.here hx rfl (hb hby at_90) rfl rfl ?_
      exact kt)
    obtain ⟨_, _, ⟨T48, L48, k48, n48⟩, -, X48, ⟨Lc48, hQ48, l48, y48, z48⟩, st48⟩ := X46.specialBack hx (y := (⟨"java/lang/String", "<init>", "([C)V"⟩ : MethodName)) rfl hown (mvT hZ (hw _ (List.mem_of_getElem? (i := 8) rfl))) (mvT hZ (hw _ (List.mem_of_getElem? (i := 9) rfl))) (mvT hZ (hw _ (List.mem_of_getElem? (i := 10) rfl))) (by decide) (backOf (W := 1) (rm2 l Z a0 hw [] b46 b40 2 (upd (upd (fun _ => 0) 0 c0) 1 c1) G1 h46 n0 Zs46 Eas Fvs Fcs g_b46 CAs (own_Sta_keep O2 Kp46) P5 (own_Sta_keep AD Kp46) (own_Sta_keep HB Kp46) (own_Sta_keep LB Kp46) (by decide) (by decide) hff) hZ (hw _ (List.mem_of_getElem? (i := 10) rfl)) (hw _ (List.mem_of_getElem? (i := 7) rfl)) (by decide) (by decide)) (g := (mkF m 92 #[.val (.int p1), .val (.int p2), .val (.int p3), .val (.int p4), .val (.int p5), .val (.int (2 : Int32)), .val (.int c0), .val (.int c1), .val (.int c2), .val (.int c3), .val (.ref b40), .unset, .unset] [(.ref b40), (.ref b46), (.ref b46)])) rfl (by rw [hml]; rfl) (Steps.refl _) (a := b46) (argsL := [(.ref b40)]) (rest := [(.ref b46)]) (lenOf pd_16 rfl) rfl (by show 2 * 0 + _ ≤ _; exact Nat.le_of_eq rfl) (hb hby at_92) (fun _ _ => ⟨rfl, e46, (by decide : 2 + 2 ≤ _), (by decide : 6 + 12 ≤ _)⟩)
    dsimp only [Pt.U, Pt.locs, Pt.cells, Pt.slots] at X48 l48 y48 z48 st48 hQ48
    subst l48 y48 z48
    obtain ⟨rfl, N48q, Kq, Sq⟩ := hQ48
    have N48 := Fr.app N44 N48q
    have Ke : Keep h0 T48.heap [] := Kp46.trans Kq (allS (Or.inr sz_b46) all0)
    have Ze : n0 ≤ T48.heap.size := Nat.le_trans Z0 Ke.1
    have pre49 : ∀ t, Steps p.tables e below (T48.setTop (mkF m 110 #[.val (.int p1), .val (.int p2), .val (.int p3), .val (.int p4), .val (.int p5), .val (.int (2 : Int32)), .val (.int c0), .val (.int c1), .val (.int c2), .val (.int c3), .val (.ref b40), .val (.ref b46), .unset] [(.int c0)])) t → Steps p.tables e below _ t := fun t kt => pre47 t (by
      show Steps p.tables e below (T46.setTop (mkF m 92 #[.val (.int p1), .val (.int p2), .val (.int p3), .val (.int p4), .val (.int p5), .val (.int (2 : Int32)), .val (.int c0), .val (.int c1), .val (.int c2), .val (.int c3), .val (.ref b40), .unset, .unset] [(.ref b40), (.ref b46), (.ref b46)])) _
      refine st48.trans ?_
      refine XS.astore X48.here hx rfl (hb hby at_95) rfl rfl (l' := #[.val (.int p1), .val (.int p2), .val (.int p3), .val (.int p4), .val (.int p5), .val (.int (2 : Int32)), .val (.int c0), .val (.int c1), .val (.int c2), .val (.int c3), .val (.ref b40), .val (.ref b46), .unset]) rfl ?_
      refine XS.iload X48.here hx rfl (hb hby at_97) rfl ?_
      have hc99 : (0 : Int32) < (2 : Int32) := by decide
      show Steps p.tables e below (T48.setTop (mkF m 99 #[.val (.int p1), .val (.int p2), .val (.int p3), .val (.int p4), .val (.int p5), .val (.int (2 : Int32)), .val (.int c0), .val (.int c1), .val (.int c2), .val (.int c3), .val (.ref b40), .val (.ref b46), .unset] [(.int (2 : Int32))])) _
      refine XS.ifNo X48.here hx rfl (hb hby at_99) rfl ((if0 _ _).trans (tlt hc99).2.2.2) ?_
      refine XS.iload X48.here hx rfl (hb hby at_102) rfl ?_
      refine XS.iconst X48.here hx rfl (hb hby at_104) ?_
      have hc105 : ¬ ((2 : Int32) < (1 : Int32)) := by decide
      show Steps p.tables e below (T48.setTop (mkF m 105 #[.val (.int p1), .val (.int p2), .val (.int p3), .val (.int p4), .val (.int p5), .val (.int (2 : Int32)), .val (.int c0), .val (.int c1), .val (.int c2), .val (.int c3), .val (.ref b40), .val (.ref b46), .unset] [(.int (1 : Int32)), (.int (2 : Int32))])) _
      refine XS.icmpNo X48.here hx rfl (hb hby at_105) rfl (flt hc105).1 ?_
      refine XS.iload X48.here hx rfl (hb hby at_108) rfl ?_
      exact kt)
    obtain ⟨_, _, ⟨T50, L50, k50, n50⟩, -, X50, ⟨Lc50, hQ50, l50, y50, z50⟩, st50⟩ := Jvm.LawKit.callS X48 hx (y := (⟨"com/example/firm_warden/firmwarden/HeaderFieldsIsTokenPinLaw", "tchar", "(C)Z"⟩ : MethodName)) hown (mvT hZ (hw _ (List.mem_of_getElem? (i := 56) rfl))) (mvT hZ (hw _ (List.mem_of_getElem? (i := 57) rfl))) (mvT hZ (hw _ (List.mem_of_getElem? (i := 2) rfl))) (mvT hZ (hw _ (List.mem_of_getElem? (i := 58) rfl))) (by decide) (backOf (W := 0) (rm12 l Z a0 hw [] c0 T48.heap n0 Ze) hZ (hw _ (List.mem_of_getElem? (i := 58) rfl)) (hw _ (List.mem_of_getElem? (i := 2) rfl)) (by decide) (by decide)) (g := (mkF m 110 #[.val (.int p1), .val (.int p2), .val (.int p3), .val (.int p4), .val (.int p5), .val (.int (2 : Int32)), .val (.int c0), .val (.int c1), .val (.int c2), .val (.int c3), .val (.ref b40), .val (.ref b46), .unset] [(.int c0)])) rfl (by rw [hml]; rfl) (argsL := [(.int c0)]) (rest := []) (lenOf pd_18 rfl) rfl (by show 2 * 0 + _ ≤ _; exact Nat.le_of_eq rfl) (hb hby at_110) (fun _ _ => ⟨rfl, rfl, (by decide : 4 + 0 ≤ _), (by decide : 18 + 0 ≤ _)⟩)
    dsimp only [Pt.U, Pt.locs, Pt.cells, Pt.slots] at X50 l50 y50 z50 st50 hQ50
    subst l50 y50 z50
    obtain ⟨rfl, N50q, e50⟩ := hQ50
    have N50 := Fr.app N48 N50q
    have pre51 : ∀ t, Steps p.tables e below (T50.setTop (mkF m 113 #[.val (.int p1), .val (.int p2), .val (.int p3), .val (.int p4), .val (.int p5), .val (.int (2 : Int32)), .val (.int c0), .val (.int c1), .val (.int c2), .val (.int c3), .val (.ref b40), .val (.ref b46), .unset] [(.int (own_tchar c0))])) t → Steps p.tables e below _ t := fun t kt => pre49 t (by
      show Steps p.tables e below (T48.setTop (mkF m 110 #[.val (.int p1), .val (.int p2), .val (.int p3), .val (.int p4), .val (.int p5), .val (.int (2 : Int32)), .val (.int c0), .val (.int c1), .val (.int c2), .val (.int c3), .val (.ref b40), .val (.ref b46), .unset] [(.int c0)])) _
      refine st50 _ ?_
      exact kt)
    by_cases hc113 : (own_tchar c0) = (0 : Int32)
    · have pre52 : ∀ t, Steps p.tables e below (T50.setTop (mkF m 167 #[.val (.int p1), .val (.int p2), .val (.int p3), .val (.int p4), .val (.int p5), .val (.int (2 : Int32)), .val (.int c0), .val (.int c1), .val (.int c2), .val (.int c3), .val (.ref b40), .val (.ref b46), .val (.int (0 : Int32))] [(.ref b46)])) t → Steps p.tables e below _ t := fun t kt => pre51 t (by
        show Steps p.tables e below (T50.setTop (mkF m 113 #[.val (.int p1), .val (.int p2), .val (.int p3), .val (.int p4), .val (.int p5), .val (.int (2 : Int32)), .val (.int c0), .val (.int c1), .val (.int c2), .val (.int c3), .val (.ref b40), .val (.ref b46), .unset] [(.int (own_tchar c0))])) _
        refine XS.ifYes X50.here hx rfl (pc0 := 113) (pc' := 162) rfl (hb hby at_113) rfl ((if0 _ _).trans (teq hc113).1) (by decide) (by decide) ?_
        refine XS.iconst X50.here hx rfl (hb hby at_162) ?_
        refine XS.istore X50.here hx rfl (hb hby at_163) rfl (l' := #[.val (.int p1), .val (.int p2), .val (.int p3), .val (.int p4), .val (.int p5), .val (.int (2 : Int32)), .val (.int c0), .val (.int c1), .val (.int c2), .val (.int c3), .val (.ref b40), .val (.ref b46), .val (.int (0 : Int32))]) rfl ?_
        show Steps p.tables e below (T50.setTop (mkF m 165 #[.val (.int p1), .val (.int p2), .val (.int p3), .val (.int p4), .val (.int p5), .val (.int (2 : Int32)), .val (.int c0), .val (.int c1), .val (.int c2), .val (.int c3), .val (.ref b40), .val (.ref b46), .val (.int (0 : Int32))] [])) _
        refine XS.aload X50.here hx rfl (hb hby at_165) rfl rfl ?_
        exact kt)
      obtain ⟨_, _, ⟨T53, L53, k53, n53⟩, -, X53, ⟨Lc53, hQ53, l53, y53, z53⟩, st53⟩ := Jvm.LawKit.callS X50 hx (y := (⟨"com/example/firm_warden/firmwarden/HeaderFields", "isToken", "(Ljava/lang/String;)Z"⟩ : MethodName)) hown (mvT hZ (hw _ (List.mem_of_getElem? (i := 26) rfl))) (mvT hZ (hw _ (List.mem_of_getElem? (i := 27) rfl))) (mvT hZ (hw _ (List.mem_of_getElem? (i := 28) rfl))) (mvT hZ (hw _ (List.mem_of_getElem? (i := 29) rfl))) (by decide) (backOf (W := 0) (rm5F l Z a0 hw [] b46 ta 2 (upd (upd (fun _ => 0) 0 c0) 1 c1) G1 G3 T48.heap n0 Ze (by decide) rG3 (own_Sta_keep O4 Ke) (own_Sta_keep O2 Ke) P5 (own_Sta_keep AD Ke) (own_Sta_keep HB Ke) (own_Sta_keep LB Ke) Sq (by decide) hff (own_Sta_keep TS Ke) (own_A_keep TA Ke nin0)) hZ (hw _ (List.mem_of_getElem? (i := 29) rfl)) (hw _ (List.mem_of_getElem? (i := 28) rfl)) (by decide) (by decide)) (g := (mkF m 167 #[.val (.int p1), .val (.int p2), .val (.int p3), .val (.int p4), .val (.int p5), .val (.int (2 : Int32)), .val (.int c0), .val (.int c1), .val (.int c2), .val (.int c3), .val (.ref b40), .val (.ref b46), .val (.int (0 : Int32))] [(.ref b46)])) rfl (by rw [hml]; rfl) (argsL := [(.ref b46)]) (rest := []) (lenOf pd_17 rfl) rfl (by show 2 * 0 + _ ≤ _; exact Nat.le_of_eq rfl) (hb hby at_167) (fun _ _ => ⟨rfl, e50, (by decide : 4 + 0 ≤ _), (by decide : 18 + 0 ≤ _)⟩)
      dsimp only [Pt.U, Pt.locs, Pt.cells, Pt.slots] at X53 l53 y53 z53 st53 hQ53
      subst l53 y53 z53
      obtain ⟨r5, rfl, N53q, e53, R5⟩ := hQ53
      have N53 := Fr.app N50 N53q
      have pre54 : ∀ t, Steps p.tables e below (T53.setTop (mkF m 170 #[.val (.int p1), .val (.int p2), .val (.int p3), .val (.int p4), .val (.int p5), .val (.int (2 : Int32)), .val (.int c0), .val (.int c1), .val (.int c2), .val (.int c3), .val (.ref b40), .val (.ref b46), .val (.int (0 : Int32))] [(.int r5)])) t → Steps p.tables e below _ t := fun t kt => pre52 t (by
        show Steps p.tables e below (T50.setTop (mkF m 167 #[.val (.int p1), .val (.int p2), .val (.int p3), .val (.int p4), .val (.int p5), .val (.int (2 : Int32)), .val (.int c0), .val (.int c1), .val (.int c2), .val (.int c3), .val (.ref b40), .val (.ref b46), .val (.int (0 : Int32))] [(.ref b46)])) _
        refine st53 _ ?_
        exact kt)
      rcases R5 with ⟨rfl, hpos, hall⟩ | ⟨rfl, hex⟩
      · have hcon : own_tchar c0 = 1 := hall 0 (by decide)
        rw [hc113] at hcon
        exact absurd hcon (by decide)
      · obtain ⟨fs, hr, hrun, hended, hW0, hsame⟩ := X53.leave (v := some (.int (1 : Int32))) (fun h => by rw [Bd.returns] at h; cases h)
        have hW := hW0.wide
        have hI := hW0.no_new_pair
        refine ⟨_, _, pre54 _ ?_, hrun, hended, _, _, rfl, ?_, ⟨_, rfl⟩, hW, hI _, hsame.mono (by decide) (by decide)⟩
        · show Steps p.tables e below (T53.setTop (mkF m 170 #[.val (.int p1), .val (.int p2), .val (.int p3), .val (.int p4), .val (.int p5), .val (.int (2 : Int32)), .val (.int c0), .val (.int c1), .val (.int c2), .val (.int c3), .val (.ref b40), .val (.ref b46), .val (.int (0 : Int32))] [(.int (0 : Int32))])) _
          refine XS.iload X53.here hx rfl (hb hby at_170) rfl ?_
          have hc172 : (0 : Int32) = (0 : Int32) := rfl
          refine XS.icmpNo X53.here hx rfl (hb hby at_172) rfl (teq hc172).2 ?_
          refine XS.iconst X53.here hx rfl (hb hby at_175) ?_
          show Steps p.tables e below (T53.setTop (mkF m 176 #[.val (.int p1), .val (.int p2), .val (.int p3), .val (.int p4), .val (.int p5), .val (.int (2 : Int32)), .val (.int c0), .val (.int c1), .val (.int c2), .val (.int c3), .val (.ref b40), .val (.ref b46), .val (.int (0 : Int32))] [(.int (1 : Int32))])) _
          refine XS.goto X53.here hx rfl (pc0 := 176) (pc' := 180) rfl (hb hby at_176) (by decide) (by decide) ?_
          show Steps p.tables e below (T53.setTop (mkF m 180 #[.val (.int p1), .val (.int p2), .val (.int p3), .val (.int p4), .val (.int p5), .val (.int (2 : Int32)), .val (.int c0), .val (.int c1), .val (.int c2), .val (.int c3), .val (.ref b40), .val (.ref b46), .val (.int (0 : Int32))] [(.int (1 : Int32))])) _
          exact retN X53 hx (t := .boolean) Bd.returns (by simp) (hb hby at_180) hr
        · exact ⟨rfl, N53⟩
    · have pre55 : ∀ t, Steps p.tables e below (T50.setTop (mkF m 124 #[.val (.int p1), .val (.int p2), .val (.int p3), .val (.int p4), .val (.int p5), .val (.int (2 : Int32)), .val (.int c0), .val (.int c1), .val (.int c2), .val (.int c3), .val (.ref b40), .val (.ref b46), .unset] [(.int c1)])) t → Steps p.tables e below _ t := fun t kt => pre51 t (by
        show Steps p.tables e below (T50.setTop (mkF m 113 #[.val (.int p1), .val (.int p2), .val (.int p3), .val (.int p4), .val (.int p5), .val (.int (2 : Int32)), .val (.int c0), .val (.int c1), .val (.int c2), .val (.int c3), .val (.ref b40), .val (.ref b46), .unset] [(.int (own_tchar c0))])) _
        refine XS.ifNo X50.here hx rfl (hb hby at_113) rfl ((if0 _ _).trans (feq hc113).1) ?_
        refine XS.iload X50.here hx rfl (hb hby at_116) rfl ?_
        refine XS.iconst X50.here hx rfl (hb hby at_118) ?_
        have hc119 : ¬ ((2 : Int32) < (2 : Int32)) := by decide
        show Steps p.tables e below (T50.setTop (mkF m 119 #[.val (.int p1), .val (.int p2), .val (.int p3), .val (.int p4), .val (.int p5), .val (.int (2 : Int32)), .val (.int c0), .val (.int c1), .val (.int c2), .val (.int c3), .val (.ref b40), .val (.ref b46), .unset] [(.int (2 : Int32)), (.int (2 : Int32))])) _
        refine XS.icmpNo X50.here hx rfl (hb hby at_119) rfl (flt hc119).1 ?_
        refine XS.iload X50.here hx rfl (hb hby at_122) rfl ?_
        exact kt)
      obtain ⟨_, _, ⟨T56, L56, k56, n56⟩, -, X56, ⟨Lc56, hQ56, l56, y56, z56⟩, st56⟩ := Jvm.LawKit.callS X50 hx (y := (⟨"com/example/firm_warden/firmwarden/HeaderFieldsIsTokenPinLaw", "tchar", "(C)Z"⟩ : MethodName)) hown (mvT hZ (hw _ (List.mem_of_getElem? (i := 56) rfl))) (mvT hZ (hw _ (List.mem_of_getElem? (i := 57) rfl))) (mvT hZ (hw _ (List.mem_of_getElem? (i := 2) rfl))) (mvT hZ (hw _ (List.mem_of_getElem? (i := 58) rfl))) (by decide) (backOf (W := 0) (rm12 l Z a0 hw [] c1 T48.heap n0 Ze) hZ (hw _ (List.mem_of_getElem? (i := 58) rfl)) (hw _ (List.mem_of_getElem? (i := 2) rfl)) (by decide) (by decide)) (g := (mkF m 124 #[.val (.int p1), .val (.int p2), .val (.int p3), .val (.int p4), .val (.int p5), .val (.int (2 : Int32)), .val (.int c0), .val (.int c1), .val (.int c2), .val (.int c3), .val (.ref b40), .val (.ref b46), .unset] [(.int c1)])) rfl (by rw [hml]; rfl) (argsL := [(.int c1)]) (rest := []) (lenOf pd_18 rfl) rfl (by show 2 * 0 + _ ≤ _; exact Nat.le_of_eq rfl) (hb hby at_124) (fun _ _ => ⟨rfl, e50, (by decide : 4 + 0 ≤ _), (by decide : 18 + 0 ≤ _)⟩)
      dsimp only [Pt.U, Pt.locs, Pt.cells, Pt.slots] at X56 l56 y56 z56 st56 hQ56
      subst l56 y56 z56
      obtain ⟨rfl, N56q, e56⟩ := hQ56
      have N56 := Fr.app N50 N56q
      have pre57 : ∀ t, Steps p.tables e below (T56.setTop (mkF m 127 #[.val (.int p1), .val (.int p2), .val (.int p3), .val (.int p4), .val (.int p5), .val (.int (2 : Int32)), .val (.int c0), .val (.int c1), .val (.int c2), .val (.int c3), .val (.ref b40), .val (.ref b46), .unset] [(.int (own_tchar c1))])) t → Steps p.tables e below _ t := fun t kt => pre55 t (by
        show Steps p.tables e below (T50.setTop (mkF m 124 #[.val (.int p1), .val (.int p2), .val (.int p3), .val (.int p4), .val (.int p5), .val (.int (2 : Int32)), .val (.int c0), .val (.int c1), .val (.int c2), .val (.int c3), .val (.ref b40), .val (.ref b46), .unset] [(.int c1)])) _
        refine st56 _ ?_
        exact kt)
      by_cases hc127 : (own_tchar c1) = (0 : Int32)
      · have pre58 : ∀ t, Steps p.tables e below (T56.setTop (mkF m 167 #[.val (.int p1), .val (.int p2), .val (.int p3), .val (.int p4), .val (.int p5), .val (.int (2 : Int32)), .val (.int c0), .val (.int c1), .val (.int c2), .val (.int c3), .val (.ref b40), .val (.ref b46), .val (.int (0 : Int32))] [(.ref b46)])) t → Steps p.tables e below _ t := fun t kt => pre57 t (by
          show Steps p.tables e below (T56.setTop (mkF m 127 #[.val (.int p1), .val (.int p2), .val (.int p3), .val (.int p4), .val (.int p5), .val (.int (2 : Int32)), .val (.int c0), .val (.int c1), .val (.int c2), .val (.int c3), .val (.ref b40), .val (.ref b46), .unset] [(.int (own_tchar c1))])) _
          refine XS.ifYes X56.here hx rfl (pc0 := 127) (pc' := 162) rfl (hb hby at_127) rfl ((if0 _ _).trans (teq hc127).1) (by decide) (by decide) ?_
          refine XS.iconst X56.here hx rfl (hb hby at_162) ?_
          refine XS.istore X56.here hx rfl (hb hby at_163) rfl (l' := #[.val (.int p1), .val (.int p2), .val (.int p3), .val (.int p4), .val (.int p5), .val (.int (2 : Int32)), .val (.int c0), .val (.int c1), .val (.int c2), .val (.int c3), .val (.ref b40), .val (.ref b46), .val (.int (0 : Int32))]) rfl ?_
          show Steps p.tables e below (T56.setTop (mkF m 165 #[.val (.int p1), .val (.int p2), .val (.int p3), .val (.int p4), .val (.int p5), .val (.int (2 : Int32)), .val (.int c0), .val (.int c1), .val (.int c2), .val (.int c3), .val (.ref b40), .val (.ref b46), .val (.int (0 : Int32))] [])) _
          refine XS.aload X56.here hx rfl (hb hby at_165) rfl rfl ?_
          exact kt)
        obtain ⟨_, _, ⟨T59, L59, k59, n59⟩, -, X59, ⟨Lc59, hQ59, l59, y59, z59⟩, st59⟩ := Jvm.LawKit.callS X56 hx (y := (⟨"com/example/firm_warden/firmwarden/HeaderFields", "isToken", "(Ljava/lang/String;)Z"⟩ : MethodName)) hown (mvT hZ (hw _ (List.mem_of_getElem? (i := 26) rfl))) (mvT hZ (hw _ (List.mem_of_getElem? (i := 27) rfl))) (mvT hZ (hw _ (List.mem_of_getElem? (i := 28) rfl))) (mvT hZ (hw _ (List.mem_of_getElem? (i := 29) rfl))) (by decide) (backOf (W := 0) (rm5F l Z a0 hw [] b46 ta 2 (upd (upd (fun _ => 0) 0 c0) 1 c1) G1 G3 T48.heap n0 Ze (by decide) rG3 (own_Sta_keep O4 Ke) (own_Sta_keep O2 Ke) P5 (own_Sta_keep AD Ke) (own_Sta_keep HB Ke) (own_Sta_keep LB Ke) Sq (by decide) hff (own_Sta_keep TS Ke) (own_A_keep TA Ke nin0)) hZ (hw _ (List.mem_of_getElem? (i := 29) rfl)) (hw _ (List.mem_of_getElem? (i := 28) rfl)) (by decide) (by decide)) (g := (mkF m 167 #[.val (.int p1), .val (.int p2), .val (.int p3), .val (.int p4), .val (.int p5), .val (.int (2 : Int32)), .val (.int c0), .val (.int c1), .val (.int c2), .val (.int c3), .val (.ref b40), .val (.ref b46), .val (.int (0 : Int32))] [(.ref b46)])) rfl (by rw [hml]; rfl) (argsL := [(.ref b46)]) (rest := []) (lenOf pd_17 rfl) rfl (by show 2 * 0 + _ ≤ _; exact Nat.le_of_eq rfl) (hb hby at_167) (fun _ _ => ⟨rfl, e56, (by decide : 4 + 0 ≤ _), (by decide : 18 + 0 ≤ _)⟩)
        dsimp only [Pt.U, Pt.locs, Pt.cells, Pt.slots] at X59 l59 y59 z59 st59 hQ59
        subst l59 y59 z59
        obtain ⟨r5, rfl, N59q, e59, R5⟩ := hQ59
        have N59 := Fr.app N56 N59q
        have pre60 : ∀ t, Steps p.tables e below (T59.setTop (mkF m 170 #[.val (.int p1), .val (.int p2), .val (.int p3), .val (.int p4), .val (.int p5), .val (.int (2 : Int32)), .val (.int c0), .val (.int c1), .val (.int c2), .val (.int c3), .val (.ref b40), .val (.ref b46), .val (.int (0 : Int32))] [(.int r5)])) t → Steps p.tables e below _ t := fun t kt => pre58 t (by
          show Steps p.tables e below (T56.setTop (mkF m 167 #[.val (.int p1), .val (.int p2), .val (.int p3), .val (.int p4), .val (.int p5), .val (.int (2 : Int32)), .val (.int c0), .val (.int c1), .val (.int c2), .val (.int c3), .val (.ref b40), .val (.ref b46), .val (.int (0 : Int32))] [(.ref b46)])) _
          refine st59 _ ?_
          exact kt)
        rcases R5 with ⟨rfl, hpos, hall⟩ | ⟨rfl, hex⟩
        · have hcon : own_tchar c1 = 1 := hall 1 (by decide)
          rw [hc127] at hcon
          exact absurd hcon (by decide)
        · obtain ⟨fs, hr, hrun, hended, hW0, hsame⟩ := X59.leave (v := some (.int (1 : Int32))) (fun h => by rw [Bd.returns] at h; cases h)
          have hW := hW0.wide
          have hI := hW0.no_new_pair
          refine ⟨_, _, pre60 _ ?_, hrun, hended, _, _, rfl, ?_, ⟨_, rfl⟩, hW, hI _, hsame.mono (by decide) (by decide)⟩
          · show Steps p.tables e below (T59.setTop (mkF m 170 #[.val (.int p1), .val (.int p2), .val (.int p3), .val (.int p4), .val (.int p5), .val (.int (2 : Int32)), .val (.int c0), .val (.int c1), .val (.int c2), .val (.int c3), .val (.ref b40), .val (.ref b46), .val (.int (0 : Int32))] [(.int (0 : Int32))])) _
            refine XS.iload X59.here hx rfl (hb hby at_170) rfl ?_
            have hc172 : (0 : Int32) = (0 : Int32) := rfl
            refine XS.icmpNo X59.here hx rfl (hb hby at_172) rfl (teq hc172).2 ?_
            refine XS.iconst X59.here hx rfl (hb hby at_175) ?_
            show Steps p.tables e below (T59.setTop (mkF m 176 #[.val (.int p1), .val (.int p2), .val (.int p3), .val (.int p4), .val (.int p5), .val (.int (2 : Int32)), .val (.int c0), .val (.int c1), .val (.int c2), .val (.int c3), .val (.ref b40), .val (.ref b46), .val (.int (0 : Int32))] [(.int (1 : Int32))])) _
            refine XS.goto X59.here hx rfl (pc0 := 176) (pc' := 180) rfl (hb hby at_176) (by decide) (by decide) ?_
            show Steps p.tables e below (T59.setTop (mkF m 180 #[.val (.int p1), .val (.int p2), .val (.int p3), .val (.int p4), .val (.int p5), .val (.int (2 : Int32)), .val (.int c0), .val (.int c1), .val (.int c2), .val (.int c3), .val (.ref b40), .val (.ref b46), .val (.int (0 : Int32))] [(.int (1 : Int32))])) _
            exact retN X59 hx (t := .boolean) Bd.returns (by simp) (hb hby at_180) hr
          · exact ⟨rfl, N59⟩
      · have pre61 : ∀ t, Steps p.tables e below (T56.setTop (mkF m 167 #[.val (.int p1), .val (.int p2), .val (.int p3), .val (.int p4), .val (.int p5), .val (.int (2 : Int32)), .val (.int c0), .val (.int c1), .val (.int c2), .val (.int c3), .val (.ref b40), .val (.ref b46), .val (.int (1 : Int32))] [(.ref b46)])) t → Steps p.tables e below _ t := fun t kt => pre57 t (by
          show Steps p.tables e below (T56.setTop (mkF m 127 #[.val (.int p1), .val (.int p2), .val (.int p3), .val (.int p4), .val (.int p5), .val (.int (2 : Int32)), .val (.int c0), .val (.int c1), .val (.int c2), .val (.int c3), .val (.ref b40), .val (.ref b46), .unset] [(.int (own_tchar c1))])) _
          refine XS.ifNo X56.here hx rfl (hb hby at_127) rfl ((if0 _ _).trans (feq hc127).1) ?_
          refine XS.iload X56.here hx rfl (hb hby at_130) rfl ?_
          refine XS.iconst X56.here hx rfl (hb hby at_132) ?_
          have hc133 : (2 : Int32) < (3 : Int32) := by decide
          show Steps p.tables e below (T56.setTop (mkF m 133 #[.val (.int p1), .val (.int p2), .val (.int p3), .val (.int p4), .val (.int p5), .val (.int (2 : Int32)), .val (.int c0), .val (.int c1), .val (.int c2), .val (.int c3), .val (.ref b40), .val (.ref b46), .unset] [(.int (3 : Int32)), (.int (2 : Int32))])) _
          refine XS.icmpYes X56.here hx rfl (pc0 := 133) (pc' := 144) rfl (hb hby at_133) rfl (tlt hc133).1 (by decide) (by decide) ?_
          refine XS.iload X56.here hx rfl (hb hby at_144) rfl ?_
          refine XS.iconst X56.here hx rfl (hb hby at_146) ?_
          have hc147 : (2 : Int32) < (4 : Int32) := by decide
          show Steps p.tables e below (T56.setTop (mkF m 147 #[.val (.int p1), .val (.int p2), .val (.int p3), .val (.int p4), .val (.int p5), .val (.int (2 : Int32)), .val (.int c0), .val (.int c1), .val (.int c2), .val (.int c3), .val (.ref b40), .val (.ref b46), .unset] [(.int (4 : Int32)), (.int (2 : Int32))])) _
          refine XS.icmpYes X56.here hx rfl (pc0 := 147) (pc' := 158) rfl (hb hby at_147) rfl (tlt hc147).1 (by decide) (by decide) ?_
          refine XS.iconst X56.here hx rfl (hb hby at_158) ?_
          refine XS.goto X56.here hx rfl (pc0 := 159) (pc' := 163) rfl (hb hby at_159) (by decide) (by decide) ?_
          show Steps p.tables e below (T56.setTop (mkF m 163 #[.val (.int p1), .val (.int p2), .val (.int p3), .val (.int p4), .val (.int p5), .val (.int (2 : Int32)), .val (.int c0), .val (.int c1), .val (.int c2), .val (.int c3), .val (.ref b40), .val (.ref b46), .unset] [(.int (1 : Int32))])) _
          refine XS.istore X56.here hx rfl (hb hby at_163) rfl (l' := #[.val (.int p1), .val (.int p2), .val (.int p3), .val (.int p4), .val (.int p5), .val (.int (2 : Int32)), .val (.int c0), .val (.int c1), .val (.int c2), .val (.int c3), .val (.ref b40), .val (.ref b46), .val (.int (1 : Int32))]) rfl ?_
          refine XS.aload X56.here hx rfl (hb hby at_165) rfl rfl ?_
          exact kt)
        obtain ⟨_, _, ⟨T62, L62, k62, n62⟩, -, X62, ⟨Lc62, hQ62, l62, y62, z62⟩, st62⟩ := Jvm.LawKit.callS X56 hx (y := (⟨"com/example/firm_warden/firmwarden/HeaderFields", "isToken", "(Ljava/lang/String;)Z"⟩ : MethodName)) hown (mvT hZ (hw _ (List.mem_of_getElem? (i := 26) rfl))) (mvT hZ (hw _ (List.mem_of_getElem? (i := 27) rfl))) (mvT hZ (hw _ (List.mem_of_getElem? (i := 28) rfl))) (mvT hZ (hw _ (List.mem_of_getElem? (i := 29) rfl))) (by decide) (backOf (W := 0) (rm5F l Z a0 hw [] b46 ta 2 (upd (upd (fun _ => 0) 0 c0) 1 c1) G1 G3 T48.heap n0 Ze (by decide) rG3 (own_Sta_keep O4 Ke) (own_Sta_keep O2 Ke) P5 (own_Sta_keep AD Ke) (own_Sta_keep HB Ke) (own_Sta_keep LB Ke) Sq (by decide) hff (own_Sta_keep TS Ke) (own_A_keep TA Ke nin0)) hZ (hw _ (List.mem_of_getElem? (i := 29) rfl)) (hw _ (List.mem_of_getElem? (i := 28) rfl)) (by decide) (by decide)) (g := (mkF m 167 #[.val (.int p1), .val (.int p2), .val (.int p3), .val (.int p4), .val (.int p5), .val (.int (2 : Int32)), .val (.int c0), .val (.int c1), .val (.int c2), .val (.int c3), .val (.ref b40), .val (.ref b46), .val (.int (1 : Int32))] [(.ref b46)])) rfl (by rw [hml]; rfl) (argsL := [(.ref b46)]) (rest := []) (lenOf pd_17 rfl) rfl (by show 2 * 0 + _ ≤ _; exact Nat.le_of_eq rfl) (hb hby at_167) (fun _ _ => ⟨rfl, e56, (by decide : 4 + 0 ≤ _), (by decide : 18 + 0 ≤ _)⟩)
        dsimp only [Pt.U, Pt.locs, Pt.cells, Pt.slots] at X62 l62 y62 z62 st62 hQ62
        subst l62 y62 z62
        obtain ⟨r5, rfl, N62q, e62, R5⟩ := hQ62
        have N62 := Fr.app N56 N62q
        have pre63 : ∀ t, Steps p.tables e below (T62.setTop (mkF m 170 #[.val (.int p1), .val (.int p2), .val (.int p3), .val (.int p4), .val (.int p5), .val (.int (2 : Int32)), .val (.int c0), .val (.int c1), .val (.int c2), .val (.int c3), .val (.ref b40), .val (.ref b46), .val (.int (1 : Int32))] [(.int r5)])) t → Steps p.tables e below _ t := fun t kt => pre61 t (by
          show Steps p.tables e below (T56.setTop (mkF m 167 #[.val (.int p1), .val (.int p2), .val (.int p3), .val (.int p4), .val (.int p5), .val (.int (2 : Int32)), .val (.int c0), .val (.int c1), .val (.int c2), .val (.int c3), .val (.ref b40), .val (.ref b46), .val (.int (1 : Int32))] [(.ref b46)])) _
          refine st62 _ ?_
          exact kt)
        rcases R5 with ⟨rfl, hpos, hall⟩ | ⟨rfl, hex⟩
        · obtain ⟨fs, hr, hrun, hended, hW0, hsame⟩ := X62.leave (v := some (.int (1 : Int32))) (fun h => by rw [Bd.returns] at h; cases h)
          have hW := hW0.wide
          have hI := hW0.no_new_pair
          refine ⟨_, _, pre63 _ ?_, hrun, hended, _, _, rfl, ?_, ⟨_, rfl⟩, hW, hI _, hsame.mono (by decide) (by decide)⟩
          · show Steps p.tables e below (T62.setTop (mkF m 170 #[.val (.int p1), .val (.int p2), .val (.int p3), .val (.int p4), .val (.int p5), .val (.int (2 : Int32)), .val (.int c0), .val (.int c1), .val (.int c2), .val (.int c3), .val (.ref b40), .val (.ref b46), .val (.int (1 : Int32))] [(.int (1 : Int32))])) _
            refine XS.iload X62.here hx rfl (hb hby at_170) rfl ?_
            have hc172 : (1 : Int32) = (1 : Int32) := rfl
            refine XS.icmpNo X62.here hx rfl (hb hby at_172) rfl (teq hc172).2 ?_
            refine XS.iconst X62.here hx rfl (hb hby at_175) ?_
            show Steps p.tables e below (T62.setTop (mkF m 176 #[.val (.int p1), .val (.int p2), .val (.int p3), .val (.int p4), .val (.int p5), .val (.int (2 : Int32)), .val (.int c0), .val (.int c1), .val (.int c2), .val (.int c3), .val (.ref b40), .val (.ref b46), .val (.int (1 : Int32))] [(.int (1 : Int32))])) _
            refine XS.goto X62.here hx rfl (pc0 := 176) (pc' := 180) rfl (hb hby at_176) (by decide) (by decide) ?_
            show Steps p.tables e below (T62.setTop (mkF m 180 #[.val (.int p1), .val (.int p2), .val (.int p3), .val (.int p4), .val (.int p5), .val (.int (2 : Int32)), .val (.int c0), .val (.int c1), .val (.int c2), .val (.int c3), .val (.ref b40), .val (.ref b46), .val (.int (1 : Int32))] [(.int (1 : Int32))])) _
            exact retN X62 hx (t := .boolean) Bd.returns (by simp) (hb hby at_180) hr
          · exact ⟨rfl, N62⟩
        · exfalso
          rcases hex with h | ⟨j, hj, hq⟩
          · exact absurd h (by decide)
          · have hj' : j = 0 ∨ j = 1 := by omega
            rcases hj' with rfl | rfl
            · exact hc113 hq
            · exact hc127 hq
  · have hv64 : ((p1 &&& (7 : Int32)) % (5 : Int32)) = (3 : Int32) := h5
    rw [hv64] at pre9
    have pre65 : ∀ t, Steps p.tables e below (T8.setTop (mkF m 35 #[.val (.int p1), .val (.int p2), .val (.int p3), .val (.int p4), .val (.int p5), .val (.int (3 : Int32)), .val (.int c0), .val (.int c1), .val (.int c2), .val (.int c3), .unset, .unset, .unset] [(.int (3 : Int32))])) t → Steps p.tables e below _ t := fun t kt => pre9 t (by
      show Steps p.tables e below (T8.setTop (mkF m 33 #[.val (.int p1), .val (.int p2), .val (.int p3), .val (.int p4), .val (.int p5), .val (.int (3 : Int32)), .val (.int c0), .val (.int c1), .val (.int c2), .val (.int c3), .unset, .unset, .unset] [])) _
      refine XS.iload X8.here hx rfl (hb hby at_33) rfl ?_
      exact kt)
    obtain ⟨T66, h66, k66, X66, e66, E66, A66, st66⟩ := newP X8 hx hZ (hw _ (List.mem_of_getElem? (i := 4) rfl)) e8 (g := (mkF m 35 #[.val (.int p1), .val (.int p2), .val (.int p3), .val (.int p4), .val (.int p5), .val (.int (3 : Int32)), .val (.int c0), .val (.int c1), .val (.int c2), .val (.int c3), .unset, .unset, .unset] [(.int (3 : Int32))])) rfl (hb hby at_35) rfl (by decide) (cap := 3) (by decide) (by decide) (by decide) (by decide)
    obtain ⟨b66, gb66⟩ : ∃ z, z = h0.size := ⟨_, rfl⟩
    rw [← gb66] at A66 st66
    have g_b66 : n0 ≤ b66 := Nat.le_trans Z0 (Nat.le_of_eq gb66.symm)
    have Zs66 : n0 ≤ h66.size := Nat.le_trans Z0 E66.1
    have sz_b66 : h0.size ≤ b66 := Nat.le_trans (Keep.refl h0 []).1 (Nat.le_of_eq gb66.symm)
    have Kp66 : Keep h0 h66 [] := (Keep.refl h0 []).ext E66
    have CA0 : own_A Z h66 b66 .char 3 (fun _ => 0) := own_A_new A66 rfl rfl
    have pre67 : ∀ t, Steps p.tables e below (T66.setTop (mkF m 49 #[.val (.int p1), .val (.int p2), .val (.int p3), .val (.int p4), .val (.int p5), .val (.int (3 : Int32)), .val (.int c0), .val (.int c1), .val (.int c2), .val (.int c3), .val (.ref b66), .unset, .unset] [(.int c0), (.int (0 : Int32)), (.ref b66)])) t → Steps p.tables e below _ t := fun t kt => pre65 t (by
      show Steps p.tables e below (T8.setTop (mkF m 35 #[.val (.int p1), .val (.int p2), .val (.int p3), .val (.int p4), .val (.int p5), .val (.int (3 : Int32)), .val (.int c0), .val (.int c1), .val (.int c2), .val (.int c3), .unset, .unset, .unset] [(.int (3 : Int32))])) _
      refine st66 _ ?_
      refine XS.astore X66.here hx rfl (hb hby at_37) rfl rfl (l' := #[.val (.int p1), .val (.int p2), .val (.int p3), .val (.int p4), .val (.int p5), .val (.int (3 : Int32)), .val (.int c0), .val (.int c1), .val (.int c2), .val (.int c3), .val (.ref b66), .unset, .unset]) rfl ?_
      refine XS.iload X66.here hx rfl (hb hby at_39) rfl ?_
      have hc41 : (0 : Int32) < (3 : Int32) := by decide
      show Steps p.tables e below (T66.setTop (mkF m 41 #[.val (.int p1), .val (.int p2), .val (.int p3), .val (.int p4), .val (.int p5), .val (.int (3 : Int32)), .val (.int c0), .val (.int c1), .val (.int c2), .val (.int c3), .val (.ref b66), .unset, .unset] [(.int (3 : Int32))])) _
      refine XS.ifNo X66.here hx rfl (hb hby at_41) rfl ((if0 _ _).trans (tlt hc41).2.2.2) ?_
      refine XS.aload X66.here hx rfl (hb hby at_44) rfl rfl ?_
      refine XS.iconst X66.here hx rfl (hb hby at_46) ?_
      show Steps p.tables e below (T66.setTop (mkF m 47 #[.val (.int p1), .val (.int p2), .val (.int p3), .val (.int p4), .val (.int p5), .val (.int (3 : Int32)), .val (.int c0), .val (.int c1), .val (.int c2), .val (.int c3), .val (.ref b66), .unset, .unset] [(.int (0 : Int32)), (.ref b66)])) _
      refine XS.iload X66.here hx rfl (hb hby at_47) rfl ?_
      exact kt)
    obtain ⟨cl_0, Ar_0, Sz_0, -⟩ := id CA0
    obtain ⟨T68, h68, X68, e68, W68, st68⟩ := stC X66 hx hZ e66 Ar_0 (j := (0 : Int32)) (within (c := 0) rfl (by rw [Sz_0]; decide) (by rw [Sz_0]; decide)) (g := (mkF m 49 #[.val (.int p1), .val (.int p2), .val (.int p3), .val (.int p4), .val (.int p5), .val (.int (3 : Int32)), .val (.int c0), .val (.int c1), .val (.int c2), .val (.int c3), .val (.ref b66), .unset, .unset] [(.int c0), (.int (0 : Int32)), (.ref b66)])) rfl rfl (hb hby at_49)
    have N68 := Fr.snoc X68 N8 g_b66
    have Zs68 : n0 ≤ h68.size := Nat.le_trans Zs66 (Nat.le_of_eq W68.size.symm)
    have Kp68 : Keep h0 h68 [] := Kp66.wr W68 (Or.inr sz_b66)
    have V68 : Wr h66 h68 b66 0 (.int c0) := by have z := W68; rw [own_char rc0.1 rc0.2] at z; exact z
    have CA1 := own_A_set CA0 V68
    have pre69 : ∀ t, Steps p.tables e below (T68.setTop (mkF m 61 #[.val (.int p1), .val (.int p2), .val (.int p3), .val (.int p4), .val (.int p5), .val (.int (3 : Int32)), .val (.int c0), .val (.int c1), .val (.int c2), .val (.int c3), .val (.ref b66), .unset, .unset] [(.int c1), (.int (1 : Int32)), (.ref b66)])) t → Steps p.tables e below _ t := fun t kt => pre67 t (by
      show Steps p.tables e below (T66.setTop (mkF m 49 #[.val (.int p1), .val (.int p2), .val (.int p3), .val (.int p4), .val (.int p5), .val (.int (3 : Int32)), .val (.int c0), .val (.int c1), .val (.int c2), .val (.int c3), .val (.ref b66), .unset, .unset] [(.int c0), (.int (0 : Int32)), (.ref b66)])) _
      refine st68 _ ?_
      refine XS.iload X68.here hx rfl (hb hby at_50) rfl ?_
      refine XS.iconst X68.here hx rfl (hb hby at_52) ?_
      have hc53 : (1 : Int32) < (3 : Int32) := by decide
      show Steps p.tables e below (T68.setTop (mkF m 53 #[.val (.int p1), .val (.int p2), .val (.int p3), .val (.int p4), .val (.int p5), .val (.int (3 : Int32)), .val (.int c0), .val (.int c1), .val (.int c2), .val (.int c3), .val (.ref b66), .unset, .unset] [(.int (1 : Int32)), (.int (3 : Int32))])) _
      refine XS.icmpNo X68.here hx rfl (hb hby at_53) rfl (tlt hc53).2.2.2 ?_
      refine XS.aload X68.here hx rfl (hb hby at_56) rfl rfl ?_
      refine XS.iconst X68.here hx rfl (hb hby at_58) ?_
      show Steps p.tables e below (T68.setTop (mkF m 59 #[.val (.int p1), .val (.int p2), .val (.int p3), .val (.int p4), .val (.int p5), .val (.int (3 : Int32)), .val (.int c0), .val (.int c1), .val (.int c2), .val (.int c3), .val (.ref b66), .unset, .unset] [(.int (1 : Int32)), (.ref b66)])) _
      refine XS.iload X68.here hx rfl (hb hby at_59) rfl ?_
      exact kt)
    obtain ⟨cl_1, Ar_1, Sz_1, -⟩ := id CA1
    obtain ⟨T70, h70, X70, e70, W70, st70⟩ := stC X68 hx hZ e68 Ar_1 (j := (1 : Int32)) (within (c := 1) rfl (by rw [Sz_1]; decide) (by rw [Sz_1]; decide)) (g := (mkF m 61 #[.val (.int p1), .val (.int p2), .val (.int p3), .val (.int p4), .val (.int p5), .val (.int (3 : Int32)), .val (.int c0), .val (.int c1), .val (.int c2), .val (.int c3), .val (.ref b66), .unset, .unset] [(.int c1), (.int (1 : Int32)), (.ref b66)])) rfl rfl (hb hby at_61)
    have N70 := Fr.snoc X70 N68 g_b66
    have Zs70 : n0 ≤ h70.size := Nat.le_trans Zs68 (Nat.le_of_eq W70.size.symm)
    have Kp70 : Keep h0 h70 [] := Kp68.wr W70 (Or.inr sz_b66)
    have V70 : Wr h68 h70 b66 1 (.int c1) := by have z := W70; rw [own_char rc1.1 rc1.2] at z; exact z
    have CA2 := own_A_set CA1 V70
    have pre71 : ∀ t, Steps p.tables e below (T70.setTop (mkF m 73 #[.val (.int p1), .val (.int p2), .val (.int p3), .val (.int p4), .val (.int p5), .val (.int (3 : Int32)), .val (.int c0), .val (.int c1), .val (.int c2), .val (.int c3), .val (.ref b66), .unset, .unset] [(.int c2), (.int (2 : Int32)), (.ref b66)])) t → Steps p.tables e below _ t := fun t kt => pre69 t (by
      show Steps p.tables e below (T68.setTop (mkF m 61 #[.val (.int p1), .val (.int p2), .val (.int p3), .val (.int p4), .val (.int p5), .val (.int (3 : Int32)), .val (.int c0), .val (.int c1), .val (.int c2), .val (.int c3), .val (.ref b66), .unset, .unset] [(.int c1), (.int (1 : Int32)), (.ref b66)])) _
      refine st70 _ ?_
      refine XS.iload X70.here hx rfl (hb hby at_62) rfl ?_
      refine XS.iconst X70.here hx rfl (hb hby at_64) ?_
      have hc65 : (2 : Int32) < (3 : Int32) := by decide
      show Steps p.tables e below (T70.setTop (mkF m 65 #[.val (.int p1), .val (.int p2), .val (.int p3), .val (.int p4), .val (.int p5), .val (.int (3 : Int32)), .val (.int c0), .val (.int c1), .val (.int c2), .val (.int c3), .val (.ref b66), .unset, .unset] [(.int (2 : Int32)), (.int (3 : Int32))])) _
      refine XS.icmpNo X70.here hx rfl (hb hby at_65) rfl (tlt hc65).2.2.2 ?_
      refine XS.aload X70.here hx rfl (hb hby at_68) rfl rfl ?_
      refine XS.iconst X70.here hx rfl (hb hby at_70) ?_
      show Steps p.tables e below (T70.setTop (mkF m 71 #[.val (.int p1), .val (.int p2), .val (.int p3), .val (.int p4), .val (.int p5), .val (.int (3 : Int32)), .val (.int c0), .val (.int c1), .val (.int c2), .val (.int c3), .val (.ref b66), .unset, .unset] [(.int (2 : Int32)), (.ref b66)])) _
      refine XS.iload X70.here hx rfl (hb hby at_71) rfl ?_
      exact kt)
    obtain ⟨cl_2, Ar_2, Sz_2, -⟩ := id CA2
    obtain ⟨T72, h72, X72, e72, W72, st72⟩ := stC X70 hx hZ e70 Ar_2 (j := (2 : Int32)) (within (c := 2) rfl (by rw [Sz_2]; decide) (by rw [Sz_2]; decide)) (g := (mkF m 73 #[.val (.int p1), .val (.int p2), .val (.int p3), .val (.int p4), .val (.int p5), .val (.int (3 : Int32)), .val (.int c0), .val (.int c1), .val (.int c2), .val (.int c3), .val (.ref b66), .unset, .unset] [(.int c2), (.int (2 : Int32)), (.ref b66)])) rfl rfl (hb hby at_73)
    have N72 := Fr.snoc X72 N70 g_b66
    have Zs72 : n0 ≤ h72.size := Nat.le_trans Zs70 (Nat.le_of_eq W72.size.symm)
    have Kp72 : Keep h0 h72 [] := Kp70.wr W72 (Or.inr sz_b66)
    have V72 : Wr h70 h72 b66 2 (.int c2) := by have z := W72; rw [own_char rc2.1 rc2.2] at z; exact z
    have CA3 := own_A_set CA2 V72
    have pre73 : ∀ t, Steps p.tables e below (T72.setTop (mkF m 86 #[.val (.int p1), .val (.int p2), .val (.int p3), .val (.int p4), .val (.int p5), .val (.int (3 : Int32)), .val (.int c0), .val (.int c1), .val (.int c2), .val (.int c3), .val (.ref b66), .unset, .unset] [])) t → Steps p.tables e below _ t := fun t kt => pre71 t (by
      show Steps p.tables e below (T70.setTop (mkF m 73 #[.val (.int p1), .val (.int p2), .val (.int p3), .val (.int p4), .val (.int p5), .val (.int (3 : Int32)), .val (.int c0), .val (.int c1), .val (.int c2), .val (.int c3), .val (.ref b66), .unset, .unset] [(.int c2), (.int (2 : Int32)), (.ref b66)])) _
      refine st72 _ ?_
      refine XS.iload X72.here hx rfl (hb hby at_74) rfl ?_
      refine XS.iconst X72.here hx rfl (hb hby at_76) ?_
      have hc77 : ¬ ((3 : Int32) < (3 : Int32)) := by decide
      show Steps p.tables e below (T72.setTop (mkF m 77 #[.val (.int p1), .val (.int p2), .val (.int p3), .val (.int p4), .val (.int p5), .val (.int (3 : Int32)), .val (.int c0), .val (.int c1), .val (.int c2), .val (.int c3), .val (.ref b66), .unset, .unset] [(.int (3 : Int32)), (.int (3 : Int32))])) _
      refine XS.icmpYes X72.here hx rfl (pc0 := 77) (pc' := 86) rfl (hb hby at_77) rfl (flt hc77).2.2.2 (by decide) (by decide) ?_
      exact kt)
    obtain ⟨T74, h74, X74, e74, E74, A74, D74, -, st74⟩ := newO X72 hx hZ hown (hw _ (List.mem_of_getElem? (i := 5) rfl)) (hw _ (List.mem_of_getElem? (i := 6) rfl)) (hw _ (List.mem_of_getElem? (i := 7) rfl)) e72 (g := (mkF m 86 #[.val (.int p1), .val (.int p2), .val (.int p3), .val (.int p4), .val (.int p5), .val (.int (3 : Int32)), .val (.int c0), .val (.int c1), .val (.int c2), .val (.int c3), .val (.ref b66), .unset, .unset] [])) rfl (hb hby at_86) (by decide) (by decide)
    obtain ⟨b74, gb74⟩ : ∃ z, z = h72.size := ⟨_, rfl⟩
    rw [← gb74] at A74 D74 st74
    have g_b74 : n0 ≤ b74 := Nat.le_trans Zs72 (Nat.le_of_eq gb74.symm)
    have Zs74 : n0 ≤ h74.size := Nat.le_trans Zs72 E74.1
    have sz_b74 : h0.size ≤ b74 := Nat.le_trans Kp72.1 (Nat.le_of_eq gb74.symm)
    have Kp74 : Keep h0 h74 [] := Kp72.ext E74
    have Eas := A74
    have Fvs : Fld Z h74 b74 "java/lang/String" "value" "[B" .null := D74 (Or.inr (hw _ (List.mem_of_getElem? (i := 20) rfl))) (ty := (.array .byte)) (by decide)
    have Fcs : Fld Z h74 b74 "java/lang/String" "coder" "B" (.int (0 : Int32)) := D74 (Or.inr (hw _ (List.mem_of_getElem? (i := 21) rfl))) (ty := .byte) (by decide)
    have CAs := own_A_ext CA3 E74
    have hff : ∀ j, j < 3 → 0 ≤ ((upd (upd (upd (fun _ => 0) 0 c0) 1 c1) 2 c2) j).toInt ∧ ((upd (upd (upd (fun _ => 0) 0 c0) 1 c1) 2 c2) j).toInt < 65536 := by
      intro j hj
      have hj' : j = 0 ∨ j = 1 ∨ j = 2 := by omega
      rcases hj' with rfl | rfl | rfl
      · exact rc0
      · exact rc1
      · exact rc2
    have pre75 : ∀ t, Steps p.tables e below (T74.setTop (mkF m 92 #[.val (.int p1), .val (.int p2), .val (.int p3), .val (.int p4), .val (.int p5), .val (.int (3 : Int32)), .val (.int c0), .val (.int c1), .val (.int c2), .val (.int c3), .val (.ref b66), .unset, .unset] [(.ref b66), (.ref b74), (.ref b74)])) t → Steps p.tables e below _ t := fun t kt => pre73 t (by
      show Steps p.tables e below (T72.setTop (mkF m 86 #[.val (.int p1), .val (.int p2), .val (.int p3), .val (.int p4), .val (.int p5), .val (.int (3 : Int32)), .val (.int c0), .val (.int c1), .val (.int c2), .val (.int c3), .val (.ref b66), .unset, .unset] [])) _
      refine st74 _ ?_
      refine XS.dup X74.here hx rfl (hb hby at_89) rfl rfl ?_
      refine XS.aload X74.here hx rfl (hb hby at_90) rfl rfl ?_
      exact kt)
    obtain ⟨_, _, ⟨T76, L76, k76, n76⟩, -, X76, ⟨Lc76, hQ76, l76, y76, z76⟩, st76⟩ := X74.specialBack hx (y := (⟨"java/lang/String", "<init>", "([C)V"⟩ : MethodName)) rfl hown (mvT hZ (hw _ (List.mem_of_getElem? (i := 8) rfl))) (mvT hZ (hw _ (List.mem_of_getElem? (i := 9) rfl))) (mvT hZ (hw _ (List.mem_of_getElem? (i := 10) rfl))) (by decide) (backOf (W := 1) (rm2 l Z a0 hw [] b74 b66 3 (upd (upd (upd (fun _ => 0) 0 c0) 1 c1) 2 c2) G1 h74 n0 Zs74 Eas Fvs Fcs g_b74 CAs (own_Sta_keep O2 Kp74) P5 (own_Sta_keep AD Kp74) (own_Sta_keep HB Kp74) (own_Sta_keep LB Kp74) (by decide) (by decide) hff) hZ (hw _ (List.mem_of_getElem? (i := 10) rfl)) (hw _ (List.mem_of_getElem? (i := 7) rfl)) (by decide) (by decide)) (g := (mkF m 92 #[.val (.int p1), .val (.int p2), .val (.int p3), .val (.int p4), .val (.int p5), .val (.int (3 : Int32)), .val (.int c0), .val (.int c1), .val (.int c2), .val (.int c3), .val (.ref b66), .unset, .unset] [(.ref b66), (.ref b74), (.ref b74)])) rfl (by rw [hml]; rfl) (Steps.refl _) (a := b74) (argsL := [(.ref b66)]) (rest := [(.ref b74)]) (lenOf pd_16 rfl) rfl (by show 2 * 0 + _ ≤ _; exact Nat.le_of_eq rfl) (hb hby at_92) (fun _ _ => ⟨rfl, e74, (by decide : 2 + 2 ≤ _), (by decide : 7 + 12 ≤ _)⟩)
    dsimp only [Pt.U, Pt.locs, Pt.cells, Pt.slots] at X76 l76 y76 z76 st76 hQ76
    subst l76 y76 z76
    obtain ⟨rfl, N76q, Kq, Sq⟩ := hQ76
    have N76 := Fr.app N72 N76q
    have Ke : Keep h0 T76.heap [] := Kp74.trans Kq (allS (Or.inr sz_b74) all0)
    have Ze : n0 ≤ T76.heap.size := Nat.le_trans Z0 Ke.1
    have pre77 : ∀ t, Steps p.tables e below (T76.setTop (mkF m 110 #[.val (.int p1), .val (.int p2), .val (.int p3), .val (.int p4), .val (.int p5), .val (.int (3 : Int32)), .val (.int c0), .val (.int c1), .val (.int c2), .val (.int c3), .val (.ref b66), .val (.ref b74), .unset] [(.int c0)])) t → Steps p.tables e below _ t := fun t kt => pre75 t (by
      show Steps p.tables e below (T74.setTop (mkF m 92 #[.val (.int p1), .val (.int p2), .val (.int p3), .val (.int p4), .val (.int p5), .val (.int (3 : Int32)), .val (.int c0), .val (.int c1), .val (.int c2), .val (.int c3), .val (.ref b66), .unset, .unset] [(.ref b66), (.ref b74), (.ref b74)])) _
      refine st76.trans ?_
      refine XS.astore X76.here hx rfl (hb hby at_95) rfl rfl (l' := #[.val (.int p1), .val (.int p2), .val (.int p3), .val (.int p4), .val (.int p5), .val (.int (3 : Int32)), .val (.int c0), .val (.int c1), .val (.int c2), .val (.int c3), .val (.ref b66), .val (.ref b74), .unset]) rfl ?_
      refine XS.iload X76.here hx rfl (hb hby at_97) rfl ?_
      have hc99 : (0 : Int32) < (3 : Int32) := by decide
      show Steps p.tables e below (T76.setTop (mkF m 99 #[.val (.int p1), .val (.int p2), .val (.int p3), .val (.int p4), .val (.int p5), .val (.int (3 : Int32)), .val (.int c0), .val (.int c1), .val (.int c2), .val (.int c3), .val (.ref b66), .val (.ref b74), .unset] [(.int (3 : Int32))])) _
      refine XS.ifNo X76.here hx rfl (hb hby at_99) rfl ((if0 _ _).trans (tlt hc99).2.2.2) ?_
      refine XS.iload X76.here hx rfl (hb hby at_102) rfl ?_
      refine XS.iconst X76.here hx rfl (hb hby at_104) ?_
      have hc105 : ¬ ((3 : Int32) < (1 : Int32)) := by decide
      show Steps p.tables e below (T76.setTop (mkF m 105 #[.val (.int p1), .val (.int p2), .val (.int p3), .val (.int p4), .val (.int p5), .val (.int (3 : Int32)), .val (.int c0), .val (.int c1), .val (.int c2), .val (.int c3), .val (.ref b66), .val (.ref b74), .unset] [(.int (1 : Int32)), (.int (3 : Int32))])) _
      refine XS.icmpNo X76.here hx rfl (hb hby at_105) rfl (flt hc105).1 ?_
      refine XS.iload X76.here hx rfl (hb hby at_108) rfl ?_
      exact kt)
    obtain ⟨_, _, ⟨T78, L78, k78, n78⟩, -, X78, ⟨Lc78, hQ78, l78, y78, z78⟩, st78⟩ := Jvm.LawKit.callS X76 hx (y := (⟨"com/example/firm_warden/firmwarden/HeaderFieldsIsTokenPinLaw", "tchar", "(C)Z"⟩ : MethodName)) hown (mvT hZ (hw _ (List.mem_of_getElem? (i := 56) rfl))) (mvT hZ (hw _ (List.mem_of_getElem? (i := 57) rfl))) (mvT hZ (hw _ (List.mem_of_getElem? (i := 2) rfl))) (mvT hZ (hw _ (List.mem_of_getElem? (i := 58) rfl))) (by decide) (backOf (W := 0) (rm12 l Z a0 hw [] c0 T76.heap n0 Ze) hZ (hw _ (List.mem_of_getElem? (i := 58) rfl)) (hw _ (List.mem_of_getElem? (i := 2) rfl)) (by decide) (by decide)) (g := (mkF m 110 #[.val (.int p1), .val (.int p2), .val (.int p3), .val (.int p4), .val (.int p5), .val (.int (3 : Int32)), .val (.int c0), .val (.int c1), .val (.int c2), .val (.int c3), .val (.ref b66), .val (.ref b74), .unset] [(.int c0)])) rfl (by rw [hml]; rfl) (argsL := [(.int c0)]) (rest := []) (lenOf pd_18 rfl) rfl (by show 2 * 0 + _ ≤ _; exact Nat.le_of_eq rfl) (hb hby at_110) (fun _ _ => ⟨rfl, rfl, (by decide : 4 + 0 ≤ _), (by decide : 19 + 0 ≤ _)⟩)
    dsimp only [Pt.U, Pt.locs, Pt.cells, Pt.slots] at X78 l78 y78 z78 st78 hQ78
    subst l78 y78 z78
    obtain ⟨rfl, N78q, e78⟩ := hQ78
    have N78 := Fr.app N76 N78q
    have pre79 : ∀ t, Steps p.tables e below (T78.setTop (mkF m 113 #[.val (.int p1), .val (.int p2), .val (.int p3), .val (.int p4), .val (.int p5), .val (.int (3 : Int32)), .val (.int c0), .val (.int c1), .val (.int c2), .val (.int c3), .val (.ref b66), .val (.ref b74), .unset] [(.int (own_tchar c0))])) t → Steps p.tables e below _ t := fun t kt => pre77 t (by
      show Steps p.tables e below (T76.setTop (mkF m 110 #[.val (.int p1), .val (.int p2), .val (.int p3), .val (.int p4), .val (.int p5), .val (.int (3 : Int32)), .val (.int c0), .val (.int c1), .val (.int c2), .val (.int c3), .val (.ref b66), .val (.ref b74), .unset] [(.int c0)])) _
      refine st78 _ ?_
      exact kt)
    by_cases hc113 : (own_tchar c0) = (0 : Int32)
    · have pre80 : ∀ t, Steps p.tables e below (T78.setTop (mkF m 167 #[.val (.int p1), .val (.int p2), .val (.int p3), .val (.int p4), .val (.int p5), .val (.int (3 : Int32)), .val (.int c0), .val (.int c1), .val (.int c2), .val (.int c3), .val (.ref b66), .val (.ref b74), .val (.int (0 : Int32))] [(.ref b74)])) t → Steps p.tables e below _ t := fun t kt => pre79 t (by
        show Steps p.tables e below (T78.setTop (mkF m 113 #[.val (.int p1), .val (.int p2), .val (.int p3), .val (.int p4), .val (.int p5), .val (.int (3 : Int32)), .val (.int c0), .val (.int c1), .val (.int c2), .val (.int c3), .val (.ref b66), .val (.ref b74), .unset] [(.int (own_tchar c0))])) _
        refine XS.ifYes X78.here hx rfl (pc0 := 113) (pc' := 162) rfl (hb hby at_113) rfl ((if0 _ _).trans (teq hc113).1) (by decide) (by decide) ?_
        refine XS.iconst X78.here hx rfl (hb hby at_162) ?_
        refine XS.istore X78.here hx rfl (hb hby at_163) rfl (l' := #[.val (.int p1), .val (.int p2), .val (.int p3), .val (.int p4), .val (.int p5), .val (.int (3 : Int32)), .val (.int c0), .val (.int c1), .val (.int c2), .val (.int c3), .val (.ref b66), .val (.ref b74), .val (.int (0 : Int32))]) rfl ?_
        show Steps p.tables e below (T78.setTop (mkF m 165 #[.val (.int p1), .val (.int p2), .val (.int p3), .val (.int p4), .val (.int p5), .val (.int (3 : Int32)), .val (.int c0), .val (.int c1), .val (.int c2), .val (.int c3), .val (.ref b66), .val (.ref b74), .val (.int (0 : Int32))] [])) _
        refine XS.aload X78.here hx rfl (hb hby at_165) rfl rfl ?_
        exact kt)
      obtain ⟨_, _, ⟨T81, L81, k81, n81⟩, -, X81, ⟨Lc81, hQ81, l81, y81, z81⟩, st81⟩ := Jvm.LawKit.callS X78 hx (y := (⟨"com/example/firm_warden/firmwarden/HeaderFields", "isToken", "(Ljava/lang/String;)Z"⟩ : MethodName)) hown (mvT hZ (hw _ (List.mem_of_getElem? (i := 26) rfl))) (mvT hZ (hw _ (List.mem_of_getElem? (i := 27) rfl))) (mvT hZ (hw _ (List.mem_of_getElem? (i := 28) rfl))) (mvT hZ (hw _ (List.mem_of_getElem? (i := 29) rfl))) (by decide) (backOf (W := 0) (rm5F l Z a0 hw [] b74 ta 3 (upd (upd (upd (fun _ => 0) 0 c0) 1 c1) 2 c2) G1 G3 T76.heap n0 Ze (by decide) rG3 (own_Sta_keep O4 Ke) (own_Sta_keep O2 Ke) P5 (own_Sta_keep AD Ke) (own_Sta_keep HB Ke) (own_Sta_keep LB Ke) Sq (by decide) hff (own_Sta_keep TS Ke) (own_A_keep TA Ke nin0)) hZ (hw _ (List.mem_of_getElem? (i := 29) rfl)) (hw _ (List.mem_of_getElem? (i := 28) rfl)) (by decide) (by decide)) (g := (mkF m 167 #[.val (.int p1), .val (.int p2), .val (.int p3), .val (.int p4), .val (.int p5), .val (.int (3 : Int32)), .val (.int c0), .val (.int c1), .val (.int c2), .val (.int c3), .val (.ref b66), .val (.ref b74), .val (.int (0 : Int32))] [(.ref b74)])) rfl (by rw [hml]; rfl) (argsL := [(.ref b74)]) (rest := []) (lenOf pd_17 rfl) rfl (by show 2 * 0 + _ ≤ _; exact Nat.le_of_eq rfl) (hb hby at_167) (fun _ _ => ⟨rfl, e78, (by decide : 4 + 0 ≤ _), (by decide : 19 + 0 ≤ _)⟩)
      dsimp only [Pt.U, Pt.locs, Pt.cells, Pt.slots] at X81 l81 y81 z81 st81 hQ81
      subst l81 y81 z81
      obtain ⟨r5, rfl, N81q, e81, R5⟩ := hQ81
      have N81 := Fr.app N78 N81q
      have pre82 : ∀ t, Steps p.tables e below (T81.setTop (mkF m 170 #[.val (.int p1), .val (.int p2), .val (.int p3), .val (.int p4), .val (.int p5), .val (.int (3 : Int32)), .val (.int c0), .val (.int c1), .val (.int c2), .val (.int c3), .val (.ref b66), .val (.ref b74), .val (.int (0 : Int32))] [(.int r5)])) t → Steps p.tables e below _ t := fun t kt => pre80 t (by
        show Steps p.tables e below (T78.setTop (mkF m 167 #[.val (.int p1), .val (.int p2), .val (.int p3), .val (.int p4), .val (.int p5), .val (.int (3 : Int32)), .val (.int c0), .val (.int c1), .val (.int c2), .val (.int c3), .val (.ref b66), .val (.ref b74), .val (.int (0 : Int32))] [(.ref b74)])) _
        refine st81 _ ?_
        exact kt)
      rcases R5 with ⟨rfl, hpos, hall⟩ | ⟨rfl, hex⟩
      · have hcon : own_tchar c0 = 1 := hall 0 (by decide)
        rw [hc113] at hcon
        exact absurd hcon (by decide)
      · obtain ⟨fs, hr, hrun, hended, hW0, hsame⟩ := X81.leave (v := some (.int (1 : Int32))) (fun h => by rw [Bd.returns] at h; cases h)
        have hW := hW0.wide
        have hI := hW0.no_new_pair
        refine ⟨_, _, pre82 _ ?_, hrun, hended, _, _, rfl, ?_, ⟨_, rfl⟩, hW, hI _, hsame.mono (by decide) (by decide)⟩
        · show Steps p.tables e below (T81.setTop (mkF m 170 #[.val (.int p1), .val (.int p2), .val (.int p3), .val (.int p4), .val (.int p5), .val (.int (3 : Int32)), .val (.int c0), .val (.int c1), .val (.int c2), .val (.int c3), .val (.ref b66), .val (.ref b74), .val (.int (0 : Int32))] [(.int (0 : Int32))])) _
          refine XS.iload X81.here hx rfl (hb hby at_170) rfl ?_
          have hc172 : (0 : Int32) = (0 : Int32) := rfl
          refine XS.icmpNo X81.here hx rfl (hb hby at_172) rfl (teq hc172).2 ?_
          refine XS.iconst X81.here hx rfl (hb hby at_175) ?_
          show Steps p.tables e below (T81.setTop (mkF m 176 #[.val (.int p1), .val (.int p2), .val (.int p3), .val (.int p4), .val (.int p5), .val (.int (3 : Int32)), .val (.int c0), .val (.int c1), .val (.int c2), .val (.int c3), .val (.ref b66), .val (.ref b74), .val (.int (0 : Int32))] [(.int (1 : Int32))])) _
          refine XS.goto X81.here hx rfl (pc0 := 176) (pc' := 180) rfl (hb hby at_176) (by decide) (by decide) ?_
          show Steps p.tables e below (T81.setTop (mkF m 180 #[.val (.int p1), .val (.int p2), .val (.int p3), .val (.int p4), .val (.int p5), .val (.int (3 : Int32)), .val (.int c0), .val (.int c1), .val (.int c2), .val (.int c3), .val (.ref b66), .val (.ref b74), .val (.int (0 : Int32))] [(.int (1 : Int32))])) _
          exact retN X81 hx (t := .boolean) Bd.returns (by simp) (hb hby at_180) hr
        · exact ⟨rfl, N81⟩
    · have pre83 : ∀ t, Steps p.tables e below (T78.setTop (mkF m 124 #[.val (.int p1), .val (.int p2), .val (.int p3), .val (.int p4), .val (.int p5), .val (.int (3 : Int32)), .val (.int c0), .val (.int c1), .val (.int c2), .val (.int c3), .val (.ref b66), .val (.ref b74), .unset] [(.int c1)])) t → Steps p.tables e below _ t := fun t kt => pre79 t (by
        show Steps p.tables e below (T78.setTop (mkF m 113 #[.val (.int p1), .val (.int p2), .val (.int p3), .val (.int p4), .val (.int p5), .val (.int (3 : Int32)), .val (.int c0), .val (.int c1), .val (.int c2), .val (.int c3), .val (.ref b66), .val (.ref b74), .unset] [(.int (own_tchar c0))])) _
        refine XS.ifNo X78.here hx rfl (hb hby at_113) rfl ((if0 _ _).trans (feq hc113).1) ?_
        refine XS.iload X78.here hx rfl (hb hby at_116) rfl ?_
        refine XS.iconst X78.here hx rfl (hb hby at_118) ?_
        have hc119 : ¬ ((3 : Int32) < (2 : Int32)) := by decide
        show Steps p.tables e below (T78.setTop (mkF m 119 #[.val (.int p1), .val (.int p2), .val (.int p3), .val (.int p4), .val (.int p5), .val (.int (3 : Int32)), .val (.int c0), .val (.int c1), .val (.int c2), .val (.int c3), .val (.ref b66), .val (.ref b74), .unset] [(.int (2 : Int32)), (.int (3 : Int32))])) _
        refine XS.icmpNo X78.here hx rfl (hb hby at_119) rfl (flt hc119).1 ?_
        refine XS.iload X78.here hx rfl (hb hby at_122) rfl ?_
        exact kt)
      obtain ⟨_, _, ⟨T84, L84, k84, n84⟩, -, X84, ⟨Lc84, hQ84, l84, y84, z84⟩, st84⟩ := Jvm.LawKit.callS X78 hx (y := (⟨"com/example/firm_warden/firmwarden/HeaderFieldsIsTokenPinLaw", "tchar", "(C)Z"⟩ : MethodName)) hown (mvT hZ (hw _ (List.mem_of_getElem? (i := 56) rfl))) (mvT hZ (hw _ (List.mem_of_getElem? (i := 57) rfl))) (mvT hZ (hw _ (List.mem_of_getElem? (i := 2) rfl))) (mvT hZ (hw _ (List.mem_of_getElem? (i := 58) rfl))) (by decide) (backOf (W := 0) (rm12 l Z a0 hw [] c1 T76.heap n0 Ze) hZ (hw _ (List.mem_of_getElem? (i := 58) rfl)) (hw _ (List.mem_of_getElem? (i := 2) rfl)) (by decide) (by decide)) (g := (mkF m 124 #[.val (.int p1), .val (.int p2), .val (.int p3), .val (.int p4), .val (.int p5), .val (.int (3 : Int32)), .val (.int c0), .val (.int c1), .val (.int c2), .val (.int c3), .val (.ref b66), .val (.ref b74), .unset] [(.int c1)])) rfl (by rw [hml]; rfl) (argsL := [(.int c1)]) (rest := []) (lenOf pd_18 rfl) rfl (by show 2 * 0 + _ ≤ _; exact Nat.le_of_eq rfl) (hb hby at_124) (fun _ _ => ⟨rfl, e78, (by decide : 4 + 0 ≤ _), (by decide : 19 + 0 ≤ _)⟩)
      dsimp only [Pt.U, Pt.locs, Pt.cells, Pt.slots] at X84 l84 y84 z84 st84 hQ84
      subst l84 y84 z84
      obtain ⟨rfl, N84q, e84⟩ := hQ84
      have N84 := Fr.app N78 N84q
      have pre85 : ∀ t, Steps p.tables e below (T84.setTop (mkF m 127 #[.val (.int p1), .val (.int p2), .val (.int p3), .val (.int p4), .val (.int p5), .val (.int (3 : Int32)), .val (.int c0), .val (.int c1), .val (.int c2), .val (.int c3), .val (.ref b66), .val (.ref b74), .unset] [(.int (own_tchar c1))])) t → Steps p.tables e below _ t := fun t kt => pre83 t (by
        show Steps p.tables e below (T78.setTop (mkF m 124 #[.val (.int p1), .val (.int p2), .val (.int p3), .val (.int p4), .val (.int p5), .val (.int (3 : Int32)), .val (.int c0), .val (.int c1), .val (.int c2), .val (.int c3), .val (.ref b66), .val (.ref b74), .unset] [(.int c1)])) _
        refine st84 _ ?_
        exact kt)
      by_cases hc127 : (own_tchar c1) = (0 : Int32)
      · have pre86 : ∀ t, Steps p.tables e below (T84.setTop (mkF m 167 #[.val (.int p1), .val (.int p2), .val (.int p3), .val (.int p4), .val (.int p5), .val (.int (3 : Int32)), .val (.int c0), .val (.int c1), .val (.int c2), .val (.int c3), .val (.ref b66), .val (.ref b74), .val (.int (0 : Int32))] [(.ref b74)])) t → Steps p.tables e below _ t := fun t kt => pre85 t (by
          show Steps p.tables e below (T84.setTop (mkF m 127 #[.val (.int p1), .val (.int p2), .val (.int p3), .val (.int p4), .val (.int p5), .val (.int (3 : Int32)), .val (.int c0), .val (.int c1), .val (.int c2), .val (.int c3), .val (.ref b66), .val (.ref b74), .unset] [(.int (own_tchar c1))])) _
          refine XS.ifYes X84.here hx rfl (pc0 := 127) (pc' := 162) rfl (hb hby at_127) rfl ((if0 _ _).trans (teq hc127).1) (by decide) (by decide) ?_
          refine XS.iconst X84.here hx rfl (hb hby at_162) ?_
          refine XS.istore X84.here hx rfl (hb hby at_163) rfl (l' := #[.val (.int p1), .val (.int p2), .val (.int p3), .val (.int p4), .val (.int p5), .val (.int (3 : Int32)), .val (.int c0), .val (.int c1), .val (.int c2), .val (.int c3), .val (.ref b66), .val (.ref b74), .val (.int (0 : Int32))]) rfl ?_
          show Steps p.tables e below (T84.setTop (mkF m 165 #[.val (.int p1), .val (.int p2), .val (.int p3), .val (.int p4), .val (.int p5), .val (.int (3 : Int32)), .val (.int c0), .val (.int c1), .val (.int c2), .val (.int c3), .val (.ref b66), .val (.ref b74), .val (.int (0 : Int32))] [])) _
          refine XS.aload X84.here hx rfl (hb hby at_165) rfl rfl ?_
          exact kt)
        obtain ⟨_, _, ⟨T87, L87, k87, n87⟩, -, X87, ⟨Lc87, hQ87, l87, y87, z87⟩, st87⟩ := Jvm.LawKit.callS X84 hx (y := (⟨"com/example/firm_warden/firmwarden/HeaderFields", "isToken", "(Ljava/lang/String;)Z"⟩ : MethodName)) hown (mvT hZ (hw _ (List.mem_of_getElem? (i := 26) rfl))) (mvT hZ (hw _ (List.mem_of_getElem? (i := 27) rfl))) (mvT hZ (hw _ (List.mem_of_getElem? (i := 28) rfl))) (mvT hZ (hw _ (List.mem_of_getElem? (i := 29) rfl))) (by decide) (backOf (W := 0) (rm5F l Z a0 hw [] b74 ta 3 (upd (upd (upd (fun _ => 0) 0 c0) 1 c1) 2 c2) G1 G3 T76.heap n0 Ze (by decide) rG3 (own_Sta_keep O4 Ke) (own_Sta_keep O2 Ke) P5 (own_Sta_keep AD Ke) (own_Sta_keep HB Ke) (own_Sta_keep LB Ke) Sq (by decide) hff (own_Sta_keep TS Ke) (own_A_keep TA Ke nin0)) hZ (hw _ (List.mem_of_getElem? (i := 29) rfl)) (hw _ (List.mem_of_getElem? (i := 28) rfl)) (by decide) (by decide)) (g := (mkF m 167 #[.val (.int p1), .val (.int p2), .val (.int p3), .val (.int p4), .val (.int p5), .val (.int (3 : Int32)), .val (.int c0), .val (.int c1), .val (.int c2), .val (.int c3), .val (.ref b66), .val (.ref b74), .val (.int (0 : Int32))] [(.ref b74)])) rfl (by rw [hml]; rfl) (argsL := [(.ref b74)]) (rest := []) (lenOf pd_17 rfl) rfl (by show 2 * 0 + _ ≤ _; exact Nat.le_of_eq rfl) (hb hby at_167) (fun _ _ => ⟨rfl, e84, (by decide : 4 + 0 ≤ _), (by decide : 19 + 0 ≤ _)⟩)
        dsimp only [Pt.U, Pt.locs, Pt.cells, Pt.slots] at X87 l87 y87 z87 st87 hQ87
        subst l87 y87 z87
        obtain ⟨r5, rfl, N87q, e87, R5⟩ := hQ87
        have N87 := Fr.app N84 N87q
        have pre88 : ∀ t, Steps p.tables e below (T87.setTop (mkF m 170 #[.val (.int p1), .val (.int p2), .val (.int p3), .val (.int p4), .val (.int p5), .val (.int (3 : Int32)), .val (.int c0), .val (.int c1), .val (.int c2), .val (.int c3), .val (.ref b66), .val (.ref b74), .val (.int (0 : Int32))] [(.int r5)])) t → Steps p.tables e below _ t := fun t kt => pre86 t (by
          show Steps p.tables e below (T84.setTop (mkF m 167 #[.val (.int p1), .val (.int p2), .val (.int p3), .val (.int p4), .val (.int p5), .val (.int (3 : Int32)), .val (.int c0), .val (.int c1), .val (.int c2), .val (.int c3), .val (.ref b66), .val (.ref b74), .val (.int (0 : Int32))] [(.ref b74)])) _
          refine st87 _ ?_
          exact kt)
        rcases R5 with ⟨rfl, hpos, hall⟩ | ⟨rfl, hex⟩
        · have hcon : own_tchar c1 = 1 := hall 1 (by decide)
          rw [hc127] at hcon
          exact absurd hcon (by decide)
        · obtain ⟨fs, hr, hrun, hended, hW0, hsame⟩ := X87.leave (v := some (.int (1 : Int32))) (fun h => by rw [Bd.returns] at h; cases h)
          have hW := hW0.wide
          have hI := hW0.no_new_pair
          refine ⟨_, _, pre88 _ ?_, hrun, hended, _, _, rfl, ?_, ⟨_, rfl⟩, hW, hI _, hsame.mono (by decide) (by decide)⟩
          · show Steps p.tables e below (T87.setTop (mkF m 170 #[.val (.int p1), .val (.int p2), .val (.int p3), .val (.int p4), .val (.int p5), .val (.int (3 : Int32)), .val (.int c0), .val (.int c1), .val (.int c2), .val (.int c3), .val (.ref b66), .val (.ref b74), .val (.int (0 : Int32))] [(.int (0 : Int32))])) _
            refine XS.iload X87.here hx rfl (hb hby at_170) rfl ?_
            have hc172 : (0 : Int32) = (0 : Int32) := rfl
            refine XS.icmpNo X87.here hx rfl (hb hby at_172) rfl (teq hc172).2 ?_
            refine XS.iconst X87.here hx rfl (hb hby at_175) ?_
            show Steps p.tables e below (T87.setTop (mkF m 176 #[.val (.int p1), .val (.int p2), .val (.int p3), .val (.int p4), .val (.int p5), .val (.int (3 : Int32)), .val (.int c0), .val (.int c1), .val (.int c2), .val (.int c3), .val (.ref b66), .val (.ref b74), .val (.int (0 : Int32))] [(.int (1 : Int32))])) _
            refine XS.goto X87.here hx rfl (pc0 := 176) (pc' := 180) rfl (hb hby at_176) (by decide) (by decide) ?_
            show Steps p.tables e below (T87.setTop (mkF m 180 #[.val (.int p1), .val (.int p2), .val (.int p3), .val (.int p4), .val (.int p5), .val (.int (3 : Int32)), .val (.int c0), .val (.int c1), .val (.int c2), .val (.int c3), .val (.ref b66), .val (.ref b74), .val (.int (0 : Int32))] [(.int (1 : Int32))])) _
            exact retN X87 hx (t := .boolean) Bd.returns (by simp) (hb hby at_180) hr
          · exact ⟨rfl, N87⟩
      · have pre89 : ∀ t, Steps p.tables e below (T84.setTop (mkF m 138 #[.val (.int p1), .val (.int p2), .val (.int p3), .val (.int p4), .val (.int p5), .val (.int (3 : Int32)), .val (.int c0), .val (.int c1), .val (.int c2), .val (.int c3), .val (.ref b66), .val (.ref b74), .unset] [(.int c2)])) t → Steps p.tables e below _ t := fun t kt => pre85 t (by
          show Steps p.tables e below (T84.setTop (mkF m 127 #[.val (.int p1), .val (.int p2), .val (.int p3), .val (.int p4), .val (.int p5), .val (.int (3 : Int32)), .val (.int c0), .val (.int c1), .val (.int c2), .val (.int c3), .val (.ref b66), .val (.ref b74), .unset] [(.int (own_tchar c1))])) _
          refine XS.ifNo X84.here hx rfl (hb hby at_127) rfl ((if0 _ _).trans (feq hc127).1) ?_
          refine XS.iload X84.here hx rfl (hb hby at_130) rfl ?_
          refine XS.iconst X84.here hx rfl (hb hby at_132) ?_
          have hc133 : ¬ ((3 : Int32) < (3 : Int32)) := by decide
          show Steps p.tables e below (T84.setTop (mkF m 133 #[.val (.int p1), .val (.int p2), .val (.int p3), .val (.int p4), .val (.int p5), .val (.int (3 : Int32)), .val (.int c0), .val (.int c1), .val (.int c2), .val (.int c3), .val (.ref b66), .val (.ref b74), .unset] [(.int (3 : Int32)), (.int (3 : Int32))])) _
          refine XS.icmpNo X84.here hx rfl (hb hby at_133) rfl (flt hc133).1 ?_
          refine XS.iload X84.here hx rfl (hb hby at_136) rfl ?_
          exact kt)
        obtain ⟨_, _, ⟨T90, L90, k90, n90⟩, -, X90, ⟨Lc90, hQ90, l90, y90, z90⟩, st90⟩ := Jvm.LawKit.callS X84 hx (y := (⟨"com/example/firm_warden/firmwarden/HeaderFieldsIsTokenPinLaw", "tchar", "(C)Z"⟩ : MethodName)) hown (mvT hZ (hw _ (List.mem_of_getElem? (i := 56) rfl))) (mvT hZ (hw _ (List.mem_of_getElem? (i := 57) rfl))) (mvT hZ (hw _ (List.mem_of_getElem? (i := 2) rfl))) (mvT hZ (hw _ (List.mem_of_getElem? (i := 58) rfl))) (by decide) (backOf (W := 0) (rm12 l Z a0 hw [] c2 T76.heap n0 Ze) hZ (hw _ (List.mem_of_getElem? (i := 58) rfl)) (hw _ (List.mem_of_getElem? (i := 2) rfl)) (by decide) (by decide)) (g := (mkF m 138 #[.val (.int p1), .val (.int p2), .val (.int p3), .val (.int p4), .val (.int p5), .val (.int (3 : Int32)), .val (.int c0), .val (.int c1), .val (.int c2), .val (.int c3), .val (.ref b66), .val (.ref b74), .unset] [(.int c2)])) rfl (by rw [hml]; rfl) (argsL := [(.int c2)]) (rest := []) (lenOf pd_18 rfl) rfl (by show 2 * 0 + _ ≤ _; exact Nat.le_of_eq rfl) (hb hby at_138) (fun _ _ => ⟨rfl, e84, (by decide : 4 + 0 ≤ _), (by decide : 19 + 0 ≤ _)⟩)
        dsimp only [Pt.U, Pt.locs, Pt.cells, Pt.slots] at X90 l90 y90 z90 st90 hQ90
        subst l90 y90 z90
        obtain ⟨rfl, N90q, e90⟩ := hQ90
        have N90 := Fr.app N84 N90q
        have pre91 : ∀ t, Steps p.tables e below (T90.setTop (mkF m 141 #[.val (.int p1), .val (.int p2), .val (.int p3), .val (.int p4), .val (.int p5), .val (.int (3 : Int32)), .val (.int c0), .val (.int c1), .val (.int c2), .val (.int c3), .val (.ref b66), .val (.ref b74), .unset] [(.int (own_tchar c2))])) t → Steps p.tables e below _ t := fun t kt => pre89 t (by
          show Steps p.tables e below (T84.setTop (mkF m 138 #[.val (.int p1), .val (.int p2), .val (.int p3), .val (.int p4), .val (.int p5), .val (.int (3 : Int32)), .val (.int c0), .val (.int c1), .val (.int c2), .val (.int c3), .val (.ref b66), .val (.ref b74), .unset] [(.int c2)])) _
          refine st90 _ ?_
          exact kt)
        by_cases hc141 : (own_tchar c2) = (0 : Int32)
        · have pre92 : ∀ t, Steps p.tables e below (T90.setTop (mkF m 167 #[.val (.int p1), .val (.int p2), .val (.int p3), .val (.int p4), .val (.int p5), .val (.int (3 : Int32)), .val (.int c0), .val (.int c1), .val (.int c2), .val (.int c3), .val (.ref b66), .val (.ref b74), .val (.int (0 : Int32))] [(.ref b74)])) t → Steps p.tables e below _ t := fun t kt => pre91 t (by
            show Steps p.tables e below (T90.setTop (mkF m 141 #[.val (.int p1), .val (.int p2), .val (.int p3), .val (.int p4), .val (.int p5), .val (.int (3 : Int32)), .val (.int c0), .val (.int c1), .val (.int c2), .val (.int c3), .val (.ref b66), .val (.ref b74), .unset] [(.int (own_tchar c2))])) _
            refine XS.ifYes X90.here hx rfl (pc0 := 141) (pc' := 162) rfl (hb hby at_141) rfl ((if0 _ _).trans (teq hc141).1) (by decide) (by decide) ?_
            refine XS.iconst X90.here hx rfl (hb hby at_162) ?_
            refine XS.istore X90.here hx rfl (hb hby at_163) rfl (l' := #[.val (.int p1), .val (.int p2), .val (.int p3), .val (.int p4), .val (.int p5), .val (.int (3 : Int32)), .val (.int c0), .val (.int c1), .val (.int c2), .val (.int c3), .val (.ref b66), .val (.ref b74), .val (.int (0 : Int32))]) rfl ?_
            show Steps p.tables e below (T90.setTop (mkF m 165 #[.val (.int p1), .val (.int p2), .val (.int p3), .val (.int p4), .val (.int p5), .val (.int (3 : Int32)), .val (.int c0), .val (.int c1), .val (.int c2), .val (.int c3), .val (.ref b66), .val (.ref b74), .val (.int (0 : Int32))] [])) _
            refine XS.aload X90.here hx rfl (hb hby at_165) rfl rfl ?_
            exact kt)
          obtain ⟨_, _, ⟨T93, L93, k93, n93⟩, -, X93, ⟨Lc93, hQ93, l93, y93, z93⟩, st93⟩ := Jvm.LawKit.callS X90 hx (y := (⟨"com/example/firm_warden/firmwarden/HeaderFields", "isToken", "(Ljava/lang/String;)Z"⟩ : MethodName)) hown (mvT hZ (hw _ (List.mem_of_getElem? (i := 26) rfl))) (mvT hZ (hw _ (List.mem_of_getElem? (i := 27) rfl))) (mvT hZ (hw _ (List.mem_of_getElem? (i := 28) rfl))) (mvT hZ (hw _ (List.mem_of_getElem? (i := 29) rfl))) (by decide) (backOf (W := 0) (rm5F l Z a0 hw [] b74 ta 3 (upd (upd (upd (fun _ => 0) 0 c0) 1 c1) 2 c2) G1 G3 T76.heap n0 Ze (by decide) rG3 (own_Sta_keep O4 Ke) (own_Sta_keep O2 Ke) P5 (own_Sta_keep AD Ke) (own_Sta_keep HB Ke) (own_Sta_keep LB Ke) Sq (by decide) hff (own_Sta_keep TS Ke) (own_A_keep TA Ke nin0)) hZ (hw _ (List.mem_of_getElem? (i := 29) rfl)) (hw _ (List.mem_of_getElem? (i := 28) rfl)) (by decide) (by decide)) (g := (mkF m 167 #[.val (.int p1), .val (.int p2), .val (.int p3), .val (.int p4), .val (.int p5), .val (.int (3 : Int32)), .val (.int c0), .val (.int c1), .val (.int c2), .val (.int c3), .val (.ref b66), .val (.ref b74), .val (.int (0 : Int32))] [(.ref b74)])) rfl (by rw [hml]; rfl) (argsL := [(.ref b74)]) (rest := []) (lenOf pd_17 rfl) rfl (by show 2 * 0 + _ ≤ _; exact Nat.le_of_eq rfl) (hb hby at_167) (fun _ _ => ⟨rfl, e90, (by decide : 4 + 0 ≤ _), (by decide : 19 + 0 ≤ _)⟩)
          dsimp only [Pt.U, Pt.locs, Pt.cells, Pt.slots] at X93 l93 y93 z93 st93 hQ93
          subst l93 y93 z93
          obtain ⟨r5, rfl, N93q, e93, R5⟩ := hQ93
          have N93 := Fr.app N90 N93q
          have pre94 : ∀ t, Steps p.tables e below (T93.setTop (mkF m 170 #[.val (.int p1), .val (.int p2), .val (.int p3), .val (.int p4), .val (.int p5), .val (.int (3 : Int32)), .val (.int c0), .val (.int c1), .val (.int c2), .val (.int c3), .val (.ref b66), .val (.ref b74), .val (.int (0 : Int32))] [(.int r5)])) t → Steps p.tables e below _ t := fun t kt => pre92 t (by
            show Steps p.tables e below (T90.setTop (mkF m 167 #[.val (.int p1), .val (.int p2), .val (.int p3), .val (.int p4), .val (.int p5), .val (.int (3 : Int32)), .val (.int c0), .val (.int c1), .val (.int c2), .val (.int c3), .val (.ref b66), .val (.ref b74), .val (.int (0 : Int32))] [(.ref b74)])) _
            refine st93 _ ?_
            exact kt)
          rcases R5 with ⟨rfl, hpos, hall⟩ | ⟨rfl, hex⟩
          · have hcon : own_tchar c2 = 1 := hall 2 (by decide)
            rw [hc141] at hcon
            exact absurd hcon (by decide)
          · obtain ⟨fs, hr, hrun, hended, hW0, hsame⟩ := X93.leave (v := some (.int (1 : Int32))) (fun h => by rw [Bd.returns] at h; cases h)
            have hW := hW0.wide
            have hI := hW0.no_new_pair
            refine ⟨_, _, pre94 _ ?_, hrun, hended, _, _, rfl, ?_, ⟨_, rfl⟩, hW, hI _, hsame.mono (by decide) (by decide)⟩
            · show Steps p.tables e below (T93.setTop (mkF m 170 #[.val (.int p1), .val (.int p2), .val (.int p3), .val (.int p4), .val (.int p5), .val (.int (3 : Int32)), .val (.int c0), .val (.int c1), .val (.int c2), .val (.int c3), .val (.ref b66), .val (.ref b74), .val (.int (0 : Int32))] [(.int (0 : Int32))])) _
              refine XS.iload X93.here hx rfl (hb hby at_170) rfl ?_
              have hc172 : (0 : Int32) = (0 : Int32) := rfl
              refine XS.icmpNo X93.here hx rfl (hb hby at_172) rfl (teq hc172).2 ?_
              refine XS.iconst X93.here hx rfl (hb hby at_175) ?_
              show Steps p.tables e below (T93.setTop (mkF m 176 #[.val (.int p1), .val (.int p2), .val (.int p3), .val (.int p4), .val (.int p5), .val (.int (3 : Int32)), .val (.int c0), .val (.int c1), .val (.int c2), .val (.int c3), .val (.ref b66), .val (.ref b74), .val (.int (0 : Int32))] [(.int (1 : Int32))])) _
              refine XS.goto X93.here hx rfl (pc0 := 176) (pc' := 180) rfl (hb hby at_176) (by decide) (by decide) ?_
              show Steps p.tables e below (T93.setTop (mkF m 180 #[.val (.int p1), .val (.int p2), .val (.int p3), .val (.int p4), .val (.int p5), .val (.int (3 : Int32)), .val (.int c0), .val (.int c1), .val (.int c2), .val (.int c3), .val (.ref b66), .val (.ref b74), .val (.int (0 : Int32))] [(.int (1 : Int32))])) _
              exact retN X93 hx (t := .boolean) Bd.returns (by simp) (hb hby at_180) hr
            · exact ⟨rfl, N93⟩
        · have pre95 : ∀ t, Steps p.tables e below (T90.setTop (mkF m 167 #[.val (.int p1), .val (.int p2), .val (.int p3), .val (.int p4), .val (.int p5), .val (.int (3 : Int32)), .val (.int c0), .val (.int c1), .val (.int c2), .val (.int c3), .val (.ref b66), .val (.ref b74), .val (.int (1 : Int32))] [(.ref b74)])) t → Steps p.tables e below _ t := fun t kt => pre91 t (by
            show Steps p.tables e below (T90.setTop (mkF m 141 #[.val (.int p1), .val (.int p2), .val (.int p3), .val (.int p4), .val (.int p5), .val (.int (3 : Int32)), .val (.int c0), .val (.int c1), .val (.int c2), .val (.int c3), .val (.ref b66), .val (.ref b74), .unset] [(.int (own_tchar c2))])) _
            refine XS.ifNo X90.here hx rfl (hb hby at_141) rfl ((if0 _ _).trans (feq hc141).1) ?_
            refine XS.iload X90.here hx rfl (hb hby at_144) rfl ?_
            refine XS.iconst X90.here hx rfl (hb hby at_146) ?_
            have hc147 : (3 : Int32) < (4 : Int32) := by decide
            show Steps p.tables e below (T90.setTop (mkF m 147 #[.val (.int p1), .val (.int p2), .val (.int p3), .val (.int p4), .val (.int p5), .val (.int (3 : Int32)), .val (.int c0), .val (.int c1), .val (.int c2), .val (.int c3), .val (.ref b66), .val (.ref b74), .unset] [(.int (4 : Int32)), (.int (3 : Int32))])) _
            refine XS.icmpYes X90.here hx rfl (pc0 := 147) (pc' := 158) rfl (hb hby at_147) rfl (tlt hc147).1 (by decide) (by decide) ?_
            refine XS.iconst X90.here hx rfl (hb hby at_158) ?_
            refine XS.goto X90.here hx rfl (pc0 := 159) (pc' := 163) rfl (hb hby at_159) (by decide) (by decide) ?_
            show Steps p.tables e below (T90.setTop (mkF m 163 #[.val (.int p1), .val (.int p2), .val (.int p3), .val (.int p4), .val (.int p5), .val (.int (3 : Int32)), .val (.int c0), .val (.int c1), .val (.int c2), .val (.int c3), .val (.ref b66), .val (.ref b74), .unset] [(.int (1 : Int32))])) _
            refine XS.istore X90.here hx rfl (hb hby at_163) rfl (l' := #[.val (.int p1), .val (.int p2), .val (.int p3), .val (.int p4), .val (.int p5), .val (.int (3 : Int32)), .val (.int c0), .val (.int c1), .val (.int c2), .val (.int c3), .val (.ref b66), .val (.ref b74), .val (.int (1 : Int32))]) rfl ?_
            refine XS.aload X90.here hx rfl (hb hby at_165) rfl rfl ?_
            exact kt)
          obtain ⟨_, _, ⟨T96, L96, k96, n96⟩, -, X96, ⟨Lc96, hQ96, l96, y96, z96⟩, st96⟩ := Jvm.LawKit.callS X90 hx (y := (⟨"com/example/firm_warden/firmwarden/HeaderFields", "isToken", "(Ljava/lang/String;)Z"⟩ : MethodName)) hown (mvT hZ (hw _ (List.mem_of_getElem? (i := 26) rfl))) (mvT hZ (hw _ (List.mem_of_getElem? (i := 27) rfl))) (mvT hZ (hw _ (List.mem_of_getElem? (i := 28) rfl))) (mvT hZ (hw _ (List.mem_of_getElem? (i := 29) rfl))) (by decide) (backOf (W := 0) (rm5F l Z a0 hw [] b74 ta 3 (upd (upd (upd (fun _ => 0) 0 c0) 1 c1) 2 c2) G1 G3 T76.heap n0 Ze (by decide) rG3 (own_Sta_keep O4 Ke) (own_Sta_keep O2 Ke) P5 (own_Sta_keep AD Ke) (own_Sta_keep HB Ke) (own_Sta_keep LB Ke) Sq (by decide) hff (own_Sta_keep TS Ke) (own_A_keep TA Ke nin0)) hZ (hw _ (List.mem_of_getElem? (i := 29) rfl)) (hw _ (List.mem_of_getElem? (i := 28) rfl)) (by decide) (by decide)) (g := (mkF m 167 #[.val (.int p1), .val (.int p2), .val (.int p3), .val (.int p4), .val (.int p5), .val (.int (3 : Int32)), .val (.int c0), .val (.int c1), .val (.int c2), .val (.int c3), .val (.ref b66), .val (.ref b74), .val (.int (1 : Int32))] [(.ref b74)])) rfl (by rw [hml]; rfl) (argsL := [(.ref b74)]) (rest := []) (lenOf pd_17 rfl) rfl (by show 2 * 0 + _ ≤ _; exact Nat.le_of_eq rfl) (hb hby at_167) (fun _ _ => ⟨rfl, e90, (by decide : 4 + 0 ≤ _), (by decide : 19 + 0 ≤ _)⟩)
          dsimp only [Pt.U, Pt.locs, Pt.cells, Pt.slots] at X96 l96 y96 z96 st96 hQ96
          subst l96 y96 z96
          obtain ⟨r5, rfl, N96q, e96, R5⟩ := hQ96
          have N96 := Fr.app N90 N96q
          have pre97 : ∀ t, Steps p.tables e below (T96.setTop (mkF m 170 #[.val (.int p1), .val (.int p2), .val (.int p3), .val (.int p4), .val (.int p5), .val (.int (3 : Int32)), .val (.int c0), .val (.int c1), .val (.int c2), .val (.int c3), .val (.ref b66), .val (.ref b74), .val (.int (1 : Int32))] [(.int r5)])) t → Steps p.tables e below _ t := fun t kt => pre95 t (by
            show Steps p.tables e below (T90.setTop (mkF m 167 #[.val (.int p1), .val (.int p2), .val (.int p3), .val (.int p4), .val (.int p5), .val (.int (3 : Int32)), .val (.int c0), .val (.int c1), .val (.int c2), .val (.int c3), .val (.ref b66), .val (.ref b74), .val (.int (1 : Int32))] [(.ref b74)])) _
            refine st96 _ ?_
            exact kt)
          rcases R5 with ⟨rfl, hpos, hall⟩ | ⟨rfl, hex⟩
          · obtain ⟨fs, hr, hrun, hended, hW0, hsame⟩ := X96.leave (v := some (.int (1 : Int32))) (fun h => by rw [Bd.returns] at h; cases h)
            have hW := hW0.wide
            have hI := hW0.no_new_pair
            refine ⟨_, _, pre97 _ ?_, hrun, hended, _, _, rfl, ?_, ⟨_, rfl⟩, hW, hI _, hsame.mono (by decide) (by decide)⟩
            · show Steps p.tables e below (T96.setTop (mkF m 170 #[.val (.int p1), .val (.int p2), .val (.int p3), .val (.int p4), .val (.int p5), .val (.int (3 : Int32)), .val (.int c0), .val (.int c1), .val (.int c2), .val (.int c3), .val (.ref b66), .val (.ref b74), .val (.int (1 : Int32))] [(.int (1 : Int32))])) _
              refine XS.iload X96.here hx rfl (hb hby at_170) rfl ?_
              have hc172 : (1 : Int32) = (1 : Int32) := rfl
              refine XS.icmpNo X96.here hx rfl (hb hby at_172) rfl (teq hc172).2 ?_
              refine XS.iconst X96.here hx rfl (hb hby at_175) ?_
              show Steps p.tables e below (T96.setTop (mkF m 176 #[.val (.int p1), .val (.int p2), .val (.int p3), .val (.int p4), .val (.int p5), .val (.int (3 : Int32)), .val (.int c0), .val (.int c1), .val (.int c2), .val (.int c3), .val (.ref b66), .val (.ref b74), .val (.int (1 : Int32))] [(.int (1 : Int32))])) _
              refine XS.goto X96.here hx rfl (pc0 := 176) (pc' := 180) rfl (hb hby at_176) (by decide) (by decide) ?_
              show Steps p.tables e below (T96.setTop (mkF m 180 #[.val (.int p1), .val (.int p2), .val (.int p3), .val (.int p4), .val (.int p5), .val (.int (3 : Int32)), .val (.int c0), .val (.int c1), .val (.int c2), .val (.int c3), .val (.ref b66), .val (.ref b74), .val (.int (1 : Int32))] [(.int (1 : Int32))])) _
              exact retN X96 hx (t := .boolean) Bd.returns (by simp) (hb hby at_180) hr
            · exact ⟨rfl, N96⟩
          · exfalso
            rcases hex with h | ⟨j, hj, hq⟩
            · exact absurd h (by decide)
            · have hj' : j = 0 ∨ j = 1 ∨ j = 2 := by omega
              rcases hj' with rfl | rfl | rfl
              · exact hc113 hq
              · exact hc127 hq
              · exact hc141 hq
  · have hv98 : ((p1 &&& (7 : Int32)) % (5 : Int32)) = (4 : Int32) := h5
    rw [hv98] at pre9
    have pre99 : ∀ t, Steps p.tables e below (T8.setTop (mkF m 35 #[.val (.int p1), .val (.int p2), .val (.int p3), .val (.int p4), .val (.int p5), .val (.int (4 : Int32)), .val (.int c0), .val (.int c1), .val (.int c2), .val (.int c3), .unset, .unset, .unset] [(.int (4 : Int32))])) t → Steps p.tables e below _ t := fun t kt => pre9 t (by
      show Steps p.tables e below (T8.setTop (mkF m 33 #[.val (.int p1), .val (.int p2), .val (.int p3), .val (.int p4), .val (.int p5), .val (.int (4 : Int32)), .val (.int c0), .val (.int c1), .val (.int c2), .val (.int c3), .unset, .unset, .unset] [])) _
      refine XS.iload X8.here hx rfl (hb hby at_33) rfl ?_
      exact kt)
    obtain ⟨T100, h100, k100, X100, e100, E100, A100, st100⟩ := newP X8 hx hZ (hw _ (List.mem_of_getElem? (i := 4) rfl)) e8 (g := (mkF m 35 #[.val (.int p1), .val (.int p2), .val (.int p3), .val (.int p4), .val (.int p5), .val (.int (4 : Int32)), .val (.int c0), .val (.int c1), .val (.int c2), .val (.int c3), .unset, .unset, .unset] [(.int (4 : Int32))])) rfl (hb hby at_35) rfl (by decide) (cap := 4) (by decide) (by decide) (by decide) (by decide)
    obtain ⟨b100, gb100⟩ : ∃ z, z = h0.size := ⟨_, rfl⟩
    rw [← gb100] at A100 st100
    have g_b100 : n0 ≤ b100 := Nat.le_trans Z0 (Nat.le_of_eq gb100.symm)
    have Zs100 : n0 ≤ h100.size := Nat.le_trans Z0 E100.1
    have sz_b100 : h0.size ≤ b100 := Nat.le_trans (Keep.refl h0 []).1 (Nat.le_of_eq gb100.symm)
    have Kp100 : Keep h0 h100 [] := (Keep.refl h0 []).ext E100
    have CA0 : own_A Z h100 b100 .char 4 (fun _ => 0) := own_A_new A100 rfl rfl
    have pre101 : ∀ t, Steps p.tables e below (T100.setTop (mkF m 49 #[.val (.int p1), .val (.int p2), .val (.int p3), .val (.int p4), .val (.int p5), .val (.int (4 : Int32)), .val (.int c0), .val (.int c1), .val (.int c2), .val (.int c3), .val (.ref b100), .unset, .unset] [(.int c0), (.int (0 : Int32)), (.ref b100)])) t → Steps p.tables e below _ t := fun t kt => pre99 t (by
      show Steps p.tables e below (T8.setTop (mkF m 35 #[.val (.int p1), .val (.int p2), .val (.int p3), .val (.int p4), .val (.int p5), .val (.int (4 : Int32)), .val (.int c0), .val (.int c1), .val (.int c2), .val (.int c3), .unset, .unset, .unset] [(.int (4 : Int32))])) _
      refine st100 _ ?_
      refine XS.astore X100.here hx rfl (hb hby at_37) rfl rfl (l' := #[.val (.int p1), .val (.int p2), .val (.int p3), .val (.int p4), .val (.int p5), .val (.int (4 : Int32)), .val (.int c0), .val (.int c1), .val (.int c2), .val (.int c3), .val (.ref b100), .unset, .unset]) rfl ?_
      refine XS.iload X100.here hx rfl (hb hby at_39) rfl ?_
      have hc41 : (0 : Int32) < (4 : Int32) := by decide
      show Steps p.tables e below (T100.setTop (mkF m 41 #[.val (.int p1), .val (.int p2), .val (.int p3), .val (.int p4), .val (.int p5), .val (.int (4 : Int32)), .val (.int c0), .val (.int c1), .val (.int c2), .val (.int c3), .val (.ref b100), .unset, .unset] [(.int (4 : Int32))])) _
      refine XS.ifNo X100.here hx rfl (hb hby at_41) rfl ((if0 _ _).trans (tlt hc41).2.2.2) ?_
      refine XS.aload X100.here hx rfl (hb hby at_44) rfl rfl ?_
      refine XS.iconst X100.here hx rfl (hb hby at_46) ?_
      show Steps p.tables e below (T100.setTop (mkF m 47 #[.val (.int p1), .val (.int p2), .val (.int p3), .val (.int p4), .val (.int p5), .val (.int (4 : Int32)), .val (.int c0), .val (.int c1), .val (.int c2), .val (.int c3), .val (.ref b100), .unset, .unset] [(.int (0 : Int32)), (.ref b100)])) _
      refine XS.iload X100.here hx rfl (hb hby at_47) rfl ?_
      exact kt)
    obtain ⟨cl_0, Ar_0, Sz_0, -⟩ := id CA0
    obtain ⟨T102, h102, X102, e102, W102, st102⟩ := stC X100 hx hZ e100 Ar_0 (j := (0 : Int32)) (within (c := 0) rfl (by rw [Sz_0]; decide) (by rw [Sz_0]; decide)) (g := (mkF m 49 #[.val (.int p1), .val (.int p2), .val (.int p3), .val (.int p4), .val (.int p5), .val (.int (4 : Int32)), .val (.int c0), .val (.int c1), .val (.int c2), .val (.int c3), .val (.ref b100), .unset, .unset] [(.int c0), (.int (0 : Int32)), (.ref b100)])) rfl rfl (hb hby at_49)
    have N102 := Fr.snoc X102 N8 g_b100
    have Zs102 : n0 ≤ h102.size := Nat.le_trans Zs100 (Nat.le_of_eq W102.size.symm)
    have Kp102 : Keep h0 h102 [] := Kp100.wr W102 (Or.inr sz_b100)
    have V102 : Wr h100 h102 b100 0 (.int c0) := by have z := W102; rw [own_char rc0.1 rc0.2] at z; exact z
    have CA1 := own_A_set CA0 V102
    have pre103 : ∀ t, Steps p.tables e below (T102.setTop (mkF m 61 #[.val (.int p1), .val (.int p2), .val (.int p3), .val (.int p4), .val (.int p5), .val (.int (4 : Int32)), .val (.int c0), .val (.int c1), .val (.int c2), .val (.int c3), .val (.ref b100), .unset, .unset] [(.int c1), (.int (1 : Int32)), (.ref b100)])) t → Steps p.tables e below _ t := fun t kt => pre101 t (by
      show Steps p.tables e below (T100.setTop (mkF m 49 #[.val (.int p1), .val (.int p2), .val (.int p3), .val (.int p4), .val (.int p5), .val (.int (4 : Int32)), .val (.int c0), .val (.int c1), .val (.int c2), .val (.int c3), .val (.ref b100), .unset, .unset] [(.int c0), (.int (0 : Int32)), (.ref b100)])) _
      refine st102 _ ?_
      refine XS.iload X102.here hx rfl (hb hby at_50) rfl ?_
      refine XS.iconst X102.here hx rfl (hb hby at_52) ?_
      have hc53 : (1 : Int32) < (4 : Int32) := by decide
      show Steps p.tables e below (T102.setTop (mkF m 53 #[.val (.int p1), .val (.int p2), .val (.int p3), .val (.int p4), .val (.int p5), .val (.int (4 : Int32)), .val (.int c0), .val (.int c1), .val (.int c2), .val (.int c3), .val (.ref b100), .unset, .unset] [(.int (1 : Int32)), (.int (4 : Int32))])) _
      refine XS.icmpNo X102.here hx rfl (hb hby at_53) rfl (tlt hc53).2.2.2 ?_
      refine XS.aload X102.here hx rfl (hb hby at_56) rfl rfl ?_
      refine XS.iconst X102.here hx rfl (hb hby at_58) ?_
      show Steps p.tables e below (T102.setTop (mkF m 59 #[.val (.int p1), .val (.int p2), .val (.int p3), .val (.int p4), .val (.int p5), .val (.int (4 : Int32)), .val (.int c0), .val (.int c1), .val (.int c2), .val (.int c3), .val (.ref b100), .unset, .unset] [(.int (1 : Int32)), (.ref b100)])) _
      refine XS.iload X102.here hx rfl (hb hby at_59) rfl ?_
      exact kt)
    obtain ⟨cl_1, Ar_1, Sz_1, -⟩ := id CA1
    obtain ⟨T104, h104, X104, e104, W104, st104⟩ := stC X102 hx hZ e102 Ar_1 (j := (1 : Int32)) (within (c := 1) rfl (by rw [Sz_1]; decide) (by rw [Sz_1]; decide)) (g := (mkF m 61 #[.val (.int p1), .val (.int p2), .val (.int p3), .val (.int p4), .val (.int p5), .val (.int (4 : Int32)), .val (.int c0), .val (.int c1), .val (.int c2), .val (.int c3), .val (.ref b100), .unset, .unset] [(.int c1), (.int (1 : Int32)), (.ref b100)])) rfl rfl (hb hby at_61)
    have N104 := Fr.snoc X104 N102 g_b100
    have Zs104 : n0 ≤ h104.size := Nat.le_trans Zs102 (Nat.le_of_eq W104.size.symm)
    have Kp104 : Keep h0 h104 [] := Kp102.wr W104 (Or.inr sz_b100)
    have V104 : Wr h102 h104 b100 1 (.int c1) := by have z := W104; rw [own_char rc1.1 rc1.2] at z; exact z
    have CA2 := own_A_set CA1 V104
    have pre105 : ∀ t, Steps p.tables e below (T104.setTop (mkF m 73 #[.val (.int p1), .val (.int p2), .val (.int p3), .val (.int p4), .val (.int p5), .val (.int (4 : Int32)), .val (.int c0), .val (.int c1), .val (.int c2), .val (.int c3), .val (.ref b100), .unset, .unset] [(.int c2), (.int (2 : Int32)), (.ref b100)])) t → Steps p.tables e below _ t := fun t kt => pre103 t (by
      show Steps p.tables e below (T102.setTop (mkF m 61 #[.val (.int p1), .val (.int p2), .val (.int p3), .val (.int p4), .val (.int p5), .val (.int (4 : Int32)), .val (.int c0), .val (.int c1), .val (.int c2), .val (.int c3), .val (.ref b100), .unset, .unset] [(.int c1), (.int (1 : Int32)), (.ref b100)])) _
      refine st104 _ ?_
      refine XS.iload X104.here hx rfl (hb hby at_62) rfl ?_
      refine XS.iconst X104.here hx rfl (hb hby at_64) ?_
      have hc65 : (2 : Int32) < (4 : Int32) := by decide
      show Steps p.tables e below (T104.setTop (mkF m 65 #[.val (.int p1), .val (.int p2), .val (.int p3), .val (.int p4), .val (.int p5), .val (.int (4 : Int32)), .val (.int c0), .val (.int c1), .val (.int c2), .val (.int c3), .val (.ref b100), .unset, .unset] [(.int (2 : Int32)), (.int (4 : Int32))])) _
      refine XS.icmpNo X104.here hx rfl (hb hby at_65) rfl (tlt hc65).2.2.2 ?_
      refine XS.aload X104.here hx rfl (hb hby at_68) rfl rfl ?_
      refine XS.iconst X104.here hx rfl (hb hby at_70) ?_
      show Steps p.tables e below (T104.setTop (mkF m 71 #[.val (.int p1), .val (.int p2), .val (.int p3), .val (.int p4), .val (.int p5), .val (.int (4 : Int32)), .val (.int c0), .val (.int c1), .val (.int c2), .val (.int c3), .val (.ref b100), .unset, .unset] [(.int (2 : Int32)), (.ref b100)])) _
      refine XS.iload X104.here hx rfl (hb hby at_71) rfl ?_
      exact kt)
    obtain ⟨cl_2, Ar_2, Sz_2, -⟩ := id CA2
    obtain ⟨T106, h106, X106, e106, W106, st106⟩ := stC X104 hx hZ e104 Ar_2 (j := (2 : Int32)) (within (c := 2) rfl (by rw [Sz_2]; decide) (by rw [Sz_2]; decide)) (g := (mkF m 73 #[.val (.int p1), .val (.int p2), .val (.int p3), .val (.int p4), .val (.int p5), .val (.int (4 : Int32)), .val (.int c0), .val (.int c1), .val (.int c2), .val (.int c3), .val (.ref b100), .unset, .unset] [(.int c2), (.int (2 : Int32)), (.ref b100)])) rfl rfl (hb hby at_73)
    have N106 := Fr.snoc X106 N104 g_b100
    have Zs106 : n0 ≤ h106.size := Nat.le_trans Zs104 (Nat.le_of_eq W106.size.symm)
    have Kp106 : Keep h0 h106 [] := Kp104.wr W106 (Or.inr sz_b100)
    have V106 : Wr h104 h106 b100 2 (.int c2) := by have z := W106; rw [own_char rc2.1 rc2.2] at z; exact z
    have CA3 := own_A_set CA2 V106
    have pre107 : ∀ t, Steps p.tables e below (T106.setTop (mkF m 85 #[.val (.int p1), .val (.int p2), .val (.int p3), .val (.int p4), .val (.int p5), .val (.int (4 : Int32)), .val (.int c0), .val (.int c1), .val (.int c2), .val (.int c3), .val (.ref b100), .unset, .unset] [(.int c3), (.int (3 : Int32)), (.ref b100)])) t → Steps p.tables e below _ t := fun t kt => pre105 t (by
      show Steps p.tables e below (T104.setTop (mkF m 73 #[.val (.int p1), .val (.int p2), .val (.int p3), .val (.int p4), .val (.int p5), .val (.int (4 : Int32)), .val (.int c0), .val (.int c1), .val (.int c2), .val (.int c3), .val (.ref b100), .unset, .unset] [(.int c2), (.int (2 : Int32)), (.ref b100)])) _
      refine st106 _ ?_
      refine XS.iload X106.here hx rfl (hb hby at_74) rfl ?_
      refine XS.iconst X106.here hx rfl (hb hby at_76) ?_
      have hc77 : (3 : Int32) < (4 : Int32) := by decide
      show Steps p.tables e below (T106.setTop (mkF m 77 #[.val (.int p1), .val (.int p2), .val (.int p3), .val (.int p4), .val (.int p5), .val (.int (4 : Int32)), .val (.int c0), .val (.int c1), .val (.int c2), .val (.int c3), .val (.ref b100), .unset, .unset] [(.int (3 : Int32)), (.int (4 : Int32))])) _
      refine XS.icmpNo X106.here hx rfl (hb hby at_77) rfl (tlt hc77).2.2.2 ?_
      refine XS.aload X106.here hx rfl (hb hby at_80) rfl rfl ?_
      refine XS.iconst X106.here hx rfl (hb hby at_82) ?_
      show Steps p.tables e below (T106.setTop (mkF m 83 #[.val (.int p1), .val (.int p2), .val (.int p3), .val (.int p4), .val (.int p5), .val (.int (4 : Int32)), .val (.int c0), .val (.int c1), .val (.int c2), .val (.int c3), .val (.ref b100), .unset, .unset] [(.int (3 : Int32)), (.ref b100)])) _
      refine XS.iload X106.here hx rfl (hb hby at_83) rfl ?_
      exact kt)
    obtain ⟨cl_3, Ar_3, Sz_3, -⟩ := id CA3
    obtain ⟨T108, h108, X108, e108, W108, st108⟩ := stC X106 hx hZ e106 Ar_3 (j := (3 : Int32)) (within (c := 3) rfl (by rw [Sz_3]; decide) (by rw [Sz_3]; decide)) (g := (mkF m 85 #[.val (.int p1), .val (.int p2), .val (.int p3), .val (.int p4), .val (.int p5), .val (.int (4 : Int32)), .val (.int c0), .val (.int c1), .val (.int c2), .val (.int c3), .val (.ref b100), .unset, .unset] [(.int c3), (.int (3 : Int32)), (.ref b100)])) rfl rfl (hb hby at_85)
    have N108 := Fr.snoc X108 N106 g_b100
    have Zs108 : n0 ≤ h108.size := Nat.le_trans Zs106 (Nat.le_of_eq W108.size.symm)
    have Kp108 : Keep h0 h108 [] := Kp106.wr W108 (Or.inr sz_b100)
    have V108 : Wr h106 h108 b100 3 (.int c3) := by have z := W108; rw [own_char rc3.1 rc3.2] at z; exact z
    have CA4 := own_A_set CA3 V108
    have pre109 : ∀ t, Steps p.tables e below (T108.setTop (mkF m 86 #[.val (.int p1), .val (.int p2), .val (.int p3), .val (.int p4), .val (.int p5), .val (.int (4 : Int32)), .val (.int c0), .val (.int c1), .val (.int c2), .val (.int c3), .val (.ref b100), .unset, .unset] [])) t → Steps p.tables e below _ t := fun t kt => pre107 t (by
      show Steps p.tables e below (T106.setTop (mkF m 85 #[.val (.int p1), .val (.int p2), .val (.int p3), .val (.int p4), .val (.int p5), .val (.int (4 : Int32)), .val (.int c0), .val (.int c1), .val (.int c2), .val (.int c3), .val (.ref b100), .unset, .unset] [(.int c3), (.int (3 : Int32)), (.ref b100)])) _
      refine st108 _ ?_
      exact kt)
    obtain ⟨T110, h110, X110, e110, E110, A110, D110, -, st110⟩ := newO X108 hx hZ hown (hw _ (List.mem_of_getElem? (i := 5) rfl)) (hw _ (List.mem_of_getElem? (i := 6) rfl)) (hw _ (List.mem_of_getElem? (i := 7) rfl)) e108 (g := (mkF m 86 #[.val (.int p1), .val (.int p2), .val (.int p3), .val (.int p4), .val (.int p5), .val (.int (4 : Int32)), .val (.int c0), .val (.int c1), .val (.int c2), .val (.int c3), .val (.ref b100), .unset, .unset] [])) rfl (hb hby at_86) (by decide) (by decide)
    obtain ⟨b110, gb110⟩ : ∃ z, z = h108.size := ⟨_, rfl⟩
    rw [← gb110] at A110 D110 st110
    have g_b110 : n0 ≤ b110 := Nat.le_trans Zs108 (Nat.le_of_eq gb110.symm)
    have Zs110 : n0 ≤ h110.size := Nat.le_trans Zs108 E110.1
    have sz_b110 : h0.size ≤ b110 := Nat.le_trans Kp108.1 (Nat.le_of_eq gb110.symm)
    have Kp110 : Keep h0 h110 [] := Kp108.ext E110
    have Eas := A110
    have Fvs : Fld Z h110 b110 "java/lang/String" "value" "[B" .null := D110 (Or.inr (hw _ (List.mem_of_getElem? (i := 20) rfl))) (ty := (.array .byte)) (by decide)
    have Fcs : Fld Z h110 b110 "java/lang/String" "coder" "B" (.int (0 : Int32)) := D110 (Or.inr (hw _ (List.mem_of_getElem? (i := 21) rfl))) (ty := .byte) (by decide)
    have CAs := own_A_ext CA4 E110
    have hff : ∀ j, j < 4 → 0 ≤ ((upd (upd (upd (upd (fun _ => 0) 0 c0) 1 c1) 2 c2) 3 c3) j).toInt ∧ ((upd (upd (upd (upd (fun _ => 0) 0 c0) 1 c1) 2 c2) 3 c3) j).toInt < 65536 := by
      intro j hj
      have hj' : j = 0 ∨ j = 1 ∨ j = 2 ∨ j = 3 := by omega
      rcases hj' with rfl | rfl | rfl | rfl
      · exact rc0
      · exact rc1
      · exact rc2
      · exact rc3
    have pre111 : ∀ t, Steps p.tables e below (T110.setTop (mkF m 92 #[.val (.int p1), .val (.int p2), .val (.int p3), .val (.int p4), .val (.int p5), .val (.int (4 : Int32)), .val (.int c0), .val (.int c1), .val (.int c2), .val (.int c3), .val (.ref b100), .unset, .unset] [(.ref b100), (.ref b110), (.ref b110)])) t → Steps p.tables e below _ t := fun t kt => pre109 t (by
      show Steps p.tables e below (T108.setTop (mkF m 86 #[.val (.int p1), .val (.int p2), .val (.int p3), .val (.int p4), .val (.int p5), .val (.int (4 : Int32)), .val (.int c0), .val (.int c1), .val (.int c2), .val (.int c3), .val (.ref b100), .unset, .unset] [])) _
      refine st110 _ ?_
      refine XS.dup X110.here hx rfl (hb hby at_89) rfl rfl ?_
      refine XS.aload X110.here hx rfl (hb hby at_90) rfl rfl ?_
      exact kt)
    obtain ⟨_, _, ⟨T112, L112, k112, n112⟩, -, X112, ⟨Lc112, hQ112, l112, y112, z112⟩, st112⟩ := X110.specialBack hx (y := (⟨"java/lang/String", "<init>", "([C)V"⟩ : MethodName)) rfl hown (mvT hZ (hw _ (List.mem_of_getElem? (i := 8) rfl))) (mvT hZ (hw _ (List.mem_of_getElem? (i := 9) rfl))) (mvT hZ (hw _ (List.mem_of_getElem? (i := 10) rfl))) (by decide) (backOf (W := 1) (rm2 l Z a0 hw [] b110 b100 4 (upd (upd (upd (upd (fun _ => 0) 0 c0) 1 c1) 2 c2) 3 c3) G1 h110 n0 Zs110 Eas Fvs Fcs g_b110 CAs (own_Sta_keep O2 Kp110) P5 (own_Sta_keep AD Kp110) (own_Sta_keep HB Kp110) (own_Sta_keep LB Kp110) (by decide) (by decide) hff) hZ (hw _ (List.mem_of_getElem? (i := 10) rfl)) (hw _ (List.mem_of_getElem? (i := 7) rfl)) (by decide) (by decide)) (g := (mkF m 92 #[.val (.int p1), .val (.int p2), .val (.int p3), .val (.int p4), .val (.int p5), .val (.int (4 : Int32)), .val (.int c0), .val (.int c1), .val (.int c2), .val (.int c3), .val (.ref b100), .unset, .unset] [(.ref b100), (.ref b110), (.ref b110)])) rfl (by rw [hml]; rfl) (Steps.refl _) (a := b110) (argsL := [(.ref b100)]) (rest := [(.ref b110)]) (lenOf pd_16 rfl) rfl (by show 2 * 0 + _ ≤ _; exact Nat.le_of_eq rfl) (hb hby at_92) (fun _ _ => ⟨rfl, e110, (by decide : 2 + 2 ≤ _), (by decide : 8 + 12 ≤ _)⟩)
    dsimp only [Pt.U, Pt.locs, Pt.cells, Pt.slots] at X112 l112 y112 z112 st112 hQ112
    subst l112 y112 z112
    obtain ⟨rfl, N112q, Kq, Sq⟩ := hQ112
    have N112 := Fr.app N108 N112q
    have Ke : Keep h0 T112.heap [] := Kp110.trans Kq (allS (Or.inr sz_b110) all0)
    have Ze : n0 ≤ T112.heap.size := Nat.le_trans Z0 Ke.1
    have pre113 : ∀ t, Steps p.tables e below (T112.setTop (mkF m 110 #[.val (.int p1), .val (.int p2), .val (.int p3), .val (.int p4), .val (.int p5), .val (.int (4 : Int32)), .val (.int c0), .val (.int c1), .val (.int c2), .val (.int c3), .val (.ref b100), .val (.ref b110), .unset] [(.int c0)])) t → Steps p.tables e below _ t := fun t kt => pre111 t (by
      show Steps p.tables e below (T110.setTop (mkF m 92 #[.val (.int p1), .val (.int p2), .val (.int p3), .val (.int p4), .val (.int p5), .val (.int (4 : Int32)), .val (.int c0), .val (.int c1), .val (.int c2), .val (.int c3), .val (.ref b100), .unset, .unset] [(.ref b100), (.ref b110), (.ref b110)])) _
      refine st112.trans ?_
      refine XS.astore X112.here hx rfl (hb hby at_95) rfl rfl (l' := #[.val (.int p1), .val (.int p2), .val (.int p3), .val (.int p4), .val (.int p5), .val (.int (4 : Int32)), .val (.int c0), .val (.int c1), .val (.int c2), .val (.int c3), .val (.ref b100), .val (.ref b110), .unset]) rfl ?_
      refine XS.iload X112.here hx rfl (hb hby at_97) rfl ?_
      have hc99 : (0 : Int32) < (4 : Int32) := by decide
      show Steps p.tables e below (T112.setTop (mkF m 99 #[.val (.int p1), .val (.int p2), .val (.int p3), .val (.int p4), .val (.int p5), .val (.int (4 : Int32)), .val (.int c0), .val (.int c1), .val (.int c2), .val (.int c3), .val (.ref b100), .val (.ref b110), .unset] [(.int (4 : Int32))])) _
      refine XS.ifNo X112.here hx rfl (hb hby at_99) rfl ((if0 _ _).trans (tlt hc99).2.2.2) ?_
      refine XS.iload X112.here hx rfl (hb hby at_102) rfl ?_
      refine XS.iconst X112.here hx rfl (hb hby at_104) ?_
      have hc105 : ¬ ((4 : Int32) < (1 : Int32)) := by decide
      show Steps p.tables e below (T112.setTop (mkF m 105 #[.val (.int p1), .val (.int p2), .val (.int p3), .val (.int p4), .val (.int p5), .val (.int (4 : Int32)), .val (.int c0), .val (.int c1), .val (.int c2), .val (.int c3), .val (.ref b100), .val (.ref b110), .unset] [(.int (1 : Int32)), (.int (4 : Int32))])) _
      refine XS.icmpNo X112.here hx rfl (hb hby at_105) rfl (flt hc105).1 ?_
      refine XS.iload X112.here hx rfl (hb hby at_108) rfl ?_
      exact kt)
    obtain ⟨_, _, ⟨T114, L114, k114, n114⟩, -, X114, ⟨Lc114, hQ114, l114, y114, z114⟩, st114⟩ := Jvm.LawKit.callS X112 hx (y := (⟨"com/example/firm_warden/firmwarden/HeaderFieldsIsTokenPinLaw", "tchar", "(C)Z"⟩ : MethodName)) hown (mvT hZ (hw _ (List.mem_of_getElem? (i := 56) rfl))) (mvT hZ (hw _ (List.mem_of_getElem? (i := 57) rfl))) (mvT hZ (hw _ (List.mem_of_getElem? (i := 2) rfl))) (mvT hZ (hw _ (List.mem_of_getElem? (i := 58) rfl))) (by decide) (backOf (W := 0) (rm12 l Z a0 hw [] c0 T112.heap n0 Ze) hZ (hw _ (List.mem_of_getElem? (i := 58) rfl)) (hw _ (List.mem_of_getElem? (i := 2) rfl)) (by decide) (by decide)) (g := (mkF m 110 #[.val (.int p1), .val (.int p2), .val (.int p3), .val (.int p4), .val (.int p5), .val (.int (4 : Int32)), .val (.int c0), .val (.int c1), .val (.int c2), .val (.int c3), .val (.ref b100), .val (.ref b110), .unset] [(.int c0)])) rfl (by rw [hml]; rfl) (argsL := [(.int c0)]) (rest := []) (lenOf pd_18 rfl) rfl (by show 2 * 0 + _ ≤ _; exact Nat.le_of_eq rfl) (hb hby at_110) (fun _ _ => ⟨rfl, rfl, (by decide : 4 + 0 ≤ _), (by decide : 20 + 0 ≤ _)⟩)
    dsimp only [Pt.U, Pt.locs, Pt.cells, Pt.slots] at X114 l114 y114 z114 st114 hQ114
    subst l114 y114 z114
    obtain ⟨rfl, N114q, e114⟩ := hQ114
    have N114 := Fr.app N112 N114q
    have pre115 : ∀ t, Steps p.tables e below (T114.setTop (mkF m 113 #[.val (.int p1), .val (.int p2), .val (.int p3), .val (.int p4), .val (.int p5), .val (.int (4 : Int32)), .val (.int c0), .val (.int c1), .val (.int c2), .val (.int c3), .val (.ref b100), .val (.ref b110), .unset] [(.int (own_tchar c0))])) t → Steps p.tables e below _ t := fun t kt => pre113 t (by
      show Steps p.tables e below (T112.setTop (mkF m 110 #[.val (.int p1), .val (.int p2), .val (.int p3), .val (.int p4), .val (.int p5), .val (.int (4 : Int32)), .val (.int c0), .val (.int c1), .val (.int c2), .val (.int c3), .val (.ref b100), .val (.ref b110), .unset] [(.int c0)])) _
      refine st114 _ ?_
      exact kt)
    by_cases hc113 : (own_tchar c0) = (0 : Int32)
    · have pre116 : ∀ t, Steps p.tables e below (T114.setTop (mkF m 167 #[.val (.int p1), .val (.int p2), .val (.int p3), .val (.int p4), .val (.int p5), .val (.int (4 : Int32)), .val (.int c0), .val (.int c1), .val (.int c2), .val (.int c3), .val (.ref b100), .val (.ref b110), .val (.int (0 : Int32))] [(.ref b110)])) t → Steps p.tables e below _ t := fun t kt => pre115 t (by
        show Steps p.tables e below (T114.setTop (mkF m 113 #[.val (.int p1), .val (.int p2), .val (.int p3), .val (.int p4), .val (.int p5), .val (.int (4 : Int32)), .val (.int c0), .val (.int c1), .val (.int c2), .val (.int c3), .val (.ref b100), .val (.ref b110), .unset] [(.int (own_tchar c0))])) _
        refine XS.ifYes X114.here hx rfl (pc0 := 113) (pc' := 162) rfl (hb hby at_113) rfl ((if0 _ _).trans (teq hc113).1) (by decide) (by decide) ?_
        refine XS.iconst X114.here hx rfl (hb hby at_162) ?_
        refine XS.istore X114.here hx rfl (hb hby at_163) rfl (l' := #[.val (.int p1), .val (.int p2), .val (.int p3), .val (.int p4), .val (.int p5), .val (.int (4 : Int32)), .val (.int c0), .val (.int c1), .val (.int c2), .val (.int c3), .val (.ref b100), .val (.ref b110), .val (.int (0 : Int32))]) rfl ?_
        show Steps p.tables e below (T114.setTop (mkF m 165 #[.val (.int p1), .val (.int p2), .val (.int p3), .val (.int p4), .val (.int p5), .val (.int (4 : Int32)), .val (.int c0), .val (.int c1), .val (.int c2), .val (.int c3), .val (.ref b100), .val (.ref b110), .val (.int (0 : Int32))] [])) _
        refine XS.aload X114.here hx rfl (hb hby at_165) rfl rfl ?_
        exact kt)
      obtain ⟨_, _, ⟨T117, L117, k117, n117⟩, -, X117, ⟨Lc117, hQ117, l117, y117, z117⟩, st117⟩ := Jvm.LawKit.callS X114 hx (y := (⟨"com/example/firm_warden/firmwarden/HeaderFields", "isToken", "(Ljava/lang/String;)Z"⟩ : MethodName)) hown (mvT hZ (hw _ (List.mem_of_getElem? (i := 26) rfl))) (mvT hZ (hw _ (List.mem_of_getElem? (i := 27) rfl))) (mvT hZ (hw _ (List.mem_of_getElem? (i := 28) rfl))) (mvT hZ (hw _ (List.mem_of_getElem? (i := 29) rfl))) (by decide) (backOf (W := 0) (rm5F l Z a0 hw [] b110 ta 4 (upd (upd (upd (upd (fun _ => 0) 0 c0) 1 c1) 2 c2) 3 c3) G1 G3 T112.heap n0 Ze (by decide) rG3 (own_Sta_keep O4 Ke) (own_Sta_keep O2 Ke) P5 (own_Sta_keep AD Ke) (own_Sta_keep HB Ke) (own_Sta_keep LB Ke) Sq (by decide) hff (own_Sta_keep TS Ke) (own_A_keep TA Ke nin0)) hZ (hw _ (List.mem_of_getElem? (i := 29) rfl)) (hw _ (List.mem_of_getElem? (i := 28) rfl)) (by decide) (by decide)) (g := (mkF m 167 #[.val (.int p1), .val (.int p2), .val (.int p3), .val (.int p4), .val (.int p5), .val (.int (4 : Int32)), .val (.int c0), .val (.int c1), .val (.int c2), .val (.int c3), .val (.ref b100), .val (.ref b110), .val (.int (0 : Int32))] [(.ref b110)])) rfl (by rw [hml]; rfl) (argsL := [(.ref b110)]) (rest := []) (lenOf pd_17 rfl) rfl (by show 2 * 0 + _ ≤ _; exact Nat.le_of_eq rfl) (hb hby at_167) (fun _ _ => ⟨rfl, e114, (by decide : 4 + 0 ≤ _), (by decide : 20 + 0 ≤ _)⟩)
      dsimp only [Pt.U, Pt.locs, Pt.cells, Pt.slots] at X117 l117 y117 z117 st117 hQ117
      subst l117 y117 z117
      obtain ⟨r5, rfl, N117q, e117, R5⟩ := hQ117
      have N117 := Fr.app N114 N117q
      have pre118 : ∀ t, Steps p.tables e below (T117.setTop (mkF m 170 #[.val (.int p1), .val (.int p2), .val (.int p3), .val (.int p4), .val (.int p5), .val (.int (4 : Int32)), .val (.int c0), .val (.int c1), .val (.int c2), .val (.int c3), .val (.ref b100), .val (.ref b110), .val (.int (0 : Int32))] [(.int r5)])) t → Steps p.tables e below _ t := fun t kt => pre116 t (by
        show Steps p.tables e below (T114.setTop (mkF m 167 #[.val (.int p1), .val (.int p2), .val (.int p3), .val (.int p4), .val (.int p5), .val (.int (4 : Int32)), .val (.int c0), .val (.int c1), .val (.int c2), .val (.int c3), .val (.ref b100), .val (.ref b110), .val (.int (0 : Int32))] [(.ref b110)])) _
        refine st117 _ ?_
        exact kt)
      rcases R5 with ⟨rfl, hpos, hall⟩ | ⟨rfl, hex⟩
      · have hcon : own_tchar c0 = 1 := hall 0 (by decide)
        rw [hc113] at hcon
        exact absurd hcon (by decide)
      · obtain ⟨fs, hr, hrun, hended, hW0, hsame⟩ := X117.leave (v := some (.int (1 : Int32))) (fun h => by rw [Bd.returns] at h; cases h)
        have hW := hW0.wide
        have hI := hW0.no_new_pair
        refine ⟨_, _, pre118 _ ?_, hrun, hended, _, _, rfl, ?_, ⟨_, rfl⟩, hW, hI _, hsame.mono (by decide) (by decide)⟩
        · show Steps p.tables e below (T117.setTop (mkF m 170 #[.val (.int p1), .val (.int p2), .val (.int p3), .val (.int p4), .val (.int p5), .val (.int (4 : Int32)), .val (.int c0), .val (.int c1), .val (.int c2), .val (.int c3), .val (.ref b100), .val (.ref b110), .val (.int (0 : Int32))] [(.int (0 : Int32))])) _
          refine XS.iload X117.here hx rfl (hb hby at_170) rfl ?_
          have hc172 : (0 : Int32) = (0 : Int32) := rfl
          refine XS.icmpNo X117.here hx rfl (hb hby at_172) rfl (teq hc172).2 ?_
          refine XS.iconst X117.here hx rfl (hb hby at_175) ?_
          show Steps p.tables e below (T117.setTop (mkF m 176 #[.val (.int p1), .val (.int p2), .val (.int p3), .val (.int p4), .val (.int p5), .val (.int (4 : Int32)), .val (.int c0), .val (.int c1), .val (.int c2), .val (.int c3), .val (.ref b100), .val (.ref b110), .val (.int (0 : Int32))] [(.int (1 : Int32))])) _
          refine XS.goto X117.here hx rfl (pc0 := 176) (pc' := 180) rfl (hb hby at_176) (by decide) (by decide) ?_
          show Steps p.tables e below (T117.setTop (mkF m 180 #[.val (.int p1), .val (.int p2), .val (.int p3), .val (.int p4), .val (.int p5), .val (.int (4 : Int32)), .val (.int c0), .val (.int c1), .val (.int c2), .val (.int c3), .val (.ref b100), .val (.ref b110), .val (.int (0 : Int32))] [(.int (1 : Int32))])) _
          exact retN X117 hx (t := .boolean) Bd.returns (by simp) (hb hby at_180) hr
        · exact ⟨rfl, N117⟩
    · have pre119 : ∀ t, Steps p.tables e below (T114.setTop (mkF m 124 #[.val (.int p1), .val (.int p2), .val (.int p3), .val (.int p4), .val (.int p5), .val (.int (4 : Int32)), .val (.int c0), .val (.int c1), .val (.int c2), .val (.int c3), .val (.ref b100), .val (.ref b110), .unset] [(.int c1)])) t → Steps p.tables e below _ t := fun t kt => pre115 t (by
        show Steps p.tables e below (T114.setTop (mkF m 113 #[.val (.int p1), .val (.int p2), .val (.int p3), .val (.int p4), .val (.int p5), .val (.int (4 : Int32)), .val (.int c0), .val (.int c1), .val (.int c2), .val (.int c3), .val (.ref b100), .val (.ref b110), .unset] [(.int (own_tchar c0))])) _
        refine XS.ifNo X114.here hx rfl (hb hby at_113) rfl ((if0 _ _).trans (feq hc113).1) ?_
        refine XS.iload X114.here hx rfl (hb hby at_116) rfl ?_
        refine XS.iconst X114.here hx rfl (hb hby at_118) ?_
        have hc119 : ¬ ((4 : Int32) < (2 : Int32)) := by decide
        show Steps p.tables e below (T114.setTop (mkF m 119 #[.val (.int p1), .val (.int p2), .val (.int p3), .val (.int p4), .val (.int p5), .val (.int (4 : Int32)), .val (.int c0), .val (.int c1), .val (.int c2), .val (.int c3), .val (.ref b100), .val (.ref b110), .unset] [(.int (2 : Int32)), (.int (4 : Int32))])) _
        refine XS.icmpNo X114.here hx rfl (hb hby at_119) rfl (flt hc119).1 ?_
        refine XS.iload X114.here hx rfl (hb hby at_122) rfl ?_
        exact kt)
      obtain ⟨_, _, ⟨T120, L120, k120, n120⟩, -, X120, ⟨Lc120, hQ120, l120, y120, z120⟩, st120⟩ := Jvm.LawKit.callS X114 hx (y := (⟨"com/example/firm_warden/firmwarden/HeaderFieldsIsTokenPinLaw", "tchar", "(C)Z"⟩ : MethodName)) hown (mvT hZ (hw _ (List.mem_of_getElem? (i := 56) rfl))) (mvT hZ (hw _ (List.mem_of_getElem? (i := 57) rfl))) (mvT hZ (hw _ (List.mem_of_getElem? (i := 2) rfl))) (mvT hZ (hw _ (List.mem_of_getElem? (i := 58) rfl))) (by decide) (backOf (W := 0) (rm12 l Z a0 hw [] c1 T112.heap n0 Ze) hZ (hw _ (List.mem_of_getElem? (i := 58) rfl)) (hw _ (List.mem_of_getElem? (i := 2) rfl)) (by decide) (by decide)) (g := (mkF m 124 #[.val (.int p1), .val (.int p2), .val (.int p3), .val (.int p4), .val (.int p5), .val (.int (4 : Int32)), .val (.int c0), .val (.int c1), .val (.int c2), .val (.int c3), .val (.ref b100), .val (.ref b110), .unset] [(.int c1)])) rfl (by rw [hml]; rfl) (argsL := [(.int c1)]) (rest := []) (lenOf pd_18 rfl) rfl (by show 2 * 0 + _ ≤ _; exact Nat.le_of_eq rfl) (hb hby at_124) (fun _ _ => ⟨rfl, e114, (by decide : 4 + 0 ≤ _), (by decide : 20 + 0 ≤ _)⟩)
      dsimp only [Pt.U, Pt.locs, Pt.cells, Pt.slots] at X120 l120 y120 z120 st120 hQ120
      subst l120 y120 z120
      obtain ⟨rfl, N120q, e120⟩ := hQ120
      have N120 := Fr.app N114 N120q
      have pre121 : ∀ t, Steps p.tables e below (T120.setTop (mkF m 127 #[.val (.int p1), .val (.int p2), .val (.int p3), .val (.int p4), .val (.int p5), .val (.int (4 : Int32)), .val (.int c0), .val (.int c1), .val (.int c2), .val (.int c3), .val (.ref b100), .val (.ref b110), .unset] [(.int (own_tchar c1))])) t → Steps p.tables e below _ t := fun t kt => pre119 t (by
        show Steps p.tables e below (T114.setTop (mkF m 124 #[.val (.int p1), .val (.int p2), .val (.int p3), .val (.int p4), .val (.int p5), .val (.int (4 : Int32)), .val (.int c0), .val (.int c1), .val (.int c2), .val (.int c3), .val (.ref b100), .val (.ref b110), .unset] [(.int c1)])) _
        refine st120 _ ?_
        exact kt)
      by_cases hc127 : (own_tchar c1) = (0 : Int32)
      · have pre122 : ∀ t, Steps p.tables e below (T120.setTop (mkF m 167 #[.val (.int p1), .val (.int p2), .val (.int p3), .val (.int p4), .val (.int p5), .val (.int (4 : Int32)), .val (.int c0), .val (.int c1), .val (.int c2), .val (.int c3), .val (.ref b100), .val (.ref b110), .val (.int (0 : Int32))] [(.ref b110)])) t → Steps p.tables e below _ t := fun t kt => pre121 t (by
          show Steps p.tables e below (T120.setTop (mkF m 127 #[.val (.int p1), .val (.int p2), .val (.int p3), .val (.int p4), .val (.int p5), .val (.int (4 : Int32)), .val (.int c0), .val (.int c1), .val (.int c2), .val (.int c3), .val (.ref b100), .val (.ref b110), .unset] [(.int (own_tchar c1))])) _
          refine XS.ifYes X120.here hx rfl (pc0 := 127) (pc' := 162) rfl (hb hby at_127) rfl ((if0 _ _).trans (teq hc127).1) (by decide) (by decide) ?_
          refine XS.iconst X120.here hx rfl (hb hby at_162) ?_
          refine XS.istore X120.here hx rfl (hb hby at_163) rfl (l' := #[.val (.int p1), .val (.int p2), .val (.int p3), .val (.int p4), .val (.int p5), .val (.int (4 : Int32)), .val (.int c0), .val (.int c1), .val (.int c2), .val (.int c3), .val (.ref b100), .val (.ref b110), .val (.int (0 : Int32))]) rfl ?_
          show Steps p.tables e below (T120.setTop (mkF m 165 #[.val (.int p1), .val (.int p2), .val (.int p3), .val (.int p4), .val (.int p5), .val (.int (4 : Int32)), .val (.int c0), .val (.int c1), .val (.int c2), .val (.int c3), .val (.ref b100), .val (.ref b110), .val (.int (0 : Int32))] [])) _
          refine XS.aload X120.here hx rfl (hb hby at_165) rfl rfl ?_
          exact kt)
        obtain ⟨_, _, ⟨T123, L123, k123, n123⟩, -, X123, ⟨Lc123, hQ123, l123, y123, z123⟩, st123⟩ := Jvm.LawKit.callS X120 hx (y := (⟨"com/example/firm_warden/firmwarden/HeaderFields", "isToken", "(Ljava/lang/String;)Z"⟩ : MethodName)) hown (mvT hZ (hw _ (List.mem_of_getElem? (i := 26) rfl))) (mvT hZ (hw _ (List.mem_of_getElem? (i := 27) rfl))) (mvT hZ (hw _ (List.mem_of_getElem? (i := 28) rfl))) (mvT hZ (hw _ (List.mem_of_getElem? (i := 29) rfl))) (by decide) (backOf (W := 0) (rm5F l Z a0 hw [] b110 ta 4 (upd (upd (upd (upd (fun _ => 0) 0 c0) 1 c1) 2 c2) 3 c3) G1 G3 T112.heap n0 Ze (by decide) rG3 (own_Sta_keep O4 Ke) (own_Sta_keep O2 Ke) P5 (own_Sta_keep AD Ke) (own_Sta_keep HB Ke) (own_Sta_keep LB Ke) Sq (by decide) hff (own_Sta_keep TS Ke) (own_A_keep TA Ke nin0)) hZ (hw _ (List.mem_of_getElem? (i := 29) rfl)) (hw _ (List.mem_of_getElem? (i := 28) rfl)) (by decide) (by decide)) (g := (mkF m 167 #[.val (.int p1), .val (.int p2), .val (.int p3), .val (.int p4), .val (.int p5), .val (.int (4 : Int32)), .val (.int c0), .val (.int c1), .val (.int c2), .val (.int c3), .val (.ref b100), .val (.ref b110), .val (.int (0 : Int32))] [(.ref b110)])) rfl (by rw [hml]; rfl) (argsL := [(.ref b110)]) (rest := []) (lenOf pd_17 rfl) rfl (by show 2 * 0 + _ ≤ _; exact Nat.le_of_eq rfl) (hb hby at_167) (fun _ _ => ⟨rfl, e120, (by decide : 4 + 0 ≤ _), (by decide : 20 + 0 ≤ _)⟩)
        dsimp only [Pt.U, Pt.locs, Pt.cells, Pt.slots] at X123 l123 y123 z123 st123 hQ123
        subst l123 y123 z123
        obtain ⟨r5, rfl, N123q, e123, R5⟩ := hQ123
        have N123 := Fr.app N120 N123q
        have pre124 : ∀ t, Steps p.tables e below (T123.setTop (mkF m 170 #[.val (.int p1), .val (.int p2), .val (.int p3), .val (.int p4), .val (.int p5), .val (.int (4 : Int32)), .val (.int c0), .val (.int c1), .val (.int c2), .val (.int c3), .val (.ref b100), .val (.ref b110), .val (.int (0 : Int32))] [(.int r5)])) t → Steps p.tables e below _ t := fun t kt => pre122 t (by
          show Steps p.tables e below (T120.setTop (mkF m 167 #[.val (.int p1), .val (.int p2), .val (.int p3), .val (.int p4), .val (.int p5), .val (.int (4 : Int32)), .val (.int c0), .val (.int c1), .val (.int c2), .val (.int c3), .val (.ref b100), .val (.ref b110), .val (.int (0 : Int32))] [(.ref b110)])) _
          refine st123 _ ?_
          exact kt)
        rcases R5 with ⟨rfl, hpos, hall⟩ | ⟨rfl, hex⟩
        · have hcon : own_tchar c1 = 1 := hall 1 (by decide)
          rw [hc127] at hcon
          exact absurd hcon (by decide)
        · obtain ⟨fs, hr, hrun, hended, hW0, hsame⟩ := X123.leave (v := some (.int (1 : Int32))) (fun h => by rw [Bd.returns] at h; cases h)
          have hW := hW0.wide
          have hI := hW0.no_new_pair
          refine ⟨_, _, pre124 _ ?_, hrun, hended, _, _, rfl, ?_, ⟨_, rfl⟩, hW, hI _, hsame.mono (by decide) (by decide)⟩
          · show Steps p.tables e below (T123.setTop (mkF m 170 #[.val (.int p1), .val (.int p2), .val (.int p3), .val (.int p4), .val (.int p5), .val (.int (4 : Int32)), .val (.int c0), .val (.int c1), .val (.int c2), .val (.int c3), .val (.ref b100), .val (.ref b110), .val (.int (0 : Int32))] [(.int (0 : Int32))])) _
            refine XS.iload X123.here hx rfl (hb hby at_170) rfl ?_
            have hc172 : (0 : Int32) = (0 : Int32) := rfl
            refine XS.icmpNo X123.here hx rfl (hb hby at_172) rfl (teq hc172).2 ?_
            refine XS.iconst X123.here hx rfl (hb hby at_175) ?_
            show Steps p.tables e below (T123.setTop (mkF m 176 #[.val (.int p1), .val (.int p2), .val (.int p3), .val (.int p4), .val (.int p5), .val (.int (4 : Int32)), .val (.int c0), .val (.int c1), .val (.int c2), .val (.int c3), .val (.ref b100), .val (.ref b110), .val (.int (0 : Int32))] [(.int (1 : Int32))])) _
            refine XS.goto X123.here hx rfl (pc0 := 176) (pc' := 180) rfl (hb hby at_176) (by decide) (by decide) ?_
            show Steps p.tables e below (T123.setTop (mkF m 180 #[.val (.int p1), .val (.int p2), .val (.int p3), .val (.int p4), .val (.int p5), .val (.int (4 : Int32)), .val (.int c0), .val (.int c1), .val (.int c2), .val (.int c3), .val (.ref b100), .val (.ref b110), .val (.int (0 : Int32))] [(.int (1 : Int32))])) _
            exact retN X123 hx (t := .boolean) Bd.returns (by simp) (hb hby at_180) hr
          · exact ⟨rfl, N123⟩
      · have pre125 : ∀ t, Steps p.tables e below (T120.setTop (mkF m 138 #[.val (.int p1), .val (.int p2), .val (.int p3), .val (.int p4), .val (.int p5), .val (.int (4 : Int32)), .val (.int c0), .val (.int c1), .val (.int c2), .val (.int c3), .val (.ref b100), .val (.ref b110), .unset] [(.int c2)])) t → Steps p.tables e below _ t := fun t kt => pre121 t (by
          show Steps p.tables e below (T120.setTop (mkF m 127 #[.val (.int p1), .val (.int p2), .val (.int p3), .val (.int p4), .val (.int p5), .val (.int (4 : Int32)), .val (.int c0), .val (.int c1), .val (.int c2), .val (.int c3), .val (.ref b100), .val (.ref b110), .unset] [(.int (own_tchar c1))])) _
          refine XS.ifNo X120.here hx rfl (hb hby at_127) rfl ((if0 _ _).trans (feq hc127).1) ?_
          refine XS.iload X120.here hx rfl (hb hby at_130) rfl ?_
          refine XS.iconst X120.here hx rfl (hb hby at_132) ?_
          have hc133 : ¬ ((4 : Int32) < (3 : Int32)) := by decide
          show Steps p.tables e below (T120.setTop (mkF m 133 #[.val (.int p1), .val (.int p2), .val (.int p3), .val (.int p4), .val (.int p5), .val (.int (4 : Int32)), .val (.int c0), .val (.int c1), .val (.int c2), .val (.int c3), .val (.ref b100), .val (.ref b110), .unset] [(.int (3 : Int32)), (.int (4 : Int32))])) _
          refine XS.icmpNo X120.here hx rfl (hb hby at_133) rfl (flt hc133).1 ?_
          refine XS.iload X120.here hx rfl (hb hby at_136) rfl ?_
          exact kt)
        obtain ⟨_, _, ⟨T126, L126, k126, n126⟩, -, X126, ⟨Lc126, hQ126, l126, y126, z126⟩, st126⟩ := Jvm.LawKit.callS X120 hx (y := (⟨"com/example/firm_warden/firmwarden/HeaderFieldsIsTokenPinLaw", "tchar", "(C)Z"⟩ : MethodName)) hown (mvT hZ (hw _ (List.mem_of_getElem? (i := 56) rfl))) (mvT hZ (hw _ (List.mem_of_getElem? (i := 57) rfl))) (mvT hZ (hw _ (List.mem_of_getElem? (i := 2) rfl))) (mvT hZ (hw _ (List.mem_of_getElem? (i := 58) rfl))) (by decide) (backOf (W := 0) (rm12 l Z a0 hw [] c2 T112.heap n0 Ze) hZ (hw _ (List.mem_of_getElem? (i := 58) rfl)) (hw _ (List.mem_of_getElem? (i := 2) rfl)) (by decide) (by decide)) (g := (mkF m 138 #[.val (.int p1), .val (.int p2), .val (.int p3), .val (.int p4), .val (.int p5), .val (.int (4 : Int32)), .val (.int c0), .val (.int c1), .val (.int c2), .val (.int c3), .val (.ref b100), .val (.ref b110), .unset] [(.int c2)])) rfl (by rw [hml]; rfl) (argsL := [(.int c2)]) (rest := []) (lenOf pd_18 rfl) rfl (by show 2 * 0 + _ ≤ _; exact Nat.le_of_eq rfl) (hb hby at_138) (fun _ _ => ⟨rfl, e120, (by decide : 4 + 0 ≤ _), (by decide : 20 + 0 ≤ _)⟩)
        dsimp only [Pt.U, Pt.locs, Pt.cells, Pt.slots] at X126 l126 y126 z126 st126 hQ126
        subst l126 y126 z126
        obtain ⟨rfl, N126q, e126⟩ := hQ126
        have N126 := Fr.app N120 N126q
        have pre127 : ∀ t, Steps p.tables e below (T126.setTop (mkF m 141 #[.val (.int p1), .val (.int p2), .val (.int p3), .val (.int p4), .val (.int p5), .val (.int (4 : Int32)), .val (.int c0), .val (.int c1), .val (.int c2), .val (.int c3), .val (.ref b100), .val (.ref b110), .unset] [(.int (own_tchar c2))])) t → Steps p.tables e below _ t := fun t kt => pre125 t (by
          show Steps p.tables e below (T120.setTop (mkF m 138 #[.val (.int p1), .val (.int p2), .val (.int p3), .val (.int p4), .val (.int p5), .val (.int (4 : Int32)), .val (.int c0), .val (.int c1), .val (.int c2), .val (.int c3), .val (.ref b100), .val (.ref b110), .unset] [(.int c2)])) _
          refine st126 _ ?_
          exact kt)
        by_cases hc141 : (own_tchar c2) = (0 : Int32)
        · have pre128 : ∀ t, Steps p.tables e below (T126.setTop (mkF m 167 #[.val (.int p1), .val (.int p2), .val (.int p3), .val (.int p4), .val (.int p5), .val (.int (4 : Int32)), .val (.int c0), .val (.int c1), .val (.int c2), .val (.int c3), .val (.ref b100), .val (.ref b110), .val (.int (0 : Int32))] [(.ref b110)])) t → Steps p.tables e below _ t := fun t kt => pre127 t (by
            show Steps p.tables e below (T126.setTop (mkF m 141 #[.val (.int p1), .val (.int p2), .val (.int p3), .val (.int p4), .val (.int p5), .val (.int (4 : Int32)), .val (.int c0), .val (.int c1), .val (.int c2), .val (.int c3), .val (.ref b100), .val (.ref b110), .unset] [(.int (own_tchar c2))])) _
            refine XS.ifYes X126.here hx rfl (pc0 := 141) (pc' := 162) rfl (hb hby at_141) rfl ((if0 _ _).trans (teq hc141).1) (by decide) (by decide) ?_
            refine XS.iconst X126.here hx rfl (hb hby at_162) ?_
            refine XS.istore X126.here hx rfl (hb hby at_163) rfl (l' := #[.val (.int p1), .val (.int p2), .val (.int p3), .val (.int p4), .val (.int p5), .val (.int (4 : Int32)), .val (.int c0), .val (.int c1), .val (.int c2), .val (.int c3), .val (.ref b100), .val (.ref b110), .val (.int (0 : Int32))]) rfl ?_
            show Steps p.tables e below (T126.setTop (mkF m 165 #[.val (.int p1), .val (.int p2), .val (.int p3), .val (.int p4), .val (.int p5), .val (.int (4 : Int32)), .val (.int c0), .val (.int c1), .val (.int c2), .val (.int c3), .val (.ref b100), .val (.ref b110), .val (.int (0 : Int32))] [])) _
            refine XS.aload X126.here hx rfl (hb hby at_165) rfl rfl ?_
            exact kt)
          obtain ⟨_, _, ⟨T129, L129, k129, n129⟩, -, X129, ⟨Lc129, hQ129, l129, y129, z129⟩, st129⟩ := Jvm.LawKit.callS X126 hx (y := (⟨"com/example/firm_warden/firmwarden/HeaderFields", "isToken", "(Ljava/lang/String;)Z"⟩ : MethodName)) hown (mvT hZ (hw _ (List.mem_of_getElem? (i := 26) rfl))) (mvT hZ (hw _ (List.mem_of_getElem? (i := 27) rfl))) (mvT hZ (hw _ (List.mem_of_getElem? (i := 28) rfl))) (mvT hZ (hw _ (List.mem_of_getElem? (i := 29) rfl))) (by decide) (backOf (W := 0) (rm5F l Z a0 hw [] b110 ta 4 (upd (upd (upd (upd (fun _ => 0) 0 c0) 1 c1) 2 c2) 3 c3) G1 G3 T112.heap n0 Ze (by decide) rG3 (own_Sta_keep O4 Ke) (own_Sta_keep O2 Ke) P5 (own_Sta_keep AD Ke) (own_Sta_keep HB Ke) (own_Sta_keep LB Ke) Sq (by decide) hff (own_Sta_keep TS Ke) (own_A_keep TA Ke nin0)) hZ (hw _ (List.mem_of_getElem? (i := 29) rfl)) (hw _ (List.mem_of_getElem? (i := 28) rfl)) (by decide) (by decide)) (g := (mkF m 167 #[.val (.int p1), .val (.int p2), .val (.int p3), .val (.int p4), .val (.int p5), .val (.int (4 : Int32)), .val (.int c0), .val (.int c1), .val (.int c2), .val (.int c3), .val (.ref b100), .val (.ref b110), .val (.int (0 : Int32))] [(.ref b110)])) rfl (by rw [hml]; rfl) (argsL := [(.ref b110)]) (rest := []) (lenOf pd_17 rfl) rfl (by show 2 * 0 + _ ≤ _; exact Nat.le_of_eq rfl) (hb hby at_167) (fun _ _ => ⟨rfl, e126, (by decide : 4 + 0 ≤ _), (by decide : 20 + 0 ≤ _)⟩)
          dsimp only [Pt.U, Pt.locs, Pt.cells, Pt.slots] at X129 l129 y129 z129 st129 hQ129
          subst l129 y129 z129
          obtain ⟨r5, rfl, N129q, e129, R5⟩ := hQ129
          have N129 := Fr.app N126 N129q
          have pre130 : ∀ t, Steps p.tables e below (T129.setTop (mkF m 170 #[.val (.int p1), .val (.int p2), .val (.int p3), .val (.int p4), .val (.int p5), .val (.int (4 : Int32)), .val (.int c0), .val (.int c1), .val (.int c2), .val (.int c3), .val (.ref b100), .val (.ref b110), .val (.int (0 : Int32))] [(.int r5)])) t → Steps p.tables e below _ t := fun t kt => pre128 t (by
            show Steps p.tables e below (T126.setTop (mkF m 167 #[.val (.int p1), .val (.int p2), .val (.int p3), .val (.int p4), .val (.int p5), .val (.int (4 : Int32)), .val (.int c0), .val (.int c1), .val (.int c2), .val (.int c3), .val (.ref b100), .val (.ref b110), .val (.int (0 : Int32))] [(.ref b110)])) _
            refine st129 _ ?_
            exact kt)
          rcases R5 with ⟨rfl, hpos, hall⟩ | ⟨rfl, hex⟩
          · have hcon : own_tchar c2 = 1 := hall 2 (by decide)
            rw [hc141] at hcon
            exact absurd hcon (by decide)
          · obtain ⟨fs, hr, hrun, hended, hW0, hsame⟩ := X129.leave (v := some (.int (1 : Int32))) (fun h => by rw [Bd.returns] at h; cases h)
            have hW := hW0.wide
            have hI := hW0.no_new_pair
            refine ⟨_, _, pre130 _ ?_, hrun, hended, _, _, rfl, ?_, ⟨_, rfl⟩, hW, hI _, hsame.mono (by decide) (by decide)⟩
            · show Steps p.tables e below (T129.setTop (mkF m 170 #[.val (.int p1), .val (.int p2), .val (.int p3), .val (.int p4), .val (.int p5), .val (.int (4 : Int32)), .val (.int c0), .val (.int c1), .val (.int c2), .val (.int c3), .val (.ref b100), .val (.ref b110), .val (.int (0 : Int32))] [(.int (0 : Int32))])) _
              refine XS.iload X129.here hx rfl (hb hby at_170) rfl ?_
              have hc172 : (0 : Int32) = (0 : Int32) := rfl
              refine XS.icmpNo X129.here hx rfl (hb hby at_172) rfl (teq hc172).2 ?_
              refine XS.iconst X129.here hx rfl (hb hby at_175) ?_
              show Steps p.tables e below (T129.setTop (mkF m 176 #[.val (.int p1), .val (.int p2), .val (.int p3), .val (.int p4), .val (.int p5), .val (.int (4 : Int32)), .val (.int c0), .val (.int c1), .val (.int c2), .val (.int c3), .val (.ref b100), .val (.ref b110), .val (.int (0 : Int32))] [(.int (1 : Int32))])) _
              refine XS.goto X129.here hx rfl (pc0 := 176) (pc' := 180) rfl (hb hby at_176) (by decide) (by decide) ?_
              show Steps p.tables e below (T129.setTop (mkF m 180 #[.val (.int p1), .val (.int p2), .val (.int p3), .val (.int p4), .val (.int p5), .val (.int (4 : Int32)), .val (.int c0), .val (.int c1), .val (.int c2), .val (.int c3), .val (.ref b100), .val (.ref b110), .val (.int (0 : Int32))] [(.int (1 : Int32))])) _
              exact retN X129 hx (t := .boolean) Bd.returns (by simp) (hb hby at_180) hr
            · exact ⟨rfl, N129⟩
        · have pre131 : ∀ t, Steps p.tables e below (T126.setTop (mkF m 152 #[.val (.int p1), .val (.int p2), .val (.int p3), .val (.int p4), .val (.int p5), .val (.int (4 : Int32)), .val (.int c0), .val (.int c1), .val (.int c2), .val (.int c3), .val (.ref b100), .val (.ref b110), .unset] [(.int c3)])) t → Steps p.tables e below _ t := fun t kt => pre127 t (by
            show Steps p.tables e below (T126.setTop (mkF m 141 #[.val (.int p1), .val (.int p2), .val (.int p3), .val (.int p4), .val (.int p5), .val (.int (4 : Int32)), .val (.int c0), .val (.int c1), .val (.int c2), .val (.int c3), .val (.ref b100), .val (.ref b110), .unset] [(.int (own_tchar c2))])) _
            refine XS.ifNo X126.here hx rfl (hb hby at_141) rfl ((if0 _ _).trans (feq hc141).1) ?_
            refine XS.iload X126.here hx rfl (hb hby at_144) rfl ?_
            refine XS.iconst X126.here hx rfl (hb hby at_146) ?_
            have hc147 : ¬ ((4 : Int32) < (4 : Int32)) := by decide
            show Steps p.tables e below (T126.setTop (mkF m 147 #[.val (.int p1), .val (.int p2), .val (.int p3), .val (.int p4), .val (.int p5), .val (.int (4 : Int32)), .val (.int c0), .val (.int c1), .val (.int c2), .val (.int c3), .val (.ref b100), .val (.ref b110), .unset] [(.int (4 : Int32)), (.int (4 : Int32))])) _
            refine XS.icmpNo X126.here hx rfl (hb hby at_147) rfl (flt hc147).1 ?_
            refine XS.iload X126.here hx rfl (hb hby at_150) rfl ?_
            exact kt)
          obtain ⟨_, _, ⟨T132, L132, k132, n132⟩, -, X132, ⟨Lc132, hQ132, l132, y132, z132⟩, st132⟩ := Jvm.LawKit.callS X126 hx (y := (⟨"com/example/firm_warden/firmwarden/HeaderFieldsIsTokenPinLaw", "tchar", "(C)Z"⟩ : MethodName)) hown (mvT hZ (hw _ (List.mem_of_getElem? (i := 56) rfl))) (mvT hZ (hw _ (List.mem_of_getElem? (i := 57) rfl))) (mvT hZ (hw _ (List.mem_of_getElem? (i := 2) rfl))) (mvT hZ (hw _ (List.mem_of_getElem? (i := 58) rfl))) (by decide) (backOf (W := 0) (rm12 l Z a0 hw [] c3 T112.heap n0 Ze) hZ (hw _ (List.mem_of_getElem? (i := 58) rfl)) (hw _ (List.mem_of_getElem? (i := 2) rfl)) (by decide) (by decide)) (g := (mkF m 152 #[.val (.int p1), .val (.int p2), .val (.int p3), .val (.int p4), .val (.int p5), .val (.int (4 : Int32)), .val (.int c0), .val (.int c1), .val (.int c2), .val (.int c3), .val (.ref b100), .val (.ref b110), .unset] [(.int c3)])) rfl (by rw [hml]; rfl) (argsL := [(.int c3)]) (rest := []) (lenOf pd_18 rfl) rfl (by show 2 * 0 + _ ≤ _; exact Nat.le_of_eq rfl) (hb hby at_152) (fun _ _ => ⟨rfl, e126, (by decide : 4 + 0 ≤ _), (by decide : 20 + 0 ≤ _)⟩)
          dsimp only [Pt.U, Pt.locs, Pt.cells, Pt.slots] at X132 l132 y132 z132 st132 hQ132
          subst l132 y132 z132
          obtain ⟨rfl, N132q, e132⟩ := hQ132
          have N132 := Fr.app N126 N132q
          have pre133 : ∀ t, Steps p.tables e below (T132.setTop (mkF m 155 #[.val (.int p1), .val (.int p2), .val (.int p3), .val (.int p4), .val (.int p5), .val (.int (4 : Int32)), .val (.int c0), .val (.int c1), .val (.int c2), .val (.int c3), .val (.ref b100), .val (.ref b110), .unset] [(.int (own_tchar c3))])) t → Steps p.tables e below _ t := fun t kt => pre131 t (by
            show Steps p.tables e below (T126.setTop (mkF m 152 #[.val (.int p1), .val (.int p2), .val (.int p3), .val (.int p4), .val (.int p5), .val (.int (4 : Int32)), .val (.int c0), .val (.int c1), .val (.int c2), .val (.int c3), .val (.ref b100), .val (.ref b110), .unset] [(.int c3)])) _
            refine st132 _ ?_
            exact kt)
          by_cases hc155 : (own_tchar c3) = (0 : Int32)
          · have pre134 : ∀ t, Steps p.tables e below (T132.setTop (mkF m 167 #[.val (.int p1), .val (.int p2), .val (.int p3), .val (.int p4), .val (.int p5), .val (.int (4 : Int32)), .val (.int c0), .val (.int c1), .val (.int c2), .val (.int c3), .val (.ref b100), .val (.ref b110), .val (.int (0 : Int32))] [(.ref b110)])) t → Steps p.tables e below _ t := fun t kt => pre133 t (by
              show Steps p.tables e below (T132.setTop (mkF m 155 #[.val (.int p1), .val (.int p2), .val (.int p3), .val (.int p4), .val (.int p5), .val (.int (4 : Int32)), .val (.int c0), .val (.int c1), .val (.int c2), .val (.int c3), .val (.ref b100), .val (.ref b110), .unset] [(.int (own_tchar c3))])) _
              refine XS.ifYes X132.here hx rfl (pc0 := 155) (pc' := 162) rfl (hb hby at_155) rfl ((if0 _ _).trans (teq hc155).1) (by decide) (by decide) ?_
              refine XS.iconst X132.here hx rfl (hb hby at_162) ?_
              refine XS.istore X132.here hx rfl (hb hby at_163) rfl (l' := #[.val (.int p1), .val (.int p2), .val (.int p3), .val (.int p4), .val (.int p5), .val (.int (4 : Int32)), .val (.int c0), .val (.int c1), .val (.int c2), .val (.int c3), .val (.ref b100), .val (.ref b110), .val (.int (0 : Int32))]) rfl ?_
              show Steps p.tables e below (T132.setTop (mkF m 165 #[.val (.int p1), .val (.int p2), .val (.int p3), .val (.int p4), .val (.int p5), .val (.int (4 : Int32)), .val (.int c0), .val (.int c1), .val (.int c2), .val (.int c3), .val (.ref b100), .val (.ref b110), .val (.int (0 : Int32))] [])) _
              refine XS.aload X132.here hx rfl (hb hby at_165) rfl rfl ?_
              exact kt)
            obtain ⟨_, _, ⟨T135, L135, k135, n135⟩, -, X135, ⟨Lc135, hQ135, l135, y135, z135⟩, st135⟩ := Jvm.LawKit.callS X132 hx (y := (⟨"com/example/firm_warden/firmwarden/HeaderFields", "isToken", "(Ljava/lang/String;)Z"⟩ : MethodName)) hown (mvT hZ (hw _ (List.mem_of_getElem? (i := 26) rfl))) (mvT hZ (hw _ (List.mem_of_getElem? (i := 27) rfl))) (mvT hZ (hw _ (List.mem_of_getElem? (i := 28) rfl))) (mvT hZ (hw _ (List.mem_of_getElem? (i := 29) rfl))) (by decide) (backOf (W := 0) (rm5F l Z a0 hw [] b110 ta 4 (upd (upd (upd (upd (fun _ => 0) 0 c0) 1 c1) 2 c2) 3 c3) G1 G3 T112.heap n0 Ze (by decide) rG3 (own_Sta_keep O4 Ke) (own_Sta_keep O2 Ke) P5 (own_Sta_keep AD Ke) (own_Sta_keep HB Ke) (own_Sta_keep LB Ke) Sq (by decide) hff (own_Sta_keep TS Ke) (own_A_keep TA Ke nin0)) hZ (hw _ (List.mem_of_getElem? (i := 29) rfl)) (hw _ (List.mem_of_getElem? (i := 28) rfl)) (by decide) (by decide)) (g := (mkF m 167 #[.val (.int p1), .val (.int p2), .val (.int p3), .val (.int p4), .val (.int p5), .val (.int (4 : Int32)), .val (.int c0), .val (.int c1), .val (.int c2), .val (.int c3), .val (.ref b100), .val (.ref b110), .val (.int (0 : Int32))] [(.ref b110)])) rfl (by rw [hml]; rfl) (argsL := [(.ref b110)]) (rest := []) (lenOf pd_17 rfl) rfl (by show 2 * 0 + _ ≤ _; exact Nat.le_of_eq rfl) (hb hby at_167) (fun _ _ => ⟨rfl, e132, (by decide : 4 + 0 ≤ _), (by decide : 20 + 0 ≤ _)⟩)
            dsimp only [Pt.U, Pt.locs, Pt.cells, Pt.slots] at X135 l135 y135 z135 st135 hQ135
            subst l135 y135 z135
            obtain ⟨r5, rfl, N135q, e135, R5⟩ := hQ135
            have N135 := Fr.app N132 N135q
            have pre136 : ∀ t, Steps p.tables e below (T135.setTop (mkF m 170 #[.val (.int p1), .val (.int p2), .val (.int p3), .val (.int p4), .val (.int p5), .val (.int (4 : Int32)), .val (.int c0), .val (.int c1), .val (.int c2), .val (.int c3), .val (.ref b100), .val (.ref b110), .val (.int (0 : Int32))] [(.int r5)])) t → Steps p.tables e below _ t := fun t kt => pre134 t (by
              show Steps p.tables e below (T132.setTop (mkF m 167 #[.val (.int p1), .val (.int p2), .val (.int p3), .val (.int p4), .val (.int p5), .val (.int (4 : Int32)), .val (.int c0), .val (.int c1), .val (.int c2), .val (.int c3), .val (.ref b100), .val (.ref b110), .val (.int (0 : Int32))] [(.ref b110)])) _
              refine st135 _ ?_
              exact kt)
            rcases R5 with ⟨rfl, hpos, hall⟩ | ⟨rfl, hex⟩
            · have hcon : own_tchar c3 = 1 := hall 3 (by decide)
              rw [hc155] at hcon
              exact absurd hcon (by decide)
            · obtain ⟨fs, hr, hrun, hended, hW0, hsame⟩ := X135.leave (v := some (.int (1 : Int32))) (fun h => by rw [Bd.returns] at h; cases h)
              have hW := hW0.wide
              have hI := hW0.no_new_pair
              refine ⟨_, _, pre136 _ ?_, hrun, hended, _, _, rfl, ?_, ⟨_, rfl⟩, hW, hI _, hsame.mono (by decide) (by decide)⟩
              · show Steps p.tables e below (T135.setTop (mkF m 170 #[.val (.int p1), .val (.int p2), .val (.int p3), .val (.int p4), .val (.int p5), .val (.int (4 : Int32)), .val (.int c0), .val (.int c1), .val (.int c2), .val (.int c3), .val (.ref b100), .val (.ref b110), .val (.int (0 : Int32))] [(.int (0 : Int32))])) _
                refine XS.iload X135.here hx rfl (hb hby at_170) rfl ?_
                have hc172 : (0 : Int32) = (0 : Int32) := rfl
                refine XS.icmpNo X135.here hx rfl (hb hby at_172) rfl (teq hc172).2 ?_
                refine XS.iconst X135.here hx rfl (hb hby at_175) ?_
                show Steps p.tables e below (T135.setTop (mkF m 176 #[.val (.int p1), .val (.int p2), .val (.int p3), .val (.int p4), .val (.int p5), .val (.int (4 : Int32)), .val (.int c0), .val (.int c1), .val (.int c2), .val (.int c3), .val (.ref b100), .val (.ref b110), .val (.int (0 : Int32))] [(.int (1 : Int32))])) _
                refine XS.goto X135.here hx rfl (pc0 := 176) (pc' := 180) rfl (hb hby at_176) (by decide) (by decide) ?_
                show Steps p.tables e below (T135.setTop (mkF m 180 #[.val (.int p1), .val (.int p2), .val (.int p3), .val (.int p4), .val (.int p5), .val (.int (4 : Int32)), .val (.int c0), .val (.int c1), .val (.int c2), .val (.int c3), .val (.ref b100), .val (.ref b110), .val (.int (0 : Int32))] [(.int (1 : Int32))])) _
                exact retN X135 hx (t := .boolean) Bd.returns (by simp) (hb hby at_180) hr
              · exact ⟨rfl, N135⟩
          · have pre137 : ∀ t, Steps p.tables e below (T132.setTop (mkF m 167 #[.val (.int p1), .val (.int p2), .val (.int p3), .val (.int p4), .val (.int p5), .val (.int (4 : Int32)), .val (.int c0), .val (.int c1), .val (.int c2), .val (.int c3), .val (.ref b100), .val (.ref b110), .val (.int (1 : Int32))] [(.ref b110)])) t → Steps p.tables e below _ t := fun t kt => pre133 t (by
              show Steps p.tables e below (T132.setTop (mkF m 155 #[.val (.int p1), .val (.int p2), .val (.int p3), .val (.int p4), .val (.int p5), .val (.int (4 : Int32)), .val (.int c0), .val (.int c1), .val (.int c2), .val (.int c3), .val (.ref b100), .val (.ref b110), .unset] [(.int (own_tchar c3))])) _
              refine XS.ifNo X132.here hx rfl (hb hby at_155) rfl ((if0 _ _).trans (feq hc155).1) ?_
              refine XS.iconst X132.here hx rfl (hb hby at_158) ?_
              refine XS.goto X132.here hx rfl (pc0 := 159) (pc' := 163) rfl (hb hby at_159) (by decide) (by decide) ?_
              show Steps p.tables e below (T132.setTop (mkF m 163 #[.val (.int p1), .val (.int p2), .val (.int p3), .val (.int p4), .val (.int p5), .val (.int (4 : Int32)), .val (.int c0), .val (.int c1), .val (.int c2), .val (.int c3), .val (.ref b100), .val (.ref b110), .unset] [(.int (1 : Int32))])) _
              refine XS.istore X132.here hx rfl (hb hby at_163) rfl (l' := #[.val (.int p1), .val (.int p2), .val (.int p3), .val (.int p4), .val (.int p5), .val (.int (4 : Int32)), .val (.int c0), .val (.int c1), .val (.int c2), .val (.int c3), .val (.ref b100), .val (.ref b110), .val (.int (1 : Int32))]) rfl ?_
              refine XS.aload X132.here hx rfl (hb hby at_165) rfl rfl ?_
              exact kt)
            obtain ⟨_, _, ⟨T138, L138, k138, n138⟩, -, X138, ⟨Lc138, hQ138, l138, y138, z138⟩, st138⟩ := Jvm.LawKit.callS X132 hx (y := (⟨"com/example/firm_warden/firmwarden/HeaderFields", "isToken", "(Ljava/lang/String;)Z"⟩ : MethodName)) hown (mvT hZ (hw _ (List.mem_of_getElem? (i := 26) rfl))) (mvT hZ (hw _ (List.mem_of_getElem? (i := 27) rfl))) (mvT hZ (hw _ (List.mem_of_getElem? (i := 28) rfl))) (mvT hZ (hw _ (List.mem_of_getElem? (i := 29) rfl))) (by decide) (backOf (W := 0) (rm5F l Z a0 hw [] b110 ta 4 (upd (upd (upd (upd (fun _ => 0) 0 c0) 1 c1) 2 c2) 3 c3) G1 G3 T112.heap n0 Ze (by decide) rG3 (own_Sta_keep O4 Ke) (own_Sta_keep O2 Ke) P5 (own_Sta_keep AD Ke) (own_Sta_keep HB Ke) (own_Sta_keep LB Ke) Sq (by decide) hff (own_Sta_keep TS Ke) (own_A_keep TA Ke nin0)) hZ (hw _ (List.mem_of_getElem? (i := 29) rfl)) (hw _ (List.mem_of_getElem? (i := 28) rfl)) (by decide) (by decide)) (g := (mkF m 167 #[.val (.int p1), .val (.int p2), .val (.int p3), .val (.int p4), .val (.int p5), .val (.int (4 : Int32)), .val (.int c0), .val (.int c1), .val (.int c2), .val (.int c3), .val (.ref b100), .val (.ref b110), .val (.int (1 : Int32))] [(.ref b110)])) rfl (by rw [hml]; rfl) (argsL := [(.ref b110)]) (rest := []) (lenOf pd_17 rfl) rfl (by show 2 * 0 + _ ≤ _; exact Nat.le_of_eq rfl) (hb hby at_167) (fun _ _ => ⟨rfl, e132, (by decide : 4 + 0 ≤ _), (by decide : 20 + 0 ≤ _)⟩)
            dsimp only [Pt.U, Pt.locs, Pt.cells, Pt.slots] at X138 l138 y138 z138 st138 hQ138
            subst l138 y138 z138
            obtain ⟨r5, rfl, N138q, e138, R5⟩ := hQ138
            have N138 := Fr.app N132 N138q
            have pre139 : ∀ t, Steps p.tables e below (T138.setTop (mkF m 170 #[.val (.int p1), .val (.int p2), .val (.int p3), .val (.int p4), .val (.int p5), .val (.int (4 : Int32)), .val (.int c0), .val (.int c1), .val (.int c2), .val (.int c3), .val (.ref b100), .val (.ref b110), .val (.int (1 : Int32))] [(.int r5)])) t → Steps p.tables e below _ t := fun t kt => pre137 t (by
              show Steps p.tables e below (T132.setTop (mkF m 167 #[.val (.int p1), .val (.int p2), .val (.int p3), .val (.int p4), .val (.int p5), .val (.int (4 : Int32)), .val (.int c0), .val (.int c1), .val (.int c2), .val (.int c3), .val (.ref b100), .val (.ref b110), .val (.int (1 : Int32))] [(.ref b110)])) _
              refine st138 _ ?_
              exact kt)
            rcases R5 with ⟨rfl, hpos, hall⟩ | ⟨rfl, hex⟩
            · obtain ⟨fs, hr, hrun, hended, hW0, hsame⟩ := X138.leave (v := some (.int (1 : Int32))) (fun h => by rw [Bd.returns] at h; cases h)
              have hW := hW0.wide
              have hI := hW0.no_new_pair
              refine ⟨_, _, pre139 _ ?_, hrun, hended, _, _, rfl, ?_, ⟨_, rfl⟩, hW, hI _, hsame.mono (by decide) (by decide)⟩
              · show Steps p.tables e below (T138.setTop (mkF m 170 #[.val (.int p1), .val (.int p2), .val (.int p3), .val (.int p4), .val (.int p5), .val (.int (4 : Int32)), .val (.int c0), .val (.int c1), .val (.int c2), .val (.int c3), .val (.ref b100), .val (.ref b110), .val (.int (1 : Int32))] [(.int (1 : Int32))])) _
                refine XS.iload X138.here hx rfl (hb hby at_170) rfl ?_
                have hc172 : (1 : Int32) = (1 : Int32) := rfl
                refine XS.icmpNo X138.here hx rfl (hb hby at_172) rfl (teq hc172).2 ?_
                refine XS.iconst X138.here hx rfl (hb hby at_175) ?_
                show Steps p.tables e below (T138.setTop (mkF m 176 #[.val (.int p1), .val (.int p2), .val (.int p3), .val (.int p4), .val (.int p5), .val (.int (4 : Int32)), .val (.int c0), .val (.int c1), .val (.int c2), .val (.int c3), .val (.ref b100), .val (.ref b110), .val (.int (1 : Int32))] [(.int (1 : Int32))])) _
                refine XS.goto X138.here hx rfl (pc0 := 176) (pc' := 180) rfl (hb hby at_176) (by decide) (by decide) ?_
                show Steps p.tables e below (T138.setTop (mkF m 180 #[.val (.int p1), .val (.int p2), .val (.int p3), .val (.int p4), .val (.int p5), .val (.int (4 : Int32)), .val (.int c0), .val (.int c1), .val (.int c2), .val (.int c3), .val (.ref b100), .val (.ref b110), .val (.int (1 : Int32))] [(.int (1 : Int32))])) _
                exact retN X138 hx (t := .boolean) Bd.returns (by simp) (hb hby at_180) hr
              · exact ⟨rfl, N138⟩
            · exfalso
              rcases hex with h | ⟨j, hj, hq⟩
              · exact absurd h (by decide)
              · have hj' : j = 0 ∨ j = 1 ∨ j = 2 ∨ j = 3 := by omega
                rcases hj' with rfl | rfl | rfl | rfl
                · exact hc113 hq
                · exact hc127 hq
                · exact hc141 hq
                · exact hc155 hq

theorem own_el {args : Array Value} {s : State} {t i : Term} {idx : List Nat} {J v : Int32} {a : Addr} {cell : Cell} (ev : t.eval args s none idx s = some (.ref a)) (hc : s.arrayAt? a = some cell) (hi : i.eval args s none idx s = some (.int J)) (h : (Cond.eq (Term.elem t i) (Term.int v)).value args s none s idx = some true) : cell.slots[J.toNatClampNeg]? = some (.int v) := by
  obtain ⟨x, h1, h2⟩ := Cond.eq_worth h
  have h3 : x = .int v := (Option.some.inj h2).symm
  subst h3
  obtain ⟨a', j, c', e1, e2, e3, -, e5⟩ := Term.elem_spec h1
  cases ev.symm.trans e1
  cases hi.symm.trans e2
  cases hc.symm.trans e3
  exact e5
theorem own_or {args : Array Value} {s : State} {c d : Cond} {idx : List Nat} (h : (Cond.or c d).value args s none s idx = some true) (hc : c.value args s none s idx = some false) : d.value args s none s idx = some true := by
  simpa [Cond.value, hc] using h
theorem own_leF {args : Array Value} {s : State} {K j : Nat} (h : j < K) (hK : K < 2 ^ 31) : (Cond.le (Term.int (Int32.ofNat K)) (Term.index 0)).value args s none s [j] = some false := by
  show some (decide (Int32.ofNat K ≤ Int32.ofNat j)) = _
  rw [decide_eq_false]
  exact fun q => (Int32.not_le.mpr (own_lt h hK)) q
theorem own_ltF {args : Array Value} {s : State} {K j : Nat} (h : K ≤ j) (hj : j < 2 ^ 31) : (Cond.lt (Term.index 0) (Term.int (Int32.ofNat K))).value args s none s [j] = some false := by
  show some (decide (Int32.ofNat j < Int32.ofNat K)) = _
  rw [decide_eq_false (own_nlt h hj)]
theorem own_eqint {args : Array Value} {s : State} {t : Term} {k : Int32} (h : (Cond.eq t (Term.int k)).before args s = true) : t.eval args s none [] s = some (.int k) := by
  obtain ⟨v, h1, h2⟩ := Cond.eq_worth (Cond.before_iff.mp h)
  have h3 : v = .int k := (Option.some.inj h2).symm
  rw [h1, h3]
theorem own_token {args : Array Value} {s : State} (hi : (Cond.initialized "com/example/firm_warden/firmwarden/HeaderFields").before args s = true) (hl : (Cond.laysStatic "com/example/firm_warden/firmwarden/HeaderFields" "TOKEN" "[Z").before args s = true) (n0 : (Jvm.Cond.arrayOf (Jvm.Term.static "com/example/firm_warden/firmwarden/HeaderFields" "TOKEN" "[Z") Jvm.ClassFile.FieldType.boolean).value args s none s [] = some true) (n1 : (Jvm.Cond.eq (Jvm.Term.length (Jvm.Term.static "com/example/firm_warden/firmwarden/HeaderFields" "TOKEN" "[Z")) (Jvm.Term.int (256 : Int32))).value args s none s [] = some true) (n2 : (Jvm.Cond.all (Jvm.Term.static "com/example/firm_warden/firmwarden/HeaderFields" "TOKEN" "[Z") (Jvm.Cond.or (Jvm.Cond.le (Jvm.Term.int (33 : Int32)) (Jvm.Term.index (0 : Nat))) (Jvm.Cond.eq (Jvm.Term.elem (Jvm.Term.static "com/example/firm_warden/firmwarden/HeaderFields" "TOKEN" "[Z") (Jvm.Term.index (0 : Nat))) (Jvm.Term.int (0 : Int32))))).value args s none s [] = some true) (n3 : (Jvm.Cond.eq (Jvm.Term.elem (Jvm.Term.static "com/example/firm_warden/firmwarden/HeaderFields" "TOKEN" "[Z") (Jvm.Term.int (33 : Int32))) (Jvm.Term.int (1 : Int32))).value args s none s [] = some true) (n4 : (Jvm.Cond.eq (Jvm.Term.elem (Jvm.Term.static "com/example/firm_warden/firmwarden/HeaderFields" "TOKEN" "[Z") (Jvm.Term.int (34 : Int32))) (Jvm.Term.int (0 : Int32))).value args s none s [] = some true) (n5 : (Jvm.Cond.all (Jvm.Term.static "com/example/firm_warden/firmwarden/HeaderFields" "TOKEN" "[Z") (Jvm.Cond.or (Jvm.Cond.lt (Jvm.Term.index (0 : Nat)) (Jvm.Term.int (35 : Int32))) (Jvm.Cond.or (Jvm.Cond.le (Jvm.Term.int (40 : Int32)) (Jvm.Term.index (0 : Nat))) (Jvm.Cond.eq (Jvm.Term.elem (Jvm.Term.static "com/example/firm_warden/firmwarden/HeaderFields" "TOKEN" "[Z") (Jvm.Term.index (0 : Nat))) (Jvm.Term.int (1 : Int32)))))).value args s none s [] = some true) (n6 : (Jvm.Cond.eq (Jvm.Term.elem (Jvm.Term.static "com/example/firm_warden/firmwarden/HeaderFields" "TOKEN" "[Z") (Jvm.Term.int (40 : Int32))) (Jvm.Term.int (0 : Int32))).value args s none s [] = some true) (n7 : (Jvm.Cond.eq (Jvm.Term.elem (Jvm.Term.static "com/example/firm_warden/firmwarden/HeaderFields" "TOKEN" "[Z") (Jvm.Term.int (41 : Int32))) (Jvm.Term.int (0 : Int32))).value args s none s [] = some true) (n8 : (Jvm.Cond.eq (Jvm.Term.elem (Jvm.Term.static "com/example/firm_warden/firmwarden/HeaderFields" "TOKEN" "[Z") (Jvm.Term.int (42 : Int32))) (Jvm.Term.int (1 : Int32))).value args s none s [] = some true) (n9 : (Jvm.Cond.eq (Jvm.Term.elem (Jvm.Term.static "com/example/firm_warden/firmwarden/HeaderFields" "TOKEN" "[Z") (Jvm.Term.int (43 : Int32))) (Jvm.Term.int (1 : Int32))).value args s none s [] = some true) (n10 : (Jvm.Cond.eq (Jvm.Term.elem (Jvm.Term.static "com/example/firm_warden/firmwarden/HeaderFields" "TOKEN" "[Z") (Jvm.Term.int (44 : Int32))) (Jvm.Term.int (0 : Int32))).value args s none s [] = some true) (n11 : (Jvm.Cond.eq (Jvm.Term.elem (Jvm.Term.static "com/example/firm_warden/firmwarden/HeaderFields" "TOKEN" "[Z") (Jvm.Term.int (45 : Int32))) (Jvm.Term.int (1 : Int32))).value args s none s [] = some true) (n12 : (Jvm.Cond.eq (Jvm.Term.elem (Jvm.Term.static "com/example/firm_warden/firmwarden/HeaderFields" "TOKEN" "[Z") (Jvm.Term.int (46 : Int32))) (Jvm.Term.int (1 : Int32))).value args s none s [] = some true) (n13 : (Jvm.Cond.eq (Jvm.Term.elem (Jvm.Term.static "com/example/firm_warden/firmwarden/HeaderFields" "TOKEN" "[Z") (Jvm.Term.int (47 : Int32))) (Jvm.Term.int (0 : Int32))).value args s none s [] = some true) (n14 : (Jvm.Cond.all (Jvm.Term.static "com/example/firm_warden/firmwarden/HeaderFields" "TOKEN" "[Z") (Jvm.Cond.or (Jvm.Cond.lt (Jvm.Term.index (0 : Nat)) (Jvm.Term.int (48 : Int32))) (Jvm.Cond.or (Jvm.Cond.le (Jvm.Term.int (58 : Int32)) (Jvm.Term.index (0 : Nat))) (Jvm.Cond.eq (Jvm.Term.elem (Jvm.Term.static "com/example/firm_warden/firmwarden/HeaderFields" "TOKEN" "[Z") (Jvm.Term.index (0 : Nat))) (Jvm.Term.int (1 : Int32)))))).value args s none s [] = some true) (n15 : (Jvm.Cond.all (Jvm.Term.static "com/example/firm_warden/firmwarden/HeaderFields" "TOKEN" "[Z") (Jvm.Cond.or (Jvm.Cond.lt (Jvm.Term.index (0 : Nat)) (Jvm.Term.int (58 : Int32))) (Jvm.Cond.or (Jvm.Cond.le (Jvm.Term.int (65 : Int32)) (Jvm.Term.index (0 : Nat))) (Jvm.Cond.eq (Jvm.Term.elem (Jvm.Term.static "com/example/firm_warden/firmwarden/HeaderFields" "TOKEN" "[Z") (Jvm.Term.index (0 : Nat))) (Jvm.Term.int (0 : Int32)))))).value args s none s [] = some true) (n16 : (Jvm.Cond.all (Jvm.Term.static "com/example/firm_warden/firmwarden/HeaderFields" "TOKEN" "[Z") (Jvm.Cond.or (Jvm.Cond.lt (Jvm.Term.index (0 : Nat)) (Jvm.Term.int (65 : Int32))) (Jvm.Cond.or (Jvm.Cond.le (Jvm.Term.int (91 : Int32)) (Jvm.Term.index (0 : Nat))) (Jvm.Cond.eq (Jvm.Term.elem (Jvm.Term.static "com/example/firm_warden/firmwarden/HeaderFields" "TOKEN" "[Z") (Jvm.Term.index (0 : Nat))) (Jvm.Term.int (1 : Int32)))))).value args s none s [] = some true) (n17 : (Jvm.Cond.eq (Jvm.Term.elem (Jvm.Term.static "com/example/firm_warden/firmwarden/HeaderFields" "TOKEN" "[Z") (Jvm.Term.int (91 : Int32))) (Jvm.Term.int (0 : Int32))).value args s none s [] = some true) (n18 : (Jvm.Cond.eq (Jvm.Term.elem (Jvm.Term.static "com/example/firm_warden/firmwarden/HeaderFields" "TOKEN" "[Z") (Jvm.Term.int (92 : Int32))) (Jvm.Term.int (0 : Int32))).value args s none s [] = some true) (n19 : (Jvm.Cond.eq (Jvm.Term.elem (Jvm.Term.static "com/example/firm_warden/firmwarden/HeaderFields" "TOKEN" "[Z") (Jvm.Term.int (93 : Int32))) (Jvm.Term.int (0 : Int32))).value args s none s [] = some true) (n20 : (Jvm.Cond.all (Jvm.Term.static "com/example/firm_warden/firmwarden/HeaderFields" "TOKEN" "[Z") (Jvm.Cond.or (Jvm.Cond.lt (Jvm.Term.index (0 : Nat)) (Jvm.Term.int (94 : Int32))) (Jvm.Cond.or (Jvm.Cond.le (Jvm.Term.int (123 : Int32)) (Jvm.Term.index (0 : Nat))) (Jvm.Cond.eq (Jvm.Term.elem (Jvm.Term.static "com/example/firm_warden/firmwarden/HeaderFields" "TOKEN" "[Z") (Jvm.Term.index (0 : Nat))) (Jvm.Term.int (1 : Int32)))))).value args s none s [] = some true) (n21 : (Jvm.Cond.eq (Jvm.Term.elem (Jvm.Term.static "com/example/firm_warden/firmwarden/HeaderFields" "TOKEN" "[Z") (Jvm.Term.int (123 : Int32))) (Jvm.Term.int (0 : Int32))).value args s none s [] = some true) (n22 : (Jvm.Cond.eq (Jvm.Term.elem (Jvm.Term.static "com/example/firm_warden/firmwarden/HeaderFields" "TOKEN" "[Z") (Jvm.Term.int (124 : Int32))) (Jvm.Term.int (1 : Int32))).value args s none s [] = some true) (n23 : (Jvm.Cond.eq (Jvm.Term.elem (Jvm.Term.static "com/example/firm_warden/firmwarden/HeaderFields" "TOKEN" "[Z") (Jvm.Term.int (125 : Int32))) (Jvm.Term.int (0 : Int32))).value args s none s [] = some true) (n24 : (Jvm.Cond.eq (Jvm.Term.elem (Jvm.Term.static "com/example/firm_warden/firmwarden/HeaderFields" "TOKEN" "[Z") (Jvm.Term.int (126 : Int32))) (Jvm.Term.int (1 : Int32))).value args s none s [] = some true) (n25 : (Jvm.Cond.all (Jvm.Term.static "com/example/firm_warden/firmwarden/HeaderFields" "TOKEN" "[Z") (Jvm.Cond.or (Jvm.Cond.lt (Jvm.Term.index (0 : Nat)) (Jvm.Term.int (127 : Int32))) (Jvm.Cond.eq (Jvm.Term.elem (Jvm.Term.static "com/example/firm_warden/firmwarden/HeaderFields" "TOKEN" "[Z") (Jvm.Term.index (0 : Nat))) (Jvm.Term.int (0 : Int32))))).value args s none s [] = some true) :
    ∃ ta, Sta s s.heap "com/example/firm_warden/firmwarden/HeaderFields" "TOKEN" "[Z" (.ref ta) ∧ own_A s s.heap ta .boolean 256 own_tkf := by
  cases hv : (Jvm.Term.length (Jvm.Term.static "com/example/firm_warden/firmwarden/HeaderFields" "TOKEN" "[Z")).eval args s none [] s with
  | none => simp only [Cond.value, hv] at n1; simp at n1
  | some v =>
    obtain ⟨a, cell, ev, hc, hsz, rfl⟩ := length_spec hv
    have hL : cell.slots.size = 256 := by
      simp only [Cond.value, hv, Term.int_eval] at n1
      have h2 : cell.slots.size.toInt32 = (256 : Int32) := by simpa using n1
      have h3 : cell.slots.size.toInt32.toInt = (256 : Int32).toInt := by rw [h2]
      have h4 : (256 : Int32).toInt = 256 := by decide
      rw [h4, show cell.slots.size.toInt32 = Int32.ofNat cell.slots.size from rfl, toInt_of rfl (by omega)] at h3
      omega
    obtain ⟨c', Ar⟩ := Arr.start ev n0
    have hc' : s.arrayAt? a = some c' := IntBox.arrayAt_of Ar.1 Ar.2.1 Ar.2.2
    cases hc.symm.trans hc'
    refine ⟨a, Sta.start ev (Or.inr ⟨hi, hl⟩), cell, Ar, hL, fun j hj => ?_⟩
    have evj : (Jvm.Term.static "com/example/firm_warden/firmwarden/HeaderFields" "TOKEN" "[Z").eval args s none [j] s = some (.ref a) := ev
    have e0 : (Term.index 0).eval args s none [j] s = some (.int (Int32.ofNat j)) := rfl
    have ecl : (Int32.ofNat j).toNatClampNeg = j := clamp_of rfl (by omega)
    have hr : (0 ≤ j ∧ j < 33) ∨ (33 ≤ j ∧ j < 34) ∨ (34 ≤ j ∧ j < 35) ∨ (35 ≤ j ∧ j < 40) ∨ (40 ≤ j ∧ j < 41) ∨ (41 ≤ j ∧ j < 42) ∨ (42 ≤ j ∧ j < 43) ∨ (43 ≤ j ∧ j < 44) ∨ (44 ≤ j ∧ j < 45) ∨ (45 ≤ j ∧ j < 46) ∨ (46 ≤ j ∧ j < 47) ∨ (47 ≤ j ∧ j < 48) ∨ (48 ≤ j ∧ j < 58) ∨ (58 ≤ j ∧ j < 65) ∨ (65 ≤ j ∧ j < 91) ∨ (91 ≤ j ∧ j < 92) ∨ (92 ≤ j ∧ j < 93) ∨ (93 ≤ j ∧ j < 94) ∨ (94 ≤ j ∧ j < 123) ∨ (123 ≤ j ∧ j < 124) ∨ (124 ≤ j ∧ j < 125) ∨ (125 ≤ j ∧ j < 126) ∨ (126 ≤ j ∧ j < 127) ∨ (127 ≤ j ∧ j < 256) := by omega
    rcases hr with ⟨hlo, hhi⟩ | ⟨hlo, hhi⟩ | ⟨hlo, hhi⟩ | ⟨hlo, hhi⟩ | ⟨hlo, hhi⟩ | ⟨hlo, hhi⟩ | ⟨hlo, hhi⟩ | ⟨hlo, hhi⟩ | ⟨hlo, hhi⟩ | ⟨hlo, hhi⟩ | ⟨hlo, hhi⟩ | ⟨hlo, hhi⟩ | ⟨hlo, hhi⟩ | ⟨hlo, hhi⟩ | ⟨hlo, hhi⟩ | ⟨hlo, hhi⟩ | ⟨hlo, hhi⟩ | ⟨hlo, hhi⟩ | ⟨hlo, hhi⟩ | ⟨hlo, hhi⟩ | ⟨hlo, hhi⟩ | ⟨hlo, hhi⟩ | ⟨hlo, hhi⟩ | ⟨hlo, hhi⟩
    · have etk : own_tkf j = (0 : Int32) := by unfold own_tkf; rw [if_pos (by omega)]
      rw [etk]
      have hh := own_el evj hc e0 (own_or (Cond.all_elim ev hc n2 j (by omega)) (own_leF (K := 33) hhi (by decide)))
      rw [ecl] at hh
      exact hh
    · have etk : own_tkf j = (1 : Int32) := by unfold own_tkf; rw [if_neg (by omega), if_pos (by omega)]
      rw [etk]
      have hj1 : j = 33 := by omega
      subst hj1
      exact own_el ev hc (J := (33 : Int32)) rfl n3
    · have etk : own_tkf j = (0 : Int32) := by unfold own_tkf; rw [if_neg (by omega), if_neg (by omega), if_pos (by omega)]
      rw [etk]
      have hj1 : j = 34 := by omega
      subst hj1
      exact own_el ev hc (J := (34 : Int32)) rfl n4
    · have etk : own_tkf j = (1 : Int32) := by unfold own_tkf; rw [if_neg (by omega), if_neg (by omega), if_neg (by omega), if_pos (by omega)]
      rw [etk]
      have hh := own_el evj hc e0 (own_or (own_or (Cond.all_elim ev hc n5 j (by omega)) (own_ltF (K := 35) hlo (by omega))) (own_leF (K := 40) hhi (by decide)))
      rw [ecl] at hh
      exact hh
    · have etk : own_tkf j = (0 : Int32) := by unfold own_tkf; rw [if_neg (by omega), if_neg (by omega), if_neg (by omega), if_neg (by omega), if_pos (by omega)]
      rw [etk]
      have hj1 : j = 40 := by omega
      subst hj1
      exact own_el ev hc (J := (40 : Int32)) rfl n6
    · have etk : own_tkf j = (0 : Int32) := by unfold own_tkf; rw [if_neg (by omega), if_neg (by omega), if_neg (by omega), if_neg (by omega), if_neg (by omega), if_pos (by omega)]
      rw [etk]
      have hj1 : j = 41 := by omega
      subst hj1
      exact own_el ev hc (J := (41 : Int32)) rfl n7
    · have etk : own_tkf j = (1 : Int32) := by unfold own_tkf; rw [if_neg (by omega), if_neg (by omega), if_neg (by omega), if_neg (by omega), if_neg (by omega), if_neg (by omega), if_pos (by omega)]
      rw [etk]
      have hj1 : j = 42 := by omega
      subst hj1
      exact own_el ev hc (J := (42 : Int32)) rfl n8
    · have etk : own_tkf j = (1 : Int32) := by unfold own_tkf; rw [if_neg (by omega), if_neg (by omega), if_neg (by omega), if_neg (by omega), if_neg (by omega), if_neg (by omega), if_neg (by omega), if_pos (by omega)]
      rw [etk]
      have hj1 : j = 43 := by omega
      subst hj1
      exact own_el ev hc (J := (43 : Int32)) rfl n9
    · have etk : own_tkf j = (0 : Int32) := by unfold own_tkf; rw [if_neg (by omega), if_neg (by omega), if_neg (by omega), if_neg (by omega), if_neg (by omega), if_neg (by omega), if_neg (by omega), if_neg (by omega), if_pos (by omega)]
      rw [etk]
      have hj1 : j = 44 := by omega
      subst hj1
      exact own_el ev hc (J := (44 : Int32)) rfl n10
    · have etk : own_tkf j = (1 : Int32) := by unfold own_tkf; rw [if_neg (by omega), if_neg (by omega), if_neg (by omega), if_neg (by omega), if_neg (by omega), if_neg (by omega), if_neg (by omega), if_neg (by omega), if_neg (by omega), if_pos (by omega)]
      rw [etk]
      have hj1 : j = 45 := by omega
      subst hj1
      exact own_el ev hc (J := (45 : Int32)) rfl n11
    · have etk : own_tkf j = (1 : Int32) := by unfold own_tkf; rw [if_neg (by omega), if_neg (by omega), if_neg (by omega), if_neg (by omega), if_neg (by omega), if_neg (by omega), if_neg (by omega), if_neg (by omega), if_neg (by omega), if_neg (by omega), if_pos (by omega)]
      rw [etk]
      have hj1 : j = 46 := by omega
      subst hj1
      exact own_el ev hc (J := (46 : Int32)) rfl n12
    · have etk : own_tkf j = (0 : Int32) := by unfold own_tkf; rw [if_neg (by omega), if_neg (by omega), if_neg (by omega), if_neg (by omega), if_neg (by omega), if_neg (by omega), if_neg (by omega), if_neg (by omega), if_neg (by omega), if_neg (by omega), if_neg (by omega), if_pos (by omega)]
      rw [etk]
      have hj1 : j = 47 := by omega
      subst hj1
      exact own_el ev hc (J := (47 : Int32)) rfl n13
    · have etk : own_tkf j = (1 : Int32) := by unfold own_tkf; rw [if_neg (by omega), if_neg (by omega), if_neg (by omega), if_neg (by omega), if_neg (by omega), if_neg (by omega), if_neg (by omega), if_neg (by omega), if_neg (by omega), if_neg (by omega), if_neg (by omega), if_neg (by omega), if_pos (by omega)]
      rw [etk]
      have hh := own_el evj hc e0 (own_or (own_or (Cond.all_elim ev hc n14 j (by omega)) (own_ltF (K := 48) hlo (by omega))) (own_leF (K := 58) hhi (by decide)))
      rw [ecl] at hh
      exact hh
    · have etk : own_tkf j = (0 : Int32) := by unfold own_tkf; rw [if_neg (by omega), if_neg (by omega), if_neg (by omega), if_neg (by omega), if_neg (by omega), if_neg (by omega), if_neg (by omega), if_neg (by omega), if_neg (by omega), if_neg (by omega), if_neg (by omega), if_neg (by omega), if_neg (by omega), if_pos (by omega)]
      rw [etk]
      have hh := own_el evj hc e0 (own_or (own_or (Cond.all_elim ev hc n15 j (by omega)) (own_ltF (K := 58) hlo (by omega))) (own_leF (K := 65) hhi (by decide)))
      rw [ecl] at hh
      exact hh
    · have etk : own_tkf j = (1 : Int32) := by unfold own_tkf; rw [if_neg (by omega), if_neg (by omega), if_neg (by omega), if_neg (by omega), if_neg (by omega), if_neg (by omega), if_neg (by omega), if_neg (by omega), if_neg (by omega), if_neg (by omega), if_neg (by omega), if_neg (by omega), if_neg (by omega), if_neg (by omega), if_pos (by omega)]
      rw [etk]
      have hh := own_el evj hc e0 (own_or (own_or (Cond.all_elim ev hc n16 j (by omega)) (own_ltF (K := 65) hlo (by omega))) (own_leF (K := 91) hhi (by decide)))
      rw [ecl] at hh
      exact hh
    · have etk : own_tkf j = (0 : Int32) := by unfold own_tkf; rw [if_neg (by omega), if_neg (by omega), if_neg (by omega), if_neg (by omega), if_neg (by omega), if_neg (by omega), if_neg (by omega), if_neg (by omega), if_neg (by omega), if_neg (by omega), if_neg (by omega), if_neg (by omega), if_neg (by omega), if_neg (by omega), if_neg (by omega), if_pos (by omega)]
      rw [etk]
      have hj1 : j = 91 := by omega
      subst hj1
      exact own_el ev hc (J := (91 : Int32)) rfl n17
    · have etk : own_tkf j = (0 : Int32) := by unfold own_tkf; rw [if_neg (by omega), if_neg (by omega), if_neg (by omega), if_neg (by omega), if_neg (by omega), if_neg (by omega), if_neg (by omega), if_neg (by omega), if_neg (by omega), if_neg (by omega), if_neg (by omega), if_neg (by omega), if_neg (by omega), if_neg (by omega), if_neg (by omega), if_neg (by omega), if_pos (by omega)]
      rw [etk]
      have hj1 : j = 92 := by omega
      subst hj1
      exact own_el ev hc (J := (92 : Int32)) rfl n18
    · have etk : own_tkf j = (0 : Int32) := by unfold own_tkf; rw [if_neg (by omega), if_neg (by omega), if_neg (by omega), if_neg (by omega), if_neg (by omega), if_neg (by omega), if_neg (by omega), if_neg (by omega), if_neg (by omega), if_neg (by omega), if_neg (by omega), if_neg (by omega), if_neg (by omega), if_neg (by omega), if_neg (by omega), if_neg (by omega), if_neg (by omega), if_pos (by omega)]
      rw [etk]
      have hj1 : j = 93 := by omega
      subst hj1
      exact own_el ev hc (J := (93 : Int32)) rfl n19
    · have etk : own_tkf j = (1 : Int32) := by unfold own_tkf; rw [if_neg (by omega), if_neg (by omega), if_neg (by omega), if_neg (by omega), if_neg (by omega), if_neg (by omega), if_neg (by omega), if_neg (by omega), if_neg (by omega), if_neg (by omega), if_neg (by omega), if_neg (by omega), if_neg (by omega), if_neg (by omega), if_neg (by omega), if_neg (by omega), if_neg (by omega), if_neg (by omega), if_pos (by omega)]
      rw [etk]
      have hh := own_el evj hc e0 (own_or (own_or (Cond.all_elim ev hc n20 j (by omega)) (own_ltF (K := 94) hlo (by omega))) (own_leF (K := 123) hhi (by decide)))
      rw [ecl] at hh
      exact hh
    · have etk : own_tkf j = (0 : Int32) := by unfold own_tkf; rw [if_neg (by omega), if_neg (by omega), if_neg (by omega), if_neg (by omega), if_neg (by omega), if_neg (by omega), if_neg (by omega), if_neg (by omega), if_neg (by omega), if_neg (by omega), if_neg (by omega), if_neg (by omega), if_neg (by omega), if_neg (by omega), if_neg (by omega), if_neg (by omega), if_neg (by omega), if_neg (by omega), if_neg (by omega), if_pos (by omega)]
      rw [etk]
      have hj1 : j = 123 := by omega
      subst hj1
      exact own_el ev hc (J := (123 : Int32)) rfl n21
    · have etk : own_tkf j = (1 : Int32) := by unfold own_tkf; rw [if_neg (by omega), if_neg (by omega), if_neg (by omega), if_neg (by omega), if_neg (by omega), if_neg (by omega), if_neg (by omega), if_neg (by omega), if_neg (by omega), if_neg (by omega), if_neg (by omega), if_neg (by omega), if_neg (by omega), if_neg (by omega), if_neg (by omega), if_neg (by omega), if_neg (by omega), if_neg (by omega), if_neg (by omega), if_neg (by omega), if_pos (by omega)]
      rw [etk]
      have hj1 : j = 124 := by omega
      subst hj1
      exact own_el ev hc (J := (124 : Int32)) rfl n22
    · have etk : own_tkf j = (0 : Int32) := by unfold own_tkf; rw [if_neg (by omega), if_neg (by omega), if_neg (by omega), if_neg (by omega), if_neg (by omega), if_neg (by omega), if_neg (by omega), if_neg (by omega), if_neg (by omega), if_neg (by omega), if_neg (by omega), if_neg (by omega), if_neg (by omega), if_neg (by omega), if_neg (by omega), if_neg (by omega), if_neg (by omega), if_neg (by omega), if_neg (by omega), if_neg (by omega), if_neg (by omega), if_pos (by omega)]
      rw [etk]
      have hj1 : j = 125 := by omega
      subst hj1
      exact own_el ev hc (J := (125 : Int32)) rfl n23
    · have etk : own_tkf j = (1 : Int32) := by unfold own_tkf; rw [if_neg (by omega), if_neg (by omega), if_neg (by omega), if_neg (by omega), if_neg (by omega), if_neg (by omega), if_neg (by omega), if_neg (by omega), if_neg (by omega), if_neg (by omega), if_neg (by omega), if_neg (by omega), if_neg (by omega), if_neg (by omega), if_neg (by omega), if_neg (by omega), if_neg (by omega), if_neg (by omega), if_neg (by omega), if_neg (by omega), if_neg (by omega), if_neg (by omega), if_pos (by omega)]
      rw [etk]
      have hj1 : j = 126 := by omega
      subst hj1
      exact own_el ev hc (J := (126 : Int32)) rfl n24
    · have etk : own_tkf j = (0 : Int32) := by unfold own_tkf; rw [if_neg (by omega), if_neg (by omega), if_neg (by omega), if_neg (by omega), if_neg (by omega), if_neg (by omega), if_neg (by omega), if_neg (by omega), if_neg (by omega), if_neg (by omega), if_neg (by omega), if_neg (by omega), if_neg (by omega), if_neg (by omega), if_neg (by omega), if_neg (by omega), if_neg (by omega), if_neg (by omega), if_neg (by omega), if_neg (by omega), if_neg (by omega), if_neg (by omega), if_neg (by omega), if_pos (by omega)]
      rw [etk]
      have hh := own_el evj hc e0 (own_or (Cond.all_elim ev hc n25 j (by omega)) (own_ltF (K := 127) hlo (by omega)))
      rw [ecl] at hh
      exact hh
set_option maxRecDepth 65536 in
set_option maxHeartbeats 40000000 in
theorem comes_1 {Post : Tables → Env → Array Value → State → Outcome → State → Prop} (hpost : ∀ tb e args s v u, (limb_1_1.after args s (.returned v) u = true ∧ limb_1_2.after args s (.returned v) u = true ∧ True) → Jvm.D.FramedW s (.returned v) u (Jvm.fieldLocs frame_1_writes args s ++ Jvm.arrayLocs frame_1_arrays args s ++ Jvm.staticLocs frame_1_statics s) 24 1152 → Post tb e args s (.returned v) u) :
    ArmFor flags0 classFile x code maxLocals ret World_1 tables_1 room_1 Calls_1 rest_1 Pre_1 Post := by
  intro l hfl _ _ p e ha hc hk s m args below hf hA hF happ hP
  obtain ⟨hcalls, hrest, hpre⟩ := hP
  obtain ⟨-, -, -, hnamed, -, -, -, hat⟩ := (Spec.applies_iff hf).mp happ
  obtain ⟨hg, hn⟩ := and_e (Cond.before_iff.mp (show (Jvm.Cond.and given_1 narrow_1).before args s = true from hpre))
  obtain ⟨gc, gr0⟩ := and_e hg
  obtain ⟨ga0, gr1⟩ := and_e gr0
  obtain ⟨ga1, gr2⟩ := and_e gr1
  obtain ⟨ga2, gr3⟩ := and_e gr2
  obtain ⟨ga3, gr4⟩ := and_e gr3
  obtain ⟨w0, w1, w2, w3, w4, rfl⟩ : ∃ w0 w1 w2 w3 w4 : Value, args = #[w0, w1, w2, w3, w4] := by
    have hs : args.size = 5 := by simpa [Cond.value, given_1] using gc
    obtain ⟨L⟩ := args
    match L, hs with
    | [w0, w1, w2, w3, w4], _ => exact ⟨w0, w1, w2, w3, w4, rfl⟩
  have hw := fun d (hd : d ∈ tables_1) => atoms_spec (ws := Jvm.Cond.code x code maxLocals ret :: tables_1) hat d (List.mem_cons_of_mem _ hd)
  have hfit : Fit s := fun {y c} hc i hi => by
    obtain ⟨ha, rfl⟩ := Array.getElem?_eq_some_iff.mp hc
    have q := List.all_eq_true.mp ((Array.all_eq_true_iff_forall_mem.mp hF) _ (Array.getElem_mem ha)) i (List.mem_range.mpr hi)
    simpa [Array.getElem?_eq_getElem hi] using q
  obtain ⟨hsets, hown0⟩ := atoms_of _ (rest_1_c_eq ▸ (show rest_1_c.before _ s = true from hrest))
  have hr0 := Cond.before_iff.mp hown0
  obtain ⟨i0, ei0⟩ := is_v ga0
  obtain rfl : w0 = (.int i0) := Option.some.inj ei0
  obtain ⟨i1, ei1⟩ := is_v ga1
  obtain rfl : w1 = (.int i1) := Option.some.inj ei1
  obtain ⟨i2, ei2⟩ := is_v ga2
  obtain rfl : w2 = (.int i2) := Option.some.inj ei2
  obtain ⟨i3, ei3⟩ := is_v ga3
  obtain rfl : w3 = (.int i3) := Option.some.inj ei3
  obtain ⟨i4, ei4⟩ := is_v gr4
  obtain rfl : w4 = (.int i4) := Option.some.inj ei4
  obtain ⟨nc0, nr0⟩ := and_e hn
  obtain ⟨nc1, nr1⟩ := and_e nr0
  obtain ⟨nc2, nr2⟩ := and_e nr1
  obtain ⟨nc3, nr3⟩ := and_e nr2
  obtain ⟨nc4, nr4⟩ := and_e nr3
  obtain ⟨nc5, nr5⟩ := and_e nr4
  obtain ⟨nc6, nr6⟩ := and_e nr5
  obtain ⟨nc7, nr7⟩ := and_e nr6
  obtain ⟨nc8, nr8⟩ := and_e nr7
  obtain ⟨nc9, nr9⟩ := and_e nr8
  obtain ⟨nc10, nr10⟩ := and_e nr9
  obtain ⟨nc11, nr11⟩ := and_e nr10
  obtain ⟨nc12, nr12⟩ := and_e nr11
  obtain ⟨nc13, nr13⟩ := and_e nr12
  obtain ⟨nc14, nr14⟩ := and_e nr13
  obtain ⟨nc15, nr15⟩ := and_e nr14
  obtain ⟨nc16, nr16⟩ := and_e nr15
  obtain ⟨nc17, nr17⟩ := and_e nr16
  obtain ⟨nc18, nr18⟩ := and_e nr17
  obtain ⟨nc19, nr19⟩ := and_e nr18
  obtain ⟨nc20, nr20⟩ := and_e nr19
  obtain ⟨nc21, nr21⟩ := and_e nr20
  obtain ⟨nc22, nr22⟩ := and_e nr21
  obtain ⟨nc23, nr23⟩ := and_e nr22
  obtain ⟨nc24, nr24⟩ := and_e nr23
  obtain ⟨ta, TS, TA⟩ := own_token (hw _ (List.mem_of_getElem? (i := 28) rfl)) (hw _ (List.mem_of_getElem? (i := 82) rfl)) nc0 nc1 nc2 nc3 nc4 nc5 nc6 nc7 nc8 nc9 nc10 nc11 nc12 nc13 nc14 nc15 nc16 nc17 nc18 nc19 nc20 nc21 nc22 nc23 nc24 nr24
  obtain ⟨G1, eG1⟩ := is_v (Cond.before_iff.mp (hsets _ (List.mem_of_getElem? (i := 1) rfl)))
  have O2 : Sta s s.heap "java/lang/String" "COMPACT_STRINGS" "Z" (.int G1) := Sta.start eG1 (Or.inl (hsets _ (List.mem_of_getElem? (i := 0) rfl)))
  have hcw := (hsets _ (List.mem_of_getElem? (i := 2) rfl))
  have P5 : ¬ (G1 = (0 : Int32)) := own_notzero eG1 hcw
  obtain ⟨G3, eG3, rG3⟩ := Cond.isRef_spec (show (Cond.isRef (Jvm.Term.static "jdk/internal/util/Preconditions" "SIOOBE_FORMATTER" "Ljava/util/function/BiFunction;")).holds _ s none s [] = true from (hsets _ (List.mem_of_getElem? (i := 8) rfl)))
  have O4 : Sta s s.heap "jdk/internal/util/Preconditions" "SIOOBE_FORMATTER" "Ljava/util/function/BiFunction;" G3 := Sta.start eG3 (Or.inl (hsets _ (List.mem_of_getElem? (i := 7) rfl)))
  have AD : Sta s s.heap "java/lang/StringUTF16" "$assertionsDisabled" "Z" (.int (1 : Int32)) := Sta.start (own_eqint (hsets _ (List.mem_of_getElem? (i := 12) rfl))) (Or.inl (hsets _ (List.mem_of_getElem? (i := 11) rfl)))
  have HB : Sta s s.heap "java/lang/StringUTF16" "HI_BYTE_SHIFT" "I" (.int (0 : Int32)) := Sta.start (own_eqint (hsets _ (List.mem_of_getElem? (i := 15) rfl))) (Or.inl (hsets _ (List.mem_of_getElem? (i := 14) rfl)))
  have LB : Sta s s.heap "java/lang/StringUTF16" "LO_BYTE_SHIFT" "I" (.int (8 : Int32)) := Sta.start (own_eqint (hsets _ (List.mem_of_getElem? (i := 18) rfl))) (Or.inl (hsets _ (List.mem_of_getElem? (i := 17) rfl)))
  have hh7 : Jvm.Lit.constHeld s "java/lang/String" 7 := hcalls.1 _ (List.mem_of_getElem? (i := 0) rfl)
  obtain ⟨n, o, h1, h2, h3, _, L, rfl, ⟨rfl, N⟩, hq⟩ := rm0 l s _ hw tables_1 i0 i1 i2 i3 i4 G1 G3 ta s.heap s.heap.size (Nat.le_refl _) rG3 O4 O2 P5 AD HB LB TS TA (fun _ _ q => q) hh7 hcw p e ha hc hk s m _ below hf ((Spec.applies_iff_loose hf).mp happ).1 ⟨rfl, State.Warmed39.refl s, rfl, IB.start⟩ trivial
  refine ⟨n, _, h1, h2, h3, hpost _ _ _ _ _ _ ⟨Cond.after_iff.mpr rfl, Cond.after_iff.mpr (eq_i res_at (Term.int_eval (1)) rfl), trivial⟩ ⟨hq.1, hq.2.1, hq.2.2.1, (hq.2.2.2.sift fun y hy => Or.inr (N y hy)).mono (by decide) (by decide)⟩⟩
theorem main_1_1 : Claimed_1_1 := comes_1 fun _ _ _ _ _ _ h hF => ⟨h.1, hF⟩
theorem main_1_2 : Claimed_1_2 := comes_1 fun _ _ _ _ _ _ h hF => ⟨h.2.1, hF⟩
end Jvm.Pilot.@@N@@
namespace Jvm.Pilot.@@N@@
open Jvm Jvm.ClassFile Sem Op Lib Jvm.Free Jvm.Stand Jvm.Pilot.@@N@@.Jvm.D
/-! MADE BY PROGRAM (witnessworld.py) out of the Statement's table words and the real class files: 22 classes; the members and pool entries that the words name. The judged class is class 1, her method 3. -/
namespace start1
open Jvm.ClassFile
def u (s : String) : CpInfo := .utf8 (stringToUtf16 s)
/-- a pool by its gaps: so many unusable entries, then the entry; so many at the end -/
def gap : Nat → List CpInfo → List CpInfo
  | 0, r => r
  | n + 1, r => .unusable :: gap n r
def poolList (es : List (Nat × CpInfo)) (last : Nat) : List CpInfo := es.foldr (fun e r => gap e.1 (e.2 :: r)) (gap last [])
def pool (es : List (Nat × CpInfo)) (last : Nat) : Array CpInfo := ⟨poolList es last⟩
def fileOf (pool : Array CpInfo) (this : Nat) (attrs : Array Attribute := #[]) (ms : Array MethodInfo := #[]) (fl : Nat := 33) (sup : Nat := 0) (ifs : Array Nat := #[]) (fds : Array FieldInfo := #[]) : ClassFile where
  minorVersion := 0
  majorVersion := 65
  constantPool := pool
  accessFlags := fl
  thisClass := this
  superClass := sup
  interfaces := ifs
  fields := fds
  methods := ms
  attributes := attrs
def plain (name : String) (sup : Option ClassId) : Class where
  name := name
  kind := .ordinary
  loader := none
  accessFlags := 33
  super := sup
  interfaces := #[]
  cf := none
  fields := #[]
  methods := #[]
  instanceTypes := #[]
  staticTypes := #[]
  resolved := #[]
  callSites := []
  init := .initialized
  statics := none
  mirror := none

def pool0 : Array CpInfo := pool [(5, u "<init>"), (0, u "()V"), (1, .class_ 10), (1, u "java/lang/Object")] 113

def k0c0 : Code := { maxStack := 0, maxLocals := 1, code := object_method_1_code, exceptionTable := #[], attributes := #[] }
def k0m0 : Method := { name := "<init>", desc := "()V", sig := { parameters := [], returnType := none }, accessFlags := 1, code := some k0c0 }
/-- java/lang/Object -/
def k0 : Class := { plain "java/lang/Object" none with
  accessFlags := 33
  interfaces := #[]
  cf := some (fileOf pool0 8 #[] #[{ accessFlags := 1, nameIndex := 5, descriptorIndex := 6, attributes := #[] }] 33 0 #[] #[])
  fields := #[]
  methods := #[k0m0]
  instanceTypes := #[]
  staticTypes := #[]
  resolved := Array.replicate 124 none
  statics := none }

def pool1 : Array CpInfo := pool [(2, .class_ 4), (1, u "java/lang/Object"), (0, u "<init>"), (0, u "()V"), (0, .integer 65535), (0, .methodref 9 10), (0, .class_ 11), (0, .nameAndType 12 13), (0, u "com/example/firm_warden/firmwarden/HeaderFieldsIsTokenPinLaw"), (0, u "draw"), (0, u "(I)C"), (0, .class_ 15), (0, u "java/lang/String"), (0, .methodref 14 17), (0, .nameAndType 5 18), (0, u "([C)V"), (0, .methodref 9 20), (0, .nameAndType 21 22), (0, u "tchar"), (0, u "(C)Z"), (0, .methodref 24 25), (0, .class_ 26), (0, .nameAndType 27 28), (0, u "com/example/firm_warden/firmwarden/HeaderFields"), (0, u "isToken"), (0, u "(Ljava/lang/String;)Z"), (3, u "law"), (0, u "(IIIII)Z")] 4

def k1m0 : Method := { name := "<init>", desc := "()V", sig := { parameters := [], returnType := none }, accessFlags := 1, code := none }
def k1c1 : Code := { maxStack := 2, maxLocals := 1, code := method_2_code, exceptionTable := #[], attributes := #[] }
def k1m1 : Method := { name := "draw", desc := "(I)C", sig := { parameters := [.int], returnType := some .char }, accessFlags := 10, code := some k1c1 }
def k1c2 : Code := { maxStack := 2, maxLocals := 1, code := method_3_code, exceptionTable := #[], attributes := #[] }
def k1m2 : Method := { name := "tchar", desc := "(C)Z", sig := { parameters := [.char], returnType := some .boolean }, accessFlags := 10, code := some k1c2 }
def k1c3 : Code := { maxStack := 3, maxLocals := 13, code := code, exceptionTable := #[], attributes := #[] }
def k1m3 : Method := { name := "law", desc := "(IIIII)Z", sig := { parameters := [.int, .int, .int, .int, .int], returnType := some .boolean }, accessFlags := 9, code := some k1c3 }
/-- com/example/firm_warden/firmwarden/HeaderFieldsIsTokenPinLaw -/
def k1 : Class := { plain "com/example/firm_warden/firmwarden/HeaderFieldsIsTokenPinLaw" (some 0) with
  accessFlags := 49
  interfaces := #[]
  cf := some (fileOf pool1 9 #[] #[{ accessFlags := 1, nameIndex := 5, descriptorIndex := 6, attributes := #[] }, { accessFlags := 10, nameIndex := 12, descriptorIndex := 13, attributes := #[] }, { accessFlags := 10, nameIndex := 21, descriptorIndex := 22, attributes := #[] }, { accessFlags := 9, nameIndex := 32, descriptorIndex := 33, attributes := #[] }] 49 2 #[] #[])
  fields := #[]
  methods := #[k1m0, k1m1, k1m2, k1m3]
  instanceTypes := #[]
  staticTypes := #[]
  resolved := Array.replicate 38 none
  statics := none }

def pool2 : Array CpInfo := pool [(1, .class_ 2), (0, u "java/io/Serializable"), (0, .class_ 4), (0, u "java/lang/Object")] 2

/-- java/io/Serializable -/
def k2 : Class := { plain "java/io/Serializable" (some 0) with
  accessFlags := 1537
  interfaces := #[]
  cf := some (fileOf pool2 1 #[] #[] 1537 3 #[] #[])
  fields := #[]
  methods := #[]
  instanceTypes := #[]
  staticTypes := #[]
  resolved := Array.replicate 7 none
  statics := none }

def pool3 : Array CpInfo := pool [(1, .class_ 2), (0, u "java/lang/Comparable"), (0, .class_ 4), (0, u "java/lang/Object")] 7

/-- java/lang/Comparable -/
def k3 : Class := { plain "java/lang/Comparable" (some 0) with
  accessFlags := 1537
  interfaces := #[]
  cf := some (fileOf pool3 1 #[] #[] 1537 3 #[] #[])
  fields := #[]
  methods := #[]
  instanceTypes := #[]
  staticTypes := #[]
  resolved := Array.replicate 12 none
  statics := none }

def pool4 : Array CpInfo := pool [(2, .class_ 4), (1, u "java/lang/CharSequence"), (42, .class_ 48), (0, u "java/lang/CharSequence$1CodePointIterator"), (10, .class_ 60), (0, u "java/lang/CharSequence$1CharIterator"), (5, .class_ 67), (0, u "java/lang/Object")] 63

/-- java/lang/CharSequence -/
def k4 : Class := { plain "java/lang/CharSequence" (some 0) with
  accessFlags := 1537
  interfaces := #[]
  cf := some (fileOf pool4 2 #[.nestMembers #[47, 59]] #[] 1537 66 #[] #[])
  fields := #[]
  methods := #[]
  instanceTypes := #[]
  staticTypes := #[]
  resolved := Array.replicate 131 none
  statics := none }

def pool5 : Array CpInfo := pool [(1, .class_ 2), (0, u "java/lang/constant/Constable"), (0, .class_ 4), (0, u "java/lang/Object")] 6

/-- java/lang/constant/Constable -/
def k5 : Class := { plain "java/lang/constant/Constable" (some 0) with
  accessFlags := 1537
  interfaces := #[]
  cf := some (fileOf pool5 1 #[] #[] 1537 3 #[] #[])
  fields := #[]
  methods := #[]
  instanceTypes := #[]
  staticTypes := #[]
  resolved := Array.replicate 11 none
  statics := none }

def pool6 : Array CpInfo := pool [(1, .class_ 2), (0, u "java/lang/constant/ConstantDesc"), (0, .class_ 4), (0, u "java/lang/Object")] 32

/-- java/lang/constant/ConstantDesc -/
def k6 : Class := { plain "java/lang/constant/ConstantDesc" (some 0) with
  accessFlags := 1537
  interfaces := #[]
  cf := some (fileOf pool6 1 #[] #[] 1537 3 #[] #[])
  fields := #[]
  methods := #[]
  instanceTypes := #[]
  staticTypes := #[]
  resolved := Array.replicate 37 none
  statics := none }

def pool7 : Array CpInfo := pool [(1, .methodref 2 3), (0, .class_ 4), (0, .nameAndType 5 6), (0, u "java/lang/Object"), (0, u "<init>"), (0, u "()V"), (0, .string 8), (0, u ""), (0, .fieldref 10 11), (0, .class_ 12), (0, .nameAndType 13 14), (0, u "java/lang/String"), (0, u "value"), (0, u "[B"), (0, .fieldref 10 16), (0, .nameAndType 17 18), (0, u "coder"), (0, u "B"), (2, u "hash"), (0, u "I"), (2, u "hashIsZero"), (0, u "Z"), (0, .methodref 10 28), (0, .nameAndType 5 29), (0, u "([CIILjava/lang/Void;)V"), (8, .fieldref 10 39), (0, .nameAndType 40 26), (0, u "COMPACT_STRINGS"), (1, .class_ 44), (1, u "java/lang/StringUTF16"), (0, u "compress"), (1, .methodref 42 48), (0, .nameAndType 49 50), (0, u "coderFromArrayLen"), (0, u "([BI)B"), (56, .class_ 109), (1, u "java/lang/StringLatin1"), (32, u "()Z"), (34, .methodref 42 178), (0, .nameAndType 45 179), (0, u "([CII)[B"), (154, u "()I"), (0, .methodref 10 336), (0, .nameAndType 17 337), (0, u "()B"), (25, u "([BI)C"), (27, u "(II)V"), (35, u "(I)C"), (64, .methodref 10 493), (0, .nameAndType 494 142), (0, u "isLatin1"), (0, .methodref 107 496), (0, .nameAndType 497 363), (0, u "charAt"), (0, .methodref 42 496), (2, u "checkIndex"), (5, u "length"), (67, .class_ 576), (0, u "java/lang/CharSequence"), (22, u "CASE_INSENSITIVE_ORDER"), (0, u "Ljava/util/Comparator;"), (91, u "isEmpty"), (317, u "([C)V"), (42, .fieldref 1054 1055), (0, .class_ 1056), (0, .nameAndType 1057 1058), (0, u "jdk/internal/util/Preconditions"), (0, u "SIOOBE_FORMATTER"), (0, u "Ljava/util/function/BiFunction;"), (0, .methodref 1054 1060), (0, .nameAndType 501 1061), (0, u "(IILjava/util/function/BiFunction;)I"), (39, u "serialPersistentFields"), (0, u "[Ljava/io/ObjectStreamField;"), (0, .class_ 1104), (0, u "java/lang/String$CaseInsensitiveComparator"), (1, .class_ 1107), (0, u "java/io/Serializable"), (0, .class_ 1109), (0, u "java/lang/Comparable"), (0, .class_ 1111), (0, u "java/lang/constant/Constable"), (0, .class_ 1113), (0, u "java/lang/constant/ConstantDesc"), (2, u "serialVersionUID"), (0, u "J"), (3, u "REPL"), (0, u "C"), (2, u "LATIN1"), (1, u "UTF16")] 323

def k7m0 : Method := { name := "<init>", desc := "()V", sig := { parameters := [], returnType := none }, accessFlags := 1, code := none }
def k7c1 : Code := { maxStack := 5, maxLocals := 2, code := jdk_42_method_3_code, exceptionTable := #[], attributes := #[] }
def k7m1 : Method := { name := "<init>", desc := "([C)V", sig := { parameters := [(.array .char)], returnType := none }, accessFlags := 1, code := some k7c1 }
def k7c2 : Code := { maxStack := 2, maxLocals := 1, code := jdk_42_method_54_code, exceptionTable := #[], attributes := #[] }
def k7m2 : Method := { name := "length", desc := "()I", sig := { parameters := [], returnType := some .int }, accessFlags := 1, code := some k7c2 }
def k7c3 : Code := { maxStack := 1, maxLocals := 1, code := jdk_42_method_55_code, exceptionTable := #[], attributes := #[] }
def k7m3 : Method := { name := "isEmpty", desc := "()Z", sig := { parameters := [], returnType := some .boolean }, accessFlags := 1, code := some k7c3 }
def k7c4 : Code := { maxStack := 2, maxLocals := 2, code := jdk_42_method_56_code, exceptionTable := #[], attributes := #[] }
def k7m4 : Method := { name := "charAt", desc := "(I)C", sig := { parameters := [.int], returnType := some .char }, accessFlags := 1, code := some k7c4 }
def k7c5 : Code := { maxStack := 4, maxLocals := 6, code := jdk_42_method_149_code, exceptionTable := #[], attributes := #[] }
def k7m5 : Method := { name := "<init>", desc := "([CIILjava/lang/Void;)V", sig := { parameters := [(.array .char), .int, .int, (.object "java/lang/Void")], returnType := none }, accessFlags := 2, code := some k7c5 }
def k7c6 : Code := { maxStack := 1, maxLocals := 1, code := jdk_42_method_152_code, exceptionTable := #[], attributes := #[] }
def k7m6 : Method := { name := "coder", desc := "()B", sig := { parameters := [], returnType := some .byte }, accessFlags := 0, code := some k7c6 }
def k7c7 : Code := { maxStack := 1, maxLocals := 1, code := jdk_42_method_154_code, exceptionTable := #[], attributes := #[] }
def k7m7 : Method := { name := "isLatin1", desc := "()Z", sig := { parameters := [], returnType := some .boolean }, accessFlags := 0, code := some k7c7 }
def k7c8 : Code := { maxStack := 3, maxLocals := 2, code := jdk_42_method_155_code, exceptionTable := #[], attributes := #[] }
def k7m8 : Method := { name := "checkIndex", desc := "(II)V", sig := { parameters := [.int, .int], returnType := none }, accessFlags := 8, code := some k7c8 }
/-- java/lang/String -/
def k7 : Class := { plain "java/lang/String" (some 0) with
  accessFlags := 49
  interfaces := #[2, 3, 4, 5, 6]
  cf := some (fileOf pool7 10 #[.nestMembers #[1103]] #[{ accessFlags := 1, nameIndex := 5, descriptorIndex := 6, attributes := #[] }, { accessFlags := 1, nameIndex := 5, descriptorIndex := 1010, attributes := #[] }, { accessFlags := 1, nameIndex := 507, descriptorIndex := 334, attributes := #[] }, { accessFlags := 1, nameIndex := 692, descriptorIndex := 142, attributes := #[] }, { accessFlags := 1, nameIndex := 497, descriptorIndex := 427, attributes := #[] }, { accessFlags := 2, nameIndex := 5, descriptorIndex := 29, attributes := #[] }, { accessFlags := 0, nameIndex := 17, descriptorIndex := 337, attributes := #[] }, { accessFlags := 0, nameIndex := 494, descriptorIndex := 142, attributes := #[] }, { accessFlags := 8, nameIndex := 501, descriptorIndex := 391, attributes := #[] }] 49 2 #[1106, 1108, 575, 1110, 1112] #[{ accessFlags := 18, nameIndex := 13, descriptorIndex := 14, attributes := #[] }, { accessFlags := 18, nameIndex := 17, descriptorIndex := 18, attributes := #[] }, { accessFlags := 2, nameIndex := 21, descriptorIndex := 22, attributes := #[] }, { accessFlags := 2, nameIndex := 25, descriptorIndex := 26, attributes := #[] }, { accessFlags := 26, nameIndex := 1116, descriptorIndex := 1117, attributes := #[] }, { accessFlags := 24, nameIndex := 40, descriptorIndex := 26, attributes := #[] }, { accessFlags := 26, nameIndex := 1101, descriptorIndex := 1102, attributes := #[] }, { accessFlags := 26, nameIndex := 1121, descriptorIndex := 1122, attributes := #[] }, { accessFlags := 25, nameIndex := 599, descriptorIndex := 600, attributes := #[] }, { accessFlags := 24, nameIndex := 1125, descriptorIndex := 18, attributes := #[] }, { accessFlags := 24, nameIndex := 1127, descriptorIndex := 18, attributes := #[] }])
  fields := #[{ name := "value", type := (.array .byte), accessFlags := 18, slot := 0, constantValue := 0 }, { name := "coder", type := .byte, accessFlags := 18, slot := 1, constantValue := 0 }, { name := "hash", type := .int, accessFlags := 2, slot := 2, constantValue := 0 }, { name := "hashIsZero", type := .boolean, accessFlags := 2, slot := 3, constantValue := 0 }, { name := "serialVersionUID", type := .long, accessFlags := 26, slot := 0, constantValue := 0 }, { name := "COMPACT_STRINGS", type := .boolean, accessFlags := 24, slot := 1, constantValue := 0 }, { name := "serialPersistentFields", type := (.array (.object "java/io/ObjectStreamField")), accessFlags := 26, slot := 2, constantValue := 0 }, { name := "REPL", type := .char, accessFlags := 26, slot := 3, constantValue := 0 }, { name := "CASE_INSENSITIVE_ORDER", type := (.object "java/util/Comparator"), accessFlags := 25, slot := 4, constantValue := 0 }, { name := "LATIN1", type := .byte, accessFlags := 24, slot := 5, constantValue := 0 }, { name := "UTF16", type := .byte, accessFlags := 24, slot := 6, constantValue := 0 }]
  methods := #[k7m0, k7m1, k7m2, k7m3, k7m4, k7m5, k7m6, k7m7, k7m8]
  instanceTypes := #[(.array .byte), .byte, .int, .boolean]
  staticTypes := #[.long, .boolean, (.array (.object "java/io/ObjectStreamField")), .char, (.object "java/util/Comparator"), .byte, .byte]
  resolved := Array.replicate 1451 none
  statics := some 0 }

def pool8 : Array CpInfo := pool [(2, .class_ 4), (1, u "java/lang/Object"), (0, u "<init>"), (0, u "()V"), (0, .class_ 8), (0, u "com/example/firm_warden/firmwarden/HeaderFields"), (0, .class_ 10), (0, u "java/lang/String"), (2, u "names"), (0, u "[Ljava/lang/String;"), (2, u "values"), (2, u "count"), (0, u "I"), (13, u "(Ljava/lang/String;)Z"), (26, .fieldref 7 63), (0, .nameAndType 64 65), (0, u "TOKEN"), (0, u "[Z"), (42, .methodref 9 109), (0, .nameAndType 110 111), (0, u "isEmpty"), (0, u "()Z"), (0, .methodref 9 113), (0, .nameAndType 114 115), (0, u "length"), (0, u "()I"), (0, .methodref 9 117), (0, .nameAndType 118 119), (0, u "charAt"), (0, u "(I)C"), (6, u "MOST_FIELDS"), (2, u "FIRST_ROOM"), (14, u "isToken")] 23

def k8m0 : Method := { name := "<init>", desc := "()V", sig := { parameters := [], returnType := none }, accessFlags := 1, code := none }
def k8c1 : Code := { maxStack := 2, maxLocals := 4, code := prog_7_method_8_code, exceptionTable := #[], attributes := #[] }
def k8m1 : Method := { name := "isToken", desc := "(Ljava/lang/String;)Z", sig := { parameters := [(.object "java/lang/String")], returnType := some .boolean }, accessFlags := 9, code := some k8c1 }
/-- com/example/firm_warden/firmwarden/HeaderFields -/
def k8 : Class := { plain "com/example/firm_warden/firmwarden/HeaderFields" (some 0) with
  accessFlags := 33
  interfaces := #[]
  cf := some (fileOf pool8 7 #[] #[{ accessFlags := 1, nameIndex := 5, descriptorIndex := 6, attributes := #[] }, { accessFlags := 9, nameIndex := 144, descriptorIndex := 35, attributes := #[] }] 33 2 #[] #[{ accessFlags := 24, nameIndex := 126, descriptorIndex := 21, attributes := #[] }, { accessFlags := 26, nameIndex := 64, descriptorIndex := 65, attributes := #[] }, { accessFlags := 26, nameIndex := 129, descriptorIndex := 21, attributes := #[] }, { accessFlags := 2, nameIndex := 13, descriptorIndex := 14, attributes := #[] }, { accessFlags := 2, nameIndex := 17, descriptorIndex := 14, attributes := #[] }, { accessFlags := 2, nameIndex := 20, descriptorIndex := 21, attributes := #[] }])
  fields := #[{ name := "MOST_FIELDS", type := .int, accessFlags := 24, slot := 0, constantValue := 0 }, { name := "TOKEN", type := (.array .boolean), accessFlags := 26, slot := 1, constantValue := 0 }, { name := "FIRST_ROOM", type := .int, accessFlags := 26, slot := 2, constantValue := 0 }, { name := "names", type := (.array (.object "java/lang/String")), accessFlags := 2, slot := 0, constantValue := 0 }, { name := "values", type := (.array (.object "java/lang/String")), accessFlags := 2, slot := 1, constantValue := 0 }, { name := "count", type := .int, accessFlags := 2, slot := 2, constantValue := 0 }]
  methods := #[k8m0, k8m1]
  instanceTypes := #[(.array (.object "java/lang/String")), (.array (.object "java/lang/String")), .int]
  staticTypes := #[.int, (.array .boolean), .int]
  resolved := Array.replicate 168 none
  statics := some 1 }

def pool9 : Array CpInfo := pool [(3, .class_ 4), (0, u "java/lang/String"), (1, .class_ 8), (1, u "java/lang/Object"), (0, u "<init>"), (0, u "()V"), (0, .methodref 12 13), (0, .class_ 14), (0, .nameAndType 15 16), (0, u "java/lang/StringUTF16"), (0, u "newBytesLength"), (0, u "(I)I"), (3, .integer 1073741823), (23, .fieldref 12 45), (0, .nameAndType 46 47), (0, u "$assertionsDisabled"), (0, u "Z"), (0, .methodref 12 49), (0, .nameAndType 50 51), (0, u "length"), (0, u "([B)I"), (7, .fieldref 12 60), (0, .nameAndType 61 62), (0, u "HI_BYTE_SHIFT"), (0, u "I"), (0, .fieldref 12 64), (0, .nameAndType 65 62), (0, u "LO_BYTE_SHIFT"), (1, .methodref 12 68), (0, .nameAndType 69 70), (0, u "checkIndex"), (0, u "(I[B)V"), (0, .methodref 12 72), (0, .nameAndType 73 74), (0, u "getChar"), (0, u "([BI)C"), (32, .methodref 12 108), (0, .nameAndType 109 110), (0, u "newBytesFor"), (0, u "(I)[B"), (0, .methodref 12 112), (0, .nameAndType 113 114), (0, u "putChar"), (0, u "([BII)V"), (0, .methodref 12 116), (0, .nameAndType 117 118), (0, u "compress"), (0, u "([CI[BII)I"), (0, .methodref 12 120), (0, .nameAndType 121 122), (0, u "toBytes"), (0, u "([CII)[B"), (138, u "coderFromArrayLen"), (0, u "([BI)B"), (106, .class_ 371), (1, u "java/lang/StringUTF16$LinesSpliterator"), (20, u "charAt"), (21, .methodref 3 415), (0, .nameAndType 69 416), (0, u "(II)V"), (13, u "MAX_LENGTH"), (196, .class_ 628), (0, u "java/lang/StringUTF16$CodePointsSpliterator"), (0, .class_ 630), (0, u "java/lang/StringUTF16$CharsSpliterator")] 4

def k9m0 : Method := { name := "<init>", desc := "()V", sig := { parameters := [], returnType := none }, accessFlags := 0, code := none }
def k9c1 : Code := { maxStack := 1, maxLocals := 1, code := jdk_52_method_2_code, exceptionTable := #[], attributes := #[] }
def k9m1 : Method := { name := "newBytesFor", desc := "(I)[B", sig := { parameters := [.int], returnType := some (.array .byte) }, accessFlags := 9, code := some k9c1 }
def k9c2 : Code := { maxStack := 4, maxLocals := 1, code := jdk_52_method_3_code, exceptionTable := #[], attributes := #[] }
def k9m2 : Method := { name := "newBytesLength", desc := "(I)I", sig := { parameters := [.int], returnType := some .int }, accessFlags := 9, code := some k9c2 }
def k9c3 : Code := { maxStack := 4, maxLocals := 3, code := jdk_52_method_4_code, exceptionTable := #[], attributes := #[] }
def k9m3 : Method := { name := "putChar", desc := "([BII)V", sig := { parameters := [(.array .byte), .int, .int], returnType := none }, accessFlags := 8, code := some k9c3 }
def k9c4 : Code := { maxStack := 3, maxLocals := 2, code := jdk_52_method_5_code, exceptionTable := #[], attributes := #[] }
def k9m4 : Method := { name := "getChar", desc := "([BI)C", sig := { parameters := [(.array .byte), .int], returnType := some .char }, accessFlags := 8, code := some k9c4 }
def k9c5 : Code := { maxStack := 2, maxLocals := 1, code := jdk_52_method_6_code, exceptionTable := #[], attributes := #[] }
def k9m5 : Method := { name := "length", desc := "([B)I", sig := { parameters := [(.array .byte)], returnType := some .int }, accessFlags := 9, code := some k9c5 }
def k9c6 : Code := { maxStack := 4, maxLocals := 5, code := jdk_52_method_14_code, exceptionTable := #[], attributes := #[] }
def k9m6 : Method := { name := "toBytes", desc := "([CII)[B", sig := { parameters := [(.array .char), .int, .int], returnType := some (.array .byte) }, accessFlags := 9, code := some k9c6 }
def k9c7 : Code := { maxStack := 2, maxLocals := 2, code := jdk_52_method_15_code, exceptionTable := #[], attributes := #[] }
def k9m7 : Method := { name := "coderFromArrayLen", desc := "([BI)B", sig := { parameters := [(.array .byte), .int], returnType := some .byte }, accessFlags := 8, code := some k9c7 }
def k9c8 : Code := { maxStack := 5, maxLocals := 6, code := jdk_52_method_16_code, exceptionTable := #[], attributes := #[] }
def k9m8 : Method := { name := "compress", desc := "([CII)[B", sig := { parameters := [(.array .char), .int, .int], returnType := some (.array .byte) }, accessFlags := 9, code := some k9c8 }
def k9c9 : Code := { maxStack := 3, maxLocals := 7, code := jdk_52_method_21_code, exceptionTable := #[], attributes := #[] }
def k9m9 : Method := { name := "compress", desc := "([CI[BII)I", sig := { parameters := [(.array .char), .int, (.array .byte), .int, .int], returnType := some .int }, accessFlags := 9, code := some k9c9 }
def k9c10 : Code := { maxStack := 2, maxLocals := 2, code := jdk_52_method_83_code, exceptionTable := #[], attributes := #[] }
def k9m10 : Method := { name := "charAt", desc := "([BI)C", sig := { parameters := [(.array .byte), .int], returnType := some .char }, accessFlags := 9, code := some k9c10 }
def k9c11 : Code := { maxStack := 2, maxLocals := 2, code := jdk_52_method_91_code, exceptionTable := #[], attributes := #[] }
def k9m11 : Method := { name := "checkIndex", desc := "(I[B)V", sig := { parameters := [.int, (.array .byte)], returnType := none }, accessFlags := 9, code := some k9c11 }
/-- java/lang/StringUTF16 -/
def k9 : Class := { plain "java/lang/StringUTF16" (some 0) with
  accessFlags := 48
  interfaces := #[]
  cf := some (fileOf pool9 12 #[.nestMembers #[627, 629, 369]] #[{ accessFlags := 0, nameIndex := 9, descriptorIndex := 10, attributes := #[] }, { accessFlags := 9, nameIndex := 109, descriptorIndex := 110, attributes := #[] }, { accessFlags := 9, nameIndex := 15, descriptorIndex := 16, attributes := #[] }, { accessFlags := 8, nameIndex := 113, descriptorIndex := 114, attributes := #[] }, { accessFlags := 8, nameIndex := 73, descriptorIndex := 74, attributes := #[] }, { accessFlags := 9, nameIndex := 50, descriptorIndex := 51, attributes := #[] }, { accessFlags := 9, nameIndex := 121, descriptorIndex := 122, attributes := #[] }, { accessFlags := 8, nameIndex := 261, descriptorIndex := 262, attributes := #[] }, { accessFlags := 9, nameIndex := 117, descriptorIndex := 122, attributes := #[] }, { accessFlags := 9, nameIndex := 117, descriptorIndex := 118, attributes := #[] }, { accessFlags := 9, nameIndex := 392, descriptorIndex := 74, attributes := #[] }, { accessFlags := 9, nameIndex := 69, descriptorIndex := 70, attributes := #[] }] 48 6 #[] #[{ accessFlags := 26, nameIndex := 61, descriptorIndex := 62, attributes := #[] }, { accessFlags := 26, nameIndex := 65, descriptorIndex := 62, attributes := #[] }, { accessFlags := 24, nameIndex := 430, descriptorIndex := 62, attributes := #[] }, { accessFlags := 4120, nameIndex := 46, descriptorIndex := 47, attributes := #[] }])
  fields := #[{ name := "HI_BYTE_SHIFT", type := .int, accessFlags := 26, slot := 0, constantValue := 0 }, { name := "LO_BYTE_SHIFT", type := .int, accessFlags := 26, slot := 1, constantValue := 0 }, { name := "MAX_LENGTH", type := .int, accessFlags := 24, slot := 2, constantValue := 0 }, { name := "$assertionsDisabled", type := .boolean, accessFlags := 4120, slot := 3, constantValue := 0 }]
  methods := #[k9m0, k9m1, k9m2, k9m3, k9m4, k9m5, k9m6, k9m7, k9m8, k9m9, k9m10, k9m11]
  instanceTypes := #[]
  staticTypes := #[.int, .int, .int, .boolean]
  resolved := Array.replicate 635 none
  statics := some 2 }

def pool10 : Array CpInfo := pool [(1, .class_ 2), (0, u "java/lang/String"), (1, .class_ 6), (1, u "java/lang/Object"), (0, u "<init>"), (0, u "()V"), (0, .methodref 1 10), (0, .nameAndType 11 12), (0, u "checkIndex"), (0, u "(II)V"), (1, .class_ 16), (1, u "java/lang/StringLatin1"), (36, u "([BI)C"), (67, u "$assertionsDisabled"), (0, u "Z"), (98, .class_ 223), (1, u "java/lang/StringLatin1$LinesSpliterator"), (28, u "charAt"), (137, .class_ 391), (0, u "java/lang/StringLatin1$CharsSpliterator")] 3

def k10m0 : Method := { name := "<init>", desc := "()V", sig := { parameters := [], returnType := none }, accessFlags := 0, code := none }
def k10c1 : Code := { maxStack := 2, maxLocals := 2, code := jdk_43_method_2_code, exceptionTable := #[], attributes := #[] }
def k10m1 : Method := { name := "charAt", desc := "([BI)C", sig := { parameters := [(.array .byte), .int], returnType := some .char }, accessFlags := 9, code := some k10c1 }
/-- java/lang/StringLatin1 -/
def k10 : Class := { plain "java/lang/StringLatin1" (some 0) with
  accessFlags := 48
  interfaces := #[]
  cf := some (fileOf pool10 14 #[.nestMembers #[390, 221]] #[{ accessFlags := 0, nameIndex := 7, descriptorIndex := 8, attributes := #[] }, { accessFlags := 9, nameIndex := 252, descriptorIndex := 53, attributes := #[] }] 48 4 #[] #[{ accessFlags := 4120, nameIndex := 121, descriptorIndex := 122, attributes := #[] }])
  fields := #[{ name := "$assertionsDisabled", type := .boolean, accessFlags := 4120, slot := 0, constantValue := 0 }]
  methods := #[k10m0, k10m1]
  instanceTypes := #[]
  staticTypes := #[.boolean]
  resolved := Array.replicate 395 none
  statics := none }

def pool11 : Array CpInfo := pool [(2, .class_ 4), (1, u "java/lang/Object"), (0, u "<init>"), (0, u "()V"), (17, .class_ 26), (1, u "jdk/internal/util/Preconditions"), (6, u "checkIndex"), (21, .class_ 56), (0, u "jdk/internal/util/Preconditions$4"), (57, .class_ 115), (0, u "jdk/internal/util/Preconditions$1"), (7, u "SIOOBE_FORMATTER"), (0, u "Ljava/util/function/BiFunction;"), (0, .class_ 126), (0, u "jdk/internal/util/Preconditions$2"), (3, u "AIOOBE_FORMATTER"), (0, .class_ 132), (0, u "jdk/internal/util/Preconditions$3"), (3, u "IOOBE_FORMATTER"), (41, u "(IILjava/util/function/BiFunction;)I")] 15

def k11m0 : Method := { name := "<init>", desc := "()V", sig := { parameters := [], returnType := none }, accessFlags := 1, code := none }
def k11c1 : Code := { maxStack := 3, maxLocals := 3, code := jdk_41_method_11_code, exceptionTable := #[], attributes := #[] }
def k11m1 : Method := { name := "checkIndex", desc := "(IILjava/util/function/BiFunction;)I", sig := { parameters := [.int, .int, (.object "java/util/function/BiFunction")], returnType := some .int }, accessFlags := 9, code := some k11c1 }
/-- jdk/internal/util/Preconditions -/
def k11 : Class := { plain "jdk/internal/util/Preconditions" (some 0) with
  accessFlags := 33
  interfaces := #[]
  cf := some (fileOf pool11 24 #[.nestMembers #[55, 131, 125, 114]] #[{ accessFlags := 1, nameIndex := 5, descriptorIndex := 6, attributes := #[] }, { accessFlags := 9, nameIndex := 33, descriptorIndex := 178, attributes := #[] }] 33 2 #[] #[{ accessFlags := 25, nameIndex := 123, descriptorIndex := 124, attributes := #[] }, { accessFlags := 25, nameIndex := 130, descriptorIndex := 124, attributes := #[] }, { accessFlags := 25, nameIndex := 136, descriptorIndex := 124, attributes := #[] }])
  fields := #[{ name := "SIOOBE_FORMATTER", type := (.object "java/util/function/BiFunction"), accessFlags := 25, slot := 0, constantValue := 0 }, { name := "AIOOBE_FORMATTER", type := (.object "java/util/function/BiFunction"), accessFlags := 25, slot := 1, constantValue := 0 }, { name := "IOOBE_FORMATTER", type := (.object "java/util/function/BiFunction"), accessFlags := 25, slot := 2, constantValue := 0 }]
  methods := #[k11m0, k11m1]
  instanceTypes := #[]
  staticTypes := #[(.object "java/util/function/BiFunction"), (.object "java/util/function/BiFunction"), (.object "java/util/function/BiFunction")]
  resolved := Array.replicate 194 none
  statics := some 3 }

def pool12 : Array CpInfo := pool [(9, u "<init>"), (6, .class_ 18), (1, u "java/lang/Object"), (0, u "()V"), (1, .class_ 23), (1, u "jdk/internal/util/ArraysSupport"), (0, u "LOG2_ARRAY_LONG_INDEX_SCALE"), (0, u "I"), (2, u "U"), (0, u "Ljdk/internal/misc/Unsafe;"), (8, u "BIG_ENDIAN"), (0, u "Z"), (8, u "LOG2_BYTE_BIT_SIZE"), (4, u "LOG2_ARRAY_INT_INDEX_SCALE"), (54, u "JLA"), (0, u "Ljdk/internal/access/JavaLangAccess;"), (11, u "LOG2_ARRAY_BOOLEAN_INDEX_SCALE"), (9, u "LOG2_ARRAY_BYTE_INDEX_SCALE"), (5, u "LOG2_ARRAY_CHAR_INDEX_SCALE"), (5, u "LOG2_ARRAY_SHORT_INDEX_SCALE"), (18, u "LOG2_ARRAY_FLOAT_INDEX_SCALE"), (24, u "LOG2_ARRAY_DOUBLE_INDEX_SCALE"), (89, u "T_BOOLEAN"), (2, u "T_CHAR"), (1, u "T_FLOAT"), (1, u "T_DOUBLE"), (1, u "T_BYTE"), (1, u "T_SHORT"), (1, u "T_INT"), (1, u "T_LONG"), (1, u "SOFT_MAX_ARRAY_LENGTH")] 83

def k12m0 : Method := { name := "<init>", desc := "()V", sig := { parameters := [], returnType := none }, accessFlags := 2, code := none }
/-- jdk/internal/util/ArraysSupport -/
def k12 : Class := { plain "jdk/internal/util/ArraysSupport" (some 0) with
  accessFlags := 33
  interfaces := #[]
  cf := some (fileOf pool12 21 #[] #[{ accessFlags := 2, nameIndex := 9, descriptorIndex := 19, attributes := #[] }] 33 16 #[] #[{ accessFlags := 24, nameIndex := 28, descriptorIndex := 29, attributes := #[] }, { accessFlags := 26, nameIndex := 38, descriptorIndex := 39, attributes := #[] }, { accessFlags := 25, nameIndex := 121, descriptorIndex := 25, attributes := #[] }, { accessFlags := 25, nameIndex := 131, descriptorIndex := 25, attributes := #[] }, { accessFlags := 25, nameIndex := 137, descriptorIndex := 25, attributes := #[] }, { accessFlags := 25, nameIndex := 143, descriptorIndex := 25, attributes := #[] }, { accessFlags := 25, nameIndex := 53, descriptorIndex := 25, attributes := #[] }, { accessFlags := 25, nameIndex := 24, descriptorIndex := 25, attributes := #[] }, { accessFlags := 25, nameIndex := 162, descriptorIndex := 25, attributes := #[] }, { accessFlags := 25, nameIndex := 187, descriptorIndex := 25, attributes := #[] }, { accessFlags := 26, nameIndex := 48, descriptorIndex := 25, attributes := #[] }, { accessFlags := 25, nameIndex := 277, descriptorIndex := 25, attributes := #[] }, { accessFlags := 25, nameIndex := 280, descriptorIndex := 25, attributes := #[] }, { accessFlags := 25, nameIndex := 282, descriptorIndex := 25, attributes := #[] }, { accessFlags := 25, nameIndex := 284, descriptorIndex := 25, attributes := #[] }, { accessFlags := 25, nameIndex := 286, descriptorIndex := 25, attributes := #[] }, { accessFlags := 25, nameIndex := 288, descriptorIndex := 25, attributes := #[] }, { accessFlags := 25, nameIndex := 290, descriptorIndex := 25, attributes := #[] }, { accessFlags := 25, nameIndex := 292, descriptorIndex := 25, attributes := #[] }, { accessFlags := 26, nameIndex := 108, descriptorIndex := 109, attributes := #[] }, { accessFlags := 25, nameIndex := 294, descriptorIndex := 25, attributes := #[] }])
  fields := #[{ name := "U", type := (.object "jdk/internal/misc/Unsafe"), accessFlags := 24, slot := 0, constantValue := 0 }, { name := "BIG_ENDIAN", type := .boolean, accessFlags := 26, slot := 1, constantValue := 0 }, { name := "LOG2_ARRAY_BOOLEAN_INDEX_SCALE", type := .int, accessFlags := 25, slot := 2, constantValue := 0 }, { name := "LOG2_ARRAY_BYTE_INDEX_SCALE", type := .int, accessFlags := 25, slot := 3, constantValue := 0 }, { name := "LOG2_ARRAY_CHAR_INDEX_SCALE", type := .int, accessFlags := 25, slot := 4, constantValue := 0 }, { name := "LOG2_ARRAY_SHORT_INDEX_SCALE", type := .int, accessFlags := 25, slot := 5, constantValue := 0 }, { name := "LOG2_ARRAY_INT_INDEX_SCALE", type := .int, accessFlags := 25, slot := 6, constantValue := 0 }, { name := "LOG2_ARRAY_LONG_INDEX_SCALE", type := .int, accessFlags := 25, slot := 7, constantValue := 0 }, { name := "LOG2_ARRAY_FLOAT_INDEX_SCALE", type := .int, accessFlags := 25, slot := 8, constantValue := 0 }, { name := "LOG2_ARRAY_DOUBLE_INDEX_SCALE", type := .int, accessFlags := 25, slot := 9, constantValue := 0 }, { name := "LOG2_BYTE_BIT_SIZE", type := .int, accessFlags := 26, slot := 10, constantValue := 0 }, { name := "T_BOOLEAN", type := .int, accessFlags := 25, slot := 11, constantValue := 0 }, { name := "T_CHAR", type := .int, accessFlags := 25, slot := 12, constantValue := 0 }, { name := "T_FLOAT", type := .int, accessFlags := 25, slot := 13, constantValue := 0 }, { name := "T_DOUBLE", type := .int, accessFlags := 25, slot := 14, constantValue := 0 }, { name := "T_BYTE", type := .int, accessFlags := 25, slot := 15, constantValue := 0 }, { name := "T_SHORT", type := .int, accessFlags := 25, slot := 16, constantValue := 0 }, { name := "T_INT", type := .int, accessFlags := 25, slot := 17, constantValue := 0 }, { name := "T_LONG", type := .int, accessFlags := 25, slot := 18, constantValue := 0 }, { name := "JLA", type := (.object "jdk/internal/access/JavaLangAccess"), accessFlags := 26, slot := 19, constantValue := 0 }, { name := "SOFT_MAX_ARRAY_LENGTH", type := .int, accessFlags := 25, slot := 20, constantValue := 0 }]
  methods := #[k12m0]
  instanceTypes := #[]
  staticTypes := #[(.object "jdk/internal/misc/Unsafe"), .boolean, .int, .int, .int, .int, .int, .int, .int, .int, .int, .int, .int, .int, .int, .int, .int, .int, .int, (.object "jdk/internal/access/JavaLangAccess"), .int]
  resolved := Array.replicate 378 none
  statics := none }

def pool13 : Array CpInfo := pool [(1, u "java/lang/Cloneable"), (0, .class_ 1), (0, u "java/lang/Object"), (0, .class_ 3)] 3

/-- java/lang/Cloneable -/
def k13 : Class := { plain "java/lang/Cloneable" (some 0) with
  accessFlags := 1537
  interfaces := #[]
  cf := some (fileOf pool13 2 #[] #[] 1537 4 #[] #[])
  fields := #[]
  methods := #[]
  instanceTypes := #[]
  staticTypes := #[]
  resolved := Array.replicate 8 none
  statics := none }

/-- the primitive boolean -/
def k14 : Class := { plain "boolean" none with kind := .primitive 'Z', accessFlags := 0x411 }
/-- [Z -/
def k15 : Class := { plain "[Z" (some 0) with kind := .array 14 .boolean, interfaces := #[13, 2], accessFlags := 1041 }

/-- the primitive byte -/
def k16 : Class := { plain "byte" none with kind := .primitive 'B', accessFlags := 0x411 }
/-- [B -/
def k17 : Class := { plain "[B" (some 0) with kind := .array 16 .byte, interfaces := #[13, 2], accessFlags := 1041 }

/-- the primitive char -/
def k18 : Class := { plain "char" none with kind := .primitive 'C', accessFlags := 0x411 }
/-- [C -/
def k19 : Class := { plain "[C" (some 0) with kind := .array 18 .char, interfaces := #[13, 2], accessFlags := 1041 }

/-- the primitive int -/
def k20 : Class := { plain "int" none with kind := .primitive 'I', accessFlags := 0x411 }
/-- [I -/
def k21 : Class := { plain "[I" (some 0) with kind := .array 20 .int, interfaces := #[13, 2], accessFlags := 1041 }

def heap : Heap := #[{ cls := 7, slots := #[.long 0, .int 1, .null, .int 0, .null, .int 0, .int 0], vm := .statics 7 },
  { cls := 8, slots := #[.int 0, .ref 4, .int 0], vm := .statics 8 },
  { cls := 9, slots := #[.int 0, .int 8, .int 0, .int 1], vm := .statics 9 },
  { cls := 11, slots := #[.null, .null, .null], vm := .statics 11 },
  { cls := 15, slots := #[.int 0, .int 0, .int 0, .int 0, .int 0, .int 0, .int 0, .int 0, .int 0, .int 0, .int 0, .int 0, .int 0, .int 0, .int 0, .int 0, .int 0, .int 0, .int 0, .int 0, .int 0, .int 0, .int 0, .int 0, .int 0, .int 0, .int 0, .int 0, .int 0, .int 0, .int 0, .int 0, .int 0, .int 1, .int 0, .int 1, .int 1, .int 1, .int 1, .int 1, .int 0, .int 0, .int 1, .int 1, .int 0, .int 1, .int 1, .int 0, .int 1, .int 1, .int 1, .int 1, .int 1, .int 1, .int 1, .int 1, .int 1, .int 1, .int 0, .int 0, .int 0, .int 0, .int 0, .int 0, .int 0, .int 1, .int 1, .int 1, .int 1, .int 1, .int 1, .int 1, .int 1, .int 1, .int 1, .int 1, .int 1, .int 1, .int 1, .int 1, .int 1, .int 1, .int 1, .int 1, .int 1, .int 1, .int 1, .int 1, .int 1, .int 1, .int 1, .int 0, .int 0, .int 0, .int 1, .int 1, .int 1, .int 1, .int 1, .int 1, .int 1, .int 1, .int 1, .int 1, .int 1, .int 1, .int 1, .int 1, .int 1, .int 1, .int 1, .int 1, .int 1, .int 1, .int 1, .int 1, .int 1, .int 1, .int 1, .int 1, .int 1, .int 1, .int 1, .int 0, .int 1, .int 0, .int 1, .int 0, .int 0, .int 0, .int 0, .int 0, .int 0, .int 0, .int 0, .int 0, .int 0, .int 0, .int 0, .int 0, .int 0, .int 0, .int 0, .int 0, .int 0, .int 0, .int 0, .int 0, .int 0, .int 0, .int 0, .int 0, .int 0, .int 0, .int 0, .int 0, .int 0, .int 0, .int 0, .int 0, .int 0, .int 0, .int 0, .int 0, .int 0, .int 0, .int 0, .int 0, .int 0, .int 0, .int 0, .int 0, .int 0, .int 0, .int 0, .int 0, .int 0, .int 0, .int 0, .int 0, .int 0, .int 0, .int 0, .int 0, .int 0, .int 0, .int 0, .int 0, .int 0, .int 0, .int 0, .int 0, .int 0, .int 0, .int 0, .int 0, .int 0, .int 0, .int 0, .int 0, .int 0, .int 0, .int 0, .int 0, .int 0, .int 0, .int 0, .int 0, .int 0, .int 0, .int 0, .int 0, .int 0, .int 0, .int 0, .int 0, .int 0, .int 0, .int 0, .int 0, .int 0, .int 0, .int 0, .int 0, .int 0, .int 0, .int 0, .int 0, .int 0, .int 0, .int 0, .int 0, .int 0, .int 0, .int 0, .int 0, .int 0, .int 0, .int 0, .int 0, .int 0, .int 0, .int 0, .int 0, .int 0, .int 0, .int 0, .int 0, .int 0, .int 0, .int 0, .int 0, .int 0, .int 0, .int 0, .int 0], vm := .none }]
def classes : Array Class := #[k0, k1, k2, k3, k4, k5, k6, k7, k8, k9, k10, k11, k12, k13, k14, k15, k16, k17, k18, k19, k20, k21]
def interned : List (Array UInt16 × Addr) := []
def slotsUsed : Nat := 273
def theMethod : MethodId := ⟨1, 3⟩
def args0 : Array Value := #[.int 3, .int 65, .int 48, .int 97, .int 33]
def aboutOver (below : List Frame) : State where
  vm := { classes := classes, interned := interned.toArray }
  heap := heap
  slotsUsed := slotsUsed
  threads := #[{ frames := .invoking theMethod args0 :: below }]
def below0 : List Frame := [.native { method := ⟨0, 0⟩, args := #[] }]
def about1 : State := aboutOver below0
def p0 : Program := .bare "" "" ""
def e0 : Env := launch0.env 0 0 0
theorem w_frames : about1.frames = Frame.invoking theMethod args0 :: below0 := rfl
set_option maxRecDepth 65536 in
theorem w_args : argsFit about1.vm theMethod args0 = true := by decide +kernel
set_option maxRecDepth 65536 in
theorem w_heap : heapFits about1 = true := by decide +kernel
set_option maxRecDepth 65536 in
theorem w_runnable : about1.curStatus? = some .runnable := by decide +kernel
set_option maxRecDepth 65536 in
theorem w_alone : about1.alone = true := by decide +kernel
set_option maxRecDepth 65536 in
theorem w_named : about1.methodNamed? x = some theMethod := by decide +kernel
set_option maxRecDepth 65536 in
theorem w_hears : about1.hears theMethod below0 = true := by decide +kernel
set_option maxRecDepth 65536 in
theorem w_ripe : about1.ripe theMethod args0 below0 = true := by decide +kernel
theorem w_running : about1.status = .running := rfl
set_option maxRecDepth 65536 in
theorem w_room : about1.hasRoom e0.platform room_1 = true :=
  launch0.hasRoom_least _ room_1 (by decide +kernel) (by decide +kernel) (by decide +kernel) (by decide +kernel) (by decide +kernel) (by decide +kernel)
theorem allAtoms_all (ts : List Jvm.Cond) (a : Array Jvm.Value) (st : Jvm.State) : (allAtoms ts).before a st = ts.all (fun c => c.before a st) := by
  induction ts with
  | nil => rfl
  | cons c t ih =>
    show (Jvm.Cond.and c (allAtoms t)).before a st = _
    rw [Jvm.Cond.before_and, ih, List.all_cons]
def words1 : List Jvm.Cond := Jvm.Cond.code x code maxLocals ret :: tables_1
/-- a 'code' word, met by the world's own term for the bytes: nothing is compared byte by byte -/
theorem code_word {y : MethodName} {bytes : ByteArray} {mx : Nat} {rt : Option FieldType} {a : Array Value} {s : State} {m : MethodId} {meth : Method} {c : Code} (h1 : s.methodNamed? y = some m) (h2 : s.vm.method? m = some meth) (h3 : meth.code = some c) (h4 : c.code = bytes)
    (h5 : (c.maxLocals == mx && c.exceptionTable.isEmpty && decide (c.maxStack ≤ mostOperands) && decide (meth.sig.returnType = rt) && !meth.locks && decide (parseMethodDescriptor y.desc = some meth.sig)) = true) : (Jvm.Cond.code y bytes mx rt).before a s = true := by
  simp only [Bool.and_eq_true, beq_iff_eq, Bool.not_eq_true', decide_eq_true_eq] at h5
  obtain ⟨⟨⟨⟨⟨g1, g2⟩, g3⟩, g4⟩, g5⟩, g6⟩ := h5
  simp [Cond.before, Cond.holds, Cond.value, h1, h2, h3, h4, g1, g2, g3, g4, g5, g6]
def isCode : Jvm.Cond → Bool
  | .code _ _ _ _ => true
  | _ => false
theorem all_split {L : List Jvm.Cond} {P : Jvm.Cond → Bool} (h1 : L.all (fun c => isCode c || P c) = true) (h2 : ∀ c ∈ L.filter isCode, P c = true) : L.all P = true := by
  refine List.all_eq_true.mpr fun c hc => ?_
  have h := List.all_eq_true.mp h1 c hc
  rcases Bool.eq_false_or_eq_true (isCode c) with hi | hi
  · exact h2 c (List.mem_filter.mpr ⟨hc, hi⟩)
  · simpa [hi] using h
set_option maxRecDepth 65536 in
theorem w_c0 : (Jvm.Cond.code x code maxLocals ret).before args0 about1 = true := code_word (m := ⟨1, 3⟩) (meth := k1m3) (c := k1c3) (by decide +kernel) rfl rfl rfl (by decide +kernel)
set_option maxRecDepth 65536 in
theorem w_c1 : (Jvm.Cond.code ({ cls := "com/example/firm_warden/firmwarden/HeaderFieldsIsTokenPinLaw", name := "draw", desc := "(I)C" } : Jvm.MethodName) method_2_code (1 : Nat) (Option.some Jvm.ClassFile.FieldType.char)).before args0 about1 = true := code_word (m := ⟨1, 1⟩) (meth := k1m1) (c := k1c1) (by decide +kernel) rfl rfl rfl (by decide +kernel)
set_option maxRecDepth 65536 in
theorem w_c2 : (Jvm.Cond.code ({ cls := "java/lang/String", name := "<init>", desc := "([C)V" } : Jvm.MethodName) jdk_42_method_3_code (2 : Nat) (Option.none : Option Jvm.ClassFile.FieldType)).before args0 about1 = true := code_word (m := ⟨7, 1⟩) (meth := k7m1) (c := k7c1) (by decide +kernel) rfl rfl rfl (by decide +kernel)
set_option maxRecDepth 65536 in
theorem w_c3 : (Jvm.Cond.code ({ cls := "java/lang/String", name := "<init>", desc := "([CIILjava/lang/Void;)V" } : Jvm.MethodName) jdk_42_method_149_code (6 : Nat) (Option.none : Option Jvm.ClassFile.FieldType)).before args0 about1 = true := code_word (m := ⟨7, 5⟩) (meth := k7m5) (c := k7c5) (by decide +kernel) rfl rfl rfl (by decide +kernel)
set_option maxRecDepth 65536 in
theorem w_c4 : (Jvm.Cond.code ({ cls := "java/lang/Object", name := "<init>", desc := "()V" } : Jvm.MethodName) object_method_1_code (1 : Nat) (Option.none : Option Jvm.ClassFile.FieldType)).before args0 about1 = true := code_word (m := ⟨0, 0⟩) (meth := k0m0) (c := k0c0) (by decide +kernel) rfl rfl rfl (by decide +kernel)
set_option maxRecDepth 65536 in
theorem w_c5 : (Jvm.Cond.code ({ cls := "com/example/firm_warden/firmwarden/HeaderFields", name := "isToken", desc := "(Ljava/lang/String;)Z" } : Jvm.MethodName) prog_7_method_8_code (4 : Nat) (Option.some Jvm.ClassFile.FieldType.boolean)).before args0 about1 = true := code_word (m := ⟨8, 1⟩) (meth := k8m1) (c := k8c1) (by decide +kernel) rfl rfl rfl (by decide +kernel)
set_option maxRecDepth 65536 in
theorem w_c6 : (Jvm.Cond.code ({ cls := "java/lang/String", name := "isEmpty", desc := "()Z" } : Jvm.MethodName) jdk_42_method_55_code (1 : Nat) (Option.some Jvm.ClassFile.FieldType.boolean)).before args0 about1 = true := code_word (m := ⟨7, 3⟩) (meth := k7m3) (c := k7c3) (by decide +kernel) rfl rfl rfl (by decide +kernel)
set_option maxRecDepth 65536 in
theorem w_c7 : (Jvm.Cond.code ({ cls := "java/lang/String", name := "length", desc := "()I" } : Jvm.MethodName) jdk_42_method_54_code (1 : Nat) (Option.some Jvm.ClassFile.FieldType.int)).before args0 about1 = true := code_word (m := ⟨7, 2⟩) (meth := k7m2) (c := k7c2) (by decide +kernel) rfl rfl rfl (by decide +kernel)
set_option maxRecDepth 65536 in
theorem w_c8 : (Jvm.Cond.code ({ cls := "java/lang/String", name := "coder", desc := "()B" } : Jvm.MethodName) jdk_42_method_152_code (1 : Nat) (Option.some Jvm.ClassFile.FieldType.byte)).before args0 about1 = true := code_word (m := ⟨7, 6⟩) (meth := k7m6) (c := k7c6) (by decide +kernel) rfl rfl rfl (by decide +kernel)
set_option maxRecDepth 65536 in
theorem w_c9 : (Jvm.Cond.code ({ cls := "java/lang/StringUTF16", name := "compress", desc := "([CII)[B" } : Jvm.MethodName) jdk_52_method_16_code (6 : Nat) (Option.some (Jvm.ClassFile.FieldType.array Jvm.ClassFile.FieldType.byte))).before args0 about1 = true := code_word (m := ⟨9, 8⟩) (meth := k9m8) (c := k9c8) (by decide +kernel) rfl rfl rfl (by decide +kernel)
set_option maxRecDepth 65536 in
theorem w_c10 : (Jvm.Cond.code ({ cls := "java/lang/StringUTF16", name := "compress", desc := "([CI[BII)I" } : Jvm.MethodName) jdk_52_method_21_code (7 : Nat) (Option.some Jvm.ClassFile.FieldType.int)).before args0 about1 = true := code_word (m := ⟨9, 9⟩) (meth := k9m9) (c := k9c9) (by decide +kernel) rfl rfl rfl (by decide +kernel)
set_option maxRecDepth 65536 in
theorem w_c11 : (Jvm.Cond.code ({ cls := "java/lang/StringUTF16", name := "coderFromArrayLen", desc := "([BI)B" } : Jvm.MethodName) jdk_52_method_15_code (2 : Nat) (Option.some Jvm.ClassFile.FieldType.byte)).before args0 about1 = true := code_word (m := ⟨9, 7⟩) (meth := k9m7) (c := k9c7) (by decide +kernel) rfl rfl rfl (by decide +kernel)
set_option maxRecDepth 65536 in
theorem w_c12 : (Jvm.Cond.code ({ cls := "com/example/firm_warden/firmwarden/HeaderFieldsIsTokenPinLaw", name := "tchar", desc := "(C)Z" } : Jvm.MethodName) method_3_code (1 : Nat) (Option.some Jvm.ClassFile.FieldType.boolean)).before args0 about1 = true := code_word (m := ⟨1, 2⟩) (meth := k1m2) (c := k1c2) (by decide +kernel) rfl rfl rfl (by decide +kernel)
set_option maxRecDepth 65536 in
theorem w_c13 : (Jvm.Cond.code ({ cls := "java/lang/String", name := "charAt", desc := "(I)C" } : Jvm.MethodName) jdk_42_method_56_code (2 : Nat) (Option.some Jvm.ClassFile.FieldType.char)).before args0 about1 = true := code_word (m := ⟨7, 4⟩) (meth := k7m4) (c := k7c4) (by decide +kernel) rfl rfl rfl (by decide +kernel)
set_option maxRecDepth 65536 in
theorem w_c14 : (Jvm.Cond.code ({ cls := "java/lang/String", name := "isLatin1", desc := "()Z" } : Jvm.MethodName) jdk_42_method_154_code (1 : Nat) (Option.some Jvm.ClassFile.FieldType.boolean)).before args0 about1 = true := code_word (m := ⟨7, 7⟩) (meth := k7m7) (c := k7c7) (by decide +kernel) rfl rfl rfl (by decide +kernel)
set_option maxRecDepth 65536 in
theorem w_c15 : (Jvm.Cond.code ({ cls := "java/lang/StringLatin1", name := "charAt", desc := "([BI)C" } : Jvm.MethodName) jdk_43_method_2_code (2 : Nat) (Option.some Jvm.ClassFile.FieldType.char)).before args0 about1 = true := code_word (m := ⟨10, 1⟩) (meth := k10m1) (c := k10c1) (by decide +kernel) rfl rfl rfl (by decide +kernel)
set_option maxRecDepth 65536 in
theorem w_c16 : (Jvm.Cond.code ({ cls := "java/lang/String", name := "checkIndex", desc := "(II)V" } : Jvm.MethodName) jdk_42_method_155_code (2 : Nat) (Option.none : Option Jvm.ClassFile.FieldType)).before args0 about1 = true := code_word (m := ⟨7, 8⟩) (meth := k7m8) (c := k7c8) (by decide +kernel) rfl rfl rfl (by decide +kernel)
set_option maxRecDepth 65536 in
theorem w_c17 : (Jvm.Cond.code ({ cls := "jdk/internal/util/Preconditions", name := "checkIndex", desc := "(IILjava/util/function/BiFunction;)I" } : Jvm.MethodName) jdk_41_method_11_code (3 : Nat) (Option.some Jvm.ClassFile.FieldType.int)).before args0 about1 = true := code_word (m := ⟨11, 1⟩) (meth := k11m1) (c := k11c1) (by decide +kernel) rfl rfl rfl (by decide +kernel)
set_option maxRecDepth 65536 in
theorem w_c18 : (Jvm.Cond.code ({ cls := "java/lang/StringUTF16", name := "toBytes", desc := "([CII)[B" } : Jvm.MethodName) jdk_52_method_14_code (5 : Nat) (Option.some (Jvm.ClassFile.FieldType.array Jvm.ClassFile.FieldType.byte))).before args0 about1 = true := code_word (m := ⟨9, 6⟩) (meth := k9m6) (c := k9c6) (by decide +kernel) rfl rfl rfl (by decide +kernel)
set_option maxRecDepth 65536 in
theorem w_c19 : (Jvm.Cond.code ({ cls := "java/lang/StringUTF16", name := "newBytesFor", desc := "(I)[B" } : Jvm.MethodName) jdk_52_method_2_code (1 : Nat) (Option.some (Jvm.ClassFile.FieldType.array Jvm.ClassFile.FieldType.byte))).before args0 about1 = true := code_word (m := ⟨9, 1⟩) (meth := k9m1) (c := k9c1) (by decide +kernel) rfl rfl rfl (by decide +kernel)
set_option maxRecDepth 65536 in
theorem w_c20 : (Jvm.Cond.code ({ cls := "java/lang/StringUTF16", name := "newBytesLength", desc := "(I)I" } : Jvm.MethodName) jdk_52_method_3_code (1 : Nat) (Option.some Jvm.ClassFile.FieldType.int)).before args0 about1 = true := code_word (m := ⟨9, 2⟩) (meth := k9m2) (c := k9c2) (by decide +kernel) rfl rfl rfl (by decide +kernel)
set_option maxRecDepth 65536 in
theorem w_c21 : (Jvm.Cond.code ({ cls := "java/lang/StringUTF16", name := "putChar", desc := "([BII)V" } : Jvm.MethodName) jdk_52_method_4_code (3 : Nat) (Option.none : Option Jvm.ClassFile.FieldType)).before args0 about1 = true := code_word (m := ⟨9, 3⟩) (meth := k9m3) (c := k9c3) (by decide +kernel) rfl rfl rfl (by decide +kernel)
set_option maxRecDepth 65536 in
theorem w_c22 : (Jvm.Cond.code ({ cls := "java/lang/StringUTF16", name := "getChar", desc := "([BI)C" } : Jvm.MethodName) jdk_52_method_5_code (2 : Nat) (Option.some Jvm.ClassFile.FieldType.char)).before args0 about1 = true := code_word (m := ⟨9, 4⟩) (meth := k9m4) (c := k9c4) (by decide +kernel) rfl rfl rfl (by decide +kernel)
set_option maxRecDepth 65536 in
theorem w_c23 : (Jvm.Cond.code ({ cls := "java/lang/StringUTF16", name := "charAt", desc := "([BI)C" } : Jvm.MethodName) jdk_52_method_83_code (2 : Nat) (Option.some Jvm.ClassFile.FieldType.char)).before args0 about1 = true := code_word (m := ⟨9, 10⟩) (meth := k9m10) (c := k9c10) (by decide +kernel) rfl rfl rfl (by decide +kernel)
set_option maxRecDepth 65536 in
theorem w_c24 : (Jvm.Cond.code ({ cls := "java/lang/StringUTF16", name := "checkIndex", desc := "(I[B)V" } : Jvm.MethodName) jdk_52_method_91_code (2 : Nat) (Option.none : Option Jvm.ClassFile.FieldType)).before args0 about1 = true := code_word (m := ⟨9, 11⟩) (meth := k9m11) (c := k9c11) (by decide +kernel) rfl rfl rfl (by decide +kernel)
set_option maxRecDepth 65536 in
theorem w_c25 : (Jvm.Cond.code ({ cls := "java/lang/StringUTF16", name := "length", desc := "([B)I" } : Jvm.MethodName) jdk_52_method_6_code (1 : Nat) (Option.some Jvm.ClassFile.FieldType.int)).before args0 about1 = true := code_word (m := ⟨9, 5⟩) (meth := k9m5) (c := k9c5) (by decide +kernel) rfl rfl rfl (by decide +kernel)
def codes1 : List Jvm.Cond := [Jvm.Cond.code x code maxLocals ret, Jvm.Cond.code ({ cls := "com/example/firm_warden/firmwarden/HeaderFieldsIsTokenPinLaw", name := "draw", desc := "(I)C" } : Jvm.MethodName) method_2_code (1 : Nat) (Option.some Jvm.ClassFile.FieldType.char), Jvm.Cond.code ({ cls := "java/lang/String", name := "<init>", desc := "([C)V" } : Jvm.MethodName) jdk_42_method_3_code (2 : Nat) (Option.none : Option Jvm.ClassFile.FieldType), Jvm.Cond.code ({ cls := "java/lang/String", name := "<init>", desc := "([CIILjava/lang/Void;)V" } : Jvm.MethodName) jdk_42_method_149_code (6 : Nat) (Option.none : Option Jvm.ClassFile.FieldType), Jvm.Cond.code ({ cls := "java/lang/Object", name := "<init>", desc := "()V" } : Jvm.MethodName) object_method_1_code (1 : Nat) (Option.none : Option Jvm.ClassFile.FieldType), Jvm.Cond.code ({ cls := "com/example/firm_warden/firmwarden/HeaderFields", name := "isToken", desc := "(Ljava/lang/String;)Z" } : Jvm.MethodName) prog_7_method_8_code (4 : Nat) (Option.some Jvm.ClassFile.FieldType.boolean), Jvm.Cond.code ({ cls := "java/lang/String", name := "isEmpty", desc := "()Z" } : Jvm.MethodName) jdk_42_method_55_code (1 : Nat) (Option.some Jvm.ClassFile.FieldType.boolean), Jvm.Cond.code ({ cls := "java/lang/String", name := "length", desc := "()I" } : Jvm.MethodName) jdk_42_method_54_code (1 : Nat) (Option.some Jvm.ClassFile.FieldType.int), Jvm.Cond.code ({ cls := "java/lang/String", name := "coder", desc := "()B" } : Jvm.MethodName) jdk_42_method_152_code (1 : Nat) (Option.some Jvm.ClassFile.FieldType.byte), Jvm.Cond.code ({ cls := "java/lang/StringUTF16", name := "compress", desc := "([CII)[B" } : Jvm.MethodName) jdk_52_method_16_code (6 : Nat) (Option.some (Jvm.ClassFile.FieldType.array Jvm.ClassFile.FieldType.byte)), Jvm.Cond.code ({ cls := "java/lang/StringUTF16", name := "compress", desc := "([CI[BII)I" } : Jvm.MethodName) jdk_52_method_21_code (7 : Nat) (Option.some Jvm.ClassFile.FieldType.int), Jvm.Cond.code ({ cls := "java/lang/StringUTF16", name := "coderFromArrayLen", desc := "([BI)B" } : Jvm.MethodName) jdk_52_method_15_code (2 : Nat) (Option.some Jvm.ClassFile.FieldType.byte), Jvm.Cond.code ({ cls := "com/example/firm_warden/firmwarden/HeaderFieldsIsTokenPinLaw", name := "tchar", desc := "(C)Z" } : Jvm.MethodName) method_3_code (1 : Nat) (Option.some Jvm.ClassFile.FieldType.boolean), Jvm.Cond.code ({ cls := "java/lang/String", name := "charAt", desc := "(I)C" } : Jvm.MethodName) jdk_42_method_56_code (2 : Nat) (Option.some Jvm.ClassFile.FieldType.char), Jvm.Cond.code ({ cls := "java/lang/String", name := "isLatin1", desc := "()Z" } : Jvm.MethodName) jdk_42_method_154_code (1 : Nat) (Option.some Jvm.ClassFile.FieldType.boolean), Jvm.Cond.code ({ cls := "java/lang/StringLatin1", name := "charAt", desc := "([BI)C" } : Jvm.MethodName) jdk_43_method_2_code (2 : Nat) (Option.some Jvm.ClassFile.FieldType.char), Jvm.Cond.code ({ cls := "java/lang/String", name := "checkIndex", desc := "(II)V" } : Jvm.MethodName) jdk_42_method_155_code (2 : Nat) (Option.none : Option Jvm.ClassFile.FieldType), Jvm.Cond.code ({ cls := "jdk/internal/util/Preconditions", name := "checkIndex", desc := "(IILjava/util/function/BiFunction;)I" } : Jvm.MethodName) jdk_41_method_11_code (3 : Nat) (Option.some Jvm.ClassFile.FieldType.int), Jvm.Cond.code ({ cls := "java/lang/StringUTF16", name := "toBytes", desc := "([CII)[B" } : Jvm.MethodName) jdk_52_method_14_code (5 : Nat) (Option.some (Jvm.ClassFile.FieldType.array Jvm.ClassFile.FieldType.byte)), Jvm.Cond.code ({ cls := "java/lang/StringUTF16", name := "newBytesFor", desc := "(I)[B" } : Jvm.MethodName) jdk_52_method_2_code (1 : Nat) (Option.some (Jvm.ClassFile.FieldType.array Jvm.ClassFile.FieldType.byte)), Jvm.Cond.code ({ cls := "java/lang/StringUTF16", name := "newBytesLength", desc := "(I)I" } : Jvm.MethodName) jdk_52_method_3_code (1 : Nat) (Option.some Jvm.ClassFile.FieldType.int), Jvm.Cond.code ({ cls := "java/lang/StringUTF16", name := "putChar", desc := "([BII)V" } : Jvm.MethodName) jdk_52_method_4_code (3 : Nat) (Option.none : Option Jvm.ClassFile.FieldType), Jvm.Cond.code ({ cls := "java/lang/StringUTF16", name := "getChar", desc := "([BI)C" } : Jvm.MethodName) jdk_52_method_5_code (2 : Nat) (Option.some Jvm.ClassFile.FieldType.char), Jvm.Cond.code ({ cls := "java/lang/StringUTF16", name := "charAt", desc := "([BI)C" } : Jvm.MethodName) jdk_52_method_83_code (2 : Nat) (Option.some Jvm.ClassFile.FieldType.char), Jvm.Cond.code ({ cls := "java/lang/StringUTF16", name := "checkIndex", desc := "(I[B)V" } : Jvm.MethodName) jdk_52_method_91_code (2 : Nat) (Option.none : Option Jvm.ClassFile.FieldType), Jvm.Cond.code ({ cls := "java/lang/StringUTF16", name := "length", desc := "([B)I" } : Jvm.MethodName) jdk_52_method_6_code (1 : Nat) (Option.some Jvm.ClassFile.FieldType.int)]
set_option maxRecDepth 65536 in
theorem codes_eq : words1.filter isCode = codes1 := rfl
theorem w_codes : ∀ c ∈ words1.filter isCode, c.before args0 about1 = true := by
  rw [codes_eq]
  intro c hc
  simp only [codes1, List.mem_cons, List.not_mem_nil, or_false] at hc
  rcases hc with rfl | rfl | rfl | rfl | rfl | rfl | rfl | rfl | rfl | rfl | rfl | rfl | rfl | rfl | rfl | rfl | rfl | rfl | rfl | rfl | rfl | rfl | rfl | rfl | rfl | rfl
  · exact w_c0
  · exact w_c1
  · exact w_c2
  · exact w_c3
  · exact w_c4
  · exact w_c5
  · exact w_c6
  · exact w_c7
  · exact w_c8
  · exact w_c9
  · exact w_c10
  · exact w_c11
  · exact w_c12
  · exact w_c13
  · exact w_c14
  · exact w_c15
  · exact w_c16
  · exact w_c17
  · exact w_c18
  · exact w_c19
  · exact w_c20
  · exact w_c21
  · exact w_c22
  · exact w_c23
  · exact w_c24
  · exact w_c25
set_option maxRecDepth 65536 in
theorem w_t1 : (words1.take 24).all (fun c => isCode c || c.before args0 about1) = true := by decide +kernel
set_option maxRecDepth 65536 in
theorem w_t2 : ((words1.drop 24).take 24).all (fun c => isCode c || c.before args0 about1) = true := by decide +kernel
set_option maxRecDepth 65536 in
theorem w_t3 : (((words1.drop 24).drop 24).take 24).all (fun c => isCode c || c.before args0 about1) = true := by decide +kernel
set_option maxRecDepth 65536 in
theorem w_t4 : ((((words1.drop 24).drop 24).drop 24).take 24).all (fun c => isCode c || c.before args0 about1) = true := by decide +kernel
set_option maxRecDepth 65536 in
theorem w_t5 : ((((words1.drop 24).drop 24).drop 24).drop 24).all (fun c => isCode c || c.before args0 about1) = true := by decide +kernel
theorem w_tables : (allAtoms (Jvm.Cond.code x code maxLocals ret :: tables_1)).before args0 about1 = true := by
  rw [allAtoms_all]
  show words1.all (fun c => c.before args0 about1) = true
  refine all_split ?_ w_codes
  rw [← List.take_append_drop 24 words1, List.all_append, w_t1, ← List.take_append_drop 24 (words1.drop 24), List.all_append, w_t2, ← List.take_append_drop 24 ((words1.drop 24).drop 24), List.all_append, w_t3, ← List.take_append_drop 24 (((words1.drop 24).drop 24).drop 24), List.all_append, w_t4, w_t5]
  rfl
set_option maxRecDepth 65536 in
theorem w_rest : rest_1_c.before args0 about1 = true := by decide +kernel
set_option maxRecDepth 65536 in
theorem w_case : (Jvm.Cond.and given_1 narrow_1).before args0 about1 = true := by decide +kernel
set_option maxRecDepth 65536 in
theorem w_consts : constsHeld consts_1 about1 := Jvm.Lit.constsHeldB_iff.mp (by decide +kernel)
theorem w_applies : (headSpec (Jvm.Cond.code x code maxLocals ret :: tables_1) room_1).applies x e0.platform about1 = true :=
  (Spec.applies_iff w_frames).mpr ⟨w_running, w_runnable, w_alone, w_named, w_hears, w_ripe, w_room, w_tables⟩
theorem atStart : AtStart classFile x code maxLocals ret World_1 tables_1 room_1 Calls_1 rest_1 Pre_1 launch0 p0 e0 about1 theMethod args0 below0 :=
  ⟨lists_1, trivial, launch0.admits_env _ _ _, launch0.least_env, fairChoices_fair.cas, fairChoices_fair.clock, w_frames, w_args, w_heap, w_applies, ⟨w_consts, trivial⟩, w_rest, w_case⟩
end start1
theorem witness_1 : WitnessClaimed_1 := ⟨start1.p0, start1.e0, start1.about1, start1.theMethod, start1.args0, start1.below0, start1.atStart⟩
end Jvm.Pilot.@@N@@
