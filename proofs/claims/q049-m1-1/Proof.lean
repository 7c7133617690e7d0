import JvmDerived
import JvmDerived.Pilot.@@N@@Statement
import JvmDerived.Pilot.@@N@@Code
set_option linter.unusedVariables false
set_option linter.unusedSimpArgs false
@@BLOCK:NumsL.lean.txt@@
namespace Jvm.RoadKit
open Sem ClassFile Op Lib Jvm.Stand Jvm.Free Jvm.LawKit
section New
variable {p : Program} {l : Launch} {e : Env} {R : Room} {s : State} {m : MethodId} {args : Array Value} {below : List Frame} {meth : Method} {c : Code} {T : State} {locs : List Loc} {cells slots : Nat}
theorem retI (X : Stand p l e R s m args below meth c T locs cells slots) (hx : p.tables.exec = Jvm.exec) {pc : Nat} {Ls : Array Slot} {z : Int32} {rest : List Value} (hret : meth.sig.returnType = some .int) (hd : decode c.code pc = .ok (.ireturn, 1)) {fs : List Frame}
    (hl : ∀ (f : JFrame) (acts : List Action), f.method = m → f.locked = none → f.entered = [] → (doReturn e (T.setTop f) acts (some (.int z))).1 = T.setFrames fs) : Steps p.tables e below (T.setTop (mkF m pc Ls (.int z :: rest))) (T.setFrames fs) := by
  have hm' : T.vm.method? m = some meth := X.method'
  have hn : narrow .int (.int z) = .int z := rfl
  show Steps p.tables e below (T.setTop { method := m, pc := pc, locals := Ls, stack := _ :: rest, locked := none }) _
  jvm_step X.here [X.here.top, hx, hd, hm', hret, hn]
  first | (intro acts; rw [hl _ acts rfl rfl rfl]) | rw [hl _ _ rfl rfl rfl]
  exact Steps.refl _
end New
end Jvm.RoadKit
namespace Jvm.Pilot.@@N@@
open Jvm Jvm.ClassFile Sem Op Lib Jvm.Free Jvm.Stand Jvm.LawKit Jvm.RoadKit Bundle Jvm.Pilot.@@N@@.Jvm.D

def own_A (Z : State) (h : Heap) (a : Addr) (ty : FieldType) (n : Nat) (f : Nat → Int32) : Prop := ∃ c : Cell, Arr Z h a c ty ∧ c.slots.size = n ∧ ∀ j, j < n → c.slots[j]? = some (.int (f j))
theorem own_A_new {Z : State} {h : Heap} {a : Addr} {k : ClassId} {ty : FieldType} {z : Int32} {n : Nat} (A : Arr Z h a (newA k ty z) ty) (hd : defaultValue ty = .int 0) (hn : z.toNatClampNeg = n) : own_A Z h a ty n (fun _ => 0) :=
  ⟨_, A, by rw [sz_new, hn], fun j hj => by simp [newA, hn, hd, hj]⟩
theorem own_A_set {Z : State} {h h' : Heap} {a : Addr} {ty : FieldType} {n i : Nat} {f : Nat → Int32} {v : Int32} (F : own_A Z h a ty n f) (W : Wr h h' a i (.int v)) : own_A Z h' a ty n (upd f i v) := by
  obtain ⟨c, A, S, H⟩ := F
  refine ⟨_, A.same W, by rw [sz_set, S], fun j hj => ?_⟩
  show (c.slots.setIfInBounds i (.int v))[j]? = _
  rw [Array.getElem?_setIfInBounds]
  by_cases e : i = j
  · subst e; rw [if_pos rfl, if_pos (by rw [S]; exact hj)]; simp [upd]
  · rw [if_neg e, H j hj]; simp [upd, Ne.symm e]
theorem own_A_ext {Z : State} {h h' : Heap} {a : Addr} {ty : FieldType} {n : Nat} {f : Nat → Int32} (F : own_A Z h a ty n f) (E : Ext h h') : own_A Z h' a ty n f := by
  obtain ⟨c, A, S, H⟩ := F; exact ⟨c, A.ext E, S, H⟩
theorem own_A_other {Z : State} {h h' : Heap} {a b : Addr} {ty : FieldType} {n sl : Nat} {f : Nat → Int32} {v : Value} (F : own_A Z h a ty n f) (W : Wr h h' b sl v) (q : a ≠ b) : own_A Z h' a ty n f := by
  obtain ⟨c, A, S, H⟩ := F; exact ⟨c, A.other W q, S, H⟩
theorem own_A_keep {Z : State} {h h' : Heap} {a : Addr} {ty : FieldType} {n : Nat} {f : Nat → Int32} {ws : List Addr} (F : own_A Z h a ty n f) (K : Keep h h' ws) (q : a ∉ ws) : own_A Z h' a ty n f := by
  obtain ⟨c, A, S, H⟩ := F; exact ⟨c, ⟨K.2.1 a c A.1 q, A.2⟩, S, H⟩
theorem own_A_lt {Z : State} {h : Heap} {a : Addr} {ty : FieldType} {n : Nat} {f : Nat → Int32} (F : own_A Z h a ty n f) : a < h.size := by obtain ⟨c, A, -⟩ := F; exact A.lt
theorem own_upd_same (f : Nat → Int32) (i : Nat) (v : Int32) : upd f i v i = v := by simp [upd]
theorem own_upd_ne (f : Nat → Int32) {i j : Nat} (v : Int32) (h : j ≠ i) : upd f i v j = f j := by simp [upd, h]
theorem own_toNat (y : Int32) (h : 0 ≤ y.toInt) : y = Int32.ofNat y.toInt.toNat := by
  have a := y.toInt_lt
  rw [← Int32.toInt_inj, toInt_of rfl (by omega)]
  omega
theorem own_mask (x m : Int32) {k : Nat} (hk : k < 32) (hm : m.toBitVec.toNat = 2 ^ k - 1) : ∃ n : Nat, x &&& m = Int32.ofNat n ∧ n < 2 ^ k := by
  have h := Jvm.Kit.i32_mask x m hk hm
  have hp : (0 : Int) < 2 ^ k := Int.pow_pos (by decide)
  have h1 := Int.emod_nonneg x.toInt (b := 2 ^ k) (by omega)
  have h2 := Int.emod_lt_of_pos x.toInt hp
  refine ⟨(x &&& m).toInt.toNat, own_toNat _ (by omega), ?_⟩
  have h3 : ((2 ^ k : Nat) : Int) = 2 ^ k := by simp
  omega
theorem own_lt {i n : Nat} (h : i < n) (hn : n < 2 ^ 31) : Int32.ofNat i < Int32.ofNat n := by
  rw [Int32.lt_iff_toInt_lt, toInt_of rfl (by omega : i < 2 ^ 31), toInt_of rfl hn]; omega
theorem own_nlt {i n : Nat} (h : n ≤ i) (hi : i < 2 ^ 31) : ¬ (Int32.ofNat i < Int32.ofNat n) := by
  rw [Int32.lt_iff_toInt_lt, toInt_of rfl hi, toInt_of rfl (by omega : n < 2 ^ 31)]; omega
theorem own_ne {i n : Nat} (h : i ≠ n) (hi : i < 2 ^ 31) (hn : n < 2 ^ 31) : ¬ (Int32.ofNat i = Int32.ofNat n) := by
  rw [← Int32.toInt_inj, toInt_of rfl hi, toInt_of rfl hn]; omega
theorem own_add (a b : Nat) : Int32.ofNat a + Int32.ofNat b = Int32.ofNat (a + b) := (Int32.ofNat_add a b).symm
theorem own_sub {a b : Nat} (h : b ≤ a) (ha : a < 2 ^ 31) : Int32.ofNat a - Int32.ofNat b = Int32.ofNat (a - b) := by
  rw [← Int32.toInt_inj, toInt_of rfl (by omega : a - b < 2 ^ 31)]
  have h1 : (Int32.ofNat a).toInt = a := toInt_of rfl ha
  have h2 : (Int32.ofNat b).toInt = b := toInt_of rfl (by omega)
  rw [Jvm.Kit.i32_sub (by omega) (by omega)]
  omega
theorem own_rem {a b : Nat} (ha : a < 2 ^ 31) (hb : b < 2 ^ 31) : Int32.ofNat a % Int32.ofNat b = Int32.ofNat (a % b) := by
  have h3 : a % b ≤ a := Nat.mod_le a b
  have h1 : (Int32.ofNat a).toInt = a := toInt_of rfl ha
  have h2 : (Int32.ofNat b).toInt = b := toInt_of rfl hb
  rw [← Int32.toInt_inj, toInt_of rfl (by omega : a % b < 2 ^ 31), Jvm.Kit.i32_rem_nonneg (by omega), h1, h2]
  omega

def own_hex (k : Nat) : Int32 := if k < 10 then Int32.ofNat (48 + k) else Int32.ofNat (87 + k)
def own_enc (b : Int32) : List Int32 :=
  if b = (34 : Int32) then [92, b] else if b = (92 : Int32) then [92, b] else if b = (10 : Int32) then [92, 110] else if b = (13 : Int32) then [92, 114] else if b = (9 : Int32) then [92, 116] else
  if b < (0 : Int32) then [b] else if b < (32 : Int32) then [92, 117, 48, 48, own_hex (b.toInt.toNat / 16), own_hex (b.toInt.toNat % 16)] else [b]
def own_wr (f : Nat → Int32) : Nat → List Int32 → Nat → Int32
  | _, [] => f
  | q, x :: l => own_wr (upd f q x) (q + 1) l
def own_encs (g : Nat → Int32) : Nat → List Int32
  | 0 => []
  | n + 1 => own_encs g n ++ own_enc (g n)
theorem own_wr_app (f : Nat → Int32) (q : Nat) (l l' : List Int32) : own_wr f q (l ++ l') = own_wr (own_wr f q l) (q + l.length) l' := by
  induction l generalizing f q with
  | nil => rfl
  | cons x l ih =>
    show own_wr (upd f q x) (q + 1) (l ++ l') = own_wr (own_wr (upd f q x) (q + 1) l) (q + (l.length + 1)) l'
    rw [ih, show q + 1 + l.length = q + (l.length + 1) by omega]
theorem own_wr_lt (f : Nat → Int32) (q : Nat) (l : List Int32) (j : Nat) (h : j < q) : own_wr f q l j = f j := by
  induction l generalizing f q with
  | nil => rfl
  | cons x l ih =>
    show own_wr (upd f q x) (q + 1) l j = f j
    rw [ih _ _ (by omega), own_upd_ne _ _ (by omega)]
theorem own_wr_ge (f : Nat → Int32) (q : Nat) (l : List Int32) (j : Nat) (h : q + l.length ≤ j) : own_wr f q l j = f j := by
  induction l generalizing f q with
  | nil => rfl
  | cons x l ih =>
    have h' : q + (l.length + 1) ≤ j := h
    show own_wr (upd f q x) (q + 1) l j = f j
    rw [ih _ _ (by omega), own_upd_ne _ _ (by omega)]
theorem own_wr_in (f : Nat → Int32) (q : Nat) (l : List Int32) (j : Nat) (h : j < l.length) : own_wr f q l (q + j) = l.getD j 0 := by
  induction l generalizing f q j with
  | nil => exact absurd h (Nat.not_lt_zero _)
  | cons x l ih =>
    show own_wr (upd f q x) (q + 1) l (q + j) = _
    cases j with
    | zero => rw [own_wr_lt _ _ _ _ (by omega)]; exact own_upd_same f q x
    | succ j =>
      have h' : j < l.length := Nat.lt_of_succ_lt_succ h
      rw [show q + (j + 1) = q + 1 + j by omega, ih _ _ _ h']; rfl
theorem own_wr_mid (f : Nat → Int32) (q : Nat) {E A B C : List Int32} (hE : E = A ++ B ++ C) (j : Nat) (h : j < B.length) : own_wr f q E (q + A.length + j) = B.getD j 0 := by
  subst hE
  rw [List.append_assoc, own_wr_app, own_wr_app, own_wr_lt _ _ _ _ (by omega), own_wr_in _ _ _ _ h]
theorem own_enc_len (b : Int32) : 1 ≤ (own_enc b).length ∧ (own_enc b).length ≤ 6 := by
  unfold own_enc
  repeat' split
  all_goals exact ⟨by simp, by simp⟩
theorem own_encs_len (g : Nat → Int32) (n : Nat) : (own_encs g n).length ≤ 6 * n := by
  induction n with
  | zero => exact Nat.le_refl _
  | succ n ih =>
    have h := (own_enc_len (g n)).2
    show (own_encs g n ++ own_enc (g n)).length ≤ _
    rw [List.length_append]; omega
theorem own_Sta_keep2 {Z : State} {h h' : Heap} {C n d : String} {v : Value} {a : Addr} {ty : FieldType} {N : Nat} {f : Nat → Int32} (F : Sta Z h C n d v) (K : Keep h h' [a]) (A : own_A Z h a ty N f) : Sta Z h' C n d v := by
  obtain ⟨cf, i, k, f, st, cell, h1, h2, h3, h4, h5, h6, h7⟩ := F
  obtain ⟨c, Ar, -⟩ := A
  have ne : st ≠ a := fun q => by
    subst q
    cases h5.symm.trans Ar.1
    rw [Ar.plain] at h6; cases h6
  exact ⟨cf, i, k, f, st, cell, h1, h2, h3, h4, K.2.1 st cell h5 (ninS ne nin0), h6, h7⟩
theorem own_nneg {n : Nat} (h : n < 2 ^ 31) : ¬ (Int32.ofNat n < (0 : Int32)) := by
  rw [Int32.lt_iff_toInt_lt, toInt_of rfl h]
  have h0 : (0 : Int32).toInt = 0 := by decide
  omega
theorem own_hexb : ∀ k, k < 16 → nar .byte (own_hex k) = own_hex k := by decide
theorem own_small32 {b : Int32} (h1 : ¬ (b < (0 : Int32))) (h2 : b < (32 : Int32)) : ∃ B : Nat, b = Int32.ofNat B ∧ B < 32 ∧ b.toInt.toNat = B := by
  rw [Int32.lt_iff_toInt_lt] at h1 h2
  have k0 : (0 : Int32).toInt = 0 := by decide
  have k1 : (32 : Int32).toInt = 32 := by decide
  exact ⟨b.toInt.toNat, own_toNat b (by omega), by omega, rfl⟩
theorem own_nums : ∀ B, B < 32 → (Int32.ofNat B >>> ((4 : Int32) &&& 31)) = Int32.ofNat (B / 16) ∧ (Int32.ofNat B &&& (15 : Int32)) = Int32.ofNat (B % 16) ∧ own_hex (B / 16) = (48 : Int32) + (Int32.ofNat B / (16 : Int32)) ∧
    own_hex (B % 16) = (if (Int32.ofNat B % (16 : Int32)) < (10 : Int32) then ((48 : Int32) + (Int32.ofNat B % (16 : Int32))) else (((97 : Int32) + (Int32.ofNat B % (16 : Int32))) - (10 : Int32))) := by decide

theorem own_os28 {z0 z1 z2 z3 z4 z5 : Value} {s6 : Slot} {v : Int32} (h : One s6) : storeLocals #[.val z0, .val z1, .val z2, .val z3, .val z4, .val z5, s6] 6 (.int v) = some #[.val z0, .val z1, .val z2, .val z3, .val z4, .val z5, .val (.int v)] := by
  rcases h with rfl | ⟨w, rfl, hw⟩
  · rfl
  · cases w <;> first | rfl | (simp [Value.category] at hw)
theorem d1_17 : decode prog_156_method_36_code 17 = .ok (.iload 5, 2) := by decide +kernel
theorem d1_19 : decode prog_156_method_36_code 19 = .ok (.iload 4, 2) := by decide +kernel
theorem d1_21 : decode prog_156_method_36_code 21 = .ok (.if_icmp .ge 197, 3) := by decide +kernel
theorem d1_24 : decode prog_156_method_36_code 24 = .ok (.aload_n 3, 1) := by decide +kernel
theorem d1_25 : decode prog_156_method_36_code 25 = .ok (.iload 5, 2) := by decide +kernel
theorem d1_27 : decode prog_156_method_36_code 27 = .ok (.baload, 1) := by decide +kernel
theorem d1_28 : decode prog_156_method_36_code 28 = .ok (.istore 6, 2) := by decide +kernel
theorem d1_30 : decode prog_156_method_36_code 30 = .ok (.iload 6, 2) := by decide +kernel
theorem d1_32 : decode prog_156_method_36_code 32 = .ok (.bipush 34, 2) := by decide +kernel
theorem d1_34 : decode prog_156_method_36_code 34 = .ok (.if_icmp .eq 10, 3) := by decide +kernel
theorem d1_44 : decode prog_156_method_36_code 44 = .ok (.aload_n 1, 1) := by decide +kernel
theorem d1_45 : decode prog_156_method_36_code 45 = .ok (.iload_n 2, 1) := by decide +kernel
theorem d1_46 : decode prog_156_method_36_code 46 = .ok (.iinc 2 1, 3) := by decide +kernel
theorem d1_49 : decode prog_156_method_36_code 49 = .ok (.bipush 92, 2) := by decide +kernel
theorem d1_51 : decode prog_156_method_36_code 51 = .ok (.bastore, 1) := by decide +kernel
theorem d1_52 : decode prog_156_method_36_code 52 = .ok (.aload_n 1, 1) := by decide +kernel
theorem d1_53 : decode prog_156_method_36_code 53 = .ok (.iload_n 2, 1) := by decide +kernel
theorem d1_54 : decode prog_156_method_36_code 54 = .ok (.iinc 2 1, 3) := by decide +kernel
theorem d1_57 : decode prog_156_method_36_code 57 = .ok (.iload 6, 2) := by decide +kernel
theorem d1_59 : decode prog_156_method_36_code 59 = .ok (.bastore, 1) := by decide +kernel
theorem d1_60 : decode prog_156_method_36_code 60 = .ok (.goto 152, 3) := by decide +kernel
theorem d1_212 : decode prog_156_method_36_code 212 = .ok (.iinc 5 1, 3) := by decide +kernel
theorem d1_215 : decode prog_156_method_36_code 215 = .ok (.goto (-198), 3) := by decide +kernel
theorem d1_37 : decode prog_156_method_36_code 37 = .ok (.iload 6, 2) := by decide +kernel
theorem d1_39 : decode prog_156_method_36_code 39 = .ok (.bipush 92, 2) := by decide +kernel
theorem d1_41 : decode prog_156_method_36_code 41 = .ok (.if_icmp .ne 22, 3) := by decide +kernel
theorem d1_63 : decode prog_156_method_36_code 63 = .ok (.iload 6, 2) := by decide +kernel
theorem d1_65 : decode prog_156_method_36_code 65 = .ok (.bipush 10, 2) := by decide +kernel
theorem d1_67 : decode prog_156_method_36_code 67 = .ok (.if_icmp .eq 17, 3) := by decide +kernel
theorem d1_84 : decode prog_156_method_36_code 84 = .ok (.aload_n 1, 1) := by decide +kernel
theorem d1_85 : decode prog_156_method_36_code 85 = .ok (.iload_n 2, 1) := by decide +kernel
theorem d1_86 : decode prog_156_method_36_code 86 = .ok (.iinc 2 1, 3) := by decide +kernel
theorem d1_89 : decode prog_156_method_36_code 89 = .ok (.bipush 92, 2) := by decide +kernel
theorem d1_91 : decode prog_156_method_36_code 91 = .ok (.bastore, 1) := by decide +kernel
theorem d1_92 : decode prog_156_method_36_code 92 = .ok (.aload_n 1, 1) := by decide +kernel
theorem d1_93 : decode prog_156_method_36_code 93 = .ok (.iload_n 2, 1) := by decide +kernel
theorem d1_94 : decode prog_156_method_36_code 94 = .ok (.iinc 2 1, 3) := by decide +kernel
theorem d1_97 : decode prog_156_method_36_code 97 = .ok (.iload 6, 2) := by decide +kernel
theorem d1_99 : decode prog_156_method_36_code 99 = .ok (.bipush 10, 2) := by decide +kernel
theorem d1_101 : decode prog_156_method_36_code 101 = .ok (.if_icmp .ne 8, 3) := by decide +kernel
theorem d1_104 : decode prog_156_method_36_code 104 = .ok (.bipush 110, 2) := by decide +kernel
theorem d1_106 : decode prog_156_method_36_code 106 = .ok (.goto 17, 3) := by decide +kernel
theorem d1_123 : decode prog_156_method_36_code 123 = .ok (.i2b, 1) := by decide +kernel
theorem d1_124 : decode prog_156_method_36_code 124 = .ok (.bastore, 1) := by decide +kernel
theorem d1_125 : decode prog_156_method_36_code 125 = .ok (.goto 87, 3) := by decide +kernel
theorem d1_70 : decode prog_156_method_36_code 70 = .ok (.iload 6, 2) := by decide +kernel
theorem d1_72 : decode prog_156_method_36_code 72 = .ok (.bipush 13, 2) := by decide +kernel
theorem d1_74 : decode prog_156_method_36_code 74 = .ok (.if_icmp .eq 10, 3) := by decide +kernel
theorem d1_109 : decode prog_156_method_36_code 109 = .ok (.iload 6, 2) := by decide +kernel
theorem d1_111 : decode prog_156_method_36_code 111 = .ok (.bipush 13, 2) := by decide +kernel
theorem d1_113 : decode prog_156_method_36_code 113 = .ok (.if_icmp .ne 8, 3) := by decide +kernel
theorem d1_116 : decode prog_156_method_36_code 116 = .ok (.bipush 114, 2) := by decide +kernel
theorem d1_118 : decode prog_156_method_36_code 118 = .ok (.goto 5, 3) := by decide +kernel
theorem d1_77 : decode prog_156_method_36_code 77 = .ok (.iload 6, 2) := by decide +kernel
theorem d1_79 : decode prog_156_method_36_code 79 = .ok (.bipush 9, 2) := by decide +kernel
theorem d1_81 : decode prog_156_method_36_code 81 = .ok (.if_icmp .ne 47, 3) := by decide +kernel
theorem d1_121 : decode prog_156_method_36_code 121 = .ok (.bipush 116, 2) := by decide +kernel
theorem d1_128 : decode prog_156_method_36_code 128 = .ok (.iload 6, 2) := by decide +kernel
theorem d1_130 : decode prog_156_method_36_code 130 = .ok (.ifCond .lt 74, 3) := by decide +kernel
theorem d1_204 : decode prog_156_method_36_code 204 = .ok (.aload_n 1, 1) := by decide +kernel
theorem d1_205 : decode prog_156_method_36_code 205 = .ok (.iload_n 2, 1) := by decide +kernel
theorem d1_206 : decode prog_156_method_36_code 206 = .ok (.iinc 2 1, 3) := by decide +kernel
theorem d1_209 : decode prog_156_method_36_code 209 = .ok (.iload 6, 2) := by decide +kernel
theorem d1_211 : decode prog_156_method_36_code 211 = .ok (.bastore, 1) := by decide +kernel
theorem d1_133 : decode prog_156_method_36_code 133 = .ok (.iload 6, 2) := by decide +kernel
theorem d1_135 : decode prog_156_method_36_code 135 = .ok (.bipush 32, 2) := by decide +kernel
theorem d1_137 : decode prog_156_method_36_code 137 = .ok (.if_icmp .ge 67, 3) := by decide +kernel
theorem d1_140 : decode prog_156_method_36_code 140 = .ok (.aload_n 1, 1) := by decide +kernel
theorem d1_141 : decode prog_156_method_36_code 141 = .ok (.iload_n 2, 1) := by decide +kernel
theorem d1_142 : decode prog_156_method_36_code 142 = .ok (.iinc 2 1, 3) := by decide +kernel
theorem d1_145 : decode prog_156_method_36_code 145 = .ok (.bipush 92, 2) := by decide +kernel
theorem d1_147 : decode prog_156_method_36_code 147 = .ok (.bastore, 1) := by decide +kernel
theorem d1_148 : decode prog_156_method_36_code 148 = .ok (.aload_n 1, 1) := by decide +kernel
theorem d1_149 : decode prog_156_method_36_code 149 = .ok (.iload_n 2, 1) := by decide +kernel
theorem d1_150 : decode prog_156_method_36_code 150 = .ok (.iinc 2 1, 3) := by decide +kernel
theorem d1_153 : decode prog_156_method_36_code 153 = .ok (.bipush 117, 2) := by decide +kernel
theorem d1_155 : decode prog_156_method_36_code 155 = .ok (.bastore, 1) := by decide +kernel
theorem d1_156 : decode prog_156_method_36_code 156 = .ok (.aload_n 1, 1) := by decide +kernel
theorem d1_157 : decode prog_156_method_36_code 157 = .ok (.iload_n 2, 1) := by decide +kernel
theorem d1_158 : decode prog_156_method_36_code 158 = .ok (.iinc 2 1, 3) := by decide +kernel
theorem d1_161 : decode prog_156_method_36_code 161 = .ok (.bipush 48, 2) := by decide +kernel
theorem d1_163 : decode prog_156_method_36_code 163 = .ok (.bastore, 1) := by decide +kernel
theorem d1_164 : decode prog_156_method_36_code 164 = .ok (.aload_n 1, 1) := by decide +kernel
theorem d1_165 : decode prog_156_method_36_code 165 = .ok (.iload_n 2, 1) := by decide +kernel
theorem d1_166 : decode prog_156_method_36_code 166 = .ok (.iinc 2 1, 3) := by decide +kernel
theorem d1_169 : decode prog_156_method_36_code 169 = .ok (.bipush 48, 2) := by decide +kernel
theorem d1_171 : decode prog_156_method_36_code 171 = .ok (.bastore, 1) := by decide +kernel
theorem d1_172 : decode prog_156_method_36_code 172 = .ok (.aload_n 1, 1) := by decide +kernel
theorem d1_173 : decode prog_156_method_36_code 173 = .ok (.iload_n 2, 1) := by decide +kernel
theorem d1_174 : decode prog_156_method_36_code 174 = .ok (.iinc 2 1, 3) := by decide +kernel
theorem d1_177 : decode prog_156_method_36_code 177 = .ok (.getstatic 340, 3) := by decide +kernel
theorem d1_180 : decode prog_156_method_36_code 180 = .ok (.iload 6, 2) := by decide +kernel
theorem d1_182 : decode prog_156_method_36_code 182 = .ok (.iconst 4, 1) := by decide +kernel
theorem d1_183 : decode prog_156_method_36_code 183 = .ok (.ishr, 1) := by decide +kernel
theorem d1_184 : decode prog_156_method_36_code 184 = .ok (.baload, 1) := by decide +kernel
theorem d1_185 : decode prog_156_method_36_code 185 = .ok (.bastore, 1) := by decide +kernel
theorem d1_186 : decode prog_156_method_36_code 186 = .ok (.aload_n 1, 1) := by decide +kernel
theorem d1_187 : decode prog_156_method_36_code 187 = .ok (.iload_n 2, 1) := by decide +kernel
theorem d1_188 : decode prog_156_method_36_code 188 = .ok (.iinc 2 1, 3) := by decide +kernel
theorem d1_191 : decode prog_156_method_36_code 191 = .ok (.getstatic 340, 3) := by decide +kernel
theorem d1_194 : decode prog_156_method_36_code 194 = .ok (.iload 6, 2) := by decide +kernel
theorem d1_196 : decode prog_156_method_36_code 196 = .ok (.bipush 15, 2) := by decide +kernel
theorem d1_198 : decode prog_156_method_36_code 198 = .ok (.iand, 1) := by decide +kernel
theorem d1_199 : decode prog_156_method_36_code 199 = .ok (.baload, 1) := by decide +kernel
theorem d1_200 : decode prog_156_method_36_code 200 = .ok (.bastore, 1) := by decide +kernel
theorem d1_201 : decode prog_156_method_36_code 201 = .ok (.goto 11, 3) := by decide +kernel
set_option maxRecDepth 65536 in
set_option maxHeartbeats 40000000 in
theorem own_turn {p : Program} {l : Launch} {e : Env} {R : Room} {s : State} {m : MethodId} {args : Array Value} {below : List Frame} {meth : Method} {c : Code} {T0 : State} {locs : List Loc} {cells slots : Nat} {Z : State} {a0 : Array Value} {h0 : Heap} {n0 : Nat} (a1 a2 hxa : Addr) (q n i N : Nat) (f g : Nat → Int32) (s6 : Slot)
    (X0 : Stand p l e R s m args below meth c T0 locs cells slots) (hx : p.tables.exec = Jvm.exec) (hZ : Z.Warmed39 s.vm) (hw : ∀ d ∈ tables_1, d.before a0 Z = true) (hby : c.code = prog_156_method_36_code) (hml : c.maxLocals = 7) (hown : s.vm.findClass "com/example/windrow/windrow/cli/Json" = some m.cls) (e0 : T0.heap = h0) (N0 : Fr n0 locs) (Z0 : n0 ≤ h0.size) (hs6 : One s6) (A1 : own_A Z h0 a1 .byte n g) (A2 : own_A Z h0 a2 .byte N f) (SH : Sta Z h0 "com/example/windrow/windrow/cli/Json" "HEX_DIGITS" "[B" (.ref hxa)) (AH : own_A Z h0 hxa .byte 16 own_hex) (neH : hxa ≠ a2) (g2 : n0 ≤ a2) (hi : i < n) (hn : n < 2 ^ 31) (hN : N < 2 ^ 31) (hq : q + 6 ≤ N) (hbyte : nar .byte (g i) = g i) :
    ∃ (T' : State) (h' : Heap) (locs' : List Loc), Stand p l e R s m args below meth c T' locs' cells slots ∧ T'.heap = h' ∧ Fr n0 locs' ∧ Keep h0 h' [a2] ∧ own_A Z h' a2 .byte N (own_wr f q (own_enc (g i))) ∧
      ∀ t, Steps p.tables e below (T'.setTop (mkF m 17 #[.val (.ref a1), .val (.ref a2), .val (.int (Int32.ofNat (q + (own_enc (g i)).length))), .val (.ref a1), .val (.int (Int32.ofNat n)), .val (.int (Int32.ofNat (i + 1))), .val (.int (g i))] [])) t → Steps p.tables e below (T0.setTop (mkF m 17 #[.val (.ref a1), .val (.ref a2), .val (.int (Int32.ofNat q)), .val (.ref a1), .val (.int (Int32.ofNat n)), .val (.int (Int32.ofNat i)), s6] [])) t := by
  have pre0 : ∀ t, Steps p.tables e below (T0.setTop (mkF m 17 #[.val (.ref a1), .val (.ref a2), .val (.int (Int32.ofNat q)), .val (.ref a1), .val (.int (Int32.ofNat n)), .val (.int (Int32.ofNat i)), s6] [])) t → Steps p.tables e below (T0.setTop (mkF m 17 #[.val (.ref a1), .val (.ref a2), .val (.int (Int32.ofNat q)), .val (.ref a1), .val (.int (Int32.ofNat n)), .val (.int (Int32.ofNat i)), s6] [])) t := fun t k => k
  have pre1 : ∀ t, Steps p.tables e below (T0.setTop (mkF m 27 #[.val (.ref a1), .val (.ref a2), .val (.int (Int32.ofNat q)), .val (.ref a1), .val (.int (Int32.ofNat n)), .val (.int (Int32.ofNat i)), s6] [(.int (Int32.ofNat i)), (.ref a1)])) t → Steps p.tables e below _ t := fun t kt => pre0 t (by
    show Steps p.tables e below (T0.setTop (mkF m 17 #[.val (.ref a1), .val (.ref a2), .val (.int (Int32.ofNat q)), .val (.ref a1), .val (.int (Int32.ofNat n)), .val (.int (Int32.ofNat i)), s6] [])) _
    refine XS.iload X0.here hx rfl (hb hby d1_17) rfl ?_
    show Steps p.tables e below (T0.setTop (mkF m 19 #[.val (.ref a1), .val (.ref a2), .val (.int (Int32.ofNat q)), .val (.ref a1), .val (.int (Int32.ofNat n)), .val (.int (Int32.ofNat i)), s6] [(.int (Int32.ofNat i))])) _
    refine XS.iload X0.here hx rfl (hb hby d1_19) rfl ?_
    have hc21 : (Int32.ofNat i) < (Int32.ofNat n) := own_lt hi (by omega)
    show Steps p.tables e below (T0.setTop (mkF m 21 #[.val (.ref a1), .val (.ref a2), .val (.int (Int32.ofNat q)), .val (.ref a1), .val (.int (Int32.ofNat n)), .val (.int (Int32.ofNat i)), s6] [(.int (Int32.ofNat n)), (.int (Int32.ofNat i))])) _
    refine XS.icmpNo X0.here hx rfl (hb hby d1_21) rfl (tlt hc21).2.1 ?_
    show Steps p.tables e below (T0.setTop (mkF m 24 #[.val (.ref a1), .val (.ref a2), .val (.int (Int32.ofNat q)), .val (.ref a1), .val (.int (Int32.ofNat n)), .val (.int (Int32.ofNat i)), s6] [])) _
    refine XS.aloadN X0.here hx rfl (hb hby d1_24) rfl rfl ?_
    show Steps p.tables e below (T0.setTop (mkF m 25 #[.val (.ref a1), .val (.ref a2), .val (.int (Int32.ofNat q)), .val (.ref a1), .val (.int (Int32.ofNat n)), .val (.int (Int32.ofNat i)), s6] [(.ref a1)])) _
    refine XS.iload X0.here hx rfl (hb hby d1_25) rfl ?_
    exact kt)
  obtain ⟨clT, ArT, SzT, HfT⟩ := id A1
  have pre2 : ∀ t, Steps p.tables e below (T0.setTop (mkF m 34 #[.val (.ref a1), .val (.ref a2), .val (.int (Int32.ofNat q)), .val (.ref a1), .val (.int (Int32.ofNat n)), .val (.int (Int32.ofNat i)), .val (.int (g i))] [(.int (34 : Int32)), (.int (g i))])) t → Steps p.tables e below _ t := fun t kt => pre1 t (by
    show Steps p.tables e below (T0.setTop (mkF m 27 #[.val (.ref a1), .val (.ref a2), .val (.int (Int32.ofNat q)), .val (.ref a1), .val (.int (Int32.ofNat n)), .val (.int (Int32.ofNat i)), s6] [(.int (Int32.ofNat i)), (.ref a1)])) _
    refine X0.baloadBytes hx (j := (Int32.ofNat i)) (v := (.int (g i))) (by rw [e0]; exact ArT.1) (State.isArrayOf_alike hZ.alike ArT.2.1) ArT.2.2 (within (c := i) rfl (by omega) (by omega)) (by rw [clamp_of (c := i) rfl (by omega)]; exact HfT _ hi) (g := (mkF m 27 #[.val (.ref a1), .val (.ref a2), .val (.int (Int32.ofNat q)), .val (.ref a1), .val (.int (Int32.ofNat n)), .val (.int (Int32.ofNat i)), s6] [(.int (Int32.ofNat i)), (.ref a1)])) rfl rfl (hb hby d1_27) _ ?_
    show Steps p.tables e below (T0.setTop (mkF m 28 #[.val (.ref a1), .val (.ref a2), .val (.int (Int32.ofNat q)), .val (.ref a1), .val (.int (Int32.ofNat n)), .val (.int (Int32.ofNat i)), s6] [(.int (g i))])) _
    refine XS.istore X0.here hx rfl (hb hby d1_28) rfl (l' := #[.val (.ref a1), .val (.ref a2), .val (.int (Int32.ofNat q)), .val (.ref a1), .val (.int (Int32.ofNat n)), .val (.int (Int32.ofNat i)), .val (.int (g i))]) (own_os28 hs6) ?_
    show Steps p.tables e below (T0.setTop (mkF m 30 #[.val (.ref a1), .val (.ref a2), .val (.int (Int32.ofNat q)), .val (.ref a1), .val (.int (Int32.ofNat n)), .val (.int (Int32.ofNat i)), .val (.int (g i))] [])) _
    refine XS.iload X0.here hx rfl (hb hby d1_30) rfl ?_
    show Steps p.tables e below (T0.setTop (mkF m 32 #[.val (.ref a1), .val (.ref a2), .val (.int (Int32.ofNat q)), .val (.ref a1), .val (.int (Int32.ofNat n)), .val (.int (Int32.ofNat i)), .val (.int (g i))] [(.int (g i))])) _
    refine XS.bipush X0.here hx rfl (hb hby d1_32) ?_
    exact kt)
  by_cases hc34 : (g i) = (34 : Int32)
  · have pre3 : ∀ t, Steps p.tables e below (T0.setTop (mkF m 49 #[.val (.ref a1), .val (.ref a2), .val (.int ((Int32.ofNat q) + (1 : Int32))), .val (.ref a1), .val (.int (Int32.ofNat n)), .val (.int (Int32.ofNat i)), .val (.int (g i))] [(.int (Int32.ofNat q)), (.ref a2)])) t → Steps p.tables e below _ t := fun t kt => pre2 t (by
      show Steps p.tables e below (T0.setTop (mkF m 34 #[.val (.ref a1), .val (.ref a2), .val (.int (Int32.ofNat q)), .val (.ref a1), .val (.int (Int32.ofNat n)), .val (.int (Int32.ofNat i)), .val (.int (g i))] [(.int (34 : Int32)), (.int (g i))])) _
      refine XS.icmpYes X0.here hx rfl (pc0 := 34) (pc' := 44) rfl (hb hby d1_34) rfl (teq hc34).1 (by decide) (by decide) ?_
      show Steps p.tables e below (T0.setTop (mkF m 44 #[.val (.ref a1), .val (.ref a2), .val (.int (Int32.ofNat q)), .val (.ref a1), .val (.int (Int32.ofNat n)), .val (.int (Int32.ofNat i)), .val (.int (g i))] [])) _
      refine XS.aloadN X0.here hx rfl (hb hby d1_44) rfl rfl ?_
      show Steps p.tables e below (T0.setTop (mkF m 45 #[.val (.ref a1), .val (.ref a2), .val (.int (Int32.ofNat q)), .val (.ref a1), .val (.int (Int32.ofNat n)), .val (.int (Int32.ofNat i)), .val (.int (g i))] [(.ref a2)])) _
      refine XS.iloadN X0.here hx rfl (hb hby d1_45) rfl ?_
      show Steps p.tables e below (T0.setTop (mkF m 46 #[.val (.ref a1), .val (.ref a2), .val (.int (Int32.ofNat q)), .val (.ref a1), .val (.int (Int32.ofNat n)), .val (.int (Int32.ofNat i)), .val (.int (g i))] [(.int (Int32.ofNat q)), (.ref a2)])) _
      refine XS.iinc X0.here hx rfl (hb hby d1_46) rfl (l' := #[.val (.ref a1), .val (.ref a2), .val (.int ((Int32.ofNat q) + (1 : Int32))), .val (.ref a1), .val (.int (Int32.ofNat n)), .val (.int (Int32.ofNat i)), .val (.int (g i))]) rfl ?_
      exact kt)
    have hv4 : ((Int32.ofNat q) + (1 : Int32)) = (Int32.ofNat (q + 1)) := (inc_ofNat q).symm
    rw [hv4] at pre3
    have pre5 : ∀ t, Steps p.tables e below (T0.setTop (mkF m 51 #[.val (.ref a1), .val (.ref a2), .val (.int (Int32.ofNat (q + 1))), .val (.ref a1), .val (.int (Int32.ofNat n)), .val (.int (Int32.ofNat i)), .val (.int (g i))] [(.int (92 : Int32)), (.int (Int32.ofNat q)), (.ref a2)])) t → Steps p.tables e below _ t := fun t kt => pre3 t (by
      show Steps p.tables e below (T0.setTop (mkF m 49 #[.val (.ref a1), .val (.ref a2), .val (.int (Int32.ofNat (q + 1))), .val (.ref a1), .val (.int (Int32.ofNat n)), .val (.int (Int32.ofNat i)), .val (.int (g i))] [(.int (Int32.ofNat q)), (.ref a2)])) _
      refine XS.bipush X0.here hx rfl (hb hby d1_49) ?_
      exact kt)
    obtain ⟨cl_6, Ar_6, Sz_6, Hf_6⟩ := id A2
    obtain ⟨T7, h7, X7, e7, W7, st7⟩ := stB X0 hx hZ e0 Ar_6 (j := (Int32.ofNat q)) (within (c := q) rfl (by omega) (by omega)) (g := (mkF m 51 #[.val (.ref a1), .val (.ref a2), .val (.int (Int32.ofNat (q + 1))), .val (.ref a1), .val (.int (Int32.ofNat n)), .val (.int (Int32.ofNat i)), .val (.int (g i))] [(.int (92 : Int32)), (.int (Int32.ofNat q)), (.ref a2)])) rfl rfl (hb hby d1_51)
    have N7 := Fr.snoc X7 N0 g2
    have Zs7 : n0 ≤ h7.size := Nat.le_trans Z0 (Nat.le_of_eq W7.size.symm)
    have Kp7 : Keep h0 h7 [a2] := (Keep.refl h0 [a2]).wr W7 (Or.inl (List.mem_of_getElem? (i := 0) rfl))
    have V7 : Wr h0 h7 a2 q (.int (92 : Int32)) := by have z := W7; rw [clamp_of (c := q) rfl (by omega)] at z; exact z
    have F7 := own_A_set A2 V7
    have pre8 : ∀ t, Steps p.tables e below (T7.setTop (mkF m 57 #[.val (.ref a1), .val (.ref a2), .val (.int ((Int32.ofNat (q + 1)) + (1 : Int32))), .val (.ref a1), .val (.int (Int32.ofNat n)), .val (.int (Int32.ofNat i)), .val (.int (g i))] [(.int (Int32.ofNat (q + 1))), (.ref a2)])) t → Steps p.tables e below _ t := fun t kt => pre5 t (by
      show Steps p.tables e below (T0.setTop (mkF m 51 #[.val (.ref a1), .val (.ref a2), .val (.int (Int32.ofNat (q + 1))), .val (.ref a1), .val (.int (Int32.ofNat n)), .val (.int (Int32.ofNat i)), .val (.int (g i))] [(.int (92 : Int32)), (.int (Int32.ofNat q)), (.ref a2)])) _
      refine st7 _ ?_
      show Steps p.tables e below (T7.setTop (mkF m 52 #[.val (.ref a1), .val (.ref a2), .val (.int (Int32.ofNat (q + 1))), .val (.ref a1), .val (.int (Int32.ofNat n)), .val (.int (Int32.ofNat i)), .val (.int (g i))] [])) _
      refine XS.aloadN X7.here hx rfl (hb hby d1_52) rfl rfl ?_
      show Steps p.tables e below (T7.setTop (mkF m 53 #[.val (.ref a1), .val (.ref a2), .val (.int (Int32.ofNat (q + 1))), .val (.ref a1), .val (.int (Int32.ofNat n)), .val (.int (Int32.ofNat i)), .val (.int (g i))] [(.ref a2)])) _
      refine XS.iloadN X7.here hx rfl (hb hby d1_53) rfl ?_
      show Steps p.tables e below (T7.setTop (mkF m 54 #[.val (.ref a1), .val (.ref a2), .val (.int (Int32.ofNat (q + 1))), .val (.ref a1), .val (.int (Int32.ofNat n)), .val (.int (Int32.ofNat i)), .val (.int (g i))] [(.int (Int32.ofNat (q + 1))), (.ref a2)])) _
      refine XS.iinc X7.here hx rfl (hb hby d1_54) rfl (l' := #[.val (.ref a1), .val (.ref a2), .val (.int ((Int32.ofNat (q + 1)) + (1 : Int32))), .val (.ref a1), .val (.int (Int32.ofNat n)), .val (.int (Int32.ofNat i)), .val (.int (g i))]) rfl ?_
      exact kt)
    have hv9 : ((Int32.ofNat (q + 1)) + (1 : Int32)) = (Int32.ofNat (q + 2)) := (inc_ofNat (q + 1)).symm
    rw [hv9] at pre8
    have pre10 : ∀ t, Steps p.tables e below (T7.setTop (mkF m 59 #[.val (.ref a1), .val (.ref a2), .val (.int (Int32.ofNat (q + 2))), .val (.ref a1), .val (.int (Int32.ofNat n)), .val (.int (Int32.ofNat i)), .val (.int (g i))] [(.int (g i)), (.int (Int32.ofNat (q + 1))), (.ref a2)])) t → Steps p.tables e below _ t := fun t kt => pre8 t (by
      show Steps p.tables e below (T7.setTop (mkF m 57 #[.val (.ref a1), .val (.ref a2), .val (.int (Int32.ofNat (q + 2))), .val (.ref a1), .val (.int (Int32.ofNat n)), .val (.int (Int32.ofNat i)), .val (.int (g i))] [(.int (Int32.ofNat (q + 1))), (.ref a2)])) _
      refine XS.iload X7.here hx rfl (hb hby d1_57) rfl ?_
      exact kt)
    obtain ⟨cl_11, Ar_11, Sz_11, Hf_11⟩ := id F7
    obtain ⟨T12, h12, X12, e12, W12, st12⟩ := stB X7 hx hZ e7 Ar_11 (j := (Int32.ofNat (q + 1))) (within (c := (q + 1)) rfl (by omega) (by omega)) (g := (mkF m 59 #[.val (.ref a1), .val (.ref a2), .val (.int (Int32.ofNat (q + 2))), .val (.ref a1), .val (.int (Int32.ofNat n)), .val (.int (Int32.ofNat i)), .val (.int (g i))] [(.int (g i)), (.int (Int32.ofNat (q + 1))), (.ref a2)])) rfl rfl (hb hby d1_59)
    have N12 := Fr.snoc X12 N7 g2
    have Zs12 : n0 ≤ h12.size := Nat.le_trans Zs7 (Nat.le_of_eq W12.size.symm)
    have Kp12 : Keep h0 h12 [a2] := Kp7.wr W12 (Or.inl (List.mem_of_getElem? (i := 0) rfl))
    have V12 : Wr h7 h12 a2 (q + 1) (.int (g i)) := by have z := W12; rw [clamp_of (c := (q + 1)) rfl (by omega), hbyte] at z; exact z
    have F12 := own_A_set F7 V12
    have pre13 : ∀ t, Steps p.tables e below (T12.setTop (mkF m 17 #[.val (.ref a1), .val (.ref a2), .val (.int (Int32.ofNat (q + 2))), .val (.ref a1), .val (.int (Int32.ofNat n)), .val (.int ((Int32.ofNat i) + (1 : Int32))), .val (.int (g i))] [])) t → Steps p.tables e below _ t := fun t kt => pre10 t (by
      show Steps p.tables e below (T7.setTop (mkF m 59 #[.val (.ref a1), .val (.ref a2), .val (.int (Int32.ofNat (q + 2))), .val (.ref a1), .val (.int (Int32.ofNat n)), .val (.int (Int32.ofNat i)), .val (.int (g i))] [(.int (g i)), (.int (Int32.ofNat (q + 1))), (.ref a2)])) _
      refine st12 _ ?_
      show Steps p.tables e below (T12.setTop (mkF m 60 #[.val (.ref a1), .val (.ref a2), .val (.int (Int32.ofNat (q + 2))), .val (.ref a1), .val (.int (Int32.ofNat n)), .val (.int (Int32.ofNat i)), .val (.int (g i))] [])) _
      refine XS.goto X12.here hx rfl (pc0 := 60) (pc' := 212) rfl (hb hby d1_60) (by decide) (by decide) ?_
      show Steps p.tables e below (T12.setTop (mkF m 212 #[.val (.ref a1), .val (.ref a2), .val (.int (Int32.ofNat (q + 2))), .val (.ref a1), .val (.int (Int32.ofNat n)), .val (.int (Int32.ofNat i)), .val (.int (g i))] [])) _
      refine XS.iinc X12.here hx rfl (hb hby d1_212) rfl (l' := #[.val (.ref a1), .val (.ref a2), .val (.int (Int32.ofNat (q + 2))), .val (.ref a1), .val (.int (Int32.ofNat n)), .val (.int ((Int32.ofNat i) + (1 : Int32))), .val (.int (g i))]) rfl ?_
      show Steps p.tables e below (T12.setTop (mkF m 215 #[.val (.ref a1), .val (.ref a2), .val (.int (Int32.ofNat (q + 2))), .val (.ref a1), .val (.int (Int32.ofNat n)), .val (.int ((Int32.ofNat i) + (1 : Int32))), .val (.int (g i))] [])) _
      refine XS.goto X12.here hx rfl (pc0 := 215) (pc' := 17) rfl (hb hby d1_215) (by decide) (by decide) ?_
      exact kt)
    have hv14 : ((Int32.ofNat i) + (1 : Int32)) = (Int32.ofNat (i + 1)) := (inc_ofNat i).symm
    rw [hv14] at pre13
    have he : own_enc (g i) = [92, g i] := by
      simp only [own_enc, if_pos hc34]
    refine ⟨T12, h12, _, X12, e12, N12, Kp12, ?_, ?_⟩
    · rw [he]; exact F12
    · rw [he]; exact pre13
  · have pre15 : ∀ t, Steps p.tables e below (T0.setTop (mkF m 41 #[.val (.ref a1), .val (.ref a2), .val (.int (Int32.ofNat q)), .val (.ref a1), .val (.int (Int32.ofNat n)), .val (.int (Int32.ofNat i)), .val (.int (g i))] [(.int (92 : Int32)), (.int (g i))])) t → Steps p.tables e below _ t := fun t kt => pre2 t (by
      show Steps p.tables e below (T0.setTop (mkF m 34 #[.val (.ref a1), .val (.ref a2), .val (.int (Int32.ofNat q)), .val (.ref a1), .val (.int (Int32.ofNat n)), .val (.int (Int32.ofNat i)), .val (.int (g i))] [(.int (34 : Int32)), (.int (g i))])) _
      refine XS.icmpNo X0.here hx rfl (hb hby d1_34) rfl (feq hc34).1 ?_
      show Steps p.tables e below (T0.setTop (mkF m 37 #[.val (.ref a1), .val (.ref a2), .val (.int (Int32.ofNat q)), .val (.ref a1), .val (.int (Int32.ofNat n)), .val (.int (Int32.ofNat i)), .val (.int (g i))] [])) _
      refine XS.iload X0.here hx rfl (hb hby d1_37) rfl ?_
      show Steps p.tables e below (T0.setTop (mkF m 39 #[.val (.ref a1), .val (.ref a2), .val (.int (Int32.ofNat q)), .val (.ref a1), .val (.int (Int32.ofNat n)), .val (.int (Int32.ofNat i)), .val (.int (g i))] [(.int (g i))])) _
      refine XS.bipush X0.here hx rfl (hb hby d1_39) ?_
      exact kt)
    by_cases hc41 : (g i) = (92 : Int32)
    · have pre16 : ∀ t, Steps p.tables e below (T0.setTop (mkF m 49 #[.val (.ref a1), .val (.ref a2), .val (.int ((Int32.ofNat q) + (1 : Int32))), .val (.ref a1), .val (.int (Int32.ofNat n)), .val (.int (Int32.ofNat i)), .val (.int (g i))] [(.int (Int32.ofNat q)), (.ref a2)])) t → Steps p.tables e below _ t := fun t kt => pre15 t (by
        show Steps p.tables e below (T0.setTop (mkF m 41 #[.val (.ref a1), .val (.ref a2), .val (.int (Int32.ofNat q)), .val (.ref a1), .val (.int (Int32.ofNat n)), .val (.int (Int32.ofNat i)), .val (.int (g i))] [(.int (92 : Int32)), (.int (g i))])) _
        refine XS.icmpNo X0.here hx rfl (hb hby d1_41) rfl (teq hc41).2 ?_
        show Steps p.tables e below (T0.setTop (mkF m 44 #[.val (.ref a1), .val (.ref a2), .val (.int (Int32.ofNat q)), .val (.ref a1), .val (.int (Int32.ofNat n)), .val (.int (Int32.ofNat i)), .val (.int (g i))] [])) _
        refine XS.aloadN X0.here hx rfl (hb hby d1_44) rfl rfl ?_
        show Steps p.tables e below (T0.setTop (mkF m 45 #[.val (.ref a1), .val (.ref a2), .val (.int (Int32.ofNat q)), .val (.ref a1), .val (.int (Int32.ofNat n)), .val (.int (Int32.ofNat i)), .val (.int (g i))] [(.ref a2)])) _
        refine XS.iloadN X0.here hx rfl (hb hby d1_45) rfl ?_
        show Steps p.tables e below (T0.setTop (mkF m 46 #[.val (.ref a1), .val (.ref a2), .val (.int (Int32.ofNat q)), .val (.ref a1), .val (.int (Int32.ofNat n)), .val (.int (Int32.ofNat i)), .val (.int (g i))] [(.int (Int32.ofNat q)), (.ref a2)])) _
        refine XS.iinc X0.here hx rfl (hb hby d1_46) rfl (l' := #[.val (.ref a1), .val (.ref a2), .val (.int ((Int32.ofNat q) + (1 : Int32))), .val (.ref a1), .val (.int (Int32.ofNat n)), .val (.int (Int32.ofNat i)), .val (.int (g i))]) rfl ?_
        exact kt)
      have hv17 : ((Int32.ofNat q) + (1 : Int32)) = (Int32.ofNat (q + 1)) := (inc_ofNat q).symm
      rw [hv17] at pre16
      have pre18 : ∀ t, Steps p.tables e below (T0.setTop (mkF m 51 #[.val (.ref a1), .val (.ref a2), .val (.int (Int32.ofNat (q + 1))), .val (.ref a1), .val (.int (Int32.ofNat n)), .val (.int (Int32.ofNat i)), .val (.int (g i))] [(.int (92 : Int32)), (.int (Int32.ofNat q)), (.ref a2)])) t → Steps p.tables e below _ t := fun t kt => pre16 t (by
        show Steps p.tables e below (T0.setTop (mkF m 49 #[.val (.ref a1), .val (.ref a2), .val (.int (Int32.ofNat (q + 1))), .val (.ref a1), .val (.int (Int32.ofNat n)), .val (.int (Int32.ofNat i)), .val (.int (g i))] [(.int (Int32.ofNat q)), (.ref a2)])) _
        refine XS.bipush X0.here hx rfl (hb hby d1_49) ?_
        exact kt)
      obtain ⟨cl_19, Ar_19, Sz_19, Hf_19⟩ := id A2
      obtain ⟨T20, h20, X20, e20, W20, st20⟩ := stB X0 hx hZ e0 Ar_19 (j := (Int32.ofNat q)) (within (c := q) rfl (by omega) (by omega)) (g := (mkF m 51 #[.val (.ref a1), .val (.ref a2), .val (.int (Int32.ofNat (q + 1))), .val (.ref a1), .val (.int (Int32.ofNat n)), .val (.int (Int32.ofNat i)), .val (.int (g i))] [(.int (92 : Int32)), (.int (Int32.ofNat q)), (.ref a2)])) rfl rfl (hb hby d1_51)
      have N20 := Fr.snoc X20 N0 g2
      have Zs20 : n0 ≤ h20.size := Nat.le_trans Z0 (Nat.le_of_eq W20.size.symm)
      have Kp20 : Keep h0 h20 [a2] := (Keep.refl h0 [a2]).wr W20 (Or.inl (List.mem_of_getElem? (i := 0) rfl))
      have V20 : Wr h0 h20 a2 q (.int (92 : Int32)) := by have z := W20; rw [clamp_of (c := q) rfl (by omega)] at z; exact z
      have F20 := own_A_set A2 V20
      have pre21 : ∀ t, Steps p.tables e below (T20.setTop (mkF m 57 #[.val (.ref a1), .val (.ref a2), .val (.int ((Int32.ofNat (q + 1)) + (1 : Int32))), .val (.ref a1), .val (.int (Int32.ofNat n)), .val (.int (Int32.ofNat i)), .val (.int (g i))] [(.int (Int32.ofNat (q + 1))), (.ref a2)])) t → Steps p.tables e below _ t := fun t kt => pre18 t (by
        show Steps p.tables e below (T0.setTop (mkF m 51 #[.val (.ref a1), .val (.ref a2), .val (.int (Int32.ofNat (q + 1))), .val (.ref a1), .val (.int (Int32.ofNat n)), .val (.int (Int32.ofNat i)), .val (.int (g i))] [(.int (92 : Int32)), (.int (Int32.ofNat q)), (.ref a2)])) _
        refine st20 _ ?_
        show Steps p.tables e below (T20.setTop (mkF m 52 #[.val (.ref a1), .val (.ref a2), .val (.int (Int32.ofNat (q + 1))), .val (.ref a1), .val (.int (Int32.ofNat n)), .val (.int (Int32.ofNat i)), .val (.int (g i))] [])) _
        refine XS.aloadN X20.here hx rfl (hb hby d1_52) rfl rfl ?_
        show Steps p.tables e below (T20.setTop (mkF m 53 #[.val (.ref a1), .val (.ref a2), .val (.int (Int32.ofNat (q + 1))), .val (.ref a1), .val (.int (Int32.ofNat n)), .val (.int (Int32.ofNat i)), .val (.int (g i))] [(.ref a2)])) _
        refine XS.iloadN X20.here hx rfl (hb hby d1_53) rfl ?_
        show Steps p.tables e below (T20.setTop (mkF m 54 #[.val (.ref a1), .val (.ref a2), .val (.int (Int32.ofNat (q + 1))), .val (.ref a1), .val (.int (Int32.ofNat n)), .val (.int (Int32.ofNat i)), .val (.int (g i))] [(.int (Int32.ofNat (q + 1))), (.ref a2)])) _
        refine XS.iinc X20.here hx rfl (hb hby d1_54) rfl (l' := #[.val (.ref a1), .val (.ref a2), .val (.int ((Int32.ofNat (q + 1)) + (1 : Int32))), .val (.ref a1), .val (.int (Int32.ofNat n)), .val (.int (Int32.ofNat i)), .val (.int (g i))]) rfl ?_
        exact kt)
      have hv22 : ((Int32.ofNat (q + 1)) + (1 : Int32)) = (Int32.ofNat (q + 2)) := (inc_ofNat (q + 1)).symm
      rw [hv22] at pre21
      have pre23 : ∀ t, Steps p.tables e below (T20.setTop (mkF m 59 #[.val (.ref a1), .val (.ref a2), .val (.int (Int32.ofNat (q + 2))), .val (.ref a1), .val (.int (Int32.ofNat n)), .val (.int (Int32.ofNat i)), .val (.int (g i))] [(.int (g i)), (.int (Int32.ofNat (q + 1))), (.ref a2)])) t → Steps p.tables e below _ t := fun t kt => pre21 t (by
        show Steps p.tables e below (T20.setTop (mkF m 57 #[.val (.ref a1), .val (.ref a2), .val (.int (Int32.ofNat (q + 2))), .val (.ref a1), .val (.int (Int32.ofNat n)), .val (.int (Int32.ofNat i)), .val (.int (g i))] [(.int (Int32.ofNat (q + 1))), (.ref a2)])) _
        refine XS.iload X20.here hx rfl (hb hby d1_57) rfl ?_
        exact kt)
      obtain ⟨cl_24, Ar_24, Sz_24, Hf_24⟩ := id F20
      obtain ⟨T25, h25, X25, e25, W25, st25⟩ := stB X20 hx hZ e20 Ar_24 (j := (Int32.ofNat (q + 1))) (within (c := (q + 1)) rfl (by omega) (by omega)) (g := (mkF m 59 #[.val (.ref a1), .val (.ref a2), .val (.int (Int32.ofNat (q + 2))), .val (.ref a1), .val (.int (Int32.ofNat n)), .val (.int (Int32.ofNat i)), .val (.int (g i))] [(.int (g i)), (.int (Int32.ofNat (q + 1))), (.ref a2)])) rfl rfl (hb hby d1_59)
      have N25 := Fr.snoc X25 N20 g2
      have Zs25 : n0 ≤ h25.size := Nat.le_trans Zs20 (Nat.le_of_eq W25.size.symm)
      have Kp25 : Keep h0 h25 [a2] := Kp20.wr W25 (Or.inl (List.mem_of_getElem? (i := 0) rfl))
      have V25 : Wr h20 h25 a2 (q + 1) (.int (g i)) := by have z := W25; rw [clamp_of (c := (q + 1)) rfl (by omega), hbyte] at z; exact z
      have F25 := own_A_set F20 V25
      have pre26 : ∀ t, Steps p.tables e below (T25.setTop (mkF m 17 #[.val (.ref a1), .val (.ref a2), .val (.int (Int32.ofNat (q + 2))), .val (.ref a1), .val (.int (Int32.ofNat n)), .val (.int ((Int32.ofNat i) + (1 : Int32))), .val (.int (g i))] [])) t → Steps p.tables e below _ t := fun t kt => pre23 t (by
        show Steps p.tables e below (T20.setTop (mkF m 59 #[.val (.ref a1), .val (.ref a2), .val (.int (Int32.ofNat (q + 2))), .val (.ref a1), .val (.int (Int32.ofNat n)), .val (.int (Int32.ofNat i)), .val (.int (g i))] [(.int (g i)), (.int (Int32.ofNat (q + 1))), (.ref a2)])) _
        refine st25 _ ?_
        show Steps p.tables e below (T25.setTop (mkF m 60 #[.val (.ref a1), .val (.ref a2), .val (.int (Int32.ofNat (q + 2))), .val (.ref a1), .val (.int (Int32.ofNat n)), .val (.int (Int32.ofNat i)), .val (.int (g i))] [])) _
        refine XS.goto X25.here hx rfl (pc0 := 60) (pc' := 212) rfl (hb hby d1_60) (by decide) (by decide) ?_
        show Steps p.tables e below (T25.setTop (mkF m 212 #[.val (.ref a1), .val (.ref a2), .val (.int (Int32.ofNat (q + 2))), .val (.ref a1), .val (.int (Int32.ofNat n)), .val (.int (Int32.ofNat i)), .val (.int (g i))] [])) _
        refine XS.iinc X25.here hx rfl (hb hby d1_212) rfl (l' := #[.val (.ref a1), .val (.ref a2), .val (.int (Int32.ofNat (q + 2))), .val (.ref a1), .val (.int (Int32.ofNat n)), .val (.int ((Int32.ofNat i) + (1 : Int32))), .val (.int (g i))]) rfl ?_
        show Steps p.tables e below (T25.setTop (mkF m 215 #[.val (.ref a1), .val (.ref a2), .val (.int (Int32.ofNat (q + 2))), .val (.ref a1), .val (.int (Int32.ofNat n)), .val (.int ((Int32.ofNat i) + (1 : Int32))), .val (.int (g i))] [])) _
        refine XS.goto X25.here hx rfl (pc0 := 215) (pc' := 17) rfl (hb hby d1_215) (by decide) (by decide) ?_
        exact kt)
      have hv27 : ((Int32.ofNat i) + (1 : Int32)) = (Int32.ofNat (i + 1)) := (inc_ofNat i).symm
      rw [hv27] at pre26
      have he : own_enc (g i) = [92, g i] := by
        simp only [own_enc, if_neg hc34, if_pos hc41]
      refine ⟨T25, h25, _, X25, e25, N25, Kp25, ?_, ?_⟩
      · rw [he]; exact F25
      · rw [he]; exact pre26
    · have pre28 : ∀ t, Steps p.tables e below (T0.setTop (mkF m 67 #[.val (.ref a1), .val (.ref a2), .val (.int (Int32.ofNat q)), .val (.ref a1), .val (.int (Int32.ofNat n)), .val (.int (Int32.ofNat i)), .val (.int (g i))] [(.int (10 : Int32)), (.int (g i))])) t → Steps p.tables e below _ t := fun t kt => pre15 t (by
        show Steps p.tables e below (T0.setTop (mkF m 41 #[.val (.ref a1), .val (.ref a2), .val (.int (Int32.ofNat q)), .val (.ref a1), .val (.int (Int32.ofNat n)), .val (.int (Int32.ofNat i)), .val (.int (g i))] [(.int (92 : Int32)), (.int (g i))])) _
        refine XS.icmpYes X0.here hx rfl (pc0 := 41) (pc' := 63) rfl (hb hby d1_41) rfl (feq hc41).2 (by decide) (by decide) ?_
        show Steps p.tables e below (T0.setTop (mkF m 63 #[.val (.ref a1), .val (.ref a2), .val (.int (Int32.ofNat q)), .val (.ref a1), .val (.int (Int32.ofNat n)), .val (.int (Int32.ofNat i)), .val (.int (g i))] [])) _
        refine XS.iload X0.here hx rfl (hb hby d1_63) rfl ?_
        show Steps p.tables e below (T0.setTop (mkF m 65 #[.val (.ref a1), .val (.ref a2), .val (.int (Int32.ofNat q)), .val (.ref a1), .val (.int (Int32.ofNat n)), .val (.int (Int32.ofNat i)), .val (.int (g i))] [(.int (g i))])) _
        refine XS.bipush X0.here hx rfl (hb hby d1_65) ?_
        exact kt)
      by_cases hc67 : (g i) = (10 : Int32)
      · have pre29 : ∀ t, Steps p.tables e below (T0.setTop (mkF m 89 #[.val (.ref a1), .val (.ref a2), .val (.int ((Int32.ofNat q) + (1 : Int32))), .val (.ref a1), .val (.int (Int32.ofNat n)), .val (.int (Int32.ofNat i)), .val (.int (g i))] [(.int (Int32.ofNat q)), (.ref a2)])) t → Steps p.tables e below _ t := fun t kt => pre28 t (by
          show Steps p.tables e below (T0.setTop (mkF m 67 #[.val (.ref a1), .val (.ref a2), .val (.int (Int32.ofNat q)), .val (.ref a1), .val (.int (Int32.ofNat n)), .val (.int (Int32.ofNat i)), .val (.int (g i))] [(.int (10 : Int32)), (.int (g i))])) _
          refine XS.icmpYes X0.here hx rfl (pc0 := 67) (pc' := 84) rfl (hb hby d1_67) rfl (teq hc67).1 (by decide) (by decide) ?_
          show Steps p.tables e below (T0.setTop (mkF m 84 #[.val (.ref a1), .val (.ref a2), .val (.int (Int32.ofNat q)), .val (.ref a1), .val (.int (Int32.ofNat n)), .val (.int (Int32.ofNat i)), .val (.int (g i))] [])) _
          refine XS.aloadN X0.here hx rfl (hb hby d1_84) rfl rfl ?_
          show Steps p.tables e below (T0.setTop (mkF m 85 #[.val (.ref a1), .val (.ref a2), .val (.int (Int32.ofNat q)), .val (.ref a1), .val (.int (Int32.ofNat n)), .val (.int (Int32.ofNat i)), .val (.int (g i))] [(.ref a2)])) _
          refine XS.iloadN X0.here hx rfl (hb hby d1_85) rfl ?_
          show Steps p.tables e below (T0.setTop (mkF m 86 #[.val (.ref a1), .val (.ref a2), .val (.int (Int32.ofNat q)), .val (.ref a1), .val (.int (Int32.ofNat n)), .val (.int (Int32.ofNat i)), .val (.int (g i))] [(.int (Int32.ofNat q)), (.ref a2)])) _
          refine XS.iinc X0.here hx rfl (hb hby d1_86) rfl (l' := #[.val (.ref a1), .val (.ref a2), .val (.int ((Int32.ofNat q) + (1 : Int32))), .val (.ref a1), .val (.int (Int32.ofNat n)), .val (.int (Int32.ofNat i)), .val (.int (g i))]) rfl ?_
          exact kt)
        have hv30 : ((Int32.ofNat q) + (1 : Int32)) = (Int32.ofNat (q + 1)) := (inc_ofNat q).symm
        rw [hv30] at pre29
        have pre31 : ∀ t, Steps p.tables e below (T0.setTop (mkF m 91 #[.val (.ref a1), .val (.ref a2), .val (.int (Int32.ofNat (q + 1))), .val (.ref a1), .val (.int (Int32.ofNat n)), .val (.int (Int32.ofNat i)), .val (.int (g i))] [(.int (92 : Int32)), (.int (Int32.ofNat q)), (.ref a2)])) t → Steps p.tables e below _ t := fun t kt => pre29 t (by
          show Steps p.tables e below (T0.setTop (mkF m 89 #[.val (.ref a1), .val (.ref a2), .val (.int (Int32.ofNat (q + 1))), .val (.ref a1), .val (.int (Int32.ofNat n)), .val (.int (Int32.ofNat i)), .val (.int (g i))] [(.int (Int32.ofNat q)), (.ref a2)])) _
          refine XS.bipush X0.here hx rfl (hb hby d1_89) ?_
          exact kt)
        obtain ⟨cl_32, Ar_32, Sz_32, Hf_32⟩ := id A2
        obtain ⟨T33, h33, X33, e33, W33, st33⟩ := stB X0 hx hZ e0 Ar_32 (j := (Int32.ofNat q)) (within (c := q) rfl (by omega) (by omega)) (g := (mkF m 91 #[.val (.ref a1), .val (.ref a2), .val (.int (Int32.ofNat (q + 1))), .val (.ref a1), .val (.int (Int32.ofNat n)), .val (.int (Int32.ofNat i)), .val (.int (g i))] [(.int (92 : Int32)), (.int (Int32.ofNat q)), (.ref a2)])) rfl rfl (hb hby d1_91)
        have N33 := Fr.snoc X33 N0 g2
        have Zs33 : n0 ≤ h33.size := Nat.le_trans Z0 (Nat.le_of_eq W33.size.symm)
        have Kp33 : Keep h0 h33 [a2] := (Keep.refl h0 [a2]).wr W33 (Or.inl (List.mem_of_getElem? (i := 0) rfl))
        have V33 : Wr h0 h33 a2 q (.int (92 : Int32)) := by have z := W33; rw [clamp_of (c := q) rfl (by omega)] at z; exact z
        have F33 := own_A_set A2 V33
        have pre34 : ∀ t, Steps p.tables e below (T33.setTop (mkF m 97 #[.val (.ref a1), .val (.ref a2), .val (.int ((Int32.ofNat (q + 1)) + (1 : Int32))), .val (.ref a1), .val (.int (Int32.ofNat n)), .val (.int (Int32.ofNat i)), .val (.int (g i))] [(.int (Int32.ofNat (q + 1))), (.ref a2)])) t → Steps p.tables e below _ t := fun t kt => pre31 t (by
          show Steps p.tables e below (T0.setTop (mkF m 91 #[.val (.ref a1), .val (.ref a2), .val (.int (Int32.ofNat (q + 1))), .val (.ref a1), .val (.int (Int32.ofNat n)), .val (.int (Int32.ofNat i)), .val (.int (g i))] [(.int (92 : Int32)), (.int (Int32.ofNat q)), (.ref a2)])) _
          refine st33 _ ?_
          show Steps p.tables e below (T33.setTop (mkF m 92 #[.val (.ref a1), .val (.ref a2), .val (.int (Int32.ofNat (q + 1))), .val (.ref a1), .val (.int (Int32.ofNat n)), .val (.int (Int32.ofNat i)), .val (.int (g i))] [])) _
          refine XS.aloadN X33.here hx rfl (hb hby d1_92) rfl rfl ?_
          show Steps p.tables e below (T33.setTop (mkF m 93 #[.val (.ref a1), .val (.ref a2), .val (.int (Int32.ofNat (q + 1))), .val (.ref a1), .val (.int (Int32.ofNat n)), .val (.int (Int32.ofNat i)), .val (.int (g i))] [(.ref a2)])) _
          refine XS.iloadN X33.here hx rfl (hb hby d1_93) rfl ?_
          show Steps p.tables e below (T33.setTop (mkF m 94 #[.val (.ref a1), .val (.ref a2), .val (.int (Int32.ofNat (q + 1))), .val (.ref a1), .val (.int (Int32.ofNat n)), .val (.int (Int32.ofNat i)), .val (.int (g i))] [(.int (Int32.ofNat (q + 1))), (.ref a2)])) _
          refine XS.iinc X33.here hx rfl (hb hby d1_94) rfl (l' := #[.val (.ref a1), .val (.ref a2), .val (.int ((Int32.ofNat (q + 1)) + (1 : Int32))), .val (.ref a1), .val (.int (Int32.ofNat n)), .val (.int (Int32.ofNat i)), .val (.int (g i))]) rfl ?_
          exact kt)
        have hv35 : ((Int32.ofNat (q + 1)) + (1 : Int32)) = (Int32.ofNat (q + 2)) := (inc_ofNat (q + 1)).symm
        rw [hv35] at pre34
        have pre36 : ∀ t, Steps p.tables e below (T33.setTop (mkF m 124 #[.val (.ref a1), .val (.ref a2), .val (.int (Int32.ofNat (q + 2))), .val (.ref a1), .val (.int (Int32.ofNat n)), .val (.int (Int32.ofNat i)), .val (.int (g i))] [(.int ((110 : Int32).toInt8.toInt32)), (.int (Int32.ofNat (q + 1))), (.ref a2)])) t → Steps p.tables e below _ t := fun t kt => pre34 t (by
          show Steps p.tables e below (T33.setTop (mkF m 97 #[.val (.ref a1), .val (.ref a2), .val (.int (Int32.ofNat (q + 2))), .val (.ref a1), .val (.int (Int32.ofNat n)), .val (.int (Int32.ofNat i)), .val (.int (g i))] [(.int (Int32.ofNat (q + 1))), (.ref a2)])) _
          refine XS.iload X33.here hx rfl (hb hby d1_97) rfl ?_
          show Steps p.tables e below (T33.setTop (mkF m 99 #[.val (.ref a1), .val (.ref a2), .val (.int (Int32.ofNat (q + 2))), .val (.ref a1), .val (.int (Int32.ofNat n)), .val (.int (Int32.ofNat i)), .val (.int (g i))] [(.int (g i)), (.int (Int32.ofNat (q + 1))), (.ref a2)])) _
          refine XS.bipush X33.here hx rfl (hb hby d1_99) ?_
          have hc101 : (g i) = (10 : Int32) := hc67
          show Steps p.tables e below (T33.setTop (mkF m 101 #[.val (.ref a1), .val (.ref a2), .val (.int (Int32.ofNat (q + 2))), .val (.ref a1), .val (.int (Int32.ofNat n)), .val (.int (Int32.ofNat i)), .val (.int (g i))] [(.int (10 : Int32)), (.int (g i)), (.int (Int32.ofNat (q + 1))), (.ref a2)])) _
          refine XS.icmpNo X33.here hx rfl (hb hby d1_101) rfl (teq hc101).2 ?_
          show Steps p.tables e below (T33.setTop (mkF m 104 #[.val (.ref a1), .val (.ref a2), .val (.int (Int32.ofNat (q + 2))), .val (.ref a1), .val (.int (Int32.ofNat n)), .val (.int (Int32.ofNat i)), .val (.int (g i))] [(.int (Int32.ofNat (q + 1))), (.ref a2)])) _
          refine XS.bipush X33.here hx rfl (hb hby d1_104) ?_
          show Steps p.tables e below (T33.setTop (mkF m 106 #[.val (.ref a1), .val (.ref a2), .val (.int (Int32.ofNat (q + 2))), .val (.ref a1), .val (.int (Int32.ofNat n)), .val (.int (Int32.ofNat i)), .val (.int (g i))] [(.int (110 : Int32)), (.int (Int32.ofNat (q + 1))), (.ref a2)])) _
          refine XS.goto X33.here hx rfl (pc0 := 106) (pc' := 123) rfl (hb hby d1_106) (by decide) (by decide) ?_
          show Steps p.tables e below (T33.setTop (mkF m 123 #[.val (.ref a1), .val (.ref a2), .val (.int (Int32.ofNat (q + 2))), .val (.ref a1), .val (.int (Int32.ofNat n)), .val (.int (Int32.ofNat i)), .val (.int (g i))] [(.int (110 : Int32)), (.int (Int32.ofNat (q + 1))), (.ref a2)])) _
          refine XS.i2b X33.here hx rfl (hb hby d1_123) rfl ?_
          exact kt)
        obtain ⟨cl_37, Ar_37, Sz_37, Hf_37⟩ := id F33
        obtain ⟨T38, h38, X38, e38, W38, st38⟩ := stB X33 hx hZ e33 Ar_37 (j := (Int32.ofNat (q + 1))) (within (c := (q + 1)) rfl (by omega) (by omega)) (g := (mkF m 124 #[.val (.ref a1), .val (.ref a2), .val (.int (Int32.ofNat (q + 2))), .val (.ref a1), .val (.int (Int32.ofNat n)), .val (.int (Int32.ofNat i)), .val (.int (g i))] [(.int ((110 : Int32).toInt8.toInt32)), (.int (Int32.ofNat (q + 1))), (.ref a2)])) rfl rfl (hb hby d1_124)
        have N38 := Fr.snoc X38 N33 g2
        have Zs38 : n0 ≤ h38.size := Nat.le_trans Zs33 (Nat.le_of_eq W38.size.symm)
        have Kp38 : Keep h0 h38 [a2] := Kp33.wr W38 (Or.inl (List.mem_of_getElem? (i := 0) rfl))
        have V38 : Wr h33 h38 a2 (q + 1) (.int (110 : Int32)) := by have z := W38; rw [clamp_of (c := (q + 1)) rfl (by omega)] at z; exact z
        have F38 := own_A_set F33 V38
        have pre39 : ∀ t, Steps p.tables e below (T38.setTop (mkF m 17 #[.val (.ref a1), .val (.ref a2), .val (.int (Int32.ofNat (q + 2))), .val (.ref a1), .val (.int (Int32.ofNat n)), .val (.int ((Int32.ofNat i) + (1 : Int32))), .val (.int (g i))] [])) t → Steps p.tables e below _ t := fun t kt => pre36 t (by
          show Steps p.tables e below (T33.setTop (mkF m 124 #[.val (.ref a1), .val (.ref a2), .val (.int (Int32.ofNat (q + 2))), .val (.ref a1), .val (.int (Int32.ofNat n)), .val (.int (Int32.ofNat i)), .val (.int (g i))] [(.int ((110 : Int32).toInt8.toInt32)), (.int (Int32.ofNat (q + 1))), (.ref a2)])) _
          refine st38 _ ?_
          show Steps p.tables e below (T38.setTop (mkF m 125 #[.val (.ref a1), .val (.ref a2), .val (.int (Int32.ofNat (q + 2))), .val (.ref a1), .val (.int (Int32.ofNat n)), .val (.int (Int32.ofNat i)), .val (.int (g i))] [])) _
          refine XS.goto X38.here hx rfl (pc0 := 125) (pc' := 212) rfl (hb hby d1_125) (by decide) (by decide) ?_
          show Steps p.tables e below (T38.setTop (mkF m 212 #[.val (.ref a1), .val (.ref a2), .val (.int (Int32.ofNat (q + 2))), .val (.ref a1), .val (.int (Int32.ofNat n)), .val (.int (Int32.ofNat i)), .val (.int (g i))] [])) _
          refine XS.iinc X38.here hx rfl (hb hby d1_212) rfl (l' := #[.val (.ref a1), .val (.ref a2), .val (.int (Int32.ofNat (q + 2))), .val (.ref a1), .val (.int (Int32.ofNat n)), .val (.int ((Int32.ofNat i) + (1 : Int32))), .val (.int (g i))]) rfl ?_
          show Steps p.tables e below (T38.setTop (mkF m 215 #[.val (.ref a1), .val (.ref a2), .val (.int (Int32.ofNat (q + 2))), .val (.ref a1), .val (.int (Int32.ofNat n)), .val (.int ((Int32.ofNat i) + (1 : Int32))), .val (.int (g i))] [])) _
          refine XS.goto X38.here hx rfl (pc0 := 215) (pc' := 17) rfl (hb hby d1_215) (by decide) (by decide) ?_
          exact kt)
        have hv40 : ((Int32.ofNat i) + (1 : Int32)) = (Int32.ofNat (i + 1)) := (inc_ofNat i).symm
        rw [hv40] at pre39
        have he : own_enc (g i) = [92, 110] := by
          simp only [own_enc, if_neg hc34, if_neg hc41, if_pos hc67]
        refine ⟨T38, h38, _, X38, e38, N38, Kp38, ?_, ?_⟩
        · rw [he]; exact F38
        · rw [he]; exact pre39
      · have pre41 : ∀ t, Steps p.tables e below (T0.setTop (mkF m 74 #[.val (.ref a1), .val (.ref a2), .val (.int (Int32.ofNat q)), .val (.ref a1), .val (.int (Int32.ofNat n)), .val (.int (Int32.ofNat i)), .val (.int (g i))] [(.int (13 : Int32)), (.int (g i))])) t → Steps p.tables e below _ t := fun t kt => pre28 t (by
          show Steps p.tables e below (T0.setTop (mkF m 67 #[.val (.ref a1), .val (.ref a2), .val (.int (Int32.ofNat q)), .val (.ref a1), .val (.int (Int32.ofNat n)), .val (.int (Int32.ofNat i)), .val (.int (g i))] [(.int (10 : Int32)), (.int (g i))])) _
          refine XS.icmpNo X0.here hx rfl (hb hby d1_67) rfl (feq hc67).1 ?_
          show Steps p.tables e below (T0.setTop (mkF m 70 #[.val (.ref a1), .val (.ref a2), .val (.int (Int32.ofNat q)), .val (.ref a1), .val (.int (Int32.ofNat n)), .val (.int (Int32.ofNat i)), .val (.int (g i))] [])) _
          refine XS.iload X0.here hx rfl (hb hby d1_70) rfl ?_
          show Steps p.tables e below (T0.setTop (mkF m 72 #[.val (.ref a1), .val (.ref a2), .val (.int (Int32.ofNat q)), .val (.ref a1), .val (.int (Int32.ofNat n)), .val (.int (Int32.ofNat i)), .val (.int (g i))] [(.int (g i))])) _
          refine XS.bipush X0.here hx rfl (hb hby d1_72) ?_
          exact kt)
        by_cases hc74 : (g i) = (13 : Int32)
        · have pre42 : ∀ t, Steps p.tables e below (T0.setTop (mkF m 89 #[.val (.ref a1), .val (.ref a2), .val (.int ((Int32.ofNat q) + (1 : Int32))), .val (.ref a1), .val (.int (Int32.ofNat n)), .val (.int (Int32.ofNat i)), .val (.int (g i))] [(.int (Int32.ofNat q)), (.ref a2)])) t → Steps p.tables e below _ t := fun t kt => pre41 t (by
            show Steps p.tables e below (T0.setTop (mkF m 74 #[.val (.ref a1), .val (.ref a2), .val (.int (Int32.ofNat q)), .val (.ref a1), .val (.int (Int32.ofNat n)), .val (.int (Int32.ofNat i)), .val (.int (g i))] [(.int (13 : Int32)), (.int (g i))])) _
            refine XS.icmpYes X0.here hx rfl (pc0 := 74) (pc' := 84) rfl (hb hby d1_74) rfl (teq hc74).1 (by decide) (by decide) ?_
            show Steps p.tables e below (T0.setTop (mkF m 84 #[.val (.ref a1), .val (.ref a2), .val (.int (Int32.ofNat q)), .val (.ref a1), .val (.int (Int32.ofNat n)), .val (.int (Int32.ofNat i)), .val (.int (g i))] [])) _
            refine XS.aloadN X0.here hx rfl (hb hby d1_84) rfl rfl ?_
            show Steps p.tables e below (T0.setTop (mkF m 85 #[.val (.ref a1), .val (.ref a2), .val (.int (Int32.ofNat q)), .val (.ref a1), .val (.int (Int32.ofNat n)), .val (.int (Int32.ofNat i)), .val (.int (g i))] [(.ref a2)])) _
            refine XS.iloadN X0.here hx rfl (hb hby d1_85) rfl ?_
            show Steps p.tables e below (T0.setTop (mkF m 86 #[.val (.ref a1), .val (.ref a2), .val (.int (Int32.ofNat q)), .val (.ref a1), .val (.int (Int32.ofNat n)), .val (.int (Int32.ofNat i)), .val (.int (g i))] [(.int (Int32.ofNat q)), (.ref a2)])) _
            refine XS.iinc X0.here hx rfl (hb hby d1_86) rfl (l' := #[.val (.ref a1), .val (.ref a2), .val (.int ((Int32.ofNat q) + (1 : Int32))), .val (.ref a1), .val (.int (Int32.ofNat n)), .val (.int (Int32.ofNat i)), .val (.int (g i))]) rfl ?_
            exact kt)
          have hv43 : ((Int32.ofNat q) + (1 : Int32)) = (Int32.ofNat (q + 1)) := (inc_ofNat q).symm
          rw [hv43] at pre42
          have pre44 : ∀ t, Steps p.tables e below (T0.setTop (mkF m 91 #[.val (.ref a1), .val (.ref a2), .val (.int (Int32.ofNat (q + 1))), .val (.ref a1), .val (.int (Int32.ofNat n)), .val (.int (Int32.ofNat i)), .val (.int (g i))] [(.int (92 : Int32)), (.int (Int32.ofNat q)), (.ref a2)])) t → Steps p.tables e below _ t := fun t kt => pre42 t (by
            show Steps p.tables e below (T0.setTop (mkF m 89 #[.val (.ref a1), .val (.ref a2), .val (.int (Int32.ofNat (q + 1))), .val (.ref a1), .val (.int (Int32.ofNat n)), .val (.int (Int32.ofNat i)), .val (.int (g i))] [(.int (Int32.ofNat q)), (.ref a2)])) _
            refine XS.bipush X0.here hx rfl (hb hby d1_89) ?_
            exact kt)
          obtain ⟨cl_45, Ar_45, Sz_45, Hf_45⟩ := id A2
          obtain ⟨T46, h46, X46, e46, W46, st46⟩ := stB X0 hx hZ e0 Ar_45 (j := (Int32.ofNat q)) (within (c := q) rfl (by omega) (by omega)) (g := (mkF m 91 #[.val (.ref a1), .val (.ref a2), .val (.int (Int32.ofNat (q + 1))), .val (.ref a1), .val (.int (Int32.ofNat n)), .val (.int (Int32.ofNat i)), .val (.int (g i))] [(.int (92 : Int32)), (.int (Int32.ofNat q)), (.ref a2)])) rfl rfl (hb hby d1_91)
          have N46 := Fr.snoc X46 N0 g2
          have Zs46 : n0 ≤ h46.size := Nat.le_trans Z0 (Nat.le_of_eq W46.size.symm)
          have Kp46 : Keep h0 h46 [a2] := (Keep.refl h0 [a2]).wr W46 (Or.inl (List.mem_of_getElem? (i := 0) rfl))
          have V46 : Wr h0 h46 a2 q (.int (92 : Int32)) := by have z := W46; rw [clamp_of (c := q) rfl (by omega)] at z; exact z
          have F46 := own_A_set A2 V46
          have pre47 : ∀ t, Steps p.tables e below (T46.setTop (mkF m 97 #[.val (.ref a1), .val (.ref a2), .val (.int ((Int32.ofNat (q + 1)) + (1 : Int32))), .val (.ref a1), .val (.int (Int32.ofNat n)), .val (.int (Int32.ofNat i)), .val (.int (g i))] [(.int (Int32.ofNat (q + 1))), (.ref a2)])) t → Steps p.tables e below _ t := fun t kt => pre44 t (by
            show Steps p.tables e below (T0.setTop (mkF m 91 #[.val (.ref a1), .val (.ref a2), .val (.int (Int32.ofNat (q + 1))), .val (.ref a1), .val (.int (Int32.ofNat n)), .val (.int (Int32.ofNat i)), .val (.int (g i))] [(.int (92 : Int32)), (.int (Int32.ofNat q)), (.ref a2)])) _
            refine st46 _ ?_
            show Steps p.tables e below (T46.setTop (mkF m 92 #[.val (.ref a1), .val (.ref a2), .val (.int (Int32.ofNat (q + 1))), .val (.ref a1), .val (.int (Int32.ofNat n)), .val (.int (Int32.ofNat i)), .val (.int (g i))] [])) _
            refine XS.aloadN X46.here hx rfl (hb hby d1_92) rfl rfl ?_
            show Steps p.tables e below (T46.setTop (mkF m 93 #[.val (.ref a1), .val (.ref a2), .val (.int (Int32.ofNat (q + 1))), .val (.ref a1), .val (.int (Int32.ofNat n)), .val (.int (Int32.ofNat i)), .val (.int (g i))] [(.ref a2)])) _
            refine XS.iloadN X46.here hx rfl (hb hby d1_93) rfl ?_
            show Steps p.tables e below (T46.setTop (mkF m 94 #[.val (.ref a1), .val (.ref a2), .val (.int (Int32.ofNat (q + 1))), .val (.ref a1), .val (.int (Int32.ofNat n)), .val (.int (Int32.ofNat i)), .val (.int (g i))] [(.int (Int32.ofNat (q + 1))), (.ref a2)])) _
            refine XS.iinc X46.here hx rfl (hb hby d1_94) rfl (l' := #[.val (.ref a1), .val (.ref a2), .val (.int ((Int32.ofNat (q + 1)) + (1 : Int32))), .val (.ref a1), .val (.int (Int32.ofNat n)), .val (.int (Int32.ofNat i)), .val (.int (g i))]) rfl ?_
            exact kt)
          have hv48 : ((Int32.ofNat (q + 1)) + (1 : Int32)) = (Int32.ofNat (q + 2)) := (inc_ofNat (q + 1)).symm
          rw [hv48] at pre47
          have pre49 : ∀ t, Steps p.tables e below (T46.setTop (mkF m 124 #[.val (.ref a1), .val (.ref a2), .val (.int (Int32.ofNat (q + 2))), .val (.ref a1), .val (.int (Int32.ofNat n)), .val (.int (Int32.ofNat i)), .val (.int (g i))] [(.int ((114 : Int32).toInt8.toInt32)), (.int (Int32.ofNat (q + 1))), (.ref a2)])) t → Steps p.tables e below _ t := fun t kt => pre47 t (by
            show Steps p.tables e below (T46.setTop (mkF m 97 #[.val (.ref a1), .val (.ref a2), .val (.int (Int32.ofNat (q + 2))), .val (.ref a1), .val (.int (Int32.ofNat n)), .val (.int (Int32.ofNat i)), .val (.int (g i))] [(.int (Int32.ofNat (q + 1))), (.ref a2)])) _
            refine XS.iload X46.here hx rfl (hb hby d1_97) rfl ?_
            show Steps p.tables e below (T46.setTop (mkF m 99 #[.val (.ref a1), .val (.ref a2), .val (.int (Int32.ofNat (q + 2))), .val (.ref a1), .val (.int (Int32.ofNat n)), .val (.int (Int32.ofNat i)), .val (.int (g i))] [(.int (g i)), (.int (Int32.ofNat (q + 1))), (.ref a2)])) _
            refine XS.bipush X46.here hx rfl (hb hby d1_99) ?_
            have hc101 : ¬ ((g i) = (10 : Int32)) := hc67
            show Steps p.tables e below (T46.setTop (mkF m 101 #[.val (.ref a1), .val (.ref a2), .val (.int (Int32.ofNat (q + 2))), .val (.ref a1), .val (.int (Int32.ofNat n)), .val (.int (Int32.ofNat i)), .val (.int (g i))] [(.int (10 : Int32)), (.int (g i)), (.int (Int32.ofNat (q + 1))), (.ref a2)])) _
            refine XS.icmpYes X46.here hx rfl (pc0 := 101) (pc' := 109) rfl (hb hby d1_101) rfl (feq hc101).2 (by decide) (by decide) ?_
            show Steps p.tables e below (T46.setTop (mkF m 109 #[.val (.ref a1), .val (.ref a2), .val (.int (Int32.ofNat (q + 2))), .val (.ref a1), .val (.int (Int32.ofNat n)), .val (.int (Int32.ofNat i)), .val (.int (g i))] [(.int (Int32.ofNat (q + 1))), (.ref a2)])) _
            refine XS.iload X46.here hx rfl (hb hby d1_109) rfl ?_
            show Steps p.tables e below (T46.setTop (mkF m 111 #[.val (.ref a1), .val (.ref a2), .val (.int (Int32.ofNat (q + 2))), .val (.ref a1), .val (.int (Int32.ofNat n)), .val (.int (Int32.ofNat i)), .val (.int (g i))] [(.int (g i)), (.int (Int32.ofNat (q + 1))), (.ref a2)])) _
            refine XS.bipush X46.here hx rfl (hb hby d1_111) ?_
            have hc113 : (g i) = (13 : Int32) := hc74
            show Steps p.tables e below (T46.setTop (mkF m 113 #[.val (.ref a1), .val (.ref a2), .val (.int (Int32.ofNat (q + 2))), .val (.ref a1), .val (.int (Int32.ofNat n)), .val (.int (Int32.ofNat i)), .val (.int (g i))] [(.int (13 : Int32)), (.int (g i)), (.int (Int32.ofNat (q + 1))), (.ref a2)])) _
            refine XS.icmpNo X46.here hx rfl (hb hby d1_113) rfl (teq hc113).2 ?_
            show Steps p.tables e below (T46.setTop (mkF m 116 #[.val (.ref a1), .val (.ref a2), .val (.int (Int32.ofNat (q + 2))), .val (.ref a1), .val (.int (Int32.ofNat n)), .val (.int (Int32.ofNat i)), .val (.int (g i))] [(.int (Int32.ofNat (q + 1))), (.ref a2)])) _
            refine XS.bipush X46.here hx rfl (hb hby d1_116) ?_
            show Steps p.tables e below (T46.setTop (mkF m 118 #[.val (.ref a1), .val (.ref a2), .val (.int (Int32.ofNat (q + 2))), .val (.ref a1), .val (.int (Int32.ofNat n)), .val (.int (Int32.ofNat i)), .val (.int (g i))] [(.int (114 : Int32)), (.int (Int32.ofNat (q + 1))), (.ref a2)])) _
            refine XS.goto X46.here hx rfl (pc0 := 118) (pc' := 123) rfl (hb hby d1_118) (by decide) (by decide) ?_
            show Steps p.tables e below (T46.setTop (mkF m 123 #[.val (.ref a1), .val (.ref a2), .val (.int (Int32.ofNat (q + 2))), .val (.ref a1), .val (.int (Int32.ofNat n)), .val (.int (Int32.ofNat i)), .val (.int (g i))] [(.int (114 : Int32)), (.int (Int32.ofNat (q + 1))), (.ref a2)])) _
            refine XS.i2b X46.here hx rfl (hb hby d1_123) rfl ?_
            exact kt)
          obtain ⟨cl_50, Ar_50, Sz_50, Hf_50⟩ := id F46
          obtain ⟨T51, h51, X51, e51, W51, st51⟩ := stB X46 hx hZ e46 Ar_50 (j := (Int32.ofNat (q + 1))) (within (c := (q + 1)) rfl (by omega) (by omega)) (g := (mkF m 124 #[.val (.ref a1), .val (.ref a2), .val (.int (Int32.ofNat (q + 2))), .val (.ref a1), .val (.int (Int32.ofNat n)), .val (.int (Int32.ofNat i)), .val (.int (g i))] [(.int ((114 : Int32).toInt8.toInt32)), (.int (Int32.ofNat (q + 1))), (.ref a2)])) rfl rfl (hb hby d1_124)
          have N51 := Fr.snoc X51 N46 g2
          have Zs51 : n0 ≤ h51.size := Nat.le_trans Zs46 (Nat.le_of_eq W51.size.symm)
          have Kp51 : Keep h0 h51 [a2] := Kp46.wr W51 (Or.inl (List.mem_of_getElem? (i := 0) rfl))
          have V51 : Wr h46 h51 a2 (q + 1) (.int (114 : Int32)) := by have z := W51; rw [clamp_of (c := (q + 1)) rfl (by omega)] at z; exact z
          have F51 := own_A_set F46 V51
          have pre52 : ∀ t, Steps p.tables e below (T51.setTop (mkF m 17 #[.val (.ref a1), .val (.ref a2), .val (.int (Int32.ofNat (q + 2))), .val (.ref a1), .val (.int (Int32.ofNat n)), .val (.int ((Int32.ofNat i) + (1 : Int32))), .val (.int (g i))] [])) t → Steps p.tables e below _ t := fun t kt => pre49 t (by
            show Steps p.tables e below (T46.setTop (mkF m 124 #[.val (.ref a1), .val (.ref a2), .val (.int (Int32.ofNat (q + 2))), .val (.ref a1), .val (.int (Int32.ofNat n)), .val (.int (Int32.ofNat i)), .val (.int (g i))] [(.int ((114 : Int32).toInt8.toInt32)), (.int (Int32.ofNat (q + 1))), (.ref a2)])) _
            refine st51 _ ?_
            show Steps p.tables e below (T51.setTop (mkF m 125 #[.val (.ref a1), .val (.ref a2), .val (.int (Int32.ofNat (q + 2))), .val (.ref a1), .val (.int (Int32.ofNat n)), .val (.int (Int32.ofNat i)), .val (.int (g i))] [])) _
            refine XS.goto X51.here hx rfl (pc0 := 125) (pc' := 212) rfl (hb hby d1_125) (by decide) (by decide) ?_
            show Steps p.tables e below (T51.setTop (mkF m 212 #[.val (.ref a1), .val (.ref a2), .val (.int (Int32.ofNat (q + 2))), .val (.ref a1), .val (.int (Int32.ofNat n)), .val (.int (Int32.ofNat i)), .val (.int (g i))] [])) _
            refine XS.iinc X51.here hx rfl (hb hby d1_212) rfl (l' := #[.val (.ref a1), .val (.ref a2), .val (.int (Int32.ofNat (q + 2))), .val (.ref a1), .val (.int (Int32.ofNat n)), .val (.int ((Int32.ofNat i) + (1 : Int32))), .val (.int (g i))]) rfl ?_
            show Steps p.tables e below (T51.setTop (mkF m 215 #[.val (.ref a1), .val (.ref a2), .val (.int (Int32.ofNat (q + 2))), .val (.ref a1), .val (.int (Int32.ofNat n)), .val (.int ((Int32.ofNat i) + (1 : Int32))), .val (.int (g i))] [])) _
            refine XS.goto X51.here hx rfl (pc0 := 215) (pc' := 17) rfl (hb hby d1_215) (by decide) (by decide) ?_
            exact kt)
          have hv53 : ((Int32.ofNat i) + (1 : Int32)) = (Int32.ofNat (i + 1)) := (inc_ofNat i).symm
          rw [hv53] at pre52
          have he : own_enc (g i) = [92, 114] := by
            simp only [own_enc, if_neg hc34, if_neg hc41, if_neg hc67, if_pos hc74]
          refine ⟨T51, h51, _, X51, e51, N51, Kp51, ?_, ?_⟩
          · rw [he]; exact F51
          · rw [he]; exact pre52
        · have pre54 : ∀ t, Steps p.tables e below (T0.setTop (mkF m 81 #[.val (.ref a1), .val (.ref a2), .val (.int (Int32.ofNat q)), .val (.ref a1), .val (.int (Int32.ofNat n)), .val (.int (Int32.ofNat i)), .val (.int (g i))] [(.int (9 : Int32)), (.int (g i))])) t → Steps p.tables e below _ t := fun t kt => pre41 t (by
            show Steps p.tables e below (T0.setTop (mkF m 74 #[.val (.ref a1), .val (.ref a2), .val (.int (Int32.ofNat q)), .val (.ref a1), .val (.int (Int32.ofNat n)), .val (.int (Int32.ofNat i)), .val (.int (g i))] [(.int (13 : Int32)), (.int (g i))])) _
            refine XS.icmpNo X0.here hx rfl (hb hby d1_74) rfl (feq hc74).1 ?_
            show Steps p.tables e below (T0.setTop (mkF m 77 #[.val (.ref a1), .val (.ref a2), .val (.int (Int32.ofNat q)), .val (.ref a1), .val (.int (Int32.ofNat n)), .val (.int (Int32.ofNat i)), .val (.int (g i))] [])) _
            refine XS.iload X0.here hx rfl (hb hby d1_77) rfl ?_
            show Steps p.tables e below (T0.setTop (mkF m 79 #[.val (.ref a1), .val (.ref a2), .val (.int (Int32.ofNat q)), .val (.ref a1), .val (.int (Int32.ofNat n)), .val (.int (Int32.ofNat i)), .val (.int (g i))] [(.int (g i))])) _
            refine XS.bipush X0.here hx rfl (hb hby d1_79) ?_
            exact kt)
          by_cases hc81 : (g i) = (9 : Int32)
          · have pre55 : ∀ t, Steps p.tables e below (T0.setTop (mkF m 89 #[.val (.ref a1), .val (.ref a2), .val (.int ((Int32.ofNat q) + (1 : Int32))), .val (.ref a1), .val (.int (Int32.ofNat n)), .val (.int (Int32.ofNat i)), .val (.int (g i))] [(.int (Int32.ofNat q)), (.ref a2)])) t → Steps p.tables e below _ t := fun t kt => pre54 t (by
              show Steps p.tables e below (T0.setTop (mkF m 81 #[.val (.ref a1), .val (.ref a2), .val (.int (Int32.ofNat q)), .val (.ref a1), .val (.int (Int32.ofNat n)), .val (.int (Int32.ofNat i)), .val (.int (g i))] [(.int (9 : Int32)), (.int (g i))])) _
              refine XS.icmpNo X0.here hx rfl (hb hby d1_81) rfl (teq hc81).2 ?_
              show Steps p.tables e below (T0.setTop (mkF m 84 #[.val (.ref a1), .val (.ref a2), .val (.int (Int32.ofNat q)), .val (.ref a1), .val (.int (Int32.ofNat n)), .val (.int (Int32.ofNat i)), .val (.int (g i))] [])) _
              refine XS.aloadN X0.here hx rfl (hb hby d1_84) rfl rfl ?_
              show Steps p.tables e below (T0.setTop (mkF m 85 #[.val (.ref a1), .val (.ref a2), .val (.int (Int32.ofNat q)), .val (.ref a1), .val (.int (Int32.ofNat n)), .val (.int (Int32.ofNat i)), .val (.int (g i))] [(.ref a2)])) _
              refine XS.iloadN X0.here hx rfl (hb hby d1_85) rfl ?_
              show Steps p.tables e below (T0.setTop (mkF m 86 #[.val (.ref a1), .val (.ref a2), .val (.int (Int32.ofNat q)), .val (.ref a1), .val (.int (Int32.ofNat n)), .val (.int (Int32.ofNat i)), .val (.int (g i))] [(.int (Int32.ofNat q)), (.ref a2)])) _
              refine XS.iinc X0.here hx rfl (hb hby d1_86) rfl (l' := #[.val (.ref a1), .val (.ref a2), .val (.int ((Int32.ofNat q) + (1 : Int32))), .val (.ref a1), .val (.int (Int32.ofNat n)), .val (.int (Int32.ofNat i)), .val (.int (g i))]) rfl ?_
              exact kt)
            have hv56 : ((Int32.ofNat q) + (1 : Int32)) = (Int32.ofNat (q + 1)) := (inc_ofNat q).symm
            rw [hv56] at pre55
            have pre57 : ∀ t, Steps p.tables e below (T0.setTop (mkF m 91 #[.val (.ref a1), .val (.ref a2), .val (.int (Int32.ofNat (q + 1))), .val (.ref a1), .val (.int (Int32.ofNat n)), .val (.int (Int32.ofNat i)), .val (.int (g i))] [(.int (92 : Int32)), (.int (Int32.ofNat q)), (.ref a2)])) t → Steps p.tables e below _ t := fun t kt => pre55 t (by
              show Steps p.tables e below (T0.setTop (mkF m 89 #[.val (.ref a1), .val (.ref a2), .val (.int (Int32.ofNat (q + 1))), .val (.ref a1), .val (.int (Int32.ofNat n)), .val (.int (Int32.ofNat i)), .val (.int (g i))] [(.int (Int32.ofNat q)), (.ref a2)])) _
              refine XS.bipush X0.here hx rfl (hb hby d1_89) ?_
              exact kt)
            obtain ⟨cl_58, Ar_58, Sz_58, Hf_58⟩ := id A2
            obtain ⟨T59, h59, X59, e59, W59, st59⟩ := stB X0 hx hZ e0 Ar_58 (j := (Int32.ofNat q)) (within (c := q) rfl (by omega) (by omega)) (g := (mkF m 91 #[.val (.ref a1), .val (.ref a2), .val (.int (Int32.ofNat (q + 1))), .val (.ref a1), .val (.int (Int32.ofNat n)), .val (.int (Int32.ofNat i)), .val (.int (g i))] [(.int (92 : Int32)), (.int (Int32.ofNat q)), (.ref a2)])) rfl rfl (hb hby d1_91)
            have N59 := Fr.snoc X59 N0 g2
            have Zs59 : n0 ≤ h59.size := Nat.le_trans Z0 (Nat.le_of_eq W59.size.symm)
            have Kp59 : Keep h0 h59 [a2] := (Keep.refl h0 [a2]).wr W59 (Or.inl (List.mem_of_getElem? (i := 0) rfl))
            have V59 : Wr h0 h59 a2 q (.int (92 : Int32)) := by have z := W59; rw [clamp_of (c := q) rfl (by omega)] at z; exact z
            have F59 := own_A_set A2 V59
            have pre60 : ∀ t, Steps p.tables e below (T59.setTop (mkF m 97 #[.val (.ref a1), .val (.ref a2), .val (.int ((Int32.ofNat (q + 1)) + (1 : Int32))), .val (.ref a1), .val (.int (Int32.ofNat n)), .val (.int (Int32.ofNat i)), .val (.int (g i))] [(.int (Int32.ofNat (q + 1))), (.ref a2)])) t → Steps p.tables e below _ t := fun t kt => pre57 t (by
              show Steps p.tables e below (T0.setTop (mkF m 91 #[.val (.ref a1), .val (.ref a2), .val (.int (Int32.ofNat (q + 1))), .val (.ref a1), .val (.int (Int32.ofNat n)), .val (.int (Int32.ofNat i)), .val (.int (g i))] [(.int (92 : Int32)), (.int (Int32.ofNat q)), (.ref a2)])) _
              refine st59 _ ?_
              show Steps p.tables e below (T59.setTop (mkF m 92 #[.val (.ref a1), .val (.ref a2), .val (.int (Int32.ofNat (q + 1))), .val (.ref a1), .val (.int (Int32.ofNat n)), .val (.int (Int32.ofNat i)), .val (.int (g i))] [])) _
              refine XS.aloadN X59.here hx rfl (hb hby d1_92) rfl rfl ?_
              show Steps p.tables e below (T59.setTop (mkF m 93 #[.val (.ref a1), .val (.ref a2), .val (.int (Int32.ofNat (q + 1))), .val (.ref a1), .val (.int (Int32.ofNat n)), .val (.int (Int32.ofNat i)), .val (.int (g i))] [(.ref a2)])) _
              refine XS.iloadN X59.here hx rfl (hb hby d1_93) rfl ?_
              show Steps p.tables e below (T59.setTop (mkF m 94 #[.val (.ref a1), .val (.ref a2), .val (.int (Int32.ofNat (q + 1))), .val (.ref a1), .val (.int (Int32.ofNat n)), .val (.int (Int32.ofNat i)), .val (.int (g i))] [(.int (Int32.ofNat (q + 1))), (.ref a2)])) _
              refine XS.iinc X59.here hx rfl (hb hby d1_94) rfl (l' := #[.val (.ref a1), .val (.ref a2), .val (.int ((Int32.ofNat (q + 1)) + (1 : Int32))), .val (.ref a1), .val (.int (Int32.ofNat n)), .val (.int (Int32.ofNat i)), .val (.int (g i))]) rfl ?_
              exact kt)
            have hv61 : ((Int32.ofNat (q + 1)) + (1 : Int32)) = (Int32.ofNat (q + 2)) := (inc_ofNat (q + 1)).symm
            rw [hv61] at pre60
            have pre62 : ∀ t, Steps p.tables e below (T59.setTop (mkF m 124 #[.val (.ref a1), .val (.ref a2), .val (.int (Int32.ofNat (q + 2))), .val (.ref a1), .val (.int (Int32.ofNat n)), .val (.int (Int32.ofNat i)), .val (.int (g i))] [(.int ((116 : Int32).toInt8.toInt32)), (.int (Int32.ofNat (q + 1))), (.ref a2)])) t → Steps p.tables e below _ t := fun t kt => pre60 t (by
              show Steps p.tables e below (T59.setTop (mkF m 97 #[.val (.ref a1), .val (.ref a2), .val (.int (Int32.ofNat (q + 2))), .val (.ref a1), .val (.int (Int32.ofNat n)), .val (.int (Int32.ofNat i)), .val (.int (g i))] [(.int (Int32.ofNat (q + 1))), (.ref a2)])) _
              refine XS.iload X59.here hx rfl (hb hby d1_97) rfl ?_
              show Steps p.tables e below (T59.setTop (mkF m 99 #[.val (.ref a1), .val (.ref a2), .val (.int (Int32.ofNat (q + 2))), .val (.ref a1), .val (.int (Int32.ofNat n)), .val (.int (Int32.ofNat i)), .val (.int (g i))] [(.int (g i)), (.int (Int32.ofNat (q + 1))), (.ref a2)])) _
              refine XS.bipush X59.here hx rfl (hb hby d1_99) ?_
              have hc101 : ¬ ((g i) = (10 : Int32)) := hc67
              show Steps p.tables e below (T59.setTop (mkF m 101 #[.val (.ref a1), .val (.ref a2), .val (.int (Int32.ofNat (q + 2))), .val (.ref a1), .val (.int (Int32.ofNat n)), .val (.int (Int32.ofNat i)), .val (.int (g i))] [(.int (10 : Int32)), (.int (g i)), (.int (Int32.ofNat (q + 1))), (.ref a2)])) _
              refine XS.icmpYes X59.here hx rfl (pc0 := 101) (pc' := 109) rfl (hb hby d1_101) rfl (feq hc101).2 (by decide) (by decide) ?_
              show Steps p.tables e below (T59.setTop (mkF m 109 #[.val (.ref a1), .val (.ref a2), .val (.int (Int32.ofNat (q + 2))), .val (.ref a1), .val (.int (Int32.ofNat n)), .val (.int (Int32.ofNat i)), .val (.int (g i))] [(.int (Int32.ofNat (q + 1))), (.ref a2)])) _
              refine XS.iload X59.here hx rfl (hb hby d1_109) rfl ?_
              show Steps p.tables e below (T59.setTop (mkF m 111 #[.val (.ref a1), .val (.ref a2), .val (.int (Int32.ofNat (q + 2))), .val (.ref a1), .val (.int (Int32.ofNat n)), .val (.int (Int32.ofNat i)), .val (.int (g i))] [(.int (g i)), (.int (Int32.ofNat (q + 1))), (.ref a2)])) _
              refine XS.bipush X59.here hx rfl (hb hby d1_111) ?_
              have hc113 : ¬ ((g i) = (13 : Int32)) := hc74
              show Steps p.tables e below (T59.setTop (mkF m 113 #[.val (.ref a1), .val (.ref a2), .val (.int (Int32.ofNat (q + 2))), .val (.ref a1), .val (.int (Int32.ofNat n)), .val (.int (Int32.ofNat i)), .val (.int (g i))] [(.int (13 : Int32)), (.int (g i)), (.int (Int32.ofNat (q + 1))), (.ref a2)])) _
              refine XS.icmpYes X59.here hx rfl (pc0 := 113) (pc' := 121) rfl (hb hby d1_113) rfl (feq hc113).2 (by decide) (by decide) ?_
              show Steps p.tables e below (T59.setTop (mkF m 121 #[.val (.ref a1), .val (.ref a2), .val (.int (Int32.ofNat (q + 2))), .val (.ref a1), .val (.int (Int32.ofNat n)), .val (.int (Int32.ofNat i)), .val (.int (g i))] [(.int (Int32.ofNat (q + 1))), (.ref a2)])) _
              refine XS.bipush X59.here hx rfl (hb hby d1_121) ?_
              show Steps p.tables e below (T59.setTop (mkF m 123 #[.val (.ref a1), .val (.ref a2), .val (.int (Int32.ofNat (q + 2))), .val (.ref a1), .val (.int (Int32.ofNat n)), .val (.int (Int32.ofNat i)), .val (.int (g i))] [(.int (116 : Int32)), (.int (Int32.ofNat (q + 1))), (.ref a2)])) _
              refine XS.i2b X59.here hx rfl (hb hby d1_123) rfl ?_
              exact kt)
            obtain ⟨cl_63, Ar_63, Sz_63, Hf_63⟩ := id F59
            obtain ⟨T64, h64, X64, e64, W64, st64⟩ := stB X59 hx hZ e59 Ar_63 (j := (Int32.ofNat (q + 1))) (within (c := (q + 1)) rfl (by omega) (by omega)) (g := (mkF m 124 #[.val (.ref a1), .val (.ref a2), .val (.int (Int32.ofNat (q + 2))), .val (.ref a1), .val (.int (Int32.ofNat n)), .val (.int (Int32.ofNat i)), .val (.int (g i))] [(.int ((116 : Int32).toInt8.toInt32)), (.int (Int32.ofNat (q + 1))), (.ref a2)])) rfl rfl (hb hby d1_124)
            have N64 := Fr.snoc X64 N59 g2
            have Zs64 : n0 ≤ h64.size := Nat.le_trans Zs59 (Nat.le_of_eq W64.size.symm)
            have Kp64 : Keep h0 h64 [a2] := Kp59.wr W64 (Or.inl (List.mem_of_getElem? (i := 0) rfl))
            have V64 : Wr h59 h64 a2 (q + 1) (.int (116 : Int32)) := by have z := W64; rw [clamp_of (c := (q + 1)) rfl (by omega)] at z; exact z
            have F64 := own_A_set F59 V64
            have pre65 : ∀ t, Steps p.tables e below (T64.setTop (mkF m 17 #[.val (.ref a1), .val (.ref a2), .val (.int (Int32.ofNat (q + 2))), .val (.ref a1), .val (.int (Int32.ofNat n)), .val (.int ((Int32.ofNat i) + (1 : Int32))), .val (.int (g i))] [])) t → Steps p.tables e below _ t := fun t kt => pre62 t (by
              show Steps p.tables e below (T59.setTop (mkF m 124 #[.val (.ref a1), .val (.ref a2), .val (.int (Int32.ofNat (q + 2))), .val (.ref a1), .val (.int (Int32.ofNat n)), .val (.int (Int32.ofNat i)), .val (.int (g i))] [(.int ((116 : Int32).toInt8.toInt32)), (.int (Int32.ofNat (q + 1))), (.ref a2)])) _
              refine st64 _ ?_
              show Steps p.tables e below (T64.setTop (mkF m 125 #[.val (.ref a1), .val (.ref a2), .val (.int (Int32.ofNat (q + 2))), .val (.ref a1), .val (.int (Int32.ofNat n)), .val (.int (Int32.ofNat i)), .val (.int (g i))] [])) _
              refine XS.goto X64.here hx rfl (pc0 := 125) (pc' := 212) rfl (hb hby d1_125) (by decide) (by decide) ?_
              show Steps p.tables e below (T64.setTop (mkF m 212 #[.val (.ref a1), .val (.ref a2), .val (.int (Int32.ofNat (q + 2))), .val (.ref a1), .val (.int (Int32.ofNat n)), .val (.int (Int32.ofNat i)), .val (.int (g i))] [])) _
              refine XS.iinc X64.here hx rfl (hb hby d1_212) rfl (l' := #[.val (.ref a1), .val (.ref a2), .val (.int (Int32.ofNat (q + 2))), .val (.ref a1), .val (.int (Int32.ofNat n)), .val (.int ((Int32.ofNat i) + (1 : Int32))), .val (.int (g i))]) rfl ?_
              show Steps p.tables e below (T64.setTop (mkF m 215 #[.val (.ref a1), .val (.ref a2), .val (.int (Int32.ofNat (q + 2))), .val (.ref a1), .val (.int (Int32.ofNat n)), .val (.int ((Int32.ofNat i) + (1 : Int32))), .val (.int (g i))] [])) _
              refine XS.goto X64.here hx rfl (pc0 := 215) (pc' := 17) rfl (hb hby d1_215) (by decide) (by decide) ?_
              exact kt)
            have hv66 : ((Int32.ofNat i) + (1 : Int32)) = (Int32.ofNat (i + 1)) := (inc_ofNat i).symm
            rw [hv66] at pre65
            have he : own_enc (g i) = [92, 116] := by
              simp only [own_enc, if_neg hc34, if_neg hc41, if_neg hc67, if_neg hc74, if_pos hc81]
            refine ⟨T64, h64, _, X64, e64, N64, Kp64, ?_, ?_⟩
            · rw [he]; exact F64
            · rw [he]; exact pre65
          · have pre67 : ∀ t, Steps p.tables e below (T0.setTop (mkF m 130 #[.val (.ref a1), .val (.ref a2), .val (.int (Int32.ofNat q)), .val (.ref a1), .val (.int (Int32.ofNat n)), .val (.int (Int32.ofNat i)), .val (.int (g i))] [(.int (g i))])) t → Steps p.tables e below _ t := fun t kt => pre54 t (by
              show Steps p.tables e below (T0.setTop (mkF m 81 #[.val (.ref a1), .val (.ref a2), .val (.int (Int32.ofNat q)), .val (.ref a1), .val (.int (Int32.ofNat n)), .val (.int (Int32.ofNat i)), .val (.int (g i))] [(.int (9 : Int32)), (.int (g i))])) _
              refine XS.icmpYes X0.here hx rfl (pc0 := 81) (pc' := 128) rfl (hb hby d1_81) rfl (feq hc81).2 (by decide) (by decide) ?_
              show Steps p.tables e below (T0.setTop (mkF m 128 #[.val (.ref a1), .val (.ref a2), .val (.int (Int32.ofNat q)), .val (.ref a1), .val (.int (Int32.ofNat n)), .val (.int (Int32.ofNat i)), .val (.int (g i))] [])) _
              refine XS.iload X0.here hx rfl (hb hby d1_128) rfl ?_
              exact kt)
            by_cases hc130 : (g i) < (0 : Int32)
            · have pre68 : ∀ t, Steps p.tables e below (T0.setTop (mkF m 209 #[.val (.ref a1), .val (.ref a2), .val (.int ((Int32.ofNat q) + (1 : Int32))), .val (.ref a1), .val (.int (Int32.ofNat n)), .val (.int (Int32.ofNat i)), .val (.int (g i))] [(.int (Int32.ofNat q)), (.ref a2)])) t → Steps p.tables e below _ t := fun t kt => pre67 t (by
                show Steps p.tables e below (T0.setTop (mkF m 130 #[.val (.ref a1), .val (.ref a2), .val (.int (Int32.ofNat q)), .val (.ref a1), .val (.int (Int32.ofNat n)), .val (.int (Int32.ofNat i)), .val (.int (g i))] [(.int (g i))])) _
                refine XS.ifYes X0.here hx rfl (pc0 := 130) (pc' := 204) rfl (hb hby d1_130) rfl ((if0 _ _).trans (tlt hc130).1) (by decide) (by decide) ?_
                show Steps p.tables e below (T0.setTop (mkF m 204 #[.val (.ref a1), .val (.ref a2), .val (.int (Int32.ofNat q)), .val (.ref a1), .val (.int (Int32.ofNat n)), .val (.int (Int32.ofNat i)), .val (.int (g i))] [])) _
                refine XS.aloadN X0.here hx rfl (hb hby d1_204) rfl rfl ?_
                show Steps p.tables e below (T0.setTop (mkF m 205 #[.val (.ref a1), .val (.ref a2), .val (.int (Int32.ofNat q)), .val (.ref a1), .val (.int (Int32.ofNat n)), .val (.int (Int32.ofNat i)), .val (.int (g i))] [(.ref a2)])) _
                refine XS.iloadN X0.here hx rfl (hb hby d1_205) rfl ?_
                show Steps p.tables e below (T0.setTop (mkF m 206 #[.val (.ref a1), .val (.ref a2), .val (.int (Int32.ofNat q)), .val (.ref a1), .val (.int (Int32.ofNat n)), .val (.int (Int32.ofNat i)), .val (.int (g i))] [(.int (Int32.ofNat q)), (.ref a2)])) _
                refine XS.iinc X0.here hx rfl (hb hby d1_206) rfl (l' := #[.val (.ref a1), .val (.ref a2), .val (.int ((Int32.ofNat q) + (1 : Int32))), .val (.ref a1), .val (.int (Int32.ofNat n)), .val (.int (Int32.ofNat i)), .val (.int (g i))]) rfl ?_
                exact kt)
              have hv69 : ((Int32.ofNat q) + (1 : Int32)) = (Int32.ofNat (q + 1)) := (inc_ofNat q).symm
              rw [hv69] at pre68
              have pre70 : ∀ t, Steps p.tables e below (T0.setTop (mkF m 211 #[.val (.ref a1), .val (.ref a2), .val (.int (Int32.ofNat (q + 1))), .val (.ref a1), .val (.int (Int32.ofNat n)), .val (.int (Int32.ofNat i)), .val (.int (g i))] [(.int (g i)), (.int (Int32.ofNat q)), (.ref a2)])) t → Steps p.tables e below _ t := fun t kt => pre68 t (by
                show Steps p.tables e below (T0.setTop (mkF m 209 #[.val (.ref a1), .val (.ref a2), .val (.int (Int32.ofNat (q + 1))), .val (.ref a1), .val (.int (Int32.ofNat n)), .val (.int (Int32.ofNat i)), .val (.int (g i))] [(.int (Int32.ofNat q)), (.ref a2)])) _
                refine XS.iload X0.here hx rfl (hb hby d1_209) rfl ?_
                exact kt)
              obtain ⟨cl_71, Ar_71, Sz_71, Hf_71⟩ := id A2
              obtain ⟨T72, h72, X72, e72, W72, st72⟩ := stB X0 hx hZ e0 Ar_71 (j := (Int32.ofNat q)) (within (c := q) rfl (by omega) (by omega)) (g := (mkF m 211 #[.val (.ref a1), .val (.ref a2), .val (.int (Int32.ofNat (q + 1))), .val (.ref a1), .val (.int (Int32.ofNat n)), .val (.int (Int32.ofNat i)), .val (.int (g i))] [(.int (g i)), (.int (Int32.ofNat q)), (.ref a2)])) rfl rfl (hb hby d1_211)
              have N72 := Fr.snoc X72 N0 g2
              have Zs72 : n0 ≤ h72.size := Nat.le_trans Z0 (Nat.le_of_eq W72.size.symm)
              have Kp72 : Keep h0 h72 [a2] := (Keep.refl h0 [a2]).wr W72 (Or.inl (List.mem_of_getElem? (i := 0) rfl))
              have V72 : Wr h0 h72 a2 q (.int (g i)) := by have z := W72; rw [clamp_of (c := q) rfl (by omega), hbyte] at z; exact z
              have F72 := own_A_set A2 V72
              have pre73 : ∀ t, Steps p.tables e below (T72.setTop (mkF m 17 #[.val (.ref a1), .val (.ref a2), .val (.int (Int32.ofNat (q + 1))), .val (.ref a1), .val (.int (Int32.ofNat n)), .val (.int ((Int32.ofNat i) + (1 : Int32))), .val (.int (g i))] [])) t → Steps p.tables e below _ t := fun t kt => pre70 t (by
                show Steps p.tables e below (T0.setTop (mkF m 211 #[.val (.ref a1), .val (.ref a2), .val (.int (Int32.ofNat (q + 1))), .val (.ref a1), .val (.int (Int32.ofNat n)), .val (.int (Int32.ofNat i)), .val (.int (g i))] [(.int (g i)), (.int (Int32.ofNat q)), (.ref a2)])) _
                refine st72 _ ?_
                show Steps p.tables e below (T72.setTop (mkF m 212 #[.val (.ref a1), .val (.ref a2), .val (.int (Int32.ofNat (q + 1))), .val (.ref a1), .val (.int (Int32.ofNat n)), .val (.int (Int32.ofNat i)), .val (.int (g i))] [])) _
                refine XS.iinc X72.here hx rfl (hb hby d1_212) rfl (l' := #[.val (.ref a1), .val (.ref a2), .val (.int (Int32.ofNat (q + 1))), .val (.ref a1), .val (.int (Int32.ofNat n)), .val (.int ((Int32.ofNat i) + (1 : Int32))), .val (.int (g i))]) rfl ?_
                show Steps p.tables e below (T72.setTop (mkF m 215 #[.val (.ref a1), .val (.ref a2), .val (.int (Int32.ofNat (q + 1))), .val (.ref a1), .val (.int (Int32.ofNat n)), .val (.int ((Int32.ofNat i) + (1 : Int32))), .val (.int (g i))] [])) _
                refine XS.goto X72.here hx rfl (pc0 := 215) (pc' := 17) rfl (hb hby d1_215) (by decide) (by decide) ?_
                exact kt)
              have hv74 : ((Int32.ofNat i) + (1 : Int32)) = (Int32.ofNat (i + 1)) := (inc_ofNat i).symm
              rw [hv74] at pre73
              have he : own_enc (g i) = [g i] := by
                simp only [own_enc, if_neg hc34, if_neg hc41, if_neg hc67, if_neg hc74, if_neg hc81, if_pos hc130]
              refine ⟨T72, h72, _, X72, e72, N72, Kp72, ?_, ?_⟩
              · rw [he]; exact F72
              · rw [he]; exact pre73
            · have pre75 : ∀ t, Steps p.tables e below (T0.setTop (mkF m 137 #[.val (.ref a1), .val (.ref a2), .val (.int (Int32.ofNat q)), .val (.ref a1), .val (.int (Int32.ofNat n)), .val (.int (Int32.ofNat i)), .val (.int (g i))] [(.int (32 : Int32)), (.int (g i))])) t → Steps p.tables e below _ t := fun t kt => pre67 t (by
                show Steps p.tables e below (T0.setTop (mkF m 130 #[.val (.ref a1), .val (.ref a2), .val (.int (Int32.ofNat q)), .val (.ref a1), .val (.int (Int32.ofNat n)), .val (.int (Int32.ofNat i)), .val (.int (g i))] [(.int (g i))])) _
                refine XS.ifNo X0.here hx rfl (hb hby d1_130) rfl ((if0 _ _).trans (flt hc130).1) ?_
                show Steps p.tables e below (T0.setTop (mkF m 133 #[.val (.ref a1), .val (.ref a2), .val (.int (Int32.ofNat q)), .val (.ref a1), .val (.int (Int32.ofNat n)), .val (.int (Int32.ofNat i)), .val (.int (g i))] [])) _
                refine XS.iload X0.here hx rfl (hb hby d1_133) rfl ?_
                show Steps p.tables e below (T0.setTop (mkF m 135 #[.val (.ref a1), .val (.ref a2), .val (.int (Int32.ofNat q)), .val (.ref a1), .val (.int (Int32.ofNat n)), .val (.int (Int32.ofNat i)), .val (.int (g i))] [(.int (g i))])) _
                refine XS.bipush X0.here hx rfl (hb hby d1_135) ?_
                exact kt)
              by_cases hc137 : (g i) < (32 : Int32)
              · have pre76 : ∀ t, Steps p.tables e below (T0.setTop (mkF m 145 #[.val (.ref a1), .val (.ref a2), .val (.int ((Int32.ofNat q) + (1 : Int32))), .val (.ref a1), .val (.int (Int32.ofNat n)), .val (.int (Int32.ofNat i)), .val (.int (g i))] [(.int (Int32.ofNat q)), (.ref a2)])) t → Steps p.tables e below _ t := fun t kt => pre75 t (by
                  show Steps p.tables e below (T0.setTop (mkF m 137 #[.val (.ref a1), .val (.ref a2), .val (.int (Int32.ofNat q)), .val (.ref a1), .val (.int (Int32.ofNat n)), .val (.int (Int32.ofNat i)), .val (.int (g i))] [(.int (32 : Int32)), (.int (g i))])) _
                  refine XS.icmpNo X0.here hx rfl (hb hby d1_137) rfl (tlt hc137).2.1 ?_
                  show Steps p.tables e below (T0.setTop (mkF m 140 #[.val (.ref a1), .val (.ref a2), .val (.int (Int32.ofNat q)), .val (.ref a1), .val (.int (Int32.ofNat n)), .val (.int (Int32.ofNat i)), .val (.int (g i))] [])) _
                  refine XS.aloadN X0.here hx rfl (hb hby d1_140) rfl rfl ?_
                  show Steps p.tables e below (T0.setTop (mkF m 141 #[.val (.ref a1), .val (.ref a2), .val (.int (Int32.ofNat q)), .val (.ref a1), .val (.int (Int32.ofNat n)), .val (.int (Int32.ofNat i)), .val (.int (g i))] [(.ref a2)])) _
                  refine XS.iloadN X0.here hx rfl (hb hby d1_141) rfl ?_
                  show Steps p.tables e below (T0.setTop (mkF m 142 #[.val (.ref a1), .val (.ref a2), .val (.int (Int32.ofNat q)), .val (.ref a1), .val (.int (Int32.ofNat n)), .val (.int (Int32.ofNat i)), .val (.int (g i))] [(.int (Int32.ofNat q)), (.ref a2)])) _
                  refine XS.iinc X0.here hx rfl (hb hby d1_142) rfl (l' := #[.val (.ref a1), .val (.ref a2), .val (.int ((Int32.ofNat q) + (1 : Int32))), .val (.ref a1), .val (.int (Int32.ofNat n)), .val (.int (Int32.ofNat i)), .val (.int (g i))]) rfl ?_
                  exact kt)
                have hv77 : ((Int32.ofNat q) + (1 : Int32)) = (Int32.ofNat (q + 1)) := (inc_ofNat q).symm
                rw [hv77] at pre76
                have pre78 : ∀ t, Steps p.tables e below (T0.setTop (mkF m 147 #[.val (.ref a1), .val (.ref a2), .val (.int (Int32.ofNat (q + 1))), .val (.ref a1), .val (.int (Int32.ofNat n)), .val (.int (Int32.ofNat i)), .val (.int (g i))] [(.int (92 : Int32)), (.int (Int32.ofNat q)), (.ref a2)])) t → Steps p.tables e below _ t := fun t kt => pre76 t (by
                  show Steps p.tables e below (T0.setTop (mkF m 145 #[.val (.ref a1), .val (.ref a2), .val (.int (Int32.ofNat (q + 1))), .val (.ref a1), .val (.int (Int32.ofNat n)), .val (.int (Int32.ofNat i)), .val (.int (g i))] [(.int (Int32.ofNat q)), (.ref a2)])) _
                  refine XS.bipush X0.here hx rfl (hb hby d1_145) ?_
                  exact kt)
                obtain ⟨cl_79, Ar_79, Sz_79, Hf_79⟩ := id A2
                obtain ⟨T80, h80, X80, e80, W80, st80⟩ := stB X0 hx hZ e0 Ar_79 (j := (Int32.ofNat q)) (within (c := q) rfl (by omega) (by omega)) (g := (mkF m 147 #[.val (.ref a1), .val (.ref a2), .val (.int (Int32.ofNat (q + 1))), .val (.ref a1), .val (.int (Int32.ofNat n)), .val (.int (Int32.ofNat i)), .val (.int (g i))] [(.int (92 : Int32)), (.int (Int32.ofNat q)), (.ref a2)])) rfl rfl (hb hby d1_147)
                have N80 := Fr.snoc X80 N0 g2
                have Zs80 : n0 ≤ h80.size := Nat.le_trans Z0 (Nat.le_of_eq W80.size.symm)
                have Kp80 : Keep h0 h80 [a2] := (Keep.refl h0 [a2]).wr W80 (Or.inl (List.mem_of_getElem? (i := 0) rfl))
                have V80 : Wr h0 h80 a2 q (.int (92 : Int32)) := by have z := W80; rw [clamp_of (c := q) rfl (by omega)] at z; exact z
                have F80 := own_A_set A2 V80
                have pre81 : ∀ t, Steps p.tables e below (T80.setTop (mkF m 153 #[.val (.ref a1), .val (.ref a2), .val (.int ((Int32.ofNat (q + 1)) + (1 : Int32))), .val (.ref a1), .val (.int (Int32.ofNat n)), .val (.int (Int32.ofNat i)), .val (.int (g i))] [(.int (Int32.ofNat (q + 1))), (.ref a2)])) t → Steps p.tables e below _ t := fun t kt => pre78 t (by
                  show Steps p.tables e below (T0.setTop (mkF m 147 #[.val (.ref a1), .val (.ref a2), .val (.int (Int32.ofNat (q + 1))), .val (.ref a1), .val (.int (Int32.ofNat n)), .val (.int (Int32.ofNat i)), .val (.int (g i))] [(.int (92 : Int32)), (.int (Int32.ofNat q)), (.ref a2)])) _
                  refine st80 _ ?_
                  show Steps p.tables e below (T80.setTop (mkF m 148 #[.val (.ref a1), .val (.ref a2), .val (.int (Int32.ofNat (q + 1))), .val (.ref a1), .val (.int (Int32.ofNat n)), .val (.int (Int32.ofNat i)), .val (.int (g i))] [])) _
                  refine XS.aloadN X80.here hx rfl (hb hby d1_148) rfl rfl ?_
                  show Steps p.tables e below (T80.setTop (mkF m 149 #[.val (.ref a1), .val (.ref a2), .val (.int (Int32.ofNat (q + 1))), .val (.ref a1), .val (.int (Int32.ofNat n)), .val (.int (Int32.ofNat i)), .val (.int (g i))] [(.ref a2)])) _
                  refine XS.iloadN X80.here hx rfl (hb hby d1_149) rfl ?_
                  show Steps p.tables e below (T80.setTop (mkF m 150 #[.val (.ref a1), .val (.ref a2), .val (.int (Int32.ofNat (q + 1))), .val (.ref a1), .val (.int (Int32.ofNat n)), .val (.int (Int32.ofNat i)), .val (.int (g i))] [(.int (Int32.ofNat (q + 1))), (.ref a2)])) _
                  refine XS.iinc X80.here hx rfl (hb hby d1_150) rfl (l' := #[.val (.ref a1), .val (.ref a2), .val (.int ((Int32.ofNat (q + 1)) + (1 : Int32))), .val (.ref a1), .val (.int (Int32.ofNat n)), .val (.int (Int32.ofNat i)), .val (.int (g i))]) rfl ?_
                  exact kt)
                have hv82 : ((Int32.ofNat (q + 1)) + (1 : Int32)) = (Int32.ofNat (q + 2)) := (inc_ofNat (q + 1)).symm
                rw [hv82] at pre81
                have pre83 : ∀ t, Steps p.tables e below (T80.setTop (mkF m 155 #[.val (.ref a1), .val (.ref a2), .val (.int (Int32.ofNat (q + 2))), .val (.ref a1), .val (.int (Int32.ofNat n)), .val (.int (Int32.ofNat i)), .val (.int (g i))] [(.int (117 : Int32)), (.int (Int32.ofNat (q + 1))), (.ref a2)])) t → Steps p.tables e below _ t := fun t kt => pre81 t (by
                  show Steps p.tables e below (T80.setTop (mkF m 153 #[.val (.ref a1), .val (.ref a2), .val (.int (Int32.ofNat (q + 2))), .val (.ref a1), .val (.int (Int32.ofNat n)), .val (.int (Int32.ofNat i)), .val (.int (g i))] [(.int (Int32.ofNat (q + 1))), (.ref a2)])) _
                  refine XS.bipush X80.here hx rfl (hb hby d1_153) ?_
                  exact kt)
                obtain ⟨cl_84, Ar_84, Sz_84, Hf_84⟩ := id F80
                obtain ⟨T85, h85, X85, e85, W85, st85⟩ := stB X80 hx hZ e80 Ar_84 (j := (Int32.ofNat (q + 1))) (within (c := (q + 1)) rfl (by omega) (by omega)) (g := (mkF m 155 #[.val (.ref a1), .val (.ref a2), .val (.int (Int32.ofNat (q + 2))), .val (.ref a1), .val (.int (Int32.ofNat n)), .val (.int (Int32.ofNat i)), .val (.int (g i))] [(.int (117 : Int32)), (.int (Int32.ofNat (q + 1))), (.ref a2)])) rfl rfl (hb hby d1_155)
                have N85 := Fr.snoc X85 N80 g2
                have Zs85 : n0 ≤ h85.size := Nat.le_trans Zs80 (Nat.le_of_eq W85.size.symm)
                have Kp85 : Keep h0 h85 [a2] := Kp80.wr W85 (Or.inl (List.mem_of_getElem? (i := 0) rfl))
                have V85 : Wr h80 h85 a2 (q + 1) (.int (117 : Int32)) := by have z := W85; rw [clamp_of (c := (q + 1)) rfl (by omega)] at z; exact z
                have F85 := own_A_set F80 V85
                have pre86 : ∀ t, Steps p.tables e below (T85.setTop (mkF m 161 #[.val (.ref a1), .val (.ref a2), .val (.int ((Int32.ofNat (q + 2)) + (1 : Int32))), .val (.ref a1), .val (.int (Int32.ofNat n)), .val (.int (Int32.ofNat i)), .val (.int (g i))] [(.int (Int32.ofNat (q + 2))), (.ref a2)])) t → Steps p.tables e below _ t := fun t kt => pre83 t (by
                  show Steps p.tables e below (T80.setTop (mkF m 155 #[.val (.ref a1), .val (.ref a2), .val (.int (Int32.ofNat (q + 2))), .val (.ref a1), .val (.int (Int32.ofNat n)), .val (.int (Int32.ofNat i)), .val (.int (g i))] [(.int (117 : Int32)), (.int (Int32.ofNat (q + 1))), (.ref a2)])) _
                  refine st85 _ ?_
                  show Steps p.tables e below (T85.setTop (mkF m 156 #[.val (.ref a1), .val (.ref a2), .val (.int (Int32.ofNat (q + 2))), .val (.ref a1), .val (.int (Int32.ofNat n)), .val (.int (Int32.ofNat i)), .val (.int (g i))] [])) _
                  refine XS.aloadN X85.here hx rfl (hb hby d1_156) rfl rfl ?_
                  show Steps p.tables e below (T85.setTop (mkF m 157 #[.val (.ref a1), .val (.ref a2), .val (.int (Int32.ofNat (q + 2))), .val (.ref a1), .val (.int (Int32.ofNat n)), .val (.int (Int32.ofNat i)), .val (.int (g i))] [(.ref a2)])) _
                  refine XS.iloadN X85.here hx rfl (hb hby d1_157) rfl ?_
                  show Steps p.tables e below (T85.setTop (mkF m 158 #[.val (.ref a1), .val (.ref a2), .val (.int (Int32.ofNat (q + 2))), .val (.ref a1), .val (.int (Int32.ofNat n)), .val (.int (Int32.ofNat i)), .val (.int (g i))] [(.int (Int32.ofNat (q + 2))), (.ref a2)])) _
                  refine XS.iinc X85.here hx rfl (hb hby d1_158) rfl (l' := #[.val (.ref a1), .val (.ref a2), .val (.int ((Int32.ofNat (q + 2)) + (1 : Int32))), .val (.ref a1), .val (.int (Int32.ofNat n)), .val (.int (Int32.ofNat i)), .val (.int (g i))]) rfl ?_
                  exact kt)
                have hv87 : ((Int32.ofNat (q + 2)) + (1 : Int32)) = (Int32.ofNat (q + 3)) := (inc_ofNat (q + 2)).symm
                rw [hv87] at pre86
                have pre88 : ∀ t, Steps p.tables e below (T85.setTop (mkF m 163 #[.val (.ref a1), .val (.ref a2), .val (.int (Int32.ofNat (q + 3))), .val (.ref a1), .val (.int (Int32.ofNat n)), .val (.int (Int32.ofNat i)), .val (.int (g i))] [(.int (48 : Int32)), (.int (Int32.ofNat (q + 2))), (.ref a2)])) t → Steps p.tables e below _ t := fun t kt => pre86 t (by
                  show Steps p.tables e below (T85.setTop (mkF m 161 #[.val (.ref a1), .val (.ref a2), .val (.int (Int32.ofNat (q + 3))), .val (.ref a1), .val (.int (Int32.ofNat n)), .val (.int (Int32.ofNat i)), .val (.int (g i))] [(.int (Int32.ofNat (q + 2))), (.ref a2)])) _
                  refine XS.bipush X85.here hx rfl (hb hby d1_161) ?_
                  exact kt)
                obtain ⟨cl_89, Ar_89, Sz_89, Hf_89⟩ := id F85
                obtain ⟨T90, h90, X90, e90, W90, st90⟩ := stB X85 hx hZ e85 Ar_89 (j := (Int32.ofNat (q + 2))) (within (c := (q + 2)) rfl (by omega) (by omega)) (g := (mkF m 163 #[.val (.ref a1), .val (.ref a2), .val (.int (Int32.ofNat (q + 3))), .val (.ref a1), .val (.int (Int32.ofNat n)), .val (.int (Int32.ofNat i)), .val (.int (g i))] [(.int (48 : Int32)), (.int (Int32.ofNat (q + 2))), (.ref a2)])) rfl rfl (hb hby d1_163)
                have N90 := Fr.snoc X90 N85 g2
                have Zs90 : n0 ≤ h90.size := Nat.le_trans Zs85 (Nat.le_of_eq W90.size.symm)
                have Kp90 : Keep h0 h90 [a2] := Kp85.wr W90 (Or.inl (List.mem_of_getElem? (i := 0) rfl))
                have V90 : Wr h85 h90 a2 (q + 2) (.int (48 : Int32)) := by have z := W90; rw [clamp_of (c := (q + 2)) rfl (by omega)] at z; exact z
                have F90 := own_A_set F85 V90
                have pre91 : ∀ t, Steps p.tables e below (T90.setTop (mkF m 169 #[.val (.ref a1), .val (.ref a2), .val (.int ((Int32.ofNat (q + 3)) + (1 : Int32))), .val (.ref a1), .val (.int (Int32.ofNat n)), .val (.int (Int32.ofNat i)), .val (.int (g i))] [(.int (Int32.ofNat (q + 3))), (.ref a2)])) t → Steps p.tables e below _ t := fun t kt => pre88 t (by
                  show Steps p.tables e below (T85.setTop (mkF m 163 #[.val (.ref a1), .val (.ref a2), .val (.int (Int32.ofNat (q + 3))), .val (.ref a1), .val (.int (Int32.ofNat n)), .val (.int (Int32.ofNat i)), .val (.int (g i))] [(.int (48 : Int32)), (.int (Int32.ofNat (q + 2))), (.ref a2)])) _
                  refine st90 _ ?_
                  show Steps p.tables e below (T90.setTop (mkF m 164 #[.val (.ref a1), .val (.ref a2), .val (.int (Int32.ofNat (q + 3))), .val (.ref a1), .val (.int (Int32.ofNat n)), .val (.int (Int32.ofNat i)), .val (.int (g i))] [])) _
                  refine XS.aloadN X90.here hx rfl (hb hby d1_164) rfl rfl ?_
                  show Steps p.tables e below (T90.setTop (mkF m 165 #[.val (.ref a1), .val (.ref a2), .val (.int (Int32.ofNat (q + 3))), .val (.ref a1), .val (.int (Int32.ofNat n)), .val (.int (Int32.ofNat i)), .val (.int (g i))] [(.ref a2)])) _
                  refine XS.iloadN X90.here hx rfl (hb hby d1_165) rfl ?_
                  show Steps p.tables e below (T90.setTop (mkF m 166 #[.val (.ref a1), .val (.ref a2), .val (.int (Int32.ofNat (q + 3))), .val (.ref a1), .val (.int (Int32.ofNat n)), .val (.int (Int32.ofNat i)), .val (.int (g i))] [(.int (Int32.ofNat (q + 3))), (.ref a2)])) _
                  refine XS.iinc X90.here hx rfl (hb hby d1_166) rfl (l' := #[.val (.ref a1), .val (.ref a2), .val (.int ((Int32.ofNat (q + 3)) + (1 : Int32))), .val (.ref a1), .val (.int (Int32.ofNat n)), .val (.int (Int32.ofNat i)), .val (.int (g i))]) rfl ?_
                  exact kt)
                have hv92 : ((Int32.ofNat (q + 3)) + (1 : Int32)) = (Int32.ofNat (q + 4)) := (inc_ofNat (q + 3)).symm
                rw [hv92] at pre91
                have pre93 : ∀ t, Steps p.tables e below (T90.setTop (mkF m 171 #[.val (.ref a1), .val (.ref a2), .val (.int (Int32.ofNat (q + 4))), .val (.ref a1), .val (.int (Int32.ofNat n)), .val (.int (Int32.ofNat i)), .val (.int (g i))] [(.int (48 : Int32)), (.int (Int32.ofNat (q + 3))), (.ref a2)])) t → Steps p.tables e below _ t := fun t kt => pre91 t (by
                  show Steps p.tables e below (T90.setTop (mkF m 169 #[.val (.ref a1), .val (.ref a2), .val (.int (Int32.ofNat (q + 4))), .val (.ref a1), .val (.int (Int32.ofNat n)), .val (.int (Int32.ofNat i)), .val (.int (g i))] [(.int (Int32.ofNat (q + 3))), (.ref a2)])) _
                  refine XS.bipush X90.here hx rfl (hb hby d1_169) ?_
                  exact kt)
                obtain ⟨cl_94, Ar_94, Sz_94, Hf_94⟩ := id F90
                obtain ⟨T95, h95, X95, e95, W95, st95⟩ := stB X90 hx hZ e90 Ar_94 (j := (Int32.ofNat (q + 3))) (within (c := (q + 3)) rfl (by omega) (by omega)) (g := (mkF m 171 #[.val (.ref a1), .val (.ref a2), .val (.int (Int32.ofNat (q + 4))), .val (.ref a1), .val (.int (Int32.ofNat n)), .val (.int (Int32.ofNat i)), .val (.int (g i))] [(.int (48 : Int32)), (.int (Int32.ofNat (q + 3))), (.ref a2)])) rfl rfl (hb hby d1_171)
                have N95 := Fr.snoc X95 N90 g2
                have Zs95 : n0 ≤ h95.size := Nat.le_trans Zs90 (Nat.le_of_eq W95.size.symm)
                have Kp95 : Keep h0 h95 [a2] := Kp90.wr W95 (Or.inl (List.mem_of_getElem? (i := 0) rfl))
                have V95 : Wr h90 h95 a2 (q + 3) (.int (48 : Int32)) := by have z := W95; rw [clamp_of (c := (q + 3)) rfl (by omega)] at z; exact z
                have F95 := own_A_set F90 V95
                have pre96 : ∀ t, Steps p.tables e below (T95.setTop (mkF m 177 #[.val (.ref a1), .val (.ref a2), .val (.int ((Int32.ofNat (q + 4)) + (1 : Int32))), .val (.ref a1), .val (.int (Int32.ofNat n)), .val (.int (Int32.ofNat i)), .val (.int (g i))] [(.int (Int32.ofNat (q + 4))), (.ref a2)])) t → Steps p.tables e below _ t := fun t kt => pre93 t (by
                  show Steps p.tables e below (T90.setTop (mkF m 171 #[.val (.ref a1), .val (.ref a2), .val (.int (Int32.ofNat (q + 4))), .val (.ref a1), .val (.int (Int32.ofNat n)), .val (.int (Int32.ofNat i)), .val (.int (g i))] [(.int (48 : Int32)), (.int (Int32.ofNat (q + 3))), (.ref a2)])) _
                  refine st95 _ ?_
                  show Steps p.tables e below (T95.setTop (mkF m 172 #[.val (.ref a1), .val (.ref a2), .val (.int (Int32.ofNat (q + 4))), .val (.ref a1), .val (.int (Int32.ofNat n)), .val (.int (Int32.ofNat i)), .val (.int (g i))] [])) _
                  refine XS.aloadN X95.here hx rfl (hb hby d1_172) rfl rfl ?_
                  show Steps p.tables e below (T95.setTop (mkF m 173 #[.val (.ref a1), .val (.ref a2), .val (.int (Int32.ofNat (q + 4))), .val (.ref a1), .val (.int (Int32.ofNat n)), .val (.int (Int32.ofNat i)), .val (.int (g i))] [(.ref a2)])) _
                  refine XS.iloadN X95.here hx rfl (hb hby d1_173) rfl ?_
                  show Steps p.tables e below (T95.setTop (mkF m 174 #[.val (.ref a1), .val (.ref a2), .val (.int (Int32.ofNat (q + 4))), .val (.ref a1), .val (.int (Int32.ofNat n)), .val (.int (Int32.ofNat i)), .val (.int (g i))] [(.int (Int32.ofNat (q + 4))), (.ref a2)])) _
                  refine XS.iinc X95.here hx rfl (hb hby d1_174) rfl (l' := #[.val (.ref a1), .val (.ref a2), .val (.int ((Int32.ofNat (q + 4)) + (1 : Int32))), .val (.ref a1), .val (.int (Int32.ofNat n)), .val (.int (Int32.ofNat i)), .val (.int (g i))]) rfl ?_
                  exact kt)
                have hv97 : ((Int32.ofNat (q + 4)) + (1 : Int32)) = (Int32.ofNat (q + 5)) := (inc_ofNat (q + 4)).symm
                rw [hv97] at pre96
                obtain ⟨T98, X98, e98, st98⟩ := getS X95 hx hZ hown (hw _ (List.mem_of_getElem? (i := 6) rfl)) Via.refl e95 (Sta.wr W95 (Sta.wr W90 (Sta.wr W85 (Sta.wr W80 SH)))) (g := (mkF m 177 #[.val (.ref a1), .val (.ref a2), .val (.int (Int32.ofNat (q + 5))), .val (.ref a1), .val (.int (Int32.ofNat n)), .val (.int (Int32.ofNat i)), .val (.int (g i))] [(.int (Int32.ofNat (q + 4))), (.ref a2)])) rfl (hb hby d1_177) (host := "")
                have pre99 : ∀ t, Steps p.tables e below (T98.setTop (mkF m 184 #[.val (.ref a1), .val (.ref a2), .val (.int (Int32.ofNat (q + 5))), .val (.ref a1), .val (.int (Int32.ofNat n)), .val (.int (Int32.ofNat i)), .val (.int (g i))] [(.int ((g i) >>> ((4 : Int32) &&& 31))), (.ref hxa), (.int (Int32.ofNat (q + 4))), (.ref a2)])) t → Steps p.tables e below _ t := fun t kt => pre96 t (by
                  show Steps p.tables e below (T95.setTop (mkF m 177 #[.val (.ref a1), .val (.ref a2), .val (.int (Int32.ofNat (q + 5))), .val (.ref a1), .val (.int (Int32.ofNat n)), .val (.int (Int32.ofNat i)), .val (.int (g i))] [(.int (Int32.ofNat (q + 4))), (.ref a2)])) _
                  refine st98 _ ?_
                  show Steps p.tables e below (T98.setTop (mkF m 180 #[.val (.ref a1), .val (.ref a2), .val (.int (Int32.ofNat (q + 5))), .val (.ref a1), .val (.int (Int32.ofNat n)), .val (.int (Int32.ofNat i)), .val (.int (g i))] [(.ref hxa), (.int (Int32.ofNat (q + 4))), (.ref a2)])) _
                  refine XS.iload X98.here hx rfl (hb hby d1_180) rfl ?_
                  show Steps p.tables e below (T98.setTop (mkF m 182 #[.val (.ref a1), .val (.ref a2), .val (.int (Int32.ofNat (q + 5))), .val (.ref a1), .val (.int (Int32.ofNat n)), .val (.int (Int32.ofNat i)), .val (.int (g i))] [(.int (g i)), (.ref hxa), (.int (Int32.ofNat (q + 4))), (.ref a2)])) _
                  refine XS.iconst X98.here hx rfl (hb hby d1_182) ?_
                  show Steps p.tables e below (T98.setTop (mkF m 183 #[.val (.ref a1), .val (.ref a2), .val (.int (Int32.ofNat (q + 5))), .val (.ref a1), .val (.int (Int32.ofNat n)), .val (.int (Int32.ofNat i)), .val (.int (g i))] [(.int (4 : Int32)), (.int (g i)), (.ref hxa), (.int (Int32.ofNat (q + 4))), (.ref a2)])) _
                  refine XS.ishr X98.here hx rfl (hb hby d1_183) rfl ?_
                  exact kt)
                obtain ⟨B, hB, hB32, hBn⟩ := own_small32 hc130 hc137
                obtain ⟨nu1, nu2, -, -⟩ := own_nums B hB32
                have hx1 := own_hexb (B / 16) (by omega)
                have hx2 := own_hexb (B % 16) (by omega)
                have hv100 : ((g i) >>> ((4 : Int32) &&& 31)) = (Int32.ofNat (B / 16)) := by rw [hB]; exact nu1
                rw [hv100] at pre99
                obtain ⟨cl_101, Ar_101, Sz_101, Hf_101⟩ := (own_A_other (own_A_other (own_A_other (own_A_other AH W80 neH) W85 neH) W90 neH) W95 neH)
                have pre102 : ∀ t, Steps p.tables e below (T98.setTop (mkF m 185 #[.val (.ref a1), .val (.ref a2), .val (.int (Int32.ofNat (q + 5))), .val (.ref a1), .val (.int (Int32.ofNat n)), .val (.int (Int32.ofNat i)), .val (.int (g i))] [(.int (own_hex (B / 16))), (.int (Int32.ofNat (q + 4))), (.ref a2)])) t → Steps p.tables e below _ t := fun t kt => pre99 t (by
                  show Steps p.tables e below (T98.setTop (mkF m 184 #[.val (.ref a1), .val (.ref a2), .val (.int (Int32.ofNat (q + 5))), .val (.ref a1), .val (.int (Int32.ofNat n)), .val (.int (Int32.ofNat i)), .val (.int (g i))] [(.int (Int32.ofNat (B / 16))), (.ref hxa), (.int (Int32.ofNat (q + 4))), (.ref a2)])) _
                  refine X98.baloadBytes hx (j := (Int32.ofNat (B / 16))) (v := (.int (own_hex (B / 16)))) (by rw [e98]; exact Ar_101.1) (State.isArrayOf_alike hZ.alike Ar_101.2.1) Ar_101.2.2 (within (c := (B / 16)) rfl (by omega) (by omega)) (by rw [clamp_of (c := (B / 16)) rfl (by omega)]; exact Hf_101 _ (by omega)) (g := (mkF m 184 #[.val (.ref a1), .val (.ref a2), .val (.int (Int32.ofNat (q + 5))), .val (.ref a1), .val (.int (Int32.ofNat n)), .val (.int (Int32.ofNat i)), .val (.int (g i))] [(.int (Int32.ofNat (B / 16))), (.ref hxa), (.int (Int32.ofNat (q + 4))), (.ref a2)])) rfl rfl (hb hby d1_184) _ ?_
                  exact kt)
                obtain ⟨cl_103, Ar_103, Sz_103, Hf_103⟩ := id F95
                obtain ⟨T104, h104, X104, e104, W104, st104⟩ := stB X98 hx hZ e98 Ar_103 (j := (Int32.ofNat (q + 4))) (within (c := (q + 4)) rfl (by omega) (by omega)) (g := (mkF m 185 #[.val (.ref a1), .val (.ref a2), .val (.int (Int32.ofNat (q + 5))), .val (.ref a1), .val (.int (Int32.ofNat n)), .val (.int (Int32.ofNat i)), .val (.int (g i))] [(.int (own_hex (B / 16))), (.int (Int32.ofNat (q + 4))), (.ref a2)])) rfl rfl (hb hby d1_185)
                have N104 := Fr.snoc X104 N95 g2
                have Zs104 : n0 ≤ h104.size := Nat.le_trans Zs95 (Nat.le_of_eq W104.size.symm)
                have Kp104 : Keep h0 h104 [a2] := Kp95.wr W104 (Or.inl (List.mem_of_getElem? (i := 0) rfl))
                have V104 : Wr h95 h104 a2 (q + 4) (.int (own_hex (B / 16))) := by have z := W104; rw [clamp_of (c := (q + 4)) rfl (by omega), hx1] at z; exact z
                have F104 := own_A_set F95 V104
                have pre105 : ∀ t, Steps p.tables e below (T104.setTop (mkF m 191 #[.val (.ref a1), .val (.ref a2), .val (.int ((Int32.ofNat (q + 5)) + (1 : Int32))), .val (.ref a1), .val (.int (Int32.ofNat n)), .val (.int (Int32.ofNat i)), .val (.int (g i))] [(.int (Int32.ofNat (q + 5))), (.ref a2)])) t → Steps p.tables e below _ t := fun t kt => pre102 t (by
                  show Steps p.tables e below (T98.setTop (mkF m 185 #[.val (.ref a1), .val (.ref a2), .val (.int (Int32.ofNat (q + 5))), .val (.ref a1), .val (.int (Int32.ofNat n)), .val (.int (Int32.ofNat i)), .val (.int (g i))] [(.int (own_hex (B / 16))), (.int (Int32.ofNat (q + 4))), (.ref a2)])) _
                  refine st104 _ ?_
                  show Steps p.tables e below (T104.setTop (mkF m 186 #[.val (.ref a1), .val (.ref a2), .val (.int (Int32.ofNat (q + 5))), .val (.ref a1), .val (.int (Int32.ofNat n)), .val (.int (Int32.ofNat i)), .val (.int (g i))] [])) _
                  refine XS.aloadN X104.here hx rfl (hb hby d1_186) rfl rfl ?_
                  show Steps p.tables e below (T104.setTop (mkF m 187 #[.val (.ref a1), .val (.ref a2), .val (.int (Int32.ofNat (q + 5))), .val (.ref a1), .val (.int (Int32.ofNat n)), .val (.int (Int32.ofNat i)), .val (.int (g i))] [(.ref a2)])) _
                  refine XS.iloadN X104.here hx rfl (hb hby d1_187) rfl ?_
                  show Steps p.tables e below (T104.setTop (mkF m 188 #[.val (.ref a1), .val (.ref a2), .val (.int (Int32.ofNat (q + 5))), .val (.ref a1), .val (.int (Int32.ofNat n)), .val (.int (Int32.ofNat i)), .val (.int (g i))] [(.int (Int32.ofNat (q + 5))), (.ref a2)])) _
                  refine XS.iinc X104.here hx rfl (hb hby d1_188) rfl (l' := #[.val (.ref a1), .val (.ref a2), .val (.int ((Int32.ofNat (q + 5)) + (1 : Int32))), .val (.ref a1), .val (.int (Int32.ofNat n)), .val (.int (Int32.ofNat i)), .val (.int (g i))]) rfl ?_
                  exact kt)
                have hv106 : ((Int32.ofNat (q + 5)) + (1 : Int32)) = (Int32.ofNat (q + 6)) := (inc_ofNat (q + 5)).symm
                rw [hv106] at pre105
                obtain ⟨T107, X107, e107, st107⟩ := getS X104 hx hZ hown (hw _ (List.mem_of_getElem? (i := 6) rfl)) Via.refl e104 (Sta.wr W104 (Sta.wr W95 (Sta.wr W90 (Sta.wr W85 (Sta.wr W80 SH))))) (g := (mkF m 191 #[.val (.ref a1), .val (.ref a2), .val (.int (Int32.ofNat (q + 6))), .val (.ref a1), .val (.int (Int32.ofNat n)), .val (.int (Int32.ofNat i)), .val (.int (g i))] [(.int (Int32.ofNat (q + 5))), (.ref a2)])) rfl (hb hby d1_191) (host := "")
                have pre108 : ∀ t, Steps p.tables e below (T107.setTop (mkF m 199 #[.val (.ref a1), .val (.ref a2), .val (.int (Int32.ofNat (q + 6))), .val (.ref a1), .val (.int (Int32.ofNat n)), .val (.int (Int32.ofNat i)), .val (.int (g i))] [(.int ((g i) &&& (15 : Int32))), (.ref hxa), (.int (Int32.ofNat (q + 5))), (.ref a2)])) t → Steps p.tables e below _ t := fun t kt => pre105 t (by
                  show Steps p.tables e below (T104.setTop (mkF m 191 #[.val (.ref a1), .val (.ref a2), .val (.int (Int32.ofNat (q + 6))), .val (.ref a1), .val (.int (Int32.ofNat n)), .val (.int (Int32.ofNat i)), .val (.int (g i))] [(.int (Int32.ofNat (q + 5))), (.ref a2)])) _
                  refine st107 _ ?_
                  show Steps p.tables e below (T107.setTop (mkF m 194 #[.val (.ref a1), .val (.ref a2), .val (.int (Int32.ofNat (q + 6))), .val (.ref a1), .val (.int (Int32.ofNat n)), .val (.int (Int32.ofNat i)), .val (.int (g i))] [(.ref hxa), (.int (Int32.ofNat (q + 5))), (.ref a2)])) _
                  refine XS.iload X107.here hx rfl (hb hby d1_194) rfl ?_
                  show Steps p.tables e below (T107.setTop (mkF m 196 #[.val (.ref a1), .val (.ref a2), .val (.int (Int32.ofNat (q + 6))), .val (.ref a1), .val (.int (Int32.ofNat n)), .val (.int (Int32.ofNat i)), .val (.int (g i))] [(.int (g i)), (.ref hxa), (.int (Int32.ofNat (q + 5))), (.ref a2)])) _
                  refine XS.bipush X107.here hx rfl (hb hby d1_196) ?_
                  show Steps p.tables e below (T107.setTop (mkF m 198 #[.val (.ref a1), .val (.ref a2), .val (.int (Int32.ofNat (q + 6))), .val (.ref a1), .val (.int (Int32.ofNat n)), .val (.int (Int32.ofNat i)), .val (.int (g i))] [(.int (15 : Int32)), (.int (g i)), (.ref hxa), (.int (Int32.ofNat (q + 5))), (.ref a2)])) _
                  refine XS.iand X107.here hx rfl (hb hby d1_198) rfl ?_
                  exact kt)
                have hv109 : ((g i) &&& (15 : Int32)) = (Int32.ofNat (B % 16)) := by rw [hB]; exact nu2
                rw [hv109] at pre108
                obtain ⟨cl_110, Ar_110, Sz_110, Hf_110⟩ := (own_A_other (own_A_other (own_A_other (own_A_other (own_A_other AH W80 neH) W85 neH) W90 neH) W95 neH) W104 neH)
                have pre111 : ∀ t, Steps p.tables e below (T107.setTop (mkF m 200 #[.val (.ref a1), .val (.ref a2), .val (.int (Int32.ofNat (q + 6))), .val (.ref a1), .val (.int (Int32.ofNat n)), .val (.int (Int32.ofNat i)), .val (.int (g i))] [(.int (own_hex (B % 16))), (.int (Int32.ofNat (q + 5))), (.ref a2)])) t → Steps p.tables e below _ t := fun t kt => pre108 t (by
                  show Steps p.tables e below (T107.setTop (mkF m 199 #[.val (.ref a1), .val (.ref a2), .val (.int (Int32.ofNat (q + 6))), .val (.ref a1), .val (.int (Int32.ofNat n)), .val (.int (Int32.ofNat i)), .val (.int (g i))] [(.int (Int32.ofNat (B % 16))), (.ref hxa), (.int (Int32.ofNat (q + 5))), (.ref a2)])) _
                  refine X107.baloadBytes hx (j := (Int32.ofNat (B % 16))) (v := (.int (own_hex (B % 16)))) (by rw [e107]; exact Ar_110.1) (State.isArrayOf_alike hZ.alike Ar_110.2.1) Ar_110.2.2 (within (c := (B % 16)) rfl (by omega) (by omega)) (by rw [clamp_of (c := (B % 16)) rfl (by omega)]; exact Hf_110 _ (by omega)) (g := (mkF m 199 #[.val (.ref a1), .val (.ref a2), .val (.int (Int32.ofNat (q + 6))), .val (.ref a1), .val (.int (Int32.ofNat n)), .val (.int (Int32.ofNat i)), .val (.int (g i))] [(.int (Int32.ofNat (B % 16))), (.ref hxa), (.int (Int32.ofNat (q + 5))), (.ref a2)])) rfl rfl (hb hby d1_199) _ ?_
                  exact kt)
                obtain ⟨cl_112, Ar_112, Sz_112, Hf_112⟩ := id F104
                obtain ⟨T113, h113, X113, e113, W113, st113⟩ := stB X107 hx hZ e107 Ar_112 (j := (Int32.ofNat (q + 5))) (within (c := (q + 5)) rfl (by omega) (by omega)) (g := (mkF m 200 #[.val (.ref a1), .val (.ref a2), .val (.int (Int32.ofNat (q + 6))), .val (.ref a1), .val (.int (Int32.ofNat n)), .val (.int (Int32.ofNat i)), .val (.int (g i))] [(.int (own_hex (B % 16))), (.int (Int32.ofNat (q + 5))), (.ref a2)])) rfl rfl (hb hby d1_200)
                have N113 := Fr.snoc X113 N104 g2
                have Zs113 : n0 ≤ h113.size := Nat.le_trans Zs104 (Nat.le_of_eq W113.size.symm)
                have Kp113 : Keep h0 h113 [a2] := Kp104.wr W113 (Or.inl (List.mem_of_getElem? (i := 0) rfl))
                have V113 : Wr h104 h113 a2 (q + 5) (.int (own_hex (B % 16))) := by have z := W113; rw [clamp_of (c := (q + 5)) rfl (by omega), hx2] at z; exact z
                have F113 := own_A_set F104 V113
                have pre114 : ∀ t, Steps p.tables e below (T113.setTop (mkF m 17 #[.val (.ref a1), .val (.ref a2), .val (.int (Int32.ofNat (q + 6))), .val (.ref a1), .val (.int (Int32.ofNat n)), .val (.int ((Int32.ofNat i) + (1 : Int32))), .val (.int (g i))] [])) t → Steps p.tables e below _ t := fun t kt => pre111 t (by
                  show Steps p.tables e below (T107.setTop (mkF m 200 #[.val (.ref a1), .val (.ref a2), .val (.int (Int32.ofNat (q + 6))), .val (.ref a1), .val (.int (Int32.ofNat n)), .val (.int (Int32.ofNat i)), .val (.int (g i))] [(.int (own_hex (B % 16))), (.int (Int32.ofNat (q + 5))), (.ref a2)])) _
                  refine st113 _ ?_
                  show Steps p.tables e below (T113.setTop (mkF m 201 #[.val (.ref a1), .val (.ref a2), .val (.int (Int32.ofNat (q + 6))), .val (.ref a1), .val (.int (Int32.ofNat n)), .val (.int (Int32.ofNat i)), .val (.int (g i))] [])) _
                  refine XS.goto X113.here hx rfl (pc0 := 201) (pc' := 212) rfl (hb hby d1_201) (by decide) (by decide) ?_
                  show Steps p.tables e below (T113.setTop (mkF m 212 #[.val (.ref a1), .val (.ref a2), .val (.int (Int32.ofNat (q + 6))), .val (.ref a1), .val (.int (Int32.ofNat n)), .val (.int (Int32.ofNat i)), .val (.int (g i))] [])) _
                  refine XS.iinc X113.here hx rfl (hb hby d1_212) rfl (l' := #[.val (.ref a1), .val (.ref a2), .val (.int (Int32.ofNat (q + 6))), .val (.ref a1), .val (.int (Int32.ofNat n)), .val (.int ((Int32.ofNat i) + (1 : Int32))), .val (.int (g i))]) rfl ?_
                  show Steps p.tables e below (T113.setTop (mkF m 215 #[.val (.ref a1), .val (.ref a2), .val (.int (Int32.ofNat (q + 6))), .val (.ref a1), .val (.int (Int32.ofNat n)), .val (.int ((Int32.ofNat i) + (1 : Int32))), .val (.int (g i))] [])) _
                  refine XS.goto X113.here hx rfl (pc0 := 215) (pc' := 17) rfl (hb hby d1_215) (by decide) (by decide) ?_
                  exact kt)
                have hv115 : ((Int32.ofNat i) + (1 : Int32)) = (Int32.ofNat (i + 1)) := (inc_ofNat i).symm
                rw [hv115] at pre114
                have he : own_enc (g i) = [92, 117, 48, 48, own_hex (B / 16), own_hex (B % 16)] := by
                  simp only [own_enc, hBn, if_neg hc34, if_neg hc41, if_neg hc67, if_neg hc74, if_neg hc81, if_neg hc130, if_pos hc137]
                refine ⟨T113, h113, _, X113, e113, N113, Kp113, ?_, ?_⟩
                · rw [he]; exact F113
                · rw [he]; exact pre114
              · have pre116 : ∀ t, Steps p.tables e below (T0.setTop (mkF m 209 #[.val (.ref a1), .val (.ref a2), .val (.int ((Int32.ofNat q) + (1 : Int32))), .val (.ref a1), .val (.int (Int32.ofNat n)), .val (.int (Int32.ofNat i)), .val (.int (g i))] [(.int (Int32.ofNat q)), (.ref a2)])) t → Steps p.tables e below _ t := fun t kt => pre75 t (by
                  show Steps p.tables e below (T0.setTop (mkF m 137 #[.val (.ref a1), .val (.ref a2), .val (.int (Int32.ofNat q)), .val (.ref a1), .val (.int (Int32.ofNat n)), .val (.int (Int32.ofNat i)), .val (.int (g i))] [(.int (32 : Int32)), (.int (g i))])) _
                  refine XS.icmpYes X0.here hx rfl (pc0 := 137) (pc' := 204) rfl (hb hby d1_137) rfl (flt hc137).2.1 (by decide) (by decide) ?_
                  show Steps p.tables e below (T0.setTop (mkF m 204 #[.val (.ref a1), .val (.ref a2), .val (.int (Int32.ofNat q)), .val (.ref a1), .val (.int (Int32.ofNat n)), .val (.int (Int32.ofNat i)), .val (.int (g i))] [])) _
                  refine XS.aloadN X0.here hx rfl (hb hby d1_204) rfl rfl ?_
                  show Steps p.tables e below (T0.setTop (mkF m 205 #[.val (.ref a1), .val (.ref a2), .val (.int (Int32.ofNat q)), .val (.ref a1), .val (.int (Int32.ofNat n)), .val (.int (Int32.ofNat i)), .val (.int (g i))] [(.ref a2)])) _
                  refine XS.iloadN X0.here hx rfl (hb hby d1_205) rfl ?_
                  show Steps p.tables e below (T0.setTop (mkF m 206 #[.val (.ref a1), .val (.ref a2), .val (.int (Int32.ofNat q)), .val (.ref a1), .val (.int (Int32.ofNat n)), .val (.int (Int32.ofNat i)), .val (.int (g i))] [(.int (Int32.ofNat q)), (.ref a2)])) _
                  refine XS.iinc X0.here hx rfl (hb hby d1_206) rfl (l' := #[.val (.ref a1), .val (.ref a2), .val (.int ((Int32.ofNat q) + (1 : Int32))), .val (.ref a1), .val (.int (Int32.ofNat n)), .val (.int (Int32.ofNat i)), .val (.int (g i))]) rfl ?_
                  exact kt)
                have hv117 : ((Int32.ofNat q) + (1 : Int32)) = (Int32.ofNat (q + 1)) := (inc_ofNat q).symm
                rw [hv117] at pre116
                have pre118 : ∀ t, Steps p.tables e below (T0.setTop (mkF m 211 #[.val (.ref a1), .val (.ref a2), .val (.int (Int32.ofNat (q + 1))), .val (.ref a1), .val (.int (Int32.ofNat n)), .val (.int (Int32.ofNat i)), .val (.int (g i))] [(.int (g i)), (.int (Int32.ofNat q)), (.ref a2)])) t → Steps p.tables e below _ t := fun t kt => pre116 t (by
                  show Steps p.tables e below (T0.setTop (mkF m 209 #[.val (.ref a1), .val (.ref a2), .val (.int (Int32.ofNat (q + 1))), .val (.ref a1), .val (.int (Int32.ofNat n)), .val (.int (Int32.ofNat i)), .val (.int (g i))] [(.int (Int32.ofNat q)), (.ref a2)])) _
                  refine XS.iload X0.here hx rfl (hb hby d1_209) rfl ?_
                  exact kt)
                obtain ⟨cl_119, Ar_119, Sz_119, Hf_119⟩ := id A2
                obtain ⟨T120, h120, X120, e120, W120, st120⟩ := stB X0 hx hZ e0 Ar_119 (j := (Int32.ofNat q)) (within (c := q) rfl (by omega) (by omega)) (g := (mkF m 211 #[.val (.ref a1), .val (.ref a2), .val (.int (Int32.ofNat (q + 1))), .val (.ref a1), .val (.int (Int32.ofNat n)), .val (.int (Int32.ofNat i)), .val (.int (g i))] [(.int (g i)), (.int (Int32.ofNat q)), (.ref a2)])) rfl rfl (hb hby d1_211)
                have N120 := Fr.snoc X120 N0 g2
                have Zs120 : n0 ≤ h120.size := Nat.le_trans Z0 (Nat.le_of_eq W120.size.symm)
                have Kp120 : Keep h0 h120 [a2] := (Keep.refl h0 [a2]).wr W120 (Or.inl (List.mem_of_getElem? (i := 0) rfl))
                have V120 : Wr h0 h120 a2 q (.int (g i)) := by have z := W120; rw [clamp_of (c := q) rfl (by omega), hbyte] at z; exact z
                have F120 := own_A_set A2 V120
                have pre121 : ∀ t, Steps p.tables e below (T120.setTop (mkF m 17 #[.val (.ref a1), .val (.ref a2), .val (.int (Int32.ofNat (q + 1))), .val (.ref a1), .val (.int (Int32.ofNat n)), .val (.int ((Int32.ofNat i) + (1 : Int32))), .val (.int (g i))] [])) t → Steps p.tables e below _ t := fun t kt => pre118 t (by
                  show Steps p.tables e below (T0.setTop (mkF m 211 #[.val (.ref a1), .val (.ref a2), .val (.int (Int32.ofNat (q + 1))), .val (.ref a1), .val (.int (Int32.ofNat n)), .val (.int (Int32.ofNat i)), .val (.int (g i))] [(.int (g i)), (.int (Int32.ofNat q)), (.ref a2)])) _
                  refine st120 _ ?_
                  show Steps p.tables e below (T120.setTop (mkF m 212 #[.val (.ref a1), .val (.ref a2), .val (.int (Int32.ofNat (q + 1))), .val (.ref a1), .val (.int (Int32.ofNat n)), .val (.int (Int32.ofNat i)), .val (.int (g i))] [])) _
                  refine XS.iinc X120.here hx rfl (hb hby d1_212) rfl (l' := #[.val (.ref a1), .val (.ref a2), .val (.int (Int32.ofNat (q + 1))), .val (.ref a1), .val (.int (Int32.ofNat n)), .val (.int ((Int32.ofNat i) + (1 : Int32))), .val (.int (g i))]) rfl ?_
                  show Steps p.tables e below (T120.setTop (mkF m 215 #[.val (.ref a1), .val (.ref a2), .val (.int (Int32.ofNat (q + 1))), .val (.ref a1), .val (.int (Int32.ofNat n)), .val (.int ((Int32.ofNat i) + (1 : Int32))), .val (.int (g i))] [])) _
                  refine XS.goto X120.here hx rfl (pc0 := 215) (pc' := 17) rfl (hb hby d1_215) (by decide) (by decide) ?_
                  exact kt)
                have hv122 : ((Int32.ofNat i) + (1 : Int32)) = (Int32.ofNat (i + 1)) := (inc_ofNat i).symm
                rw [hv122] at pre121
                have he : own_enc (g i) = [g i] := by
                  simp only [own_enc, if_neg hc34, if_neg hc41, if_neg hc67, if_neg hc74, if_neg hc81, if_neg hc130, if_neg hc137]
                refine ⟨T120, h120, _, X120, e120, N120, Kp120, ?_, ?_⟩
                · rw [he]; exact F120
                · rw [he]; exact pre121

set_option maxRecDepth 65536 in
set_option maxHeartbeats 40000000 in
theorem own_loop {p : Program} {l : Launch} {e : Env} {R : Room} {s : State} {m : MethodId} {args : Array Value} {below : List Frame} {meth : Method} {c : Code} {cells slots : Nat} {Z : State} {a0 : Array Value} {n0 : Nat} (a1 a2 hxa : Addr) (n N q0 : Nat) (f0 g : Nat → Int32)
    (hx : p.tables.exec = Jvm.exec) (hZ : Z.Warmed39 s.vm) (hw : ∀ d ∈ tables_1, d.before a0 Z = true) (hby : c.code = prog_156_method_36_code) (hml : c.maxLocals = 7) (hown : s.vm.findClass "com/example/windrow/windrow/cli/Json" = some m.cls) (ne1 : a1 ≠ a2) (neH : hxa ≠ a2) (g2 : n0 ≤ a2) (hn : n < 2 ^ 31) (hN : N < 2 ^ 31) (hroom : q0 + 6 * n ≤ N) (hbyte : ∀ i, i < n → nar .byte (g i) = g i) :
    ∀ (k i : Nat) (T0 : State) (locs : List Loc) (h0 : Heap) (s6 : Slot), i + k = n → One s6 → Stand p l e R s m args below meth c T0 locs cells slots → T0.heap = h0 → Fr n0 locs → n0 ≤ h0.size → own_A Z h0 a1 .byte n g → own_A Z h0 a2 .byte N (own_wr f0 q0 (own_encs g i)) → Sta Z h0 "com/example/windrow/windrow/cli/Json" "HEX_DIGITS" "[B" (.ref hxa) → own_A Z h0 hxa .byte 16 own_hex →
    ∃ (T' : State) (h' : Heap) (locs' : List Loc) (s6' : Slot), Stand p l e R s m args below meth c T' locs' cells slots ∧ T'.heap = h' ∧ Fr n0 locs' ∧ Keep h0 h' [a2] ∧ own_A Z h' a2 .byte N (own_wr f0 q0 (own_encs g n)) ∧
      ∀ t, Steps p.tables e below (T'.setTop (mkF m 218 #[.val (.ref a1), .val (.ref a2), .val (.int (Int32.ofNat (q0 + (own_encs g n).length))), .val (.ref a1), .val (.int (Int32.ofNat n)), .val (.int (Int32.ofNat n)), s6'] [])) t → Steps p.tables e below (T0.setTop (mkF m 17 #[.val (.ref a1), .val (.ref a2), .val (.int (Int32.ofNat (q0 + (own_encs g i).length))), .val (.ref a1), .val (.int (Int32.ofNat n)), .val (.int (Int32.ofNat i)), s6] [])) t := by
  intro k
  induction k with
  | zero =>
    intro i T0 locs h0 s6 hik hs6 X0 e0 N0 Z0 A1 A2 SH AH
    have hin : i = n := by omega
    subst hin
    refine ⟨T0, h0, locs, s6, X0, e0, N0, Keep.refl _ _, A2, fun t kt => ?_⟩
    show Steps p.tables e below (T0.setTop (mkF m 17 #[.val (.ref a1), .val (.ref a2), .val (.int (Int32.ofNat (q0 + (own_encs g i).length))), .val (.ref a1), .val (.int (Int32.ofNat i)), .val (.int (Int32.ofNat i)), s6] [])) _
    refine XS.iload X0.here hx rfl (hb hby d1_17) rfl ?_
    show Steps p.tables e below (T0.setTop (mkF m 19 #[.val (.ref a1), .val (.ref a2), .val (.int (Int32.ofNat (q0 + (own_encs g i).length))), .val (.ref a1), .val (.int (Int32.ofNat i)), .val (.int (Int32.ofNat i)), s6] [(.int (Int32.ofNat i))])) _
    refine XS.iload X0.here hx rfl (hb hby d1_19) rfl ?_
    have hc21 : ¬ ((Int32.ofNat i) < (Int32.ofNat i)) := own_nlt (Nat.le_refl _) (by omega)
    show Steps p.tables e below (T0.setTop (mkF m 21 #[.val (.ref a1), .val (.ref a2), .val (.int (Int32.ofNat (q0 + (own_encs g i).length))), .val (.ref a1), .val (.int (Int32.ofNat i)), .val (.int (Int32.ofNat i)), s6] [(.int (Int32.ofNat i)), (.int (Int32.ofNat i))])) _
    refine XS.icmpYes X0.here hx rfl (pc0 := 21) (pc' := 218) rfl (hb hby d1_21) rfl (flt hc21).2.1 (by decide) (by decide) ?_
    exact kt
  | succ k ih =>
    intro i T0 locs h0 s6 hik hs6 X0 e0 N0 Z0 A1 A2 SH AH
    have hl := own_encs_len g i
    have hm : 6 * (i + 1) ≤ 6 * n := Nat.mul_le_mul_left 6 (by omega)
    obtain ⟨T1, h1, locs1, X1, e1, N1, K1, B2, st1⟩ := own_turn a1 a2 hxa (q0 + (own_encs g i).length) n i N (own_wr f0 q0 (own_encs g i)) g s6 X0 hx hZ hw hby hml hown e0 N0 Z0 hs6 A1 A2 SH AH neH g2 (by omega) hn hN (by omega) (hbyte i (by omega))
    rw [← own_wr_app, show own_encs g i ++ own_enc (g i) = own_encs g (i + 1) from rfl] at B2
    have ee : q0 + (own_encs g i).length + (own_enc (g i)).length = q0 + (own_encs g (i + 1)).length := by
      rw [show own_encs g (i + 1) = own_encs g i ++ own_enc (g i) from rfl, List.length_append]; omega
    rw [ee] at st1
    have SH1 : Sta Z h1 "com/example/windrow/windrow/cli/Json" "HEX_DIGITS" "[B" (.ref hxa) := own_Sta_keep2 SH K1 A2
    obtain ⟨T2, h2, locs2, s62, X2, e2, N2, K2, C2, st2⟩ := ih (i + 1) T1 locs1 h1 (.val (.int (g i))) (by omega) (One.val rfl) X1 e1 N1 (Nat.le_trans Z0 K1.1) (own_A_keep A1 K1 (ninS ne1 nin0)) B2 SH1 (own_A_keep AH K1 (ninS neH nin0))
    exact ⟨T2, h2, locs2, s62, X2, e2, N2, K1.trans K2 (fun x hx' => Or.inl hx'), C2, fun t kt => st1 t (st2 t kt)⟩
theorem pn_1 : plainName "com/example/windrow/windrow/cli/Json" = true := by first | (simp [plainName, overriddenIn]; done) | decide +kernel
theorem ef_1 (m : MethodId) (x0 : Addr) (x1 : Addr) (x2 : Int32) : entryFrame m #[(.ref x0), (.ref x1), (.int x2)] 7 = mkF m 0 #[.val (.ref x0), .val (.ref x1), .val (.int x2), .unset, .unset, .unset, .unset] [] := by first | (simp [entryFrame, mkF, argsToLocals, Value.category]; done) | rfl
theorem d1_0 : decode prog_156_method_36_code 0 = .ok (.aload_n 1, 1) := by decide +kernel
theorem d1_1 : decode prog_156_method_36_code 1 = .ok (.iload_n 2, 1) := by decide +kernel
theorem d1_2 : decode prog_156_method_36_code 2 = .ok (.iinc 2 1, 3) := by decide +kernel
theorem d1_5 : decode prog_156_method_36_code 5 = .ok (.bipush 34, 2) := by decide +kernel
theorem d1_7 : decode prog_156_method_36_code 7 = .ok (.bastore, 1) := by decide +kernel
theorem d1_8 : decode prog_156_method_36_code 8 = .ok (.aload_n 0, 1) := by decide +kernel
theorem d1_9 : decode prog_156_method_36_code 9 = .ok (.astore_n 3, 1) := by decide +kernel
theorem d1_10 : decode prog_156_method_36_code 10 = .ok (.aload_n 3, 1) := by decide +kernel
theorem d1_11 : decode prog_156_method_36_code 11 = .ok (.arraylength, 1) := by decide +kernel
theorem d1_12 : decode prog_156_method_36_code 12 = .ok (.istore 4, 2) := by decide +kernel
theorem d1_14 : decode prog_156_method_36_code 14 = .ok (.iconst 0, 1) := by decide +kernel
theorem d1_15 : decode prog_156_method_36_code 15 = .ok (.istore 5, 2) := by decide +kernel
theorem d1_218 : decode prog_156_method_36_code 218 = .ok (.aload_n 1, 1) := by decide +kernel
theorem d1_219 : decode prog_156_method_36_code 219 = .ok (.iload_n 2, 1) := by decide +kernel
theorem d1_220 : decode prog_156_method_36_code 220 = .ok (.iinc 2 1, 3) := by decide +kernel
theorem d1_223 : decode prog_156_method_36_code 223 = .ok (.bipush 34, 2) := by decide +kernel
theorem d1_225 : decode prog_156_method_36_code 225 = .ok (.bastore, 1) := by decide +kernel
theorem d1_226 : decode prog_156_method_36_code 226 = .ok (.iload_n 2, 1) := by decide +kernel
theorem d1_227 : decode prog_156_method_36_code 227 = .ok (.ireturn, 1) := by decide +kernel
def Q1 (Z : State) (a2 : Addr) (pA n N : Nat) (f g : Nat → Int32) (h0 : Heap) (n0 : Nat) (v : Option Value) (h : Heap) (L : List Loc) : Prop := v = some (.int (Int32.ofNat (pA + 1 + (own_encs g n).length + 1))) ∧ Fr n0 L ∧ Keep h0 h [a2] ∧ own_A Z h a2 .byte N (upd (own_wr (upd f pA 34) (pA + 1) (own_encs g n)) (pA + 1 + (own_encs g n).length) 34)
set_option maxRecDepth 65536 in
set_option maxHeartbeats 40000000 in
theorem rm1 (l : Launch) (Z : State) (a0 : Array Value) (hw : ∀ d ∈ tables_1, d.before a0 Z = true) (ws : List Jvm.Cond) (a1 : Addr) (a2 : Addr) (hxa : Addr) (pA : Nat) (n : Nat) (N : Nat) (f : Nat → Int32) (g : Nat → Int32) (h0 : Heap) (n0 : Nat) (Z0 : n0 ≤ h0.size) (A1 : own_A Z h0 a1 .byte n g) (A2 : own_A Z h0 a2 .byte N f) (SH : Sta Z h0 "com/example/windrow/windrow/cli/Json" "HEX_DIGITS" "[B" (.ref hxa)) (AH : own_A Z h0 hxa .byte 16 own_hex) (ne1 : a1 ≠ a2) (neH : hxa ≠ a2) (g2 : n0 ≤ a2) (hn : n < 2 ^ 31) (hN : N < 2 ^ 31) (hroom : pA + 2 + 6 * n ≤ N) (hbyte : ∀ i, i < n → nar .byte (g i) = g i) :
    MetFree l (⟨"com/example/windrow/windrow/cli/Json", "write", "([B[BI)I"⟩ : MethodName) (head1 (Jvm.Cond.code (⟨"com/example/windrow/windrow/cli/Json", "write", "([B[BI)I"⟩ : MethodName) prog_156_method_36_code 7 (some .int) :: ws) ({ frames := 0, cells := 0, slots := 0, locals := 0 } : Room)) (fun aa_ U => aa_ = #[(.ref a1), (.ref a2), (.int (Int32.ofNat pA))] ∧ Z.Warmed39 U.vm ∧ U.heap = h0) (fun _ _ _ _ _ => True) (fun _ U o U' => ∃ v_ L_, o = .returned v_ ∧ Q1 Z a2 pA n N f g h0 n0 v_ U'.heap L_ ∧ FrameEnd U o U' L_ ({ frames := 0, cells := 0, slots := 0, locals := 0 } : Room).cells ({ frames := 0, cells := 0, slots := 0, locals := 0 } : Room).slots) := by
  refine MetFree.of_bodySF (plainFor_of_name pn_1) hisR ?_
  intro p e s m args below meth c s₁ Bd hml0 hP hK
  obtain ⟨rfl, hZ, hh⟩ := hP
  have hx := Bd.exec
  have hby := Bd.bytes
  have hml : c.maxLocals = 7 := hml0
  have hown : s.vm.findClass "com/example/windrow/windrow/cli/Json" = some m.cls := findClass_of_methodNamed Bd.named
  have hnm := (name_of_methodNamed Bd.named Bd.method).1
  have X0 : Stand p l e ({ frames := 0, cells := 0, slots := 0, locals := 0 } : Room) s m #[(.ref a1), (.ref a2), (.int (Int32.ofNat pA))] below meth c s₁ [] 0 0 := Stand.of_body Bd
  have e0 : s₁.heap = h0 := by rw [← hh, Bd.state]; rfl
  have N0 := Fr.nil n0
  have pre0 : ∀ t, Steps p.tables e below (s₁.setTop (mkF m 0 #[.val (.ref a1), .val (.ref a2), .val (.int (Int32.ofNat pA)), .unset, .unset, .unset, .unset] [])) t → Steps p.tables e below (s₁.setTop (entryFrame m #[(.ref a1), (.ref a2), (.int (Int32.ofNat pA))] 7)) t := fun t k_ => castTop (ef_1 m a1 a2 (Int32.ofNat pA)) k_
  have pre1 : ∀ t, Steps p.tables e below (s₁.setTop (mkF m 5 #[.val (.ref a1), .val (.ref a2), .val (.int ((Int32.ofNat pA) + (1 : Int32))), .unset, .unset, .unset, .unset] [(.int (Int32.ofNat pA)), (.ref a2)])) t → Steps p.tables e below _ t := fun t kt => pre0 t (by
    show Steps p.tables e below (s₁.setTop (mkF m 0 #[.val (.ref a1), .val (.ref a2), .val (.int (Int32.ofNat pA)), .unset, .unset, .unset, .unset] [])) _
    refine XS.aloadN X0.here hx rfl (hb hby d1_0) rfl rfl ?_
    show Steps p.tables e below (s₁.setTop (mkF m 1 #[.val (.ref a1), .val (.ref a2), .val (.int (Int32.ofNat pA)), .unset, .unset, .unset, .unset] [(.ref a2)])) _
    refine XS.iloadN X0.here hx rfl (hb hby d1_1) rfl ?_
    show Steps p.tables e below (s₁.setTop (mkF m 2 #[.val (.ref a1), .val (.ref a2), .val (.int (Int32.ofNat pA)), .unset, .unset, .unset, .unset] [(.int (Int32.ofNat pA)), (.ref a2)])) _
    refine XS.iinc X0.here hx rfl (hb hby d1_2) rfl (l' := #[.val (.ref a1), .val (.ref a2), .val (.int ((Int32.ofNat pA) + (1 : Int32))), .unset, .unset, .unset, .unset]) rfl ?_
    exact kt)
  have hv2 : ((Int32.ofNat pA) + (1 : Int32)) = (Int32.ofNat (pA + 1)) := (inc_ofNat pA).symm
  rw [hv2] at pre1
  have pre3 : ∀ t, Steps p.tables e below (s₁.setTop (mkF m 7 #[.val (.ref a1), .val (.ref a2), .val (.int (Int32.ofNat (pA + 1))), .unset, .unset, .unset, .unset] [(.int (34 : Int32)), (.int (Int32.ofNat pA)), (.ref a2)])) t → Steps p.tables e below _ t := fun t kt => pre1 t (by
    show Steps p.tables e below (s₁.setTop (mkF m 5 #[.val (.ref a1), .val (.ref a2), .val (.int (Int32.ofNat (pA + 1))), .unset, .unset, .unset, .unset] [(.int (Int32.ofNat pA)), (.ref a2)])) _
    refine XS.bipush X0.here hx rfl (hb hby d1_5) ?_
    exact kt)
  obtain ⟨cl_a, Ar_a, Sz_a, Hf_a⟩ := id A2
  obtain ⟨T4, h4, X4, e4, W4, st4⟩ := stB X0 hx hZ e0 Ar_a (j := (Int32.ofNat pA)) (within (c := pA) rfl (by omega) (by omega)) (g := (mkF m 7 #[.val (.ref a1), .val (.ref a2), .val (.int (Int32.ofNat (pA + 1))), .unset, .unset, .unset, .unset] [(.int (34 : Int32)), (.int (Int32.ofNat pA)), (.ref a2)])) rfl rfl (hb hby d1_7)
  have N4 := Fr.snoc X4 N0 g2
  have Zs4 : n0 ≤ h4.size := Nat.le_trans Z0 (Nat.le_of_eq W4.size.symm)
  have Kp4 : Keep h0 h4 [a2] := (Keep.refl h0 [a2]).wr W4 (Or.inl (List.mem_of_getElem? (i := 0) rfl))
  have Va : Wr h0 h4 a2 pA (.int (34 : Int32)) := by have z := W4; rw [clamp_of (c := pA) rfl (by omega)] at z; exact z
  have Fa := own_A_set A2 Va
  have A1a := own_A_other A1 Va ne1
  have SHa := Sta.wr Va SH
  have AHa := own_A_other AH Va neH
  obtain ⟨cl_t, Ar_t, Sz_t, Hf_t⟩ := id A1a
  have pre5 : ∀ t, Steps p.tables e below (T4.setTop (mkF m 17 #[.val (.ref a1), .val (.ref a2), .val (.int (Int32.ofNat (pA + 1))), .val (.ref a1), .val (.int (Int32.ofNat n)), .val (.int (0 : Int32)), .unset] [])) t → Steps p.tables e below _ t := fun t kt => pre3 t (by
    show Steps p.tables e below (s₁.setTop (mkF m 7 #[.val (.ref a1), .val (.ref a2), .val (.int (Int32.ofNat (pA + 1))), .unset, .unset, .unset, .unset] [(.int (34 : Int32)), (.int (Int32.ofNat pA)), (.ref a2)])) _
    refine st4 _ ?_
    show Steps p.tables e below (T4.setTop (mkF m 8 #[.val (.ref a1), .val (.ref a2), .val (.int (Int32.ofNat (pA + 1))), .unset, .unset, .unset, .unset] [])) _
    refine XS.aloadN X4.here hx rfl (hb hby d1_8) rfl rfl ?_
    show Steps p.tables e below (T4.setTop (mkF m 9 #[.val (.ref a1), .val (.ref a2), .val (.int (Int32.ofNat (pA + 1))), .unset, .unset, .unset, .unset] [(.ref a1)])) _
    refine XS.astoreN X4.here hx rfl (hb hby d1_9) rfl rfl (l' := #[.val (.ref a1), .val (.ref a2), .val (.int (Int32.ofNat (pA + 1))), .val (.ref a1), .unset, .unset, .unset]) rfl ?_
    show Steps p.tables e below (T4.setTop (mkF m 10 #[.val (.ref a1), .val (.ref a2), .val (.int (Int32.ofNat (pA + 1))), .val (.ref a1), .unset, .unset, .unset] [])) _
    refine XS.aloadN X4.here hx rfl (hb hby d1_10) rfl rfl ?_
    show Steps p.tables e below (T4.setTop (mkF m 11 #[.val (.ref a1), .val (.ref a2), .val (.int (Int32.ofNat (pA + 1))), .val (.ref a1), .unset, .unset, .unset] [(.ref a1)])) _
    refine X4.arraylength hx (by rw [e4]; exact Ar_t.1) (State.isArrayOf_alike hZ.alike Ar_t.2.1) (g := (mkF m 11 #[.val (.ref a1), .val (.ref a2), .val (.int (Int32.ofNat (pA + 1))), .val (.ref a1), .unset, .unset, .unset] [(.ref a1)])) rfl rfl (hb hby d1_11) _ ?_
    rw [len_of (by rw [Sz_t, clamp_of (c := n) rfl hn] : cl_t.slots.size = (Int32.ofNat n).toNatClampNeg) (own_nneg hn)]
    show Steps p.tables e below (T4.setTop (mkF m 12 #[.val (.ref a1), .val (.ref a2), .val (.int (Int32.ofNat (pA + 1))), .val (.ref a1), .unset, .unset, .unset] [(.int (Int32.ofNat n))])) _
    refine XS.istore X4.here hx rfl (hb hby d1_12) rfl (l' := #[.val (.ref a1), .val (.ref a2), .val (.int (Int32.ofNat (pA + 1))), .val (.ref a1), .val (.int (Int32.ofNat n)), .unset, .unset]) rfl ?_
    show Steps p.tables e below (T4.setTop (mkF m 14 #[.val (.ref a1), .val (.ref a2), .val (.int (Int32.ofNat (pA + 1))), .val (.ref a1), .val (.int (Int32.ofNat n)), .unset, .unset] [])) _
    refine XS.iconst X4.here hx rfl (hb hby d1_14) ?_
    show Steps p.tables e below (T4.setTop (mkF m 15 #[.val (.ref a1), .val (.ref a2), .val (.int (Int32.ofNat (pA + 1))), .val (.ref a1), .val (.int (Int32.ofNat n)), .unset, .unset] [(.int (0 : Int32))])) _
    refine XS.istore X4.here hx rfl (hb hby d1_15) rfl (l' := #[.val (.ref a1), .val (.ref a2), .val (.int (Int32.ofNat (pA + 1))), .val (.ref a1), .val (.int (Int32.ofNat n)), .val (.int (0 : Int32)), .unset]) rfl ?_
    exact kt)
  have preL : ∀ t, Steps p.tables e below (T4.setTop (mkF m 17 #[.val (.ref a1), .val (.ref a2), .val (.int (Int32.ofNat (pA + 1 + (own_encs g 0).length))), .val (.ref a1), .val (.int (Int32.ofNat n)), .val (.int (Int32.ofNat 0)), .unset] [])) t → Steps p.tables e below (s₁.setTop (entryFrame m #[(.ref a1), (.ref a2), (.int (Int32.ofNat pA))] 7)) t := pre5
  obtain ⟨TL, hL, locsL, sL, XL, eL, NL, KL, AL, stL⟩ := own_loop a1 a2 hxa n N (pA + 1) (upd f pA 34) g hx hZ hw hby hml hown ne1 neH g2 hn hN (by omega) hbyte n 0 T4 _ h4 .unset (by omega) One.u X4 e4 N4 Zs4 A1a Fa SHa AHa
  have preM : ∀ t, Steps p.tables e below (TL.setTop (mkF m 218 #[.val (.ref a1), .val (.ref a2), .val (.int (Int32.ofNat (pA + 1 + (own_encs g n).length))), .val (.ref a1), .val (.int (Int32.ofNat n)), .val (.int (Int32.ofNat n)), sL] [])) t → Steps p.tables e below (s₁.setTop (entryFrame m #[(.ref a1), (.ref a2), (.int (Int32.ofNat pA))] 7)) t := fun t kt => preL t (stL t kt)
  have KM : Keep h0 hL [a2] := Kp4.trans KL (fun x hx' => Or.inl hx')
  have ZL : n0 ≤ hL.size := Nat.le_trans Z0 KM.1
  have pre6 : ∀ t, Steps p.tables e below (TL.setTop (mkF m 223 #[.val (.ref a1), .val (.ref a2), .val (.int ((Int32.ofNat (pA + 1 + (own_encs g n).length)) + (1 : Int32))), .val (.ref a1), .val (.int (Int32.ofNat n)), .val (.int (Int32.ofNat n)), sL] [(.int (Int32.ofNat (pA + 1 + (own_encs g n).length))), (.ref a2)])) t → Steps p.tables e below _ t := fun t kt => preM t (by
    show Steps p.tables e below (TL.setTop (mkF m 218 #[.val (.ref a1), .val (.ref a2), .val (.int (Int32.ofNat (pA + 1 + (own_encs g n).length))), .val (.ref a1), .val (.int (Int32.ofNat n)), .val (.int (Int32.ofNat n)), sL] [])) _
    refine XS.aloadN XL.here hx rfl (hb hby d1_218) rfl rfl ?_
    show Steps p.tables e below (TL.setTop (mkF m 219 #[.val (.ref a1), .val (.ref a2), .val (.int (Int32.ofNat (pA + 1 + (own_encs g n).length))), .val (.ref a1), .val (.int (Int32.ofNat n)), .val (.int (Int32.ofNat n)), sL] [(.ref a2)])) _
    refine XS.iloadN XL.here hx rfl (hb hby d1_219) rfl ?_
    show Steps p.tables e below (TL.setTop (mkF m 220 #[.val (.ref a1), .val (.ref a2), .val (.int (Int32.ofNat (pA + 1 + (own_encs g n).length))), .val (.ref a1), .val (.int (Int32.ofNat n)), .val (.int (Int32.ofNat n)), sL] [(.int (Int32.ofNat (pA + 1 + (own_encs g n).length))), (.ref a2)])) _
    refine XS.iinc XL.here hx rfl (hb hby d1_220) rfl (l' := #[.val (.ref a1), .val (.ref a2), .val (.int ((Int32.ofNat (pA + 1 + (own_encs g n).length)) + (1 : Int32))), .val (.ref a1), .val (.int (Int32.ofNat n)), .val (.int (Int32.ofNat n)), sL]) rfl ?_
    exact kt)
  have hv7 : ((Int32.ofNat (pA + 1 + (own_encs g n).length)) + (1 : Int32)) = (Int32.ofNat (pA + 1 + (own_encs g n).length + 1)) := (inc_ofNat (pA + 1 + (own_encs g n).length)).symm
  rw [hv7] at pre6
  have pre8 : ∀ t, Steps p.tables e below (TL.setTop (mkF m 225 #[.val (.ref a1), .val (.ref a2), .val (.int (Int32.ofNat (pA + 1 + (own_encs g n).length + 1))), .val (.ref a1), .val (.int (Int32.ofNat n)), .val (.int (Int32.ofNat n)), sL] [(.int (34 : Int32)), (.int (Int32.ofNat (pA + 1 + (own_encs g n).length))), (.ref a2)])) t → Steps p.tables e below _ t := fun t kt => pre6 t (by
    show Steps p.tables e below (TL.setTop (mkF m 223 #[.val (.ref a1), .val (.ref a2), .val (.int (Int32.ofNat (pA + 1 + (own_encs g n).length + 1))), .val (.ref a1), .val (.int (Int32.ofNat n)), .val (.int (Int32.ofNat n)), sL] [(.int (Int32.ofNat (pA + 1 + (own_encs g n).length))), (.ref a2)])) _
    refine XS.bipush XL.here hx rfl (hb hby d1_223) ?_
    exact kt)
  have hlen := own_encs_len g n
  obtain ⟨cl_b, Ar_b, Sz_b, Hf_b⟩ := id AL
  obtain ⟨T9, h9, X9, e9, W9, st9⟩ := stB XL hx hZ eL Ar_b (j := (Int32.ofNat (pA + 1 + (own_encs g n).length))) (within (c := (pA + 1 + (own_encs g n).length)) rfl (by omega) (by omega)) (g := (mkF m 225 #[.val (.ref a1), .val (.ref a2), .val (.int (Int32.ofNat (pA + 1 + (own_encs g n).length + 1))), .val (.ref a1), .val (.int (Int32.ofNat n)), .val (.int (Int32.ofNat n)), sL] [(.int (34 : Int32)), (.int (Int32.ofNat (pA + 1 + (own_encs g n).length))), (.ref a2)])) rfl rfl (hb hby d1_225)
  have N9 := Fr.snoc X9 NL g2
  have Zs9 : n0 ≤ h9.size := Nat.le_trans ZL (Nat.le_of_eq W9.size.symm)
  have Kp9 : Keep h0 h9 [a2] := KM.wr W9 (Or.inl (List.mem_of_getElem? (i := 0) rfl))
  have Vb : Wr hL h9 a2 (pA + 1 + (own_encs g n).length) (.int (34 : Int32)) := by have z := W9; rw [clamp_of (c := (pA + 1 + (own_encs g n).length)) rfl (by omega)] at z; exact z
  have Fb := own_A_set AL Vb
  obtain ⟨fs, hr, hrun, hended, hW, hsame⟩ := X9.leave (v := some (.int (Int32.ofNat (pA + 1 + (own_encs g n).length + 1)))) (fun h => by rw [Bd.returns] at h; cases h)
  refine ⟨_, _, pre8 _ ?_, hrun, hended, _, _, rfl, ?_, ⟨_, rfl⟩, hW, hsame.mono (by decide) (by decide)⟩
  · show Steps p.tables e below (TL.setTop (mkF m 225 #[.val (.ref a1), .val (.ref a2), .val (.int (Int32.ofNat (pA + 1 + (own_encs g n).length + 1))), .val (.ref a1), .val (.int (Int32.ofNat n)), .val (.int (Int32.ofNat n)), sL] [(.int (34 : Int32)), (.int (Int32.ofNat (pA + 1 + (own_encs g n).length))), (.ref a2)])) _
    refine st9 _ ?_
    show Steps p.tables e below (T9.setTop (mkF m 226 #[.val (.ref a1), .val (.ref a2), .val (.int (Int32.ofNat (pA + 1 + (own_encs g n).length + 1))), .val (.ref a1), .val (.int (Int32.ofNat n)), .val (.int (Int32.ofNat n)), sL] [])) _
    refine XS.iloadN X9.here hx rfl (hb hby d1_226) rfl ?_
    show Steps p.tables e below (T9.setTop (mkF m 227 #[.val (.ref a1), .val (.ref a2), .val (.int (Int32.ofNat (pA + 1 + (own_encs g n).length + 1))), .val (.ref a1), .val (.int (Int32.ofNat n)), .val (.int (Int32.ofNat n)), sL] [(.int (Int32.ofNat (pA + 1 + (own_encs g n).length + 1)))])) _
    exact retI X9 hx Bd.returns (hb hby d1_227) hr
  · show Q1 Z a2 pA n N f g h0 n0 _ T9.heap _
    rw [e9]
    exact ⟨rfl, N9, Kp9, Fb⟩
theorem pn_2 : plainName "com/example/windrow/windrow/cli/JsonWritePinLaw" = true := by first | (simp [plainName, overriddenIn]; done) | decide +kernel
theorem ef_2 (m : MethodId) (x0 : Addr) (x1 : Int32) (x2 : Int32) : entryFrame m #[(.ref x0), (.int x1), (.int x2)] 7 = mkF m 0 #[.val (.ref x0), .val (.int x1), .val (.int x2), .unset, .unset, .unset, .unset] [] := by first | (simp [entryFrame, mkF, argsToLocals, Value.category]; done) | rfl
theorem d2_0 : decode method_2_code 0 = .ok (.iload_n 2, 1) := by decide +kernel
theorem d2_1 : decode method_2_code 1 = .ok (.istore_n 3, 1) := by decide +kernel
theorem d2_2 : decode method_2_code 2 = .ok (.iload_n 3, 1) := by decide +kernel
theorem d2_3 : decode method_2_code 3 = .ok (.bipush 34, 2) := by decide +kernel
theorem d2_5 : decode method_2_code 5 = .ok (.if_icmp .eq 9, 3) := by decide +kernel
theorem d2_14 : decode method_2_code 14 = .ok (.aload_n 0, 1) := by decide +kernel
theorem d2_15 : decode method_2_code 15 = .ok (.iload_n 1, 1) := by decide +kernel
theorem d2_16 : decode method_2_code 16 = .ok (.baload, 1) := by decide +kernel
theorem d2_17 : decode method_2_code 17 = .ok (.bipush 92, 2) := by decide +kernel
theorem d2_19 : decode method_2_code 19 = .ok (.if_icmp .ne 18, 3) := by decide +kernel
theorem d2_22 : decode method_2_code 22 = .ok (.aload_n 0, 1) := by decide +kernel
theorem d2_23 : decode method_2_code 23 = .ok (.iload_n 1, 1) := by decide +kernel
theorem d2_24 : decode method_2_code 24 = .ok (.iconst 1, 1) := by decide +kernel
theorem d2_25 : decode method_2_code 25 = .ok (.iadd, 1) := by decide +kernel
theorem d2_26 : decode method_2_code 26 = .ok (.baload, 1) := by decide +kernel
theorem d2_27 : decode method_2_code 27 = .ok (.iload_n 2, 1) := by decide +kernel
theorem d2_28 : decode method_2_code 28 = .ok (.if_icmp .ne 9, 3) := by decide +kernel
theorem d2_31 : decode method_2_code 31 = .ok (.iload_n 1, 1) := by decide +kernel
theorem d2_32 : decode method_2_code 32 = .ok (.iconst 2, 1) := by decide +kernel
theorem d2_33 : decode method_2_code 33 = .ok (.iadd, 1) := by decide +kernel
theorem d2_34 : decode method_2_code 34 = .ok (.goto 4, 3) := by decide +kernel
theorem d2_38 : decode method_2_code 38 = .ok (.ireturn, 1) := by decide +kernel
theorem d2_8 : decode method_2_code 8 = .ok (.iload_n 3, 1) := by decide +kernel
theorem d2_9 : decode method_2_code 9 = .ok (.bipush 92, 2) := by decide +kernel
theorem d2_11 : decode method_2_code 11 = .ok (.if_icmp .ne 28, 3) := by decide +kernel
theorem d2_39 : decode method_2_code 39 = .ok (.iload_n 3, 1) := by decide +kernel
theorem d2_40 : decode method_2_code 40 = .ok (.bipush 10, 2) := by decide +kernel
theorem d2_42 : decode method_2_code 42 = .ok (.if_icmp .ne 29, 3) := by decide +kernel
theorem d2_45 : decode method_2_code 45 = .ok (.aload_n 0, 1) := by decide +kernel
theorem d2_46 : decode method_2_code 46 = .ok (.iload_n 1, 1) := by decide +kernel
theorem d2_47 : decode method_2_code 47 = .ok (.baload, 1) := by decide +kernel
theorem d2_48 : decode method_2_code 48 = .ok (.bipush 92, 2) := by decide +kernel
theorem d2_50 : decode method_2_code 50 = .ok (.if_icmp .ne 19, 3) := by decide +kernel
theorem d2_53 : decode method_2_code 53 = .ok (.aload_n 0, 1) := by decide +kernel
theorem d2_54 : decode method_2_code 54 = .ok (.iload_n 1, 1) := by decide +kernel
theorem d2_55 : decode method_2_code 55 = .ok (.iconst 1, 1) := by decide +kernel
theorem d2_56 : decode method_2_code 56 = .ok (.iadd, 1) := by decide +kernel
theorem d2_57 : decode method_2_code 57 = .ok (.baload, 1) := by decide +kernel
theorem d2_58 : decode method_2_code 58 = .ok (.bipush 110, 2) := by decide +kernel
theorem d2_60 : decode method_2_code 60 = .ok (.if_icmp .ne 9, 3) := by decide +kernel
theorem d2_63 : decode method_2_code 63 = .ok (.iload_n 1, 1) := by decide +kernel
theorem d2_64 : decode method_2_code 64 = .ok (.iconst 2, 1) := by decide +kernel
theorem d2_65 : decode method_2_code 65 = .ok (.iadd, 1) := by decide +kernel
theorem d2_66 : decode method_2_code 66 = .ok (.goto 4, 3) := by decide +kernel
theorem d2_70 : decode method_2_code 70 = .ok (.ireturn, 1) := by decide +kernel
theorem d2_71 : decode method_2_code 71 = .ok (.iload_n 3, 1) := by decide +kernel
theorem d2_72 : decode method_2_code 72 = .ok (.bipush 13, 2) := by decide +kernel
theorem d2_74 : decode method_2_code 74 = .ok (.if_icmp .ne 29, 3) := by decide +kernel
theorem d2_77 : decode method_2_code 77 = .ok (.aload_n 0, 1) := by decide +kernel
theorem d2_78 : decode method_2_code 78 = .ok (.iload_n 1, 1) := by decide +kernel
theorem d2_79 : decode method_2_code 79 = .ok (.baload, 1) := by decide +kernel
theorem d2_80 : decode method_2_code 80 = .ok (.bipush 92, 2) := by decide +kernel
theorem d2_82 : decode method_2_code 82 = .ok (.if_icmp .ne 19, 3) := by decide +kernel
theorem d2_85 : decode method_2_code 85 = .ok (.aload_n 0, 1) := by decide +kernel
theorem d2_86 : decode method_2_code 86 = .ok (.iload_n 1, 1) := by decide +kernel
theorem d2_87 : decode method_2_code 87 = .ok (.iconst 1, 1) := by decide +kernel
theorem d2_88 : decode method_2_code 88 = .ok (.iadd, 1) := by decide +kernel
theorem d2_89 : decode method_2_code 89 = .ok (.baload, 1) := by decide +kernel
theorem d2_90 : decode method_2_code 90 = .ok (.bipush 114, 2) := by decide +kernel
theorem d2_92 : decode method_2_code 92 = .ok (.if_icmp .ne 9, 3) := by decide +kernel
theorem d2_95 : decode method_2_code 95 = .ok (.iload_n 1, 1) := by decide +kernel
theorem d2_96 : decode method_2_code 96 = .ok (.iconst 2, 1) := by decide +kernel
theorem d2_97 : decode method_2_code 97 = .ok (.iadd, 1) := by decide +kernel
theorem d2_98 : decode method_2_code 98 = .ok (.goto 4, 3) := by decide +kernel
theorem d2_102 : decode method_2_code 102 = .ok (.ireturn, 1) := by decide +kernel
theorem d2_103 : decode method_2_code 103 = .ok (.iload_n 3, 1) := by decide +kernel
theorem d2_104 : decode method_2_code 104 = .ok (.bipush 9, 2) := by decide +kernel
theorem d2_106 : decode method_2_code 106 = .ok (.if_icmp .ne 29, 3) := by decide +kernel
theorem d2_109 : decode method_2_code 109 = .ok (.aload_n 0, 1) := by decide +kernel
theorem d2_110 : decode method_2_code 110 = .ok (.iload_n 1, 1) := by decide +kernel
theorem d2_111 : decode method_2_code 111 = .ok (.baload, 1) := by decide +kernel
theorem d2_112 : decode method_2_code 112 = .ok (.bipush 92, 2) := by decide +kernel
theorem d2_114 : decode method_2_code 114 = .ok (.if_icmp .ne 19, 3) := by decide +kernel
theorem d2_117 : decode method_2_code 117 = .ok (.aload_n 0, 1) := by decide +kernel
theorem d2_118 : decode method_2_code 118 = .ok (.iload_n 1, 1) := by decide +kernel
theorem d2_119 : decode method_2_code 119 = .ok (.iconst 1, 1) := by decide +kernel
theorem d2_120 : decode method_2_code 120 = .ok (.iadd, 1) := by decide +kernel
theorem d2_121 : decode method_2_code 121 = .ok (.baload, 1) := by decide +kernel
theorem d2_122 : decode method_2_code 122 = .ok (.bipush 116, 2) := by decide +kernel
theorem d2_124 : decode method_2_code 124 = .ok (.if_icmp .ne 9, 3) := by decide +kernel
theorem d2_127 : decode method_2_code 127 = .ok (.iload_n 1, 1) := by decide +kernel
theorem d2_128 : decode method_2_code 128 = .ok (.iconst 2, 1) := by decide +kernel
theorem d2_129 : decode method_2_code 129 = .ok (.iadd, 1) := by decide +kernel
theorem d2_130 : decode method_2_code 130 = .ok (.goto 4, 3) := by decide +kernel
theorem d2_134 : decode method_2_code 134 = .ok (.ireturn, 1) := by decide +kernel
theorem d2_135 : decode method_2_code 135 = .ok (.iload_n 3, 1) := by decide +kernel
theorem d2_136 : decode method_2_code 136 = .ok (.ifCond .lt 116, 3) := by decide +kernel
theorem d2_252 : decode method_2_code 252 = .ok (.aload_n 0, 1) := by decide +kernel
theorem d2_253 : decode method_2_code 253 = .ok (.iload_n 1, 1) := by decide +kernel
theorem d2_254 : decode method_2_code 254 = .ok (.baload, 1) := by decide +kernel
theorem d2_255 : decode method_2_code 255 = .ok (.iload_n 2, 1) := by decide +kernel
theorem d2_256 : decode method_2_code 256 = .ok (.if_icmp .ne 9, 3) := by decide +kernel
theorem d2_259 : decode method_2_code 259 = .ok (.iload_n 1, 1) := by decide +kernel
theorem d2_260 : decode method_2_code 260 = .ok (.iconst 1, 1) := by decide +kernel
theorem d2_261 : decode method_2_code 261 = .ok (.iadd, 1) := by decide +kernel
theorem d2_262 : decode method_2_code 262 = .ok (.goto 4, 3) := by decide +kernel
theorem d2_266 : decode method_2_code 266 = .ok (.ireturn, 1) := by decide +kernel
theorem d2_139 : decode method_2_code 139 = .ok (.iload_n 3, 1) := by decide +kernel
theorem d2_140 : decode method_2_code 140 = .ok (.bipush 32, 2) := by decide +kernel
theorem d2_142 : decode method_2_code 142 = .ok (.if_icmp .ge 110, 3) := by decide +kernel
theorem d2_145 : decode method_2_code 145 = .ok (.iload_n 3, 1) := by decide +kernel
theorem d2_146 : decode method_2_code 146 = .ok (.bipush 16, 2) := by decide +kernel
theorem d2_148 : decode method_2_code 148 = .ok (.idiv, 1) := by decide +kernel
theorem d2_149 : decode method_2_code 149 = .ok (.istore 4, 2) := by decide +kernel
theorem d2_151 : decode method_2_code 151 = .ok (.iload_n 3, 1) := by decide +kernel
theorem d2_152 : decode method_2_code 152 = .ok (.bipush 16, 2) := by decide +kernel
theorem d2_154 : decode method_2_code 154 = .ok (.irem, 1) := by decide +kernel
theorem d2_155 : decode method_2_code 155 = .ok (.istore 5, 2) := by decide +kernel
theorem d2_157 : decode method_2_code 157 = .ok (.iload 5, 2) := by decide +kernel
theorem d2_159 : decode method_2_code 159 = .ok (.bipush 10, 2) := by decide +kernel
theorem d2_161 : decode method_2_code 161 = .ok (.if_icmp .ge 11, 3) := by decide +kernel
theorem d2_164 : decode method_2_code 164 = .ok (.bipush 48, 2) := by decide +kernel
theorem d2_166 : decode method_2_code 166 = .ok (.iload 5, 2) := by decide +kernel
theorem d2_168 : decode method_2_code 168 = .ok (.iadd, 1) := by decide +kernel
theorem d2_169 : decode method_2_code 169 = .ok (.goto 11, 3) := by decide +kernel
theorem d2_172 : decode method_2_code 172 = .ok (.bipush 97, 2) := by decide +kernel
theorem d2_174 : decode method_2_code 174 = .ok (.iload 5, 2) := by decide +kernel
theorem d2_176 : decode method_2_code 176 = .ok (.iadd, 1) := by decide +kernel
theorem d2_177 : decode method_2_code 177 = .ok (.bipush 10, 2) := by decide +kernel
theorem d2_179 : decode method_2_code 179 = .ok (.isub, 1) := by decide +kernel
theorem d2_180 : decode method_2_code 180 = .ok (.istore 6, 2) := by decide +kernel
theorem d2_182 : decode method_2_code 182 = .ok (.aload_n 0, 1) := by decide +kernel
theorem d2_183 : decode method_2_code 183 = .ok (.iload_n 1, 1) := by decide +kernel
theorem d2_184 : decode method_2_code 184 = .ok (.baload, 1) := by decide +kernel
theorem d2_185 : decode method_2_code 185 = .ok (.bipush 92, 2) := by decide +kernel
theorem d2_187 : decode method_2_code 187 = .ok (.if_icmp .ne 63, 3) := by decide +kernel
theorem d2_190 : decode method_2_code 190 = .ok (.aload_n 0, 1) := by decide +kernel
theorem d2_191 : decode method_2_code 191 = .ok (.iload_n 1, 1) := by decide +kernel
theorem d2_192 : decode method_2_code 192 = .ok (.iconst 1, 1) := by decide +kernel
theorem d2_193 : decode method_2_code 193 = .ok (.iadd, 1) := by decide +kernel
theorem d2_194 : decode method_2_code 194 = .ok (.baload, 1) := by decide +kernel
theorem d2_195 : decode method_2_code 195 = .ok (.bipush 117, 2) := by decide +kernel
theorem d2_197 : decode method_2_code 197 = .ok (.if_icmp .ne 53, 3) := by decide +kernel
theorem d2_200 : decode method_2_code 200 = .ok (.aload_n 0, 1) := by decide +kernel
theorem d2_201 : decode method_2_code 201 = .ok (.iload_n 1, 1) := by decide +kernel
theorem d2_202 : decode method_2_code 202 = .ok (.iconst 2, 1) := by decide +kernel
theorem d2_203 : decode method_2_code 203 = .ok (.iadd, 1) := by decide +kernel
theorem d2_204 : decode method_2_code 204 = .ok (.baload, 1) := by decide +kernel
theorem d2_205 : decode method_2_code 205 = .ok (.bipush 48, 2) := by decide +kernel
theorem d2_207 : decode method_2_code 207 = .ok (.if_icmp .ne 43, 3) := by decide +kernel
theorem d2_210 : decode method_2_code 210 = .ok (.aload_n 0, 1) := by decide +kernel
theorem d2_211 : decode method_2_code 211 = .ok (.iload_n 1, 1) := by decide +kernel
theorem d2_212 : decode method_2_code 212 = .ok (.iconst 3, 1) := by decide +kernel
theorem d2_213 : decode method_2_code 213 = .ok (.iadd, 1) := by decide +kernel
theorem d2_214 : decode method_2_code 214 = .ok (.baload, 1) := by decide +kernel
theorem d2_215 : decode method_2_code 215 = .ok (.bipush 48, 2) := by decide +kernel
theorem d2_217 : decode method_2_code 217 = .ok (.if_icmp .ne 33, 3) := by decide +kernel
theorem d2_220 : decode method_2_code 220 = .ok (.aload_n 0, 1) := by decide +kernel
theorem d2_221 : decode method_2_code 221 = .ok (.iload_n 1, 1) := by decide +kernel
theorem d2_222 : decode method_2_code 222 = .ok (.iconst 4, 1) := by decide +kernel
theorem d2_223 : decode method_2_code 223 = .ok (.iadd, 1) := by decide +kernel
theorem d2_224 : decode method_2_code 224 = .ok (.baload, 1) := by decide +kernel
theorem d2_225 : decode method_2_code 225 = .ok (.bipush 48, 2) := by decide +kernel
theorem d2_227 : decode method_2_code 227 = .ok (.iload 4, 2) := by decide +kernel
theorem d2_229 : decode method_2_code 229 = .ok (.iadd, 1) := by decide +kernel
theorem d2_230 : decode method_2_code 230 = .ok (.if_icmp .ne 20, 3) := by decide +kernel
theorem d2_233 : decode method_2_code 233 = .ok (.aload_n 0, 1) := by decide +kernel
theorem d2_234 : decode method_2_code 234 = .ok (.iload_n 1, 1) := by decide +kernel
theorem d2_235 : decode method_2_code 235 = .ok (.iconst 5, 1) := by decide +kernel
theorem d2_236 : decode method_2_code 236 = .ok (.iadd, 1) := by decide +kernel
theorem d2_237 : decode method_2_code 237 = .ok (.baload, 1) := by decide +kernel
theorem d2_238 : decode method_2_code 238 = .ok (.iload 6, 2) := by decide +kernel
theorem d2_240 : decode method_2_code 240 = .ok (.if_icmp .ne 10, 3) := by decide +kernel
theorem d2_243 : decode method_2_code 243 = .ok (.iload_n 1, 1) := by decide +kernel
theorem d2_244 : decode method_2_code 244 = .ok (.bipush 6, 2) := by decide +kernel
theorem d2_246 : decode method_2_code 246 = .ok (.iadd, 1) := by decide +kernel
theorem d2_247 : decode method_2_code 247 = .ok (.goto 4, 3) := by decide +kernel
theorem d2_251 : decode method_2_code 251 = .ok (.ireturn, 1) := by decide +kernel
def Q2 (Z : State) (q : Nat) (b : Int32) (h0 : Heap) (n0 : Nat) (v : Option Value) (h : Heap) (L : List Loc) : Prop := v = some (.int (Int32.ofNat (q + (own_enc b).length))) ∧ Fr n0 L ∧ h = h0
set_option maxRecDepth 65536 in
set_option maxHeartbeats 40000000 in
theorem rm2 (l : Launch) (Z : State) (a0 : Array Value) (hw : ∀ d ∈ tables_1, d.before a0 Z = true) (ws : List Jvm.Cond) (a1 : Addr) (q : Nat) (b : Int32) (N : Nat) (f : Nat → Int32) (h0 : Heap) (n0 : Nat) (Z0 : n0 ≤ h0.size) (A1 : own_A Z h0 a1 .byte N f) (hN : N < 2 ^ 31) (hq : q + (own_enc b).length ≤ N) (hm : ∀ j, j < (own_enc b).length → f (q + j) = (own_enc b).getD j 0) :
    MetFree l (⟨"com/example/windrow/windrow/cli/JsonWritePinLaw", "enc", "([BIB)I"⟩ : MethodName) (head1 (Jvm.Cond.code (⟨"com/example/windrow/windrow/cli/JsonWritePinLaw", "enc", "([BIB)I"⟩ : MethodName) method_2_code 7 (some .int) :: ws) ({ frames := 0, cells := 0, slots := 0, locals := 0 } : Room)) (fun aa_ U => aa_ = #[(.ref a1), (.int (Int32.ofNat q)), (.int b)] ∧ Z.Warmed39 U.vm ∧ U.heap = h0) (fun _ _ _ _ _ => True) (fun _ U o U' => ∃ v_ L_, o = .returned v_ ∧ Q2 Z q b h0 n0 v_ U'.heap L_ ∧ FrameEnd U o U' L_ ({ frames := 0, cells := 0, slots := 0, locals := 0 } : Room).cells ({ frames := 0, cells := 0, slots := 0, locals := 0 } : Room).slots) := by
  refine MetFree.of_bodySF (plainFor_of_name pn_2) hisR ?_
  intro p e s m args below meth c s₁ Bd hml0 hP hK
  obtain ⟨rfl, hZ, hh⟩ := hP
  have hx := Bd.exec
  have hby := Bd.bytes
  have hml : c.maxLocals = 7 := hml0
  have hown : s.vm.findClass "com/example/windrow/windrow/cli/JsonWritePinLaw" = some m.cls := findClass_of_methodNamed Bd.named
  have hnm := (name_of_methodNamed Bd.named Bd.method).1
  have X0 : Stand p l e ({ frames := 0, cells := 0, slots := 0, locals := 0 } : Room) s m #[(.ref a1), (.int (Int32.ofNat q)), (.int b)] below meth c s₁ [] 0 0 := Stand.of_body Bd
  have e0 : s₁.heap = h0 := by rw [← hh, Bd.state]; rfl
  have N0 := Fr.nil n0
  have pre0 : ∀ t, Steps p.tables e below (s₁.setTop (mkF m 0 #[.val (.ref a1), .val (.int (Int32.ofNat q)), .val (.int b), .unset, .unset, .unset, .unset] [])) t → Steps p.tables e below (s₁.setTop (entryFrame m #[(.ref a1), (.int (Int32.ofNat q)), (.int b)] 7)) t := fun t k_ => castTop (ef_2 m a1 (Int32.ofNat q) b) k_
  obtain ⟨cl, Ar, Sz, Hf⟩ := id A1
  have pre1 : ∀ t, Steps p.tables e below (s₁.setTop (mkF m 5 #[.val (.ref a1), .val (.int (Int32.ofNat q)), .val (.int b), .val (.int b), .unset, .unset, .unset] [(.int (34 : Int32)), (.int b)])) t → Steps p.tables e below _ t := fun t kt => pre0 t (by
    show Steps p.tables e below (s₁.setTop (mkF m 0 #[.val (.ref a1), .val (.int (Int32.ofNat q)), .val (.int b), .unset, .unset, .unset, .unset] [])) _
    refine XS.iloadN X0.here hx rfl (hb hby d2_0) rfl ?_
    show Steps p.tables e below (s₁.setTop (mkF m 1 #[.val (.ref a1), .val (.int (Int32.ofNat q)), .val (.int b), .unset, .unset, .unset, .unset] [(.int b)])) _
    refine XS.istoreN X0.here hx rfl (hb hby d2_1) rfl (l' := #[.val (.ref a1), .val (.int (Int32.ofNat q)), .val (.int b), .val (.int b), .unset, .unset, .unset]) rfl ?_
    show Steps p.tables e below (s₁.setTop (mkF m 2 #[.val (.ref a1), .val (.int (Int32.ofNat q)), .val (.int b), .val (.int b), .unset, .unset, .unset] [])) _
    refine XS.iloadN X0.here hx rfl (hb hby d2_2) rfl ?_
    show Steps p.tables e below (s₁.setTop (mkF m 3 #[.val (.ref a1), .val (.int (Int32.ofNat q)), .val (.int b), .val (.int b), .unset, .unset, .unset] [(.int b)])) _
    refine XS.bipush X0.here hx rfl (hb hby d2_3) ?_
    exact kt)
  by_cases hc5 : b = (34 : Int32)
  · have pre2 : ∀ t, Steps p.tables e below (s₁.setTop (mkF m 16 #[.val (.ref a1), .val (.int (Int32.ofNat q)), .val (.int b), .val (.int b), .unset, .unset, .unset] [(.int (Int32.ofNat q)), (.ref a1)])) t → Steps p.tables e below _ t := fun t kt => pre1 t (by
      show Steps p.tables e below (s₁.setTop (mkF m 5 #[.val (.ref a1), .val (.int (Int32.ofNat q)), .val (.int b), .val (.int b), .unset, .unset, .unset] [(.int (34 : Int32)), (.int b)])) _
      refine XS.icmpYes X0.here hx rfl (pc0 := 5) (pc' := 14) rfl (hb hby d2_5) rfl (teq hc5).1 (by decide) (by decide) ?_
      show Steps p.tables e below (s₁.setTop (mkF m 14 #[.val (.ref a1), .val (.int (Int32.ofNat q)), .val (.int b), .val (.int b), .unset, .unset, .unset] [])) _
      refine XS.aloadN X0.here hx rfl (hb hby d2_14) rfl rfl ?_
      show Steps p.tables e below (s₁.setTop (mkF m 15 #[.val (.ref a1), .val (.int (Int32.ofNat q)), .val (.int b), .val (.int b), .unset, .unset, .unset] [(.ref a1)])) _
      refine XS.iloadN X0.here hx rfl (hb hby d2_15) rfl ?_
      exact kt)
    have he : own_enc b = [92, b] := by
      simp only [own_enc, if_pos hc5]
    have hm' := hm
    rw [he] at hm'
    have hl : (own_enc b).length = 2 := by rw [he]; rfl
    have m0 : f q = (92 : Int32) := hm' 0 (show 0 < 2 by decide)
    have m1 : f (q + 1) = b := hm' 1 (show 1 < 2 by decide)
    have pre3 : ∀ t, Steps p.tables e below (s₁.setTop (mkF m 26 #[.val (.ref a1), .val (.int (Int32.ofNat q)), .val (.int b), .val (.int b), .unset, .unset, .unset] [(.int ((Int32.ofNat q) + (1 : Int32))), (.ref a1)])) t → Steps p.tables e below _ t := fun t kt => pre2 t (by
      show Steps p.tables e below (s₁.setTop (mkF m 16 #[.val (.ref a1), .val (.int (Int32.ofNat q)), .val (.int b), .val (.int b), .unset, .unset, .unset] [(.int (Int32.ofNat q)), (.ref a1)])) _
      refine X0.baloadBytes hx (j := (Int32.ofNat q)) (v := (.int (f q))) (by rw [e0]; exact Ar.1) (State.isArrayOf_alike hZ.alike Ar.2.1) Ar.2.2 (within (c := q) rfl (by omega) (by omega)) (by rw [clamp_of (c := q) rfl (by omega)]; exact Hf _ (by omega)) (g := (mkF m 16 #[.val (.ref a1), .val (.int (Int32.ofNat q)), .val (.int b), .val (.int b), .unset, .unset, .unset] [(.int (Int32.ofNat q)), (.ref a1)])) rfl rfl (hb hby d2_16) _ ?_
      show Steps p.tables e below (s₁.setTop (mkF m 17 #[.val (.ref a1), .val (.int (Int32.ofNat q)), .val (.int b), .val (.int b), .unset, .unset, .unset] [(.int (f q))])) _
      refine XS.bipush X0.here hx rfl (hb hby d2_17) ?_
      have hc19 : (f q) = (92 : Int32) := m0
      show Steps p.tables e below (s₁.setTop (mkF m 19 #[.val (.ref a1), .val (.int (Int32.ofNat q)), .val (.int b), .val (.int b), .unset, .unset, .unset] [(.int (92 : Int32)), (.int (f q))])) _
      refine XS.icmpNo X0.here hx rfl (hb hby d2_19) rfl (teq hc19).2 ?_
      show Steps p.tables e below (s₁.setTop (mkF m 22 #[.val (.ref a1), .val (.int (Int32.ofNat q)), .val (.int b), .val (.int b), .unset, .unset, .unset] [])) _
      refine XS.aloadN X0.here hx rfl (hb hby d2_22) rfl rfl ?_
      show Steps p.tables e below (s₁.setTop (mkF m 23 #[.val (.ref a1), .val (.int (Int32.ofNat q)), .val (.int b), .val (.int b), .unset, .unset, .unset] [(.ref a1)])) _
      refine XS.iloadN X0.here hx rfl (hb hby d2_23) rfl ?_
      show Steps p.tables e below (s₁.setTop (mkF m 24 #[.val (.ref a1), .val (.int (Int32.ofNat q)), .val (.int b), .val (.int b), .unset, .unset, .unset] [(.int (Int32.ofNat q)), (.ref a1)])) _
      refine XS.iconst X0.here hx rfl (hb hby d2_24) ?_
      show Steps p.tables e below (s₁.setTop (mkF m 25 #[.val (.ref a1), .val (.int (Int32.ofNat q)), .val (.int b), .val (.int b), .unset, .unset, .unset] [(.int (1 : Int32)), (.int (Int32.ofNat q)), (.ref a1)])) _
      refine XS.iadd X0.here hx rfl (hb hby d2_25) rfl ?_
      exact kt)
    have hv4 : ((Int32.ofNat q) + (1 : Int32)) = (Int32.ofNat (q + 1)) := own_add q 1
    rw [hv4] at pre3
    obtain ⟨fs, hr, hrun, hended, hW, hsame⟩ := X0.leave (v := some (.int ((Int32.ofNat q) + (2 : Int32)))) (fun h => by rw [Bd.returns] at h; cases h)
    refine ⟨_, _, pre3 _ ?_, hrun, hended, _, _, rfl, ?_, ⟨_, rfl⟩, hW, hsame.mono (by decide) (by decide)⟩
    · show Steps p.tables e below (s₁.setTop (mkF m 26 #[.val (.ref a1), .val (.int (Int32.ofNat q)), .val (.int b), .val (.int b), .unset, .unset, .unset] [(.int (Int32.ofNat (q + 1))), (.ref a1)])) _
      refine X0.baloadBytes hx (j := (Int32.ofNat (q + 1))) (v := (.int (f (q + 1)))) (by rw [e0]; exact Ar.1) (State.isArrayOf_alike hZ.alike Ar.2.1) Ar.2.2 (within (c := (q + 1)) rfl (by omega) (by omega)) (by rw [clamp_of (c := (q + 1)) rfl (by omega)]; exact Hf _ (by omega)) (g := (mkF m 26 #[.val (.ref a1), .val (.int (Int32.ofNat q)), .val (.int b), .val (.int b), .unset, .unset, .unset] [(.int (Int32.ofNat (q + 1))), (.ref a1)])) rfl rfl (hb hby d2_26) _ ?_
      show Steps p.tables e below (s₁.setTop (mkF m 27 #[.val (.ref a1), .val (.int (Int32.ofNat q)), .val (.int b), .val (.int b), .unset, .unset, .unset] [(.int (f (q + 1)))])) _
      refine XS.iloadN X0.here hx rfl (hb hby d2_27) rfl ?_
      have hc28 : (f (q + 1)) = b := m1
      show Steps p.tables e below (s₁.setTop (mkF m 28 #[.val (.ref a1), .val (.int (Int32.ofNat q)), .val (.int b), .val (.int b), .unset, .unset, .unset] [(.int b), (.int (f (q + 1)))])) _
      refine XS.icmpNo X0.here hx rfl (hb hby d2_28) rfl (teq hc28).2 ?_
      show Steps p.tables e below (s₁.setTop (mkF m 31 #[.val (.ref a1), .val (.int (Int32.ofNat q)), .val (.int b), .val (.int b), .unset, .unset, .unset] [])) _
      refine XS.iloadN X0.here hx rfl (hb hby d2_31) rfl ?_
      show Steps p.tables e below (s₁.setTop (mkF m 32 #[.val (.ref a1), .val (.int (Int32.ofNat q)), .val (.int b), .val (.int b), .unset, .unset, .unset] [(.int (Int32.ofNat q))])) _
      refine XS.iconst X0.here hx rfl (hb hby d2_32) ?_
      show Steps p.tables e below (s₁.setTop (mkF m 33 #[.val (.ref a1), .val (.int (Int32.ofNat q)), .val (.int b), .val (.int b), .unset, .unset, .unset] [(.int (2 : Int32)), (.int (Int32.ofNat q))])) _
      refine XS.iadd X0.here hx rfl (hb hby d2_33) rfl ?_
      show Steps p.tables e below (s₁.setTop (mkF m 34 #[.val (.ref a1), .val (.int (Int32.ofNat q)), .val (.int b), .val (.int b), .unset, .unset, .unset] [(.int ((Int32.ofNat q) + (2 : Int32)))])) _
      refine XS.goto X0.here hx rfl (pc0 := 34) (pc' := 38) rfl (hb hby d2_34) (by decide) (by decide) ?_
      show Steps p.tables e below (s₁.setTop (mkF m 38 #[.val (.ref a1), .val (.int (Int32.ofNat q)), .val (.int b), .val (.int b), .unset, .unset, .unset] [(.int ((Int32.ofNat q) + (2 : Int32)))])) _
      exact retI X0 hx Bd.returns (hb hby d2_38) hr
    · show Q2 Z q b h0 n0 _ s₁.heap _
      rw [e0]
      exact ⟨by rw [hl]; exact congrArg (fun z => some (Value.int z)) (own_add q _), N0, rfl⟩
  · have pre5 : ∀ t, Steps p.tables e below (s₁.setTop (mkF m 11 #[.val (.ref a1), .val (.int (Int32.ofNat q)), .val (.int b), .val (.int b), .unset, .unset, .unset] [(.int (92 : Int32)), (.int b)])) t → Steps p.tables e below _ t := fun t kt => pre1 t (by
      show Steps p.tables e below (s₁.setTop (mkF m 5 #[.val (.ref a1), .val (.int (Int32.ofNat q)), .val (.int b), .val (.int b), .unset, .unset, .unset] [(.int (34 : Int32)), (.int b)])) _
      refine XS.icmpNo X0.here hx rfl (hb hby d2_5) rfl (feq hc5).1 ?_
      show Steps p.tables e below (s₁.setTop (mkF m 8 #[.val (.ref a1), .val (.int (Int32.ofNat q)), .val (.int b), .val (.int b), .unset, .unset, .unset] [])) _
      refine XS.iloadN X0.here hx rfl (hb hby d2_8) rfl ?_
      show Steps p.tables e below (s₁.setTop (mkF m 9 #[.val (.ref a1), .val (.int (Int32.ofNat q)), .val (.int b), .val (.int b), .unset, .unset, .unset] [(.int b)])) _
      refine XS.bipush X0.here hx rfl (hb hby d2_9) ?_
      exact kt)
    by_cases hc11 : b = (92 : Int32)
    · have pre6 : ∀ t, Steps p.tables e below (s₁.setTop (mkF m 16 #[.val (.ref a1), .val (.int (Int32.ofNat q)), .val (.int b), .val (.int b), .unset, .unset, .unset] [(.int (Int32.ofNat q)), (.ref a1)])) t → Steps p.tables e below _ t := fun t kt => pre5 t (by
        show Steps p.tables e below (s₁.setTop (mkF m 11 #[.val (.ref a1), .val (.int (Int32.ofNat q)), .val (.int b), .val (.int b), .unset, .unset, .unset] [(.int (92 : Int32)), (.int b)])) _
        refine XS.icmpNo X0.here hx rfl (hb hby d2_11) rfl (teq hc11).2 ?_
        show Steps p.tables e below (s₁.setTop (mkF m 14 #[.val (.ref a1), .val (.int (Int32.ofNat q)), .val (.int b), .val (.int b), .unset, .unset, .unset] [])) _
        refine XS.aloadN X0.here hx rfl (hb hby d2_14) rfl rfl ?_
        show Steps p.tables e below (s₁.setTop (mkF m 15 #[.val (.ref a1), .val (.int (Int32.ofNat q)), .val (.int b), .val (.int b), .unset, .unset, .unset] [(.ref a1)])) _
        refine XS.iloadN X0.here hx rfl (hb hby d2_15) rfl ?_
        exact kt)
      have he : own_enc b = [92, b] := by
        simp only [own_enc, if_neg hc5, if_pos hc11]
      have hm' := hm
      rw [he] at hm'
      have hl : (own_enc b).length = 2 := by rw [he]; rfl
      have m0 : f q = (92 : Int32) := hm' 0 (show 0 < 2 by decide)
      have m1 : f (q + 1) = b := hm' 1 (show 1 < 2 by decide)
      have pre7 : ∀ t, Steps p.tables e below (s₁.setTop (mkF m 26 #[.val (.ref a1), .val (.int (Int32.ofNat q)), .val (.int b), .val (.int b), .unset, .unset, .unset] [(.int ((Int32.ofNat q) + (1 : Int32))), (.ref a1)])) t → Steps p.tables e below _ t := fun t kt => pre6 t (by
        show Steps p.tables e below (s₁.setTop (mkF m 16 #[.val (.ref a1), .val (.int (Int32.ofNat q)), .val (.int b), .val (.int b), .unset, .unset, .unset] [(.int (Int32.ofNat q)), (.ref a1)])) _
        refine X0.baloadBytes hx (j := (Int32.ofNat q)) (v := (.int (f q))) (by rw [e0]; exact Ar.1) (State.isArrayOf_alike hZ.alike Ar.2.1) Ar.2.2 (within (c := q) rfl (by omega) (by omega)) (by rw [clamp_of (c := q) rfl (by omega)]; exact Hf _ (by omega)) (g := (mkF m 16 #[.val (.ref a1), .val (.int (Int32.ofNat q)), .val (.int b), .val (.int b), .unset, .unset, .unset] [(.int (Int32.ofNat q)), (.ref a1)])) rfl rfl (hb hby d2_16) _ ?_
        show Steps p.tables e below (s₁.setTop (mkF m 17 #[.val (.ref a1), .val (.int (Int32.ofNat q)), .val (.int b), .val (.int b), .unset, .unset, .unset] [(.int (f q))])) _
        refine XS.bipush X0.here hx rfl (hb hby d2_17) ?_
        have hc19 : (f q) = (92 : Int32) := m0
        show Steps p.tables e below (s₁.setTop (mkF m 19 #[.val (.ref a1), .val (.int (Int32.ofNat q)), .val (.int b), .val (.int b), .unset, .unset, .unset] [(.int (92 : Int32)), (.int (f q))])) _
        refine XS.icmpNo X0.here hx rfl (hb hby d2_19) rfl (teq hc19).2 ?_
        show Steps p.tables e below (s₁.setTop (mkF m 22 #[.val (.ref a1), .val (.int (Int32.ofNat q)), .val (.int b), .val (.int b), .unset, .unset, .unset] [])) _
        refine XS.aloadN X0.here hx rfl (hb hby d2_22) rfl rfl ?_
        show Steps p.tables e below (s₁.setTop (mkF m 23 #[.val (.ref a1), .val (.int (Int32.ofNat q)), .val (.int b), .val (.int b), .unset, .unset, .unset] [(.ref a1)])) _
        refine XS.iloadN X0.here hx rfl (hb hby d2_23) rfl ?_
        show Steps p.tables e below (s₁.setTop (mkF m 24 #[.val (.ref a1), .val (.int (Int32.ofNat q)), .val (.int b), .val (.int b), .unset, .unset, .unset] [(.int (Int32.ofNat q)), (.ref a1)])) _
        refine XS.iconst X0.here hx rfl (hb hby d2_24) ?_
        show Steps p.tables e below (s₁.setTop (mkF m 25 #[.val (.ref a1), .val (.int (Int32.ofNat q)), .val (.int b), .val (.int b), .unset, .unset, .unset] [(.int (1 : Int32)), (.int (Int32.ofNat q)), (.ref a1)])) _
        refine XS.iadd X0.here hx rfl (hb hby d2_25) rfl ?_
        exact kt)
      have hv8 : ((Int32.ofNat q) + (1 : Int32)) = (Int32.ofNat (q + 1)) := own_add q 1
      rw [hv8] at pre7
      obtain ⟨fs, hr, hrun, hended, hW, hsame⟩ := X0.leave (v := some (.int ((Int32.ofNat q) + (2 : Int32)))) (fun h => by rw [Bd.returns] at h; cases h)
      refine ⟨_, _, pre7 _ ?_, hrun, hended, _, _, rfl, ?_, ⟨_, rfl⟩, hW, hsame.mono (by decide) (by decide)⟩
      · show Steps p.tables e below (s₁.setTop (mkF m 26 #[.val (.ref a1), .val (.int (Int32.ofNat q)), .val (.int b), .val (.int b), .unset, .unset, .unset] [(.int (Int32.ofNat (q + 1))), (.ref a1)])) _
        refine X0.baloadBytes hx (j := (Int32.ofNat (q + 1))) (v := (.int (f (q + 1)))) (by rw [e0]; exact Ar.1) (State.isArrayOf_alike hZ.alike Ar.2.1) Ar.2.2 (within (c := (q + 1)) rfl (by omega) (by omega)) (by rw [clamp_of (c := (q + 1)) rfl (by omega)]; exact Hf _ (by omega)) (g := (mkF m 26 #[.val (.ref a1), .val (.int (Int32.ofNat q)), .val (.int b), .val (.int b), .unset, .unset, .unset] [(.int (Int32.ofNat (q + 1))), (.ref a1)])) rfl rfl (hb hby d2_26) _ ?_
        show Steps p.tables e below (s₁.setTop (mkF m 27 #[.val (.ref a1), .val (.int (Int32.ofNat q)), .val (.int b), .val (.int b), .unset, .unset, .unset] [(.int (f (q + 1)))])) _
        refine XS.iloadN X0.here hx rfl (hb hby d2_27) rfl ?_
        have hc28 : (f (q + 1)) = b := m1
        show Steps p.tables e below (s₁.setTop (mkF m 28 #[.val (.ref a1), .val (.int (Int32.ofNat q)), .val (.int b), .val (.int b), .unset, .unset, .unset] [(.int b), (.int (f (q + 1)))])) _
        refine XS.icmpNo X0.here hx rfl (hb hby d2_28) rfl (teq hc28).2 ?_
        show Steps p.tables e below (s₁.setTop (mkF m 31 #[.val (.ref a1), .val (.int (Int32.ofNat q)), .val (.int b), .val (.int b), .unset, .unset, .unset] [])) _
        refine XS.iloadN X0.here hx rfl (hb hby d2_31) rfl ?_
        show Steps p.tables e below (s₁.setTop (mkF m 32 #[.val (.ref a1), .val (.int (Int32.ofNat q)), .val (.int b), .val (.int b), .unset, .unset, .unset] [(.int (Int32.ofNat q))])) _
        refine XS.iconst X0.here hx rfl (hb hby d2_32) ?_
        show Steps p.tables e below (s₁.setTop (mkF m 33 #[.val (.ref a1), .val (.int (Int32.ofNat q)), .val (.int b), .val (.int b), .unset, .unset, .unset] [(.int (2 : Int32)), (.int (Int32.ofNat q))])) _
        refine XS.iadd X0.here hx rfl (hb hby d2_33) rfl ?_
        show Steps p.tables e below (s₁.setTop (mkF m 34 #[.val (.ref a1), .val (.int (Int32.ofNat q)), .val (.int b), .val (.int b), .unset, .unset, .unset] [(.int ((Int32.ofNat q) + (2 : Int32)))])) _
        refine XS.goto X0.here hx rfl (pc0 := 34) (pc' := 38) rfl (hb hby d2_34) (by decide) (by decide) ?_
        show Steps p.tables e below (s₁.setTop (mkF m 38 #[.val (.ref a1), .val (.int (Int32.ofNat q)), .val (.int b), .val (.int b), .unset, .unset, .unset] [(.int ((Int32.ofNat q) + (2 : Int32)))])) _
        exact retI X0 hx Bd.returns (hb hby d2_38) hr
      · show Q2 Z q b h0 n0 _ s₁.heap _
        rw [e0]
        exact ⟨by rw [hl]; exact congrArg (fun z => some (Value.int z)) (own_add q _), N0, rfl⟩
    · have pre9 : ∀ t, Steps p.tables e below (s₁.setTop (mkF m 42 #[.val (.ref a1), .val (.int (Int32.ofNat q)), .val (.int b), .val (.int b), .unset, .unset, .unset] [(.int (10 : Int32)), (.int b)])) t → Steps p.tables e below _ t := fun t kt => pre5 t (by
        show Steps p.tables e below (s₁.setTop (mkF m 11 #[.val (.ref a1), .val (.int (Int32.ofNat q)), .val (.int b), .val (.int b), .unset, .unset, .unset] [(.int (92 : Int32)), (.int b)])) _
        refine XS.icmpYes X0.here hx rfl (pc0 := 11) (pc' := 39) rfl (hb hby d2_11) rfl (feq hc11).2 (by decide) (by decide) ?_
        show Steps p.tables e below (s₁.setTop (mkF m 39 #[.val (.ref a1), .val (.int (Int32.ofNat q)), .val (.int b), .val (.int b), .unset, .unset, .unset] [])) _
        refine XS.iloadN X0.here hx rfl (hb hby d2_39) rfl ?_
        show Steps p.tables e below (s₁.setTop (mkF m 40 #[.val (.ref a1), .val (.int (Int32.ofNat q)), .val (.int b), .val (.int b), .unset, .unset, .unset] [(.int b)])) _
        refine XS.bipush X0.here hx rfl (hb hby d2_40) ?_
        exact kt)
      by_cases hc42 : b = (10 : Int32)
      · have pre10 : ∀ t, Steps p.tables e below (s₁.setTop (mkF m 47 #[.val (.ref a1), .val (.int (Int32.ofNat q)), .val (.int b), .val (.int b), .unset, .unset, .unset] [(.int (Int32.ofNat q)), (.ref a1)])) t → Steps p.tables e below _ t := fun t kt => pre9 t (by
          show Steps p.tables e below (s₁.setTop (mkF m 42 #[.val (.ref a1), .val (.int (Int32.ofNat q)), .val (.int b), .val (.int b), .unset, .unset, .unset] [(.int (10 : Int32)), (.int b)])) _
          refine XS.icmpNo X0.here hx rfl (hb hby d2_42) rfl (teq hc42).2 ?_
          show Steps p.tables e below (s₁.setTop (mkF m 45 #[.val (.ref a1), .val (.int (Int32.ofNat q)), .val (.int b), .val (.int b), .unset, .unset, .unset] [])) _
          refine XS.aloadN X0.here hx rfl (hb hby d2_45) rfl rfl ?_
          show Steps p.tables e below (s₁.setTop (mkF m 46 #[.val (.ref a1), .val (.int (Int32.ofNat q)), .val (.int b), .val (.int b), .unset, .unset, .unset] [(.ref a1)])) _
          refine XS.iloadN X0.here hx rfl (hb hby d2_46) rfl ?_
          exact kt)
        have he : own_enc b = [92, 110] := by
          simp only [own_enc, if_neg hc5, if_neg hc11, if_pos hc42]
        have hm' := hm
        rw [he] at hm'
        have hl : (own_enc b).length = 2 := by rw [he]; rfl
        have m0 : f q = (92 : Int32) := hm' 0 (show 0 < 2 by decide)
        have m1 : f (q + 1) = (110 : Int32) := hm' 1 (show 1 < 2 by decide)
        have pre11 : ∀ t, Steps p.tables e below (s₁.setTop (mkF m 57 #[.val (.ref a1), .val (.int (Int32.ofNat q)), .val (.int b), .val (.int b), .unset, .unset, .unset] [(.int ((Int32.ofNat q) + (1 : Int32))), (.ref a1)])) t → Steps p.tables e below _ t := fun t kt => pre10 t (by
          show Steps p.tables e below (s₁.setTop (mkF m 47 #[.val (.ref a1), .val (.int (Int32.ofNat q)), .val (.int b), .val (.int b), .unset, .unset, .unset] [(.int (Int32.ofNat q)), (.ref a1)])) _
          refine X0.baloadBytes hx (j := (Int32.ofNat q)) (v := (.int (f q))) (by rw [e0]; exact Ar.1) (State.isArrayOf_alike hZ.alike Ar.2.1) Ar.2.2 (within (c := q) rfl (by omega) (by omega)) (by rw [clamp_of (c := q) rfl (by omega)]; exact Hf _ (by omega)) (g := (mkF m 47 #[.val (.ref a1), .val (.int (Int32.ofNat q)), .val (.int b), .val (.int b), .unset, .unset, .unset] [(.int (Int32.ofNat q)), (.ref a1)])) rfl rfl (hb hby d2_47) _ ?_
          show Steps p.tables e below (s₁.setTop (mkF m 48 #[.val (.ref a1), .val (.int (Int32.ofNat q)), .val (.int b), .val (.int b), .unset, .unset, .unset] [(.int (f q))])) _
          refine XS.bipush X0.here hx rfl (hb hby d2_48) ?_
          have hc50 : (f q) = (92 : Int32) := m0
          show Steps p.tables e below (s₁.setTop (mkF m 50 #[.val (.ref a1), .val (.int (Int32.ofNat q)), .val (.int b), .val (.int b), .unset, .unset, .unset] [(.int (92 : Int32)), (.int (f q))])) _
          refine XS.icmpNo X0.here hx rfl (hb hby d2_50) rfl (teq hc50).2 ?_
          show Steps p.tables e below (s₁.setTop (mkF m 53 #[.val (.ref a1), .val (.int (Int32.ofNat q)), .val (.int b), .val (.int b), .unset, .unset, .unset] [])) _
          refine XS.aloadN X0.here hx rfl (hb hby d2_53) rfl rfl ?_
          show Steps p.tables e below (s₁.setTop (mkF m 54 #[.val (.ref a1), .val (.int (Int32.ofNat q)), .val (.int b), .val (.int b), .unset, .unset, .unset] [(.ref a1)])) _
          refine XS.iloadN X0.here hx rfl (hb hby d2_54) rfl ?_
          show Steps p.tables e below (s₁.setTop (mkF m 55 #[.val (.ref a1), .val (.int (Int32.ofNat q)), .val (.int b), .val (.int b), .unset, .unset, .unset] [(.int (Int32.ofNat q)), (.ref a1)])) _
          refine XS.iconst X0.here hx rfl (hb hby d2_55) ?_
          show Steps p.tables e below (s₁.setTop (mkF m 56 #[.val (.ref a1), .val (.int (Int32.ofNat q)), .val (.int b), .val (.int b), .unset, .unset, .unset] [(.int (1 : Int32)), (.int (Int32.ofNat q)), (.ref a1)])) _
          refine XS.iadd X0.here hx rfl (hb hby d2_56) rfl ?_
          exact kt)
        have hv12 : ((Int32.ofNat q) + (1 : Int32)) = (Int32.ofNat (q + 1)) := own_add q 1
        rw [hv12] at pre11
        obtain ⟨fs, hr, hrun, hended, hW, hsame⟩ := X0.leave (v := some (.int ((Int32.ofNat q) + (2 : Int32)))) (fun h => by rw [Bd.returns] at h; cases h)
        refine ⟨_, _, pre11 _ ?_, hrun, hended, _, _, rfl, ?_, ⟨_, rfl⟩, hW, hsame.mono (by decide) (by decide)⟩
        · show Steps p.tables e below (s₁.setTop (mkF m 57 #[.val (.ref a1), .val (.int (Int32.ofNat q)), .val (.int b), .val (.int b), .unset, .unset, .unset] [(.int (Int32.ofNat (q + 1))), (.ref a1)])) _
          refine X0.baloadBytes hx (j := (Int32.ofNat (q + 1))) (v := (.int (f (q + 1)))) (by rw [e0]; exact Ar.1) (State.isArrayOf_alike hZ.alike Ar.2.1) Ar.2.2 (within (c := (q + 1)) rfl (by omega) (by omega)) (by rw [clamp_of (c := (q + 1)) rfl (by omega)]; exact Hf _ (by omega)) (g := (mkF m 57 #[.val (.ref a1), .val (.int (Int32.ofNat q)), .val (.int b), .val (.int b), .unset, .unset, .unset] [(.int (Int32.ofNat (q + 1))), (.ref a1)])) rfl rfl (hb hby d2_57) _ ?_
          show Steps p.tables e below (s₁.setTop (mkF m 58 #[.val (.ref a1), .val (.int (Int32.ofNat q)), .val (.int b), .val (.int b), .unset, .unset, .unset] [(.int (f (q + 1)))])) _
          refine XS.bipush X0.here hx rfl (hb hby d2_58) ?_
          have hc60 : (f (q + 1)) = (110 : Int32) := m1
          show Steps p.tables e below (s₁.setTop (mkF m 60 #[.val (.ref a1), .val (.int (Int32.ofNat q)), .val (.int b), .val (.int b), .unset, .unset, .unset] [(.int (110 : Int32)), (.int (f (q + 1)))])) _
          refine XS.icmpNo X0.here hx rfl (hb hby d2_60) rfl (teq hc60).2 ?_
          show Steps p.tables e below (s₁.setTop (mkF m 63 #[.val (.ref a1), .val (.int (Int32.ofNat q)), .val (.int b), .val (.int b), .unset, .unset, .unset] [])) _
          refine XS.iloadN X0.here hx rfl (hb hby d2_63) rfl ?_
          show Steps p.tables e below (s₁.setTop (mkF m 64 #[.val (.ref a1), .val (.int (Int32.ofNat q)), .val (.int b), .val (.int b), .unset, .unset, .unset] [(.int (Int32.ofNat q))])) _
          refine XS.iconst X0.here hx rfl (hb hby d2_64) ?_
          show Steps p.tables e below (s₁.setTop (mkF m 65 #[.val (.ref a1), .val (.int (Int32.ofNat q)), .val (.int b), .val (.int b), .unset, .unset, .unset] [(.int (2 : Int32)), (.int (Int32.ofNat q))])) _
          refine XS.iadd X0.here hx rfl (hb hby d2_65) rfl ?_
          show Steps p.tables e below (s₁.setTop (mkF m 66 #[.val (.ref a1), .val (.int (Int32.ofNat q)), .val (.int b), .val (.int b), .unset, .unset, .unset] [(.int ((Int32.ofNat q) + (2 : Int32)))])) _
          refine XS.goto X0.here hx rfl (pc0 := 66) (pc' := 70) rfl (hb hby d2_66) (by decide) (by decide) ?_
          show Steps p.tables e below (s₁.setTop (mkF m 70 #[.val (.ref a1), .val (.int (Int32.ofNat q)), .val (.int b), .val (.int b), .unset, .unset, .unset] [(.int ((Int32.ofNat q) + (2 : Int32)))])) _
          exact retI X0 hx Bd.returns (hb hby d2_70) hr
        · show Q2 Z q b h0 n0 _ s₁.heap _
          rw [e0]
          exact ⟨by rw [hl]; exact congrArg (fun z => some (Value.int z)) (own_add q _), N0, rfl⟩
      · have pre13 : ∀ t, Steps p.tables e below (s₁.setTop (mkF m 74 #[.val (.ref a1), .val (.int (Int32.ofNat q)), .val (.int b), .val (.int b), .unset, .unset, .unset] [(.int (13 : Int32)), (.int b)])) t → Steps p.tables e below _ t := fun t kt => pre9 t (by
          show Steps p.tables e below (s₁.setTop (mkF m 42 #[.val (.ref a1), .val (.int (Int32.ofNat q)), .val (.int b), .val (.int b), .unset, .unset, .unset] [(.int (10 : Int32)), (.int b)])) _
          refine XS.icmpYes X0.here hx rfl (pc0 := 42) (pc' := 71) rfl (hb hby d2_42) rfl (feq hc42).2 (by decide) (by decide) ?_
          show Steps p.tables e below (s₁.setTop (mkF m 71 #[.val (.ref a1), .val (.int (Int32.ofNat q)), .val (.int b), .val (.int b), .unset, .unset, .unset] [])) _
          refine XS.iloadN X0.here hx rfl (hb hby d2_71) rfl ?_
          show Steps p.tables e below (s₁.setTop (mkF m 72 #[.val (.ref a1), .val (.int (Int32.ofNat q)), .val (.int b), .val (.int b), .unset, .unset, .unset] [(.int b)])) _
          refine XS.bipush X0.here hx rfl (hb hby d2_72) ?_
          exact kt)
        by_cases hc74 : b = (13 : Int32)
        · have pre14 : ∀ t, Steps p.tables e below (s₁.setTop (mkF m 79 #[.val (.ref a1), .val (.int (Int32.ofNat q)), .val (.int b), .val (.int b), .unset, .unset, .unset] [(.int (Int32.ofNat q)), (.ref a1)])) t → Steps p.tables e below _ t := fun t kt => pre13 t (by
            show Steps p.tables e below (s₁.setTop (mkF m 74 #[.val (.ref a1), .val (.int (Int32.ofNat q)), .val (.int b), .val (.int b), .unset, .unset, .unset] [(.int (13 : Int32)), (.int b)])) _
            refine XS.icmpNo X0.here hx rfl (hb hby d2_74) rfl (teq hc74).2 ?_
            show Steps p.tables e below (s₁.setTop (mkF m 77 #[.val (.ref a1), .val (.int (Int32.ofNat q)), .val (.int b), .val (.int b), .unset, .unset, .unset] [])) _
            refine XS.aloadN X0.here hx rfl (hb hby d2_77) rfl rfl ?_
            show Steps p.tables e below (s₁.setTop (mkF m 78 #[.val (.ref a1), .val (.int (Int32.ofNat q)), .val (.int b), .val (.int b), .unset, .unset, .unset] [(.ref a1)])) _
            refine XS.iloadN X0.here hx rfl (hb hby d2_78) rfl ?_
            exact kt)
          have he : own_enc b = [92, 114] := by
            simp only [own_enc, if_neg hc5, if_neg hc11, if_neg hc42, if_pos hc74]
          have hm' := hm
          rw [he] at hm'
          have hl : (own_enc b).length = 2 := by rw [he]; rfl
          have m0 : f q = (92 : Int32) := hm' 0 (show 0 < 2 by decide)
          have m1 : f (q + 1) = (114 : Int32) := hm' 1 (show 1 < 2 by decide)
          have pre15 : ∀ t, Steps p.tables e below (s₁.setTop (mkF m 89 #[.val (.ref a1), .val (.int (Int32.ofNat q)), .val (.int b), .val (.int b), .unset, .unset, .unset] [(.int ((Int32.ofNat q) + (1 : Int32))), (.ref a1)])) t → Steps p.tables e below _ t := fun t kt => pre14 t (by
            show Steps p.tables e below (s₁.setTop (mkF m 79 #[.val (.ref a1), .val (.int (Int32.ofNat q)), .val (.int b), .val (.int b), .unset, .unset, .unset] [(.int (Int32.ofNat q)), (.ref a1)])) _
            refine X0.baloadBytes hx (j := (Int32.ofNat q)) (v := (.int (f q))) (by rw [e0]; exact Ar.1) (State.isArrayOf_alike hZ.alike Ar.2.1) Ar.2.2 (within (c := q) rfl (by omega) (by omega)) (by rw [clamp_of (c := q) rfl (by omega)]; exact Hf _ (by omega)) (g := (mkF m 79 #[.val (.ref a1), .val (.int (Int32.ofNat q)), .val (.int b), .val (.int b), .unset, .unset, .unset] [(.int (Int32.ofNat q)), (.ref a1)])) rfl rfl (hb hby d2_79) _ ?_
            show Steps p.tables e below (s₁.setTop (mkF m 80 #[.val (.ref a1), .val (.int (Int32.ofNat q)), .val (.int b), .val (.int b), .unset, .unset, .unset] [(.int (f q))])) _
            refine XS.bipush X0.here hx rfl (hb hby d2_80) ?_
            have hc82 : (f q) = (92 : Int32) := m0
            show Steps p.tables e below (s₁.setTop (mkF m 82 #[.val (.ref a1), .val (.int (Int32.ofNat q)), .val (.int b), .val (.int b), .unset, .unset, .unset] [(.int (92 : Int32)), (.int (f q))])) _
            refine XS.icmpNo X0.here hx rfl (hb hby d2_82) rfl (teq hc82).2 ?_
            show Steps p.tables e below (s₁.setTop (mkF m 85 #[.val (.ref a1), .val (.int (Int32.ofNat q)), .val (.int b), .val (.int b), .unset, .unset, .unset] [])) _
            refine XS.aloadN X0.here hx rfl (hb hby d2_85) rfl rfl ?_
            show Steps p.tables e below (s₁.setTop (mkF m 86 #[.val (.ref a1), .val (.int (Int32.ofNat q)), .val (.int b), .val (.int b), .unset, .unset, .unset] [(.ref a1)])) _
            refine XS.iloadN X0.here hx rfl (hb hby d2_86) rfl ?_
            show Steps p.tables e below (s₁.setTop (mkF m 87 #[.val (.ref a1), .val (.int (Int32.ofNat q)), .val (.int b), .val (.int b), .unset, .unset, .unset] [(.int (Int32.ofNat q)), (.ref a1)])) _
            refine XS.iconst X0.here hx rfl (hb hby d2_87) ?_
            show Steps p.tables e below (s₁.setTop (mkF m 88 #[.val (.ref a1), .val (.int (Int32.ofNat q)), .val (.int b), .val (.int b), .unset, .unset, .unset] [(.int (1 : Int32)), (.int (Int32.ofNat q)), (.ref a1)])) _
            refine XS.iadd X0.here hx rfl (hb hby d2_88) rfl ?_
            exact kt)
          have hv16 : ((Int32.ofNat q) + (1 : Int32)) = (Int32.ofNat (q + 1)) := own_add q 1
          rw [hv16] at pre15
          obtain ⟨fs, hr, hrun, hended, hW, hsame⟩ := X0.leave (v := some (.int ((Int32.ofNat q) + (2 : Int32)))) (fun h => by rw [Bd.returns] at h; cases h)
          refine ⟨_, _, pre15 _ ?_, hrun, hended, _, _, rfl, ?_, ⟨_, rfl⟩, hW, hsame.mono (by decide) (by decide)⟩
          · show Steps p.tables e below (s₁.setTop (mkF m 89 #[.val (.ref a1), .val (.int (Int32.ofNat q)), .val (.int b), .val (.int b), .unset, .unset, .unset] [(.int (Int32.ofNat (q + 1))), (.ref a1)])) _
            refine X0.baloadBytes hx (j := (Int32.ofNat (q + 1))) (v := (.int (f (q + 1)))) (by rw [e0]; exact Ar.1) (State.isArrayOf_alike hZ.alike Ar.2.1) Ar.2.2 (within (c := (q + 1)) rfl (by omega) (by omega)) (by rw [clamp_of (c := (q + 1)) rfl (by omega)]; exact Hf _ (by omega)) (g := (mkF m 89 #[.val (.ref a1), .val (.int (Int32.ofNat q)), .val (.int b), .val (.int b), .unset, .unset, .unset] [(.int (Int32.ofNat (q + 1))), (.ref a1)])) rfl rfl (hb hby d2_89) _ ?_
            show Steps p.tables e below (s₁.setTop (mkF m 90 #[.val (.ref a1), .val (.int (Int32.ofNat q)), .val (.int b), .val (.int b), .unset, .unset, .unset] [(.int (f (q + 1)))])) _
            refine XS.bipush X0.here hx rfl (hb hby d2_90) ?_
            have hc92 : (f (q + 1)) = (114 : Int32) := m1
            show Steps p.tables e below (s₁.setTop (mkF m 92 #[.val (.ref a1), .val (.int (Int32.ofNat q)), .val (.int b), .val (.int b), .unset, .unset, .unset] [(.int (114 : Int32)), (.int (f (q + 1)))])) _
            refine XS.icmpNo X0.here hx rfl (hb hby d2_92) rfl (teq hc92).2 ?_
            show Steps p.tables e below (s₁.setTop (mkF m 95 #[.val (.ref a1), .val (.int (Int32.ofNat q)), .val (.int b), .val (.int b), .unset, .unset, .unset] [])) _
            refine XS.iloadN X0.here hx rfl (hb hby d2_95) rfl ?_
            show Steps p.tables e below (s₁.setTop (mkF m 96 #[.val (.ref a1), .val (.int (Int32.ofNat q)), .val (.int b), .val (.int b), .unset, .unset, .unset] [(.int (Int32.ofNat q))])) _
            refine XS.iconst X0.here hx rfl (hb hby d2_96) ?_
            show Steps p.tables e below (s₁.setTop (mkF m 97 #[.val (.ref a1), .val (.int (Int32.ofNat q)), .val (.int b), .val (.int b), .unset, .unset, .unset] [(.int (2 : Int32)), (.int (Int32.ofNat q))])) _
            refine XS.iadd X0.here hx rfl (hb hby d2_97) rfl ?_
            show Steps p.tables e below (s₁.setTop (mkF m 98 #[.val (.ref a1), .val (.int (Int32.ofNat q)), .val (.int b), .val (.int b), .unset, .unset, .unset] [(.int ((Int32.ofNat q) + (2 : Int32)))])) _
            refine XS.goto X0.here hx rfl (pc0 := 98) (pc' := 102) rfl (hb hby d2_98) (by decide) (by decide) ?_
            show Steps p.tables e below (s₁.setTop (mkF m 102 #[.val (.ref a1), .val (.int (Int32.ofNat q)), .val (.int b), .val (.int b), .unset, .unset, .unset] [(.int ((Int32.ofNat q) + (2 : Int32)))])) _
            exact retI X0 hx Bd.returns (hb hby d2_102) hr
          · show Q2 Z q b h0 n0 _ s₁.heap _
            rw [e0]
            exact ⟨by rw [hl]; exact congrArg (fun z => some (Value.int z)) (own_add q _), N0, rfl⟩
        · have pre17 : ∀ t, Steps p.tables e below (s₁.setTop (mkF m 106 #[.val (.ref a1), .val (.int (Int32.ofNat q)), .val (.int b), .val (.int b), .unset, .unset, .unset] [(.int (9 : Int32)), (.int b)])) t → Steps p.tables e below _ t := fun t kt => pre13 t (by
            show Steps p.tables e below (s₁.setTop (mkF m 74 #[.val (.ref a1), .val (.int (Int32.ofNat q)), .val (.int b), .val (.int b), .unset, .unset, .unset] [(.int (13 : Int32)), (.int b)])) _
            refine XS.icmpYes X0.here hx rfl (pc0 := 74) (pc' := 103) rfl (hb hby d2_74) rfl (feq hc74).2 (by decide) (by decide) ?_
            show Steps p.tables e below (s₁.setTop (mkF m 103 #[.val (.ref a1), .val (.int (Int32.ofNat q)), .val (.int b), .val (.int b), .unset, .unset, .unset] [])) _
            refine XS.iloadN X0.here hx rfl (hb hby d2_103) rfl ?_
            show Steps p.tables e below (s₁.setTop (mkF m 104 #[.val (.ref a1), .val (.int (Int32.ofNat q)), .val (.int b), .val (.int b), .unset, .unset, .unset] [(.int b)])) _
            refine XS.bipush X0.here hx rfl (hb hby d2_104) ?_
            exact kt)
          by_cases hc106 : b = (9 : Int32)
          · have pre18 : ∀ t, Steps p.tables e below (s₁.setTop (mkF m 111 #[.val (.ref a1), .val (.int (Int32.ofNat q)), .val (.int b), .val (.int b), .unset, .unset, .unset] [(.int (Int32.ofNat q)), (.ref a1)])) t → Steps p.tables e below _ t := fun t kt => pre17 t (by
              show Steps p.tables e below (s₁.setTop (mkF m 106 #[.val (.ref a1), .val (.int (Int32.ofNat q)), .val (.int b), .val (.int b), .unset, .unset, .unset] [(.int (9 : Int32)), (.int b)])) _
              refine XS.icmpNo X0.here hx rfl (hb hby d2_106) rfl (teq hc106).2 ?_
              show Steps p.tables e below (s₁.setTop (mkF m 109 #[.val (.ref a1), .val (.int (Int32.ofNat q)), .val (.int b), .val (.int b), .unset, .unset, .unset] [])) _
              refine XS.aloadN X0.here hx rfl (hb hby d2_109) rfl rfl ?_
              show Steps p.tables e below (s₁.setTop (mkF m 110 #[.val (.ref a1), .val (.int (Int32.ofNat q)), .val (.int b), .val (.int b), .unset, .unset, .unset] [(.ref a1)])) _
              refine XS.iloadN X0.here hx rfl (hb hby d2_110) rfl ?_
              exact kt)
            have he : own_enc b = [92, 116] := by
              simp only [own_enc, if_neg hc5, if_neg hc11, if_neg hc42, if_neg hc74, if_pos hc106]
            have hm' := hm
            rw [he] at hm'
            have hl : (own_enc b).length = 2 := by rw [he]; rfl
            have m0 : f q = (92 : Int32) := hm' 0 (show 0 < 2 by decide)
            have m1 : f (q + 1) = (116 : Int32) := hm' 1 (show 1 < 2 by decide)
            have pre19 : ∀ t, Steps p.tables e below (s₁.setTop (mkF m 121 #[.val (.ref a1), .val (.int (Int32.ofNat q)), .val (.int b), .val (.int b), .unset, .unset, .unset] [(.int ((Int32.ofNat q) + (1 : Int32))), (.ref a1)])) t → Steps p.tables e below _ t := fun t kt => pre18 t (by
              show Steps p.tables e below (s₁.setTop (mkF m 111 #[.val (.ref a1), .val (.int (Int32.ofNat q)), .val (.int b), .val (.int b), .unset, .unset, .unset] [(.int (Int32.ofNat q)), (.ref a1)])) _
              refine X0.baloadBytes hx (j := (Int32.ofNat q)) (v := (.int (f q))) (by rw [e0]; exact Ar.1) (State.isArrayOf_alike hZ.alike Ar.2.1) Ar.2.2 (within (c := q) rfl (by omega) (by omega)) (by rw [clamp_of (c := q) rfl (by omega)]; exact Hf _ (by omega)) (g := (mkF m 111 #[.val (.ref a1), .val (.int (Int32.ofNat q)), .val (.int b), .val (.int b), .unset, .unset, .unset] [(.int (Int32.ofNat q)), (.ref a1)])) rfl rfl (hb hby d2_111) _ ?_
              show Steps p.tables e below (s₁.setTop (mkF m 112 #[.val (.ref a1), .val (.int (Int32.ofNat q)), .val (.int b), .val (.int b), .unset, .unset, .unset] [(.int (f q))])) _
              refine XS.bipush X0.here hx rfl (hb hby d2_112) ?_
              have hc114 : (f q) = (92 : Int32) := m0
              show Steps p.tables e below (s₁.setTop (mkF m 114 #[.val (.ref a1), .val (.int (Int32.ofNat q)), .val (.int b), .val (.int b), .unset, .unset, .unset] [(.int (92 : Int32)), (.int (f q))])) _
              refine XS.icmpNo X0.here hx rfl (hb hby d2_114) rfl (teq hc114).2 ?_
              show Steps p.tables e below (s₁.setTop (mkF m 117 #[.val (.ref a1), .val (.int (Int32.ofNat q)), .val (.int b), .val (.int b), .unset, .unset, .unset] [])) _
              refine XS.aloadN X0.here hx rfl (hb hby d2_117) rfl rfl ?_
              show Steps p.tables e below (s₁.setTop (mkF m 118 #[.val (.ref a1), .val (.int (Int32.ofNat q)), .val (.int b), .val (.int b), .unset, .unset, .unset] [(.ref a1)])) _
              refine XS.iloadN X0.here hx rfl (hb hby d2_118) rfl ?_
              show Steps p.tables e below (s₁.setTop (mkF m 119 #[.val (.ref a1), .val (.int (Int32.ofNat q)), .val (.int b), .val (.int b), .unset, .unset, .unset] [(.int (Int32.ofNat q)), (.ref a1)])) _
              refine XS.iconst X0.here hx rfl (hb hby d2_119) ?_
              show Steps p.tables e below (s₁.setTop (mkF m 120 #[.val (.ref a1), .val (.int (Int32.ofNat q)), .val (.int b), .val (.int b), .unset, .unset, .unset] [(.int (1 : Int32)), (.int (Int32.ofNat q)), (.ref a1)])) _
              refine XS.iadd X0.here hx rfl (hb hby d2_120) rfl ?_
              exact kt)
            have hv20 : ((Int32.ofNat q) + (1 : Int32)) = (Int32.ofNat (q + 1)) := own_add q 1
            rw [hv20] at pre19
            obtain ⟨fs, hr, hrun, hended, hW, hsame⟩ := X0.leave (v := some (.int ((Int32.ofNat q) + (2 : Int32)))) (fun h => by rw [Bd.returns] at h; cases h)
            refine ⟨_, _, pre19 _ ?_, hrun, hended, _, _, rfl, ?_, ⟨_, rfl⟩, hW, hsame.mono (by decide) (by decide)⟩
            · show Steps p.tables e below (s₁.setTop (mkF m 121 #[.val (.ref a1), .val (.int (Int32.ofNat q)), .val (.int b), .val (.int b), .unset, .unset, .unset] [(.int (Int32.ofNat (q + 1))), (.ref a1)])) _
              refine X0.baloadBytes hx (j := (Int32.ofNat (q + 1))) (v := (.int (f (q + 1)))) (by rw [e0]; exact Ar.1) (State.isArrayOf_alike hZ.alike Ar.2.1) Ar.2.2 (within (c := (q + 1)) rfl (by omega) (by omega)) (by rw [clamp_of (c := (q + 1)) rfl (by omega)]; exact Hf _ (by omega)) (g := (mkF m 121 #[.val (.ref a1), .val (.int (Int32.ofNat q)), .val (.int b), .val (.int b), .unset, .unset, .unset] [(.int (Int32.ofNat (q + 1))), (.ref a1)])) rfl rfl (hb hby d2_121) _ ?_
              show Steps p.tables e below (s₁.setTop (mkF m 122 #[.val (.ref a1), .val (.int (Int32.ofNat q)), .val (.int b), .val (.int b), .unset, .unset, .unset] [(.int (f (q + 1)))])) _
              refine XS.bipush X0.here hx rfl (hb hby d2_122) ?_
              have hc124 : (f (q + 1)) = (116 : Int32) := m1
              show Steps p.tables e below (s₁.setTop (mkF m 124 #[.val (.ref a1), .val (.int (Int32.ofNat q)), .val (.int b), .val (.int b), .unset, .unset, .unset] [(.int (116 : Int32)), (.int (f (q + 1)))])) _
              refine XS.icmpNo X0.here hx rfl (hb hby d2_124) rfl (teq hc124).2 ?_
              show Steps p.tables e below (s₁.setTop (mkF m 127 #[.val (.ref a1), .val (.int (Int32.ofNat q)), .val (.int b), .val (.int b), .unset, .unset, .unset] [])) _
              refine XS.iloadN X0.here hx rfl (hb hby d2_127) rfl ?_
              show Steps p.tables e below (s₁.setTop (mkF m 128 #[.val (.ref a1), .val (.int (Int32.ofNat q)), .val (.int b), .val (.int b), .unset, .unset, .unset] [(.int (Int32.ofNat q))])) _
              refine XS.iconst X0.here hx rfl (hb hby d2_128) ?_
              show Steps p.tables e below (s₁.setTop (mkF m 129 #[.val (.ref a1), .val (.int (Int32.ofNat q)), .val (.int b), .val (.int b), .unset, .unset, .unset] [(.int (2 : Int32)), (.int (Int32.ofNat q))])) _
              refine XS.iadd X0.here hx rfl (hb hby d2_129) rfl ?_
              show Steps p.tables e below (s₁.setTop (mkF m 130 #[.val (.ref a1), .val (.int (Int32.ofNat q)), .val (.int b), .val (.int b), .unset, .unset, .unset] [(.int ((Int32.ofNat q) + (2 : Int32)))])) _
              refine XS.goto X0.here hx rfl (pc0 := 130) (pc' := 134) rfl (hb hby d2_130) (by decide) (by decide) ?_
              show Steps p.tables e below (s₁.setTop (mkF m 134 #[.val (.ref a1), .val (.int (Int32.ofNat q)), .val (.int b), .val (.int b), .unset, .unset, .unset] [(.int ((Int32.ofNat q) + (2 : Int32)))])) _
              exact retI X0 hx Bd.returns (hb hby d2_134) hr
            · show Q2 Z q b h0 n0 _ s₁.heap _
              rw [e0]
              exact ⟨by rw [hl]; exact congrArg (fun z => some (Value.int z)) (own_add q _), N0, rfl⟩
          · have pre21 : ∀ t, Steps p.tables e below (s₁.setTop (mkF m 136 #[.val (.ref a1), .val (.int (Int32.ofNat q)), .val (.int b), .val (.int b), .unset, .unset, .unset] [(.int b)])) t → Steps p.tables e below _ t := fun t kt => pre17 t (by
              show Steps p.tables e below (s₁.setTop (mkF m 106 #[.val (.ref a1), .val (.int (Int32.ofNat q)), .val (.int b), .val (.int b), .unset, .unset, .unset] [(.int (9 : Int32)), (.int b)])) _
              refine XS.icmpYes X0.here hx rfl (pc0 := 106) (pc' := 135) rfl (hb hby d2_106) rfl (feq hc106).2 (by decide) (by decide) ?_
              show Steps p.tables e below (s₁.setTop (mkF m 135 #[.val (.ref a1), .val (.int (Int32.ofNat q)), .val (.int b), .val (.int b), .unset, .unset, .unset] [])) _
              refine XS.iloadN X0.here hx rfl (hb hby d2_135) rfl ?_
              exact kt)
            by_cases hc136 : b < (0 : Int32)
            · have pre22 : ∀ t, Steps p.tables e below (s₁.setTop (mkF m 254 #[.val (.ref a1), .val (.int (Int32.ofNat q)), .val (.int b), .val (.int b), .unset, .unset, .unset] [(.int (Int32.ofNat q)), (.ref a1)])) t → Steps p.tables e below _ t := fun t kt => pre21 t (by
                show Steps p.tables e below (s₁.setTop (mkF m 136 #[.val (.ref a1), .val (.int (Int32.ofNat q)), .val (.int b), .val (.int b), .unset, .unset, .unset] [(.int b)])) _
                refine XS.ifYes X0.here hx rfl (pc0 := 136) (pc' := 252) rfl (hb hby d2_136) rfl ((if0 _ _).trans (tlt hc136).1) (by decide) (by decide) ?_
                show Steps p.tables e below (s₁.setTop (mkF m 252 #[.val (.ref a1), .val (.int (Int32.ofNat q)), .val (.int b), .val (.int b), .unset, .unset, .unset] [])) _
                refine XS.aloadN X0.here hx rfl (hb hby d2_252) rfl rfl ?_
                show Steps p.tables e below (s₁.setTop (mkF m 253 #[.val (.ref a1), .val (.int (Int32.ofNat q)), .val (.int b), .val (.int b), .unset, .unset, .unset] [(.ref a1)])) _
                refine XS.iloadN X0.here hx rfl (hb hby d2_253) rfl ?_
                exact kt)
              have he : own_enc b = [b] := by
                simp only [own_enc, if_neg hc5, if_neg hc11, if_neg hc42, if_neg hc74, if_neg hc106, if_pos hc136]
              have hm' := hm
              rw [he] at hm'
              have hl : (own_enc b).length = 1 := by rw [he]; rfl
              have m0 : f q = b := hm' 0 (show 0 < 1 by decide)
              obtain ⟨fs, hr, hrun, hended, hW, hsame⟩ := X0.leave (v := some (.int ((Int32.ofNat q) + (1 : Int32)))) (fun h => by rw [Bd.returns] at h; cases h)
              refine ⟨_, _, pre22 _ ?_, hrun, hended, _, _, rfl, ?_, ⟨_, rfl⟩, hW, hsame.mono (by decide) (by decide)⟩
              · show Steps p.tables e below (s₁.setTop (mkF m 254 #[.val (.ref a1), .val (.int (Int32.ofNat q)), .val (.int b), .val (.int b), .unset, .unset, .unset] [(.int (Int32.ofNat q)), (.ref a1)])) _
                refine X0.baloadBytes hx (j := (Int32.ofNat q)) (v := (.int (f q))) (by rw [e0]; exact Ar.1) (State.isArrayOf_alike hZ.alike Ar.2.1) Ar.2.2 (within (c := q) rfl (by omega) (by omega)) (by rw [clamp_of (c := q) rfl (by omega)]; exact Hf _ (by omega)) (g := (mkF m 254 #[.val (.ref a1), .val (.int (Int32.ofNat q)), .val (.int b), .val (.int b), .unset, .unset, .unset] [(.int (Int32.ofNat q)), (.ref a1)])) rfl rfl (hb hby d2_254) _ ?_
                show Steps p.tables e below (s₁.setTop (mkF m 255 #[.val (.ref a1), .val (.int (Int32.ofNat q)), .val (.int b), .val (.int b), .unset, .unset, .unset] [(.int (f q))])) _
                refine XS.iloadN X0.here hx rfl (hb hby d2_255) rfl ?_
                have hc256 : (f q) = b := m0
                show Steps p.tables e below (s₁.setTop (mkF m 256 #[.val (.ref a1), .val (.int (Int32.ofNat q)), .val (.int b), .val (.int b), .unset, .unset, .unset] [(.int b), (.int (f q))])) _
                refine XS.icmpNo X0.here hx rfl (hb hby d2_256) rfl (teq hc256).2 ?_
                show Steps p.tables e below (s₁.setTop (mkF m 259 #[.val (.ref a1), .val (.int (Int32.ofNat q)), .val (.int b), .val (.int b), .unset, .unset, .unset] [])) _
                refine XS.iloadN X0.here hx rfl (hb hby d2_259) rfl ?_
                show Steps p.tables e below (s₁.setTop (mkF m 260 #[.val (.ref a1), .val (.int (Int32.ofNat q)), .val (.int b), .val (.int b), .unset, .unset, .unset] [(.int (Int32.ofNat q))])) _
                refine XS.iconst X0.here hx rfl (hb hby d2_260) ?_
                show Steps p.tables e below (s₁.setTop (mkF m 261 #[.val (.ref a1), .val (.int (Int32.ofNat q)), .val (.int b), .val (.int b), .unset, .unset, .unset] [(.int (1 : Int32)), (.int (Int32.ofNat q))])) _
                refine XS.iadd X0.here hx rfl (hb hby d2_261) rfl ?_
                show Steps p.tables e below (s₁.setTop (mkF m 262 #[.val (.ref a1), .val (.int (Int32.ofNat q)), .val (.int b), .val (.int b), .unset, .unset, .unset] [(.int ((Int32.ofNat q) + (1 : Int32)))])) _
                refine XS.goto X0.here hx rfl (pc0 := 262) (pc' := 266) rfl (hb hby d2_262) (by decide) (by decide) ?_
                show Steps p.tables e below (s₁.setTop (mkF m 266 #[.val (.ref a1), .val (.int (Int32.ofNat q)), .val (.int b), .val (.int b), .unset, .unset, .unset] [(.int ((Int32.ofNat q) + (1 : Int32)))])) _
                exact retI X0 hx Bd.returns (hb hby d2_266) hr
              · show Q2 Z q b h0 n0 _ s₁.heap _
                rw [e0]
                exact ⟨by rw [hl]; exact congrArg (fun z => some (Value.int z)) (own_add q _), N0, rfl⟩
            · have pre23 : ∀ t, Steps p.tables e below (s₁.setTop (mkF m 142 #[.val (.ref a1), .val (.int (Int32.ofNat q)), .val (.int b), .val (.int b), .unset, .unset, .unset] [(.int (32 : Int32)), (.int b)])) t → Steps p.tables e below _ t := fun t kt => pre21 t (by
                show Steps p.tables e below (s₁.setTop (mkF m 136 #[.val (.ref a1), .val (.int (Int32.ofNat q)), .val (.int b), .val (.int b), .unset, .unset, .unset] [(.int b)])) _
                refine XS.ifNo X0.here hx rfl (hb hby d2_136) rfl ((if0 _ _).trans (flt hc136).1) ?_
                show Steps p.tables e below (s₁.setTop (mkF m 139 #[.val (.ref a1), .val (.int (Int32.ofNat q)), .val (.int b), .val (.int b), .unset, .unset, .unset] [])) _
                refine XS.iloadN X0.here hx rfl (hb hby d2_139) rfl ?_
                show Steps p.tables e below (s₁.setTop (mkF m 140 #[.val (.ref a1), .val (.int (Int32.ofNat q)), .val (.int b), .val (.int b), .unset, .unset, .unset] [(.int b)])) _
                refine XS.bipush X0.here hx rfl (hb hby d2_140) ?_
                exact kt)
              by_cases hc142 : b < (32 : Int32)
              · have pre24 : ∀ t, Steps p.tables e below (s₁.setTop (mkF m 161 #[.val (.ref a1), .val (.int (Int32.ofNat q)), .val (.int b), .val (.int b), .val (.int (b / (16 : Int32))), .val (.int (b % (16 : Int32))), .unset] [(.int (10 : Int32)), (.int (b % (16 : Int32)))])) t → Steps p.tables e below _ t := fun t kt => pre23 t (by
                  show Steps p.tables e below (s₁.setTop (mkF m 142 #[.val (.ref a1), .val (.int (Int32.ofNat q)), .val (.int b), .val (.int b), .unset, .unset, .unset] [(.int (32 : Int32)), (.int b)])) _
                  refine XS.icmpNo X0.here hx rfl (hb hby d2_142) rfl (tlt hc142).2.1 ?_
                  show Steps p.tables e below (s₁.setTop (mkF m 145 #[.val (.ref a1), .val (.int (Int32.ofNat q)), .val (.int b), .val (.int b), .unset, .unset, .unset] [])) _
                  refine XS.iloadN X0.here hx rfl (hb hby d2_145) rfl ?_
                  show Steps p.tables e below (s₁.setTop (mkF m 146 #[.val (.ref a1), .val (.int (Int32.ofNat q)), .val (.int b), .val (.int b), .unset, .unset, .unset] [(.int b)])) _
                  refine XS.bipush X0.here hx rfl (hb hby d2_146) ?_
                  show Steps p.tables e below (s₁.setTop (mkF m 148 #[.val (.ref a1), .val (.int (Int32.ofNat q)), .val (.int b), .val (.int b), .unset, .unset, .unset] [(.int (16 : Int32)), (.int b)])) _
                  refine XS.idiv X0.here hx rfl (hb hby d2_148) rfl (by decide) ?_
                  show Steps p.tables e below (s₁.setTop (mkF m 149 #[.val (.ref a1), .val (.int (Int32.ofNat q)), .val (.int b), .val (.int b), .unset, .unset, .unset] [(.int (b / (16 : Int32)))])) _
                  refine XS.istore X0.here hx rfl (hb hby d2_149) rfl (l' := #[.val (.ref a1), .val (.int (Int32.ofNat q)), .val (.int b), .val (.int b), .val (.int (b / (16 : Int32))), .unset, .unset]) rfl ?_
                  show Steps p.tables e below (s₁.setTop (mkF m 151 #[.val (.ref a1), .val (.int (Int32.ofNat q)), .val (.int b), .val (.int b), .val (.int (b / (16 : Int32))), .unset, .unset] [])) _
                  refine XS.iloadN X0.here hx rfl (hb hby d2_151) rfl ?_
                  show Steps p.tables e below (s₁.setTop (mkF m 152 #[.val (.ref a1), .val (.int (Int32.ofNat q)), .val (.int b), .val (.int b), .val (.int (b / (16 : Int32))), .unset, .unset] [(.int b)])) _
                  refine XS.bipush X0.here hx rfl (hb hby d2_152) ?_
                  show Steps p.tables e below (s₁.setTop (mkF m 154 #[.val (.ref a1), .val (.int (Int32.ofNat q)), .val (.int b), .val (.int b), .val (.int (b / (16 : Int32))), .unset, .unset] [(.int (16 : Int32)), (.int b)])) _
                  refine iremM X0 hx rfl (hb hby d2_154) rfl (by decide) ?_
                  show Steps p.tables e below (s₁.setTop (mkF m 155 #[.val (.ref a1), .val (.int (Int32.ofNat q)), .val (.int b), .val (.int b), .val (.int (b / (16 : Int32))), .unset, .unset] [(.int (b % (16 : Int32)))])) _
                  refine XS.istore X0.here hx rfl (hb hby d2_155) rfl (l' := #[.val (.ref a1), .val (.int (Int32.ofNat q)), .val (.int b), .val (.int b), .val (.int (b / (16 : Int32))), .val (.int (b % (16 : Int32))), .unset]) rfl ?_
                  show Steps p.tables e below (s₁.setTop (mkF m 157 #[.val (.ref a1), .val (.int (Int32.ofNat q)), .val (.int b), .val (.int b), .val (.int (b / (16 : Int32))), .val (.int (b % (16 : Int32))), .unset] [])) _
                  refine XS.iload X0.here hx rfl (hb hby d2_157) rfl ?_
                  show Steps p.tables e below (s₁.setTop (mkF m 159 #[.val (.ref a1), .val (.int (Int32.ofNat q)), .val (.int b), .val (.int b), .val (.int (b / (16 : Int32))), .val (.int (b % (16 : Int32))), .unset] [(.int (b % (16 : Int32)))])) _
                  refine XS.bipush X0.here hx rfl (hb hby d2_159) ?_
                  exact kt)
                have pre25 : ∀ t, Steps p.tables e below (s₁.setTop (mkF m 180 #[.val (.ref a1), .val (.int (Int32.ofNat q)), .val (.int b), .val (.int b), .val (.int (b / (16 : Int32))), .val (.int (b % (16 : Int32))), .unset] [(.int (if (b % (16 : Int32)) < (10 : Int32) then ((48 : Int32) + (b % (16 : Int32))) else (((97 : Int32) + (b % (16 : Int32))) - (10 : Int32))))])) t → Steps p.tables e below (s₁.setTop (entryFrame m #[(.ref a1), (.int (Int32.ofNat q)), (.int b)] 7)) t := fun t kt => by
                  refine pre24 t ?_
                  by_cases hd161 : (b % (16 : Int32)) < (10 : Int32)
                  · simp only [if_pos hd161] at kt
                    show Steps p.tables e below (s₁.setTop (mkF m 161 #[.val (.ref a1), .val (.int (Int32.ofNat q)), .val (.int b), .val (.int b), .val (.int (b / (16 : Int32))), .val (.int (b % (16 : Int32))), .unset] [(.int (10 : Int32)), (.int (b % (16 : Int32)))])) _
                    refine XS.icmpNo X0.here hx rfl (hb hby d2_161) rfl (tlt hd161).2.1 ?_
                    show Steps p.tables e below (s₁.setTop (mkF m 164 #[.val (.ref a1), .val (.int (Int32.ofNat q)), .val (.int b), .val (.int b), .val (.int (b / (16 : Int32))), .val (.int (b % (16 : Int32))), .unset] [])) _
                    refine XS.bipush X0.here hx rfl (hb hby d2_164) ?_
                    show Steps p.tables e below (s₁.setTop (mkF m 166 #[.val (.ref a1), .val (.int (Int32.ofNat q)), .val (.int b), .val (.int b), .val (.int (b / (16 : Int32))), .val (.int (b % (16 : Int32))), .unset] [(.int (48 : Int32))])) _
                    refine XS.iload X0.here hx rfl (hb hby d2_166) rfl ?_
                    show Steps p.tables e below (s₁.setTop (mkF m 168 #[.val (.ref a1), .val (.int (Int32.ofNat q)), .val (.int b), .val (.int b), .val (.int (b / (16 : Int32))), .val (.int (b % (16 : Int32))), .unset] [(.int (b % (16 : Int32))), (.int (48 : Int32))])) _
                    refine XS.iadd X0.here hx rfl (hb hby d2_168) rfl ?_
                    show Steps p.tables e below (s₁.setTop (mkF m 169 #[.val (.ref a1), .val (.int (Int32.ofNat q)), .val (.int b), .val (.int b), .val (.int (b / (16 : Int32))), .val (.int (b % (16 : Int32))), .unset] [(.int ((48 : Int32) + (b % (16 : Int32))))])) _
                    refine XS.goto X0.here hx rfl (pc0 := 169) (pc' := 180) rfl (hb hby d2_169) (by decide) (by decide) ?_
                    exact kt
                  · simp only [if_neg hd161] at kt
                    show Steps p.tables e below (s₁.setTop (mkF m 161 #[.val (.ref a1), .val (.int (Int32.ofNat q)), .val (.int b), .val (.int b), .val (.int (b / (16 : Int32))), .val (.int (b % (16 : Int32))), .unset] [(.int (10 : Int32)), (.int (b % (16 : Int32)))])) _
                    refine XS.icmpYes X0.here hx rfl (pc0 := 161) (pc' := 172) rfl (hb hby d2_161) rfl (flt hd161).2.1 (by decide) (by decide) ?_
                    show Steps p.tables e below (s₁.setTop (mkF m 172 #[.val (.ref a1), .val (.int (Int32.ofNat q)), .val (.int b), .val (.int b), .val (.int (b / (16 : Int32))), .val (.int (b % (16 : Int32))), .unset] [])) _
                    refine XS.bipush X0.here hx rfl (hb hby d2_172) ?_
                    show Steps p.tables e below (s₁.setTop (mkF m 174 #[.val (.ref a1), .val (.int (Int32.ofNat q)), .val (.int b), .val (.int b), .val (.int (b / (16 : Int32))), .val (.int (b % (16 : Int32))), .unset] [(.int (97 : Int32))])) _
                    refine XS.iload X0.here hx rfl (hb hby d2_174) rfl ?_
                    show Steps p.tables e below (s₁.setTop (mkF m 176 #[.val (.ref a1), .val (.int (Int32.ofNat q)), .val (.int b), .val (.int b), .val (.int (b / (16 : Int32))), .val (.int (b % (16 : Int32))), .unset] [(.int (b % (16 : Int32))), (.int (97 : Int32))])) _
                    refine XS.iadd X0.here hx rfl (hb hby d2_176) rfl ?_
                    show Steps p.tables e below (s₁.setTop (mkF m 177 #[.val (.ref a1), .val (.int (Int32.ofNat q)), .val (.int b), .val (.int b), .val (.int (b / (16 : Int32))), .val (.int (b % (16 : Int32))), .unset] [(.int ((97 : Int32) + (b % (16 : Int32))))])) _
                    refine XS.bipush X0.here hx rfl (hb hby d2_177) ?_
                    show Steps p.tables e below (s₁.setTop (mkF m 179 #[.val (.ref a1), .val (.int (Int32.ofNat q)), .val (.int b), .val (.int b), .val (.int (b / (16 : Int32))), .val (.int (b % (16 : Int32))), .unset] [(.int (10 : Int32)), (.int ((97 : Int32) + (b % (16 : Int32))))])) _
                    refine XS.isub X0.here hx rfl (hb hby d2_179) rfl ?_
                    exact kt
                have pre26 : ∀ t, Steps p.tables e below (s₁.setTop (mkF m 184 #[.val (.ref a1), .val (.int (Int32.ofNat q)), .val (.int b), .val (.int b), .val (.int (b / (16 : Int32))), .val (.int (b % (16 : Int32))), .val (.int (if (b % (16 : Int32)) < (10 : Int32) then ((48 : Int32) + (b % (16 : Int32))) else (((97 : Int32) + (b % (16 : Int32))) - (10 : Int32))))] [(.int (Int32.ofNat q)), (.ref a1)])) t → Steps p.tables e below _ t := fun t kt => pre25 t (by
                  show Steps p.tables e below (s₁.setTop (mkF m 180 #[.val (.ref a1), .val (.int (Int32.ofNat q)), .val (.int b), .val (.int b), .val (.int (b / (16 : Int32))), .val (.int (b % (16 : Int32))), .unset] [(.int (if (b % (16 : Int32)) < (10 : Int32) then ((48 : Int32) + (b % (16 : Int32))) else (((97 : Int32) + (b % (16 : Int32))) - (10 : Int32))))])) _
                  refine XS.istore X0.here hx rfl (hb hby d2_180) rfl (l' := #[.val (.ref a1), .val (.int (Int32.ofNat q)), .val (.int b), .val (.int b), .val (.int (b / (16 : Int32))), .val (.int (b % (16 : Int32))), .val (.int (if (b % (16 : Int32)) < (10 : Int32) then ((48 : Int32) + (b % (16 : Int32))) else (((97 : Int32) + (b % (16 : Int32))) - (10 : Int32))))]) rfl ?_
                  show Steps p.tables e below (s₁.setTop (mkF m 182 #[.val (.ref a1), .val (.int (Int32.ofNat q)), .val (.int b), .val (.int b), .val (.int (b / (16 : Int32))), .val (.int (b % (16 : Int32))), .val (.int (if (b % (16 : Int32)) < (10 : Int32) then ((48 : Int32) + (b % (16 : Int32))) else (((97 : Int32) + (b % (16 : Int32))) - (10 : Int32))))] [])) _
                  refine XS.aloadN X0.here hx rfl (hb hby d2_182) rfl rfl ?_
                  show Steps p.tables e below (s₁.setTop (mkF m 183 #[.val (.ref a1), .val (.int (Int32.ofNat q)), .val (.int b), .val (.int b), .val (.int (b / (16 : Int32))), .val (.int (b % (16 : Int32))), .val (.int (if (b % (16 : Int32)) < (10 : Int32) then ((48 : Int32) + (b % (16 : Int32))) else (((97 : Int32) + (b % (16 : Int32))) - (10 : Int32))))] [(.ref a1)])) _
                  refine XS.iloadN X0.here hx rfl (hb hby d2_183) rfl ?_
                  exact kt)
                have he : own_enc b = [92, 117, 48, 48, own_hex (b.toInt.toNat / 16), own_hex (b.toInt.toNat % 16)] := by
                  simp only [own_enc, if_neg hc5, if_neg hc11, if_neg hc42, if_neg hc74, if_neg hc106, if_neg hc136, if_pos hc142]
                have hm' := hm
                rw [he] at hm'
                have hl : (own_enc b).length = 6 := by rw [he]; rfl
                obtain ⟨B, hB, hB32, hBn⟩ := own_small32 hc136 hc142
                obtain ⟨-, -, nu3, nu4⟩ := own_nums B hB32
                rw [← hB] at nu3 nu4
                have m0 : f q = (92 : Int32) := hm' 0 (show 0 < 6 by decide)
                have m1 : f (q + 1) = (117 : Int32) := hm' 1 (show 1 < 6 by decide)
                have m2 : f (q + 2) = (48 : Int32) := hm' 2 (show 2 < 6 by decide)
                have m3 : f (q + 3) = (48 : Int32) := hm' 3 (show 3 < 6 by decide)
                have m4 : f (q + 4) = ((48 : Int32) + (b / (16 : Int32))) := (hm' 4 (show 4 < 6 by decide)).trans (by show own_hex (b.toInt.toNat / 16) = _; rw [hBn]; exact nu3)
                have m5 : f (q + 5) = (if (b % (16 : Int32)) < (10 : Int32) then ((48 : Int32) + (b % (16 : Int32))) else (((97 : Int32) + (b % (16 : Int32))) - (10 : Int32))) := (hm' 5 (show 5 < 6 by decide)).trans (by show own_hex (b.toInt.toNat % 16) = _; rw [hBn]; exact nu4)
                have pre27 : ∀ t, Steps p.tables e below (s₁.setTop (mkF m 194 #[.val (.ref a1), .val (.int (Int32.ofNat q)), .val (.int b), .val (.int b), .val (.int (b / (16 : Int32))), .val (.int (b % (16 : Int32))), .val (.int (if (b % (16 : Int32)) < (10 : Int32) then ((48 : Int32) + (b % (16 : Int32))) else (((97 : Int32) + (b % (16 : Int32))) - (10 : Int32))))] [(.int ((Int32.ofNat q) + (1 : Int32))), (.ref a1)])) t → Steps p.tables e below _ t := fun t kt => pre26 t (by
                  show Steps p.tables e below (s₁.setTop (mkF m 184 #[.val (.ref a1), .val (.int (Int32.ofNat q)), .val (.int b), .val (.int b), .val (.int (b / (16 : Int32))), .val (.int (b % (16 : Int32))), .val (.int (if (b % (16 : Int32)) < (10 : Int32) then ((48 : Int32) + (b % (16 : Int32))) else (((97 : Int32) + (b % (16 : Int32))) - (10 : Int32))))] [(.int (Int32.ofNat q)), (.ref a1)])) _
                  refine X0.baloadBytes hx (j := (Int32.ofNat q)) (v := (.int (f q))) (by rw [e0]; exact Ar.1) (State.isArrayOf_alike hZ.alike Ar.2.1) Ar.2.2 (within (c := q) rfl (by omega) (by omega)) (by rw [clamp_of (c := q) rfl (by omega)]; exact Hf _ (by omega)) (g := (mkF m 184 #[.val (.ref a1), .val (.int (Int32.ofNat q)), .val (.int b), .val (.int b), .val (.int (b / (16 : Int32))), .val (.int (b % (16 : Int32))), .val (.int (if (b % (16 : Int32)) < (10 : Int32) then ((48 : Int32) + (b % (16 : Int32))) else (((97 : Int32) + (b % (16 : Int32))) - (10 : Int32))))] [(.int (Int32.ofNat q)), (.ref a1)])) rfl rfl (hb hby d2_184) _ ?_
                  show Steps p.tables e below (s₁.setTop (mkF m 185 #[.val (.ref a1), .val (.int (Int32.ofNat q)), .val (.int b), .val (.int b), .val (.int (b / (16 : Int32))), .val (.int (b % (16 : Int32))), .val (.int (if (b % (16 : Int32)) < (10 : Int32) then ((48 : Int32) + (b % (16 : Int32))) else (((97 : Int32) + (b % (16 : Int32))) - (10 : Int32))))] [(.int (f q))])) _
                  refine XS.bipush X0.here hx rfl (hb hby d2_185) ?_
                  have hc187 : (f q) = (92 : Int32) := m0
                  show Steps p.tables e below (s₁.setTop (mkF m 187 #[.val (.ref a1), .val (.int (Int32.ofNat q)), .val (.int b), .val (.int b), .val (.int (b / (16 : Int32))), .val (.int (b % (16 : Int32))), .val (.int (if (b % (16 : Int32)) < (10 : Int32) then ((48 : Int32) + (b % (16 : Int32))) else (((97 : Int32) + (b % (16 : Int32))) - (10 : Int32))))] [(.int (92 : Int32)), (.int (f q))])) _
                  refine XS.icmpNo X0.here hx rfl (hb hby d2_187) rfl (teq hc187).2 ?_
                  show Steps p.tables e below (s₁.setTop (mkF m 190 #[.val (.ref a1), .val (.int (Int32.ofNat q)), .val (.int b), .val (.int b), .val (.int (b / (16 : Int32))), .val (.int (b % (16 : Int32))), .val (.int (if (b % (16 : Int32)) < (10 : Int32) then ((48 : Int32) + (b % (16 : Int32))) else (((97 : Int32) + (b % (16 : Int32))) - (10 : Int32))))] [])) _
                  refine XS.aloadN X0.here hx rfl (hb hby d2_190) rfl rfl ?_
                  show Steps p.tables e below (s₁.setTop (mkF m 191 #[.val (.ref a1), .val (.int (Int32.ofNat q)), .val (.int b), .val (.int b), .val (.int (b / (16 : Int32))), .val (.int (b % (16 : Int32))), .val (.int (if (b % (16 : Int32)) < (10 : Int32) then ((48 : Int32) + (b % (16 : Int32))) else (((97 : Int32) + (b % (16 : Int32))) - (10 : Int32))))] [(.ref a1)])) _
                  refine XS.iloadN X0.here hx rfl (hb hby d2_191) rfl ?_
                  show Steps p.tables e below (s₁.setTop (mkF m 192 #[.val (.ref a1), .val (.int (Int32.ofNat q)), .val (.int b), .val (.int b), .val (.int (b / (16 : Int32))), .val (.int (b % (16 : Int32))), .val (.int (if (b % (16 : Int32)) < (10 : Int32) then ((48 : Int32) + (b % (16 : Int32))) else (((97 : Int32) + (b % (16 : Int32))) - (10 : Int32))))] [(.int (Int32.ofNat q)), (.ref a1)])) _
                  refine XS.iconst X0.here hx rfl (hb hby d2_192) ?_
                  show Steps p.tables e below (s₁.setTop (mkF m 193 #[.val (.ref a1), .val (.int (Int32.ofNat q)), .val (.int b), .val (.int b), .val (.int (b / (16 : Int32))), .val (.int (b % (16 : Int32))), .val (.int (if (b % (16 : Int32)) < (10 : Int32) then ((48 : Int32) + (b % (16 : Int32))) else (((97 : Int32) + (b % (16 : Int32))) - (10 : Int32))))] [(.int (1 : Int32)), (.int (Int32.ofNat q)), (.ref a1)])) _
                  refine XS.iadd X0.here hx rfl (hb hby d2_193) rfl ?_
                  exact kt)
                have hv28 : ((Int32.ofNat q) + (1 : Int32)) = (Int32.ofNat (q + 1)) := own_add q 1
                rw [hv28] at pre27
                have pre29 : ∀ t, Steps p.tables e below (s₁.setTop (mkF m 204 #[.val (.ref a1), .val (.int (Int32.ofNat q)), .val (.int b), .val (.int b), .val (.int (b / (16 : Int32))), .val (.int (b % (16 : Int32))), .val (.int (if (b % (16 : Int32)) < (10 : Int32) then ((48 : Int32) + (b % (16 : Int32))) else (((97 : Int32) + (b % (16 : Int32))) - (10 : Int32))))] [(.int ((Int32.ofNat q) + (2 : Int32))), (.ref a1)])) t → Steps p.tables e below _ t := fun t kt => pre27 t (by
                  show Steps p.tables e below (s₁.setTop (mkF m 194 #[.val (.ref a1), .val (.int (Int32.ofNat q)), .val (.int b), .val (.int b), .val (.int (b / (16 : Int32))), .val (.int (b % (16 : Int32))), .val (.int (if (b % (16 : Int32)) < (10 : Int32) then ((48 : Int32) + (b % (16 : Int32))) else (((97 : Int32) + (b % (16 : Int32))) - (10 : Int32))))] [(.int (Int32.ofNat (q + 1))), (.ref a1)])) _
                  refine X0.baloadBytes hx (j := (Int32.ofNat (q + 1))) (v := (.int (f (q + 1)))) (by rw [e0]; exact Ar.1) (State.isArrayOf_alike hZ.alike Ar.2.1) Ar.2.2 (within (c := (q + 1)) rfl (by omega) (by omega)) (by rw [clamp_of (c := (q + 1)) rfl (by omega)]; exact Hf _ (by omega)) (g := (mkF m 194 #[.val (.ref a1), .val (.int (Int32.ofNat q)), .val (.int b), .val (.int b), .val (.int (b / (16 : Int32))), .val (.int (b % (16 : Int32))), .val (.int (if (b % (16 : Int32)) < (10 : Int32) then ((48 : Int32) + (b % (16 : Int32))) else (((97 : Int32) + (b % (16 : Int32))) - (10 : Int32))))] [(.int (Int32.ofNat (q + 1))), (.ref a1)])) rfl rfl (hb hby d2_194) _ ?_
                  show Steps p.tables e below (s₁.setTop (mkF m 195 #[.val (.ref a1), .val (.int (Int32.ofNat q)), .val (.int b), .val (.int b), .val (.int (b / (16 : Int32))), .val (.int (b % (16 : Int32))), .val (.int (if (b % (16 : Int32)) < (10 : Int32) then ((48 : Int32) + (b % (16 : Int32))) else (((97 : Int32) + (b % (16 : Int32))) - (10 : Int32))))] [(.int (f (q + 1)))])) _
                  refine XS.bipush X0.here hx rfl (hb hby d2_195) ?_
                  have hc197 : (f (q + 1)) = (117 : Int32) := m1
                  show Steps p.tables e below (s₁.setTop (mkF m 197 #[.val (.ref a1), .val (.int (Int32.ofNat q)), .val (.int b), .val (.int b), .val (.int (b / (16 : Int32))), .val (.int (b % (16 : Int32))), .val (.int (if (b % (16 : Int32)) < (10 : Int32) then ((48 : Int32) + (b % (16 : Int32))) else (((97 : Int32) + (b % (16 : Int32))) - (10 : Int32))))] [(.int (117 : Int32)), (.int (f (q + 1)))])) _
                  refine XS.icmpNo X0.here hx rfl (hb hby d2_197) rfl (teq hc197).2 ?_
                  show Steps p.tables e below (s₁.setTop (mkF m 200 #[.val (.ref a1), .val (.int (Int32.ofNat q)), .val (.int b), .val (.int b), .val (.int (b / (16 : Int32))), .val (.int (b % (16 : Int32))), .val (.int (if (b % (16 : Int32)) < (10 : Int32) then ((48 : Int32) + (b % (16 : Int32))) else (((97 : Int32) + (b % (16 : Int32))) - (10 : Int32))))] [])) _
                  refine XS.aloadN X0.here hx rfl (hb hby d2_200) rfl rfl ?_
                  show Steps p.tables e below (s₁.setTop (mkF m 201 #[.val (.ref a1), .val (.int (Int32.ofNat q)), .val (.int b), .val (.int b), .val (.int (b / (16 : Int32))), .val (.int (b % (16 : Int32))), .val (.int (if (b % (16 : Int32)) < (10 : Int32) then ((48 : Int32) + (b % (16 : Int32))) else (((97 : Int32) + (b % (16 : Int32))) - (10 : Int32))))] [(.ref a1)])) _
                  refine XS.iloadN X0.here hx rfl (hb hby d2_201) rfl ?_
                  show Steps p.tables e below (s₁.setTop (mkF m 202 #[.val (.ref a1), .val (.int (Int32.ofNat q)), .val (.int b), .val (.int b), .val (.int (b / (16 : Int32))), .val (.int (b % (16 : Int32))), .val (.int (if (b % (16 : Int32)) < (10 : Int32) then ((48 : Int32) + (b % (16 : Int32))) else (((97 : Int32) + (b % (16 : Int32))) - (10 : Int32))))] [(.int (Int32.ofNat q)), (.ref a1)])) _
                  refine XS.iconst X0.here hx rfl (hb hby d2_202) ?_
                  show Steps p.tables e below (s₁.setTop (mkF m 203 #[.val (.ref a1), .val (.int (Int32.ofNat q)), .val (.int b), .val (.int b), .val (.int (b / (16 : Int32))), .val (.int (b % (16 : Int32))), .val (.int (if (b % (16 : Int32)) < (10 : Int32) then ((48 : Int32) + (b % (16 : Int32))) else (((97 : Int32) + (b % (16 : Int32))) - (10 : Int32))))] [(.int (2 : Int32)), (.int (Int32.ofNat q)), (.ref a1)])) _
                  refine XS.iadd X0.here hx rfl (hb hby d2_203) rfl ?_
                  exact kt)
                have hv30 : ((Int32.ofNat q) + (2 : Int32)) = (Int32.ofNat (q + 2)) := own_add q 2
                rw [hv30] at pre29
                have pre31 : ∀ t, Steps p.tables e below (s₁.setTop (mkF m 214 #[.val (.ref a1), .val (.int (Int32.ofNat q)), .val (.int b), .val (.int b), .val (.int (b / (16 : Int32))), .val (.int (b % (16 : Int32))), .val (.int (if (b % (16 : Int32)) < (10 : Int32) then ((48 : Int32) + (b % (16 : Int32))) else (((97 : Int32) + (b % (16 : Int32))) - (10 : Int32))))] [(.int ((Int32.ofNat q) + (3 : Int32))), (.ref a1)])) t → Steps p.tables e below _ t := fun t kt => pre29 t (by
                  show Steps p.tables e below (s₁.setTop (mkF m 204 #[.val (.ref a1), .val (.int (Int32.ofNat q)), .val (.int b), .val (.int b), .val (.int (b / (16 : Int32))), .val (.int (b % (16 : Int32))), .val (.int (if (b % (16 : Int32)) < (10 : Int32) then ((48 : Int32) + (b % (16 : Int32))) else (((97 : Int32) + (b % (16 : Int32))) - (10 : Int32))))] [(.int (Int32.ofNat (q + 2))), (.ref a1)])) _
                  refine X0.baloadBytes hx (j := (Int32.ofNat (q + 2))) (v := (.int (f (q + 2)))) (by rw [e0]; exact Ar.1) (State.isArrayOf_alike hZ.alike Ar.2.1) Ar.2.2 (within (c := (q + 2)) rfl (by omega) (by omega)) (by rw [clamp_of (c := (q + 2)) rfl (by omega)]; exact Hf _ (by omega)) (g := (mkF m 204 #[.val (.ref a1), .val (.int (Int32.ofNat q)), .val (.int b), .val (.int b), .val (.int (b / (16 : Int32))), .val (.int (b % (16 : Int32))), .val (.int (if (b % (16 : Int32)) < (10 : Int32) then ((48 : Int32) + (b % (16 : Int32))) else (((97 : Int32) + (b % (16 : Int32))) - (10 : Int32))))] [(.int (Int32.ofNat (q + 2))), (.ref a1)])) rfl rfl (hb hby d2_204) _ ?_
                  show Steps p.tables e below (s₁.setTop (mkF m 205 #[.val (.ref a1), .val (.int (Int32.ofNat q)), .val (.int b), .val (.int b), .val (.int (b / (16 : Int32))), .val (.int (b % (16 : Int32))), .val (.int (if (b % (16 : Int32)) < (10 : Int32) then ((48 : Int32) + (b % (16 : Int32))) else (((97 : Int32) + (b % (16 : Int32))) - (10 : Int32))))] [(.int (f (q + 2)))])) _
                  refine XS.bipush X0.here hx rfl (hb hby d2_205) ?_
                  have hc207 : (f (q + 2)) = (48 : Int32) := m2
                  show Steps p.tables e below (s₁.setTop (mkF m 207 #[.val (.ref a1), .val (.int (Int32.ofNat q)), .val (.int b), .val (.int b), .val (.int (b / (16 : Int32))), .val (.int (b % (16 : Int32))), .val (.int (if (b % (16 : Int32)) < (10 : Int32) then ((48 : Int32) + (b % (16 : Int32))) else (((97 : Int32) + (b % (16 : Int32))) - (10 : Int32))))] [(.int (48 : Int32)), (.int (f (q + 2)))])) _
                  refine XS.icmpNo X0.here hx rfl (hb hby d2_207) rfl (teq hc207).2 ?_
                  show Steps p.tables e below (s₁.setTop (mkF m 210 #[.val (.ref a1), .val (.int (Int32.ofNat q)), .val (.int b), .val (.int b), .val (.int (b / (16 : Int32))), .val (.int (b % (16 : Int32))), .val (.int (if (b % (16 : Int32)) < (10 : Int32) then ((48 : Int32) + (b % (16 : Int32))) else (((97 : Int32) + (b % (16 : Int32))) - (10 : Int32))))] [])) _
                  refine XS.aloadN X0.here hx rfl (hb hby d2_210) rfl rfl ?_
                  show Steps p.tables e below (s₁.setTop (mkF m 211 #[.val (.ref a1), .val (.int (Int32.ofNat q)), .val (.int b), .val (.int b), .val (.int (b / (16 : Int32))), .val (.int (b % (16 : Int32))), .val (.int (if (b % (16 : Int32)) < (10 : Int32) then ((48 : Int32) + (b % (16 : Int32))) else (((97 : Int32) + (b % (16 : Int32))) - (10 : Int32))))] [(.ref a1)])) _
                  refine XS.iloadN X0.here hx rfl (hb hby d2_211) rfl ?_
                  show Steps p.tables e below (s₁.setTop (mkF m 212 #[.val (.ref a1), .val (.int (Int32.ofNat q)), .val (.int b), .val (.int b), .val (.int (b / (16 : Int32))), .val (.int (b % (16 : Int32))), .val (.int (if (b % (16 : Int32)) < (10 : Int32) then ((48 : Int32) + (b % (16 : Int32))) else (((97 : Int32) + (b % (16 : Int32))) - (10 : Int32))))] [(.int (Int32.ofNat q)), (.ref a1)])) _
                  refine XS.iconst X0.here hx rfl (hb hby d2_212) ?_
                  show Steps p.tables e below (s₁.setTop (mkF m 213 #[.val (.ref a1), .val (.int (Int32.ofNat q)), .val (.int b), .val (.int b), .val (.int (b / (16 : Int32))), .val (.int (b % (16 : Int32))), .val (.int (if (b % (16 : Int32)) < (10 : Int32) then ((48 : Int32) + (b % (16 : Int32))) else (((97 : Int32) + (b % (16 : Int32))) - (10 : Int32))))] [(.int (3 : Int32)), (.int (Int32.ofNat q)), (.ref a1)])) _
                  refine XS.iadd X0.here hx rfl (hb hby d2_213) rfl ?_
                  exact kt)
                have hv32 : ((Int32.ofNat q) + (3 : Int32)) = (Int32.ofNat (q + 3)) := own_add q 3
                rw [hv32] at pre31
                have pre33 : ∀ t, Steps p.tables e below (s₁.setTop (mkF m 224 #[.val (.ref a1), .val (.int (Int32.ofNat q)), .val (.int b), .val (.int b), .val (.int (b / (16 : Int32))), .val (.int (b % (16 : Int32))), .val (.int (if (b % (16 : Int32)) < (10 : Int32) then ((48 : Int32) + (b % (16 : Int32))) else (((97 : Int32) + (b % (16 : Int32))) - (10 : Int32))))] [(.int ((Int32.ofNat q) + (4 : Int32))), (.ref a1)])) t → Steps p.tables e below _ t := fun t kt => pre31 t (by
                  show Steps p.tables e below (s₁.setTop (mkF m 214 #[.val (.ref a1), .val (.int (Int32.ofNat q)), .val (.int b), .val (.int b), .val (.int (b / (16 : Int32))), .val (.int (b % (16 : Int32))), .val (.int (if (b % (16 : Int32)) < (10 : Int32) then ((48 : Int32) + (b % (16 : Int32))) else (((97 : Int32) + (b % (16 : Int32))) - (10 : Int32))))] [(.int (Int32.ofNat (q + 3))), (.ref a1)])) _
                  refine X0.baloadBytes hx (j := (Int32.ofNat (q + 3))) (v := (.int (f (q + 3)))) (by rw [e0]; exact Ar.1) (State.isArrayOf_alike hZ.alike Ar.2.1) Ar.2.2 (within (c := (q + 3)) rfl (by omega) (by omega)) (by rw [clamp_of (c := (q + 3)) rfl (by omega)]; exact Hf _ (by omega)) (g := (mkF m 214 #[.val (.ref a1), .val (.int (Int32.ofNat q)), .val (.int b), .val (.int b), .val (.int (b / (16 : Int32))), .val (.int (b % (16 : Int32))), .val (.int (if (b % (16 : Int32)) < (10 : Int32) then ((48 : Int32) + (b % (16 : Int32))) else (((97 : Int32) + (b % (16 : Int32))) - (10 : Int32))))] [(.int (Int32.ofNat (q + 3))), (.ref a1)])) rfl rfl (hb hby d2_214) _ ?_
                  show Steps p.tables e below (s₁.setTop (mkF m 215 #[.val (.ref a1), .val (.int (Int32.ofNat q)), .val (.int b), .val (.int b), .val (.int (b / (16 : Int32))), .val (.int (b % (16 : Int32))), .val (.int (if (b % (16 : Int32)) < (10 : Int32) then ((48 : Int32) + (b % (16 : Int32))) else (((97 : Int32) + (b % (16 : Int32))) - (10 : Int32))))] [(.int (f (q + 3)))])) _
                  refine XS.bipush X0.here hx rfl (hb hby d2_215) ?_
                  have hc217 : (f (q + 3)) = (48 : Int32) := m3
                  show Steps p.tables e below (s₁.setTop (mkF m 217 #[.val (.ref a1), .val (.int (Int32.ofNat q)), .val (.int b), .val (.int b), .val (.int (b / (16 : Int32))), .val (.int (b % (16 : Int32))), .val (.int (if (b % (16 : Int32)) < (10 : Int32) then ((48 : Int32) + (b % (16 : Int32))) else (((97 : Int32) + (b % (16 : Int32))) - (10 : Int32))))] [(.int (48 : Int32)), (.int (f (q + 3)))])) _
                  refine XS.icmpNo X0.here hx rfl (hb hby d2_217) rfl (teq hc217).2 ?_
                  show Steps p.tables e below (s₁.setTop (mkF m 220 #[.val (.ref a1), .val (.int (Int32.ofNat q)), .val (.int b), .val (.int b), .val (.int (b / (16 : Int32))), .val (.int (b % (16 : Int32))), .val (.int (if (b % (16 : Int32)) < (10 : Int32) then ((48 : Int32) + (b % (16 : Int32))) else (((97 : Int32) + (b % (16 : Int32))) - (10 : Int32))))] [])) _
                  refine XS.aloadN X0.here hx rfl (hb hby d2_220) rfl rfl ?_
                  show Steps p.tables e below (s₁.setTop (mkF m 221 #[.val (.ref a1), .val (.int (Int32.ofNat q)), .val (.int b), .val (.int b), .val (.int (b / (16 : Int32))), .val (.int (b % (16 : Int32))), .val (.int (if (b % (16 : Int32)) < (10 : Int32) then ((48 : Int32) + (b % (16 : Int32))) else (((97 : Int32) + (b % (16 : Int32))) - (10 : Int32))))] [(.ref a1)])) _
                  refine XS.iloadN X0.here hx rfl (hb hby d2_221) rfl ?_
                  show Steps p.tables e below (s₁.setTop (mkF m 222 #[.val (.ref a1), .val (.int (Int32.ofNat q)), .val (.int b), .val (.int b), .val (.int (b / (16 : Int32))), .val (.int (b % (16 : Int32))), .val (.int (if (b % (16 : Int32)) < (10 : Int32) then ((48 : Int32) + (b % (16 : Int32))) else (((97 : Int32) + (b % (16 : Int32))) - (10 : Int32))))] [(.int (Int32.ofNat q)), (.ref a1)])) _
                  refine XS.iconst X0.here hx rfl (hb hby d2_222) ?_
                  show Steps p.tables e below (s₁.setTop (mkF m 223 #[.val (.ref a1), .val (.int (Int32.ofNat q)), .val (.int b), .val (.int b), .val (.int (b / (16 : Int32))), .val (.int (b % (16 : Int32))), .val (.int (if (b % (16 : Int32)) < (10 : Int32) then ((48 : Int32) + (b % (16 : Int32))) else (((97 : Int32) + (b % (16 : Int32))) - (10 : Int32))))] [(.int (4 : Int32)), (.int (Int32.ofNat q)), (.ref a1)])) _
                  refine XS.iadd X0.here hx rfl (hb hby d2_223) rfl ?_
                  exact kt)
                have hv34 : ((Int32.ofNat q) + (4 : Int32)) = (Int32.ofNat (q + 4)) := own_add q 4
                rw [hv34] at pre33
                have pre35 : ∀ t, Steps p.tables e below (s₁.setTop (mkF m 237 #[.val (.ref a1), .val (.int (Int32.ofNat q)), .val (.int b), .val (.int b), .val (.int (b / (16 : Int32))), .val (.int (b % (16 : Int32))), .val (.int (if (b % (16 : Int32)) < (10 : Int32) then ((48 : Int32) + (b % (16 : Int32))) else (((97 : Int32) + (b % (16 : Int32))) - (10 : Int32))))] [(.int ((Int32.ofNat q) + (5 : Int32))), (.ref a1)])) t → Steps p.tables e below _ t := fun t kt => pre33 t (by
                  show Steps p.tables e below (s₁.setTop (mkF m 224 #[.val (.ref a1), .val (.int (Int32.ofNat q)), .val (.int b), .val (.int b), .val (.int (b / (16 : Int32))), .val (.int (b % (16 : Int32))), .val (.int (if (b % (16 : Int32)) < (10 : Int32) then ((48 : Int32) + (b % (16 : Int32))) else (((97 : Int32) + (b % (16 : Int32))) - (10 : Int32))))] [(.int (Int32.ofNat (q + 4))), (.ref a1)])) _
                  refine X0.baloadBytes hx (j := (Int32.ofNat (q + 4))) (v := (.int (f (q + 4)))) (by rw [e0]; exact Ar.1) (State.isArrayOf_alike hZ.alike Ar.2.1) Ar.2.2 (within (c := (q + 4)) rfl (by omega) (by omega)) (by rw [clamp_of (c := (q + 4)) rfl (by omega)]; exact Hf _ (by omega)) (g := (mkF m 224 #[.val (.ref a1), .val (.int (Int32.ofNat q)), .val (.int b), .val (.int b), .val (.int (b / (16 : Int32))), .val (.int (b % (16 : Int32))), .val (.int (if (b % (16 : Int32)) < (10 : Int32) then ((48 : Int32) + (b % (16 : Int32))) else (((97 : Int32) + (b % (16 : Int32))) - (10 : Int32))))] [(.int (Int32.ofNat (q + 4))), (.ref a1)])) rfl rfl (hb hby d2_224) _ ?_
                  show Steps p.tables e below (s₁.setTop (mkF m 225 #[.val (.ref a1), .val (.int (Int32.ofNat q)), .val (.int b), .val (.int b), .val (.int (b / (16 : Int32))), .val (.int (b % (16 : Int32))), .val (.int (if (b % (16 : Int32)) < (10 : Int32) then ((48 : Int32) + (b % (16 : Int32))) else (((97 : Int32) + (b % (16 : Int32))) - (10 : Int32))))] [(.int (f (q + 4)))])) _
                  refine XS.bipush X0.here hx rfl (hb hby d2_225) ?_
                  show Steps p.tables e below (s₁.setTop (mkF m 227 #[.val (.ref a1), .val (.int (Int32.ofNat q)), .val (.int b), .val (.int b), .val (.int (b / (16 : Int32))), .val (.int (b % (16 : Int32))), .val (.int (if (b % (16 : Int32)) < (10 : Int32) then ((48 : Int32) + (b % (16 : Int32))) else (((97 : Int32) + (b % (16 : Int32))) - (10 : Int32))))] [(.int (48 : Int32)), (.int (f (q + 4)))])) _
                  refine XS.iload X0.here hx rfl (hb hby d2_227) rfl ?_
                  show Steps p.tables e below (s₁.setTop (mkF m 229 #[.val (.ref a1), .val (.int (Int32.ofNat q)), .val (.int b), .val (.int b), .val (.int (b / (16 : Int32))), .val (.int (b % (16 : Int32))), .val (.int (if (b % (16 : Int32)) < (10 : Int32) then ((48 : Int32) + (b % (16 : Int32))) else (((97 : Int32) + (b % (16 : Int32))) - (10 : Int32))))] [(.int (b / (16 : Int32))), (.int (48 : Int32)), (.int (f (q + 4)))])) _
                  refine XS.iadd X0.here hx rfl (hb hby d2_229) rfl ?_
                  have hc230 : (f (q + 4)) = ((48 : Int32) + (b / (16 : Int32))) := m4
                  show Steps p.tables e below (s₁.setTop (mkF m 230 #[.val (.ref a1), .val (.int (Int32.ofNat q)), .val (.int b), .val (.int b), .val (.int (b / (16 : Int32))), .val (.int (b % (16 : Int32))), .val (.int (if (b % (16 : Int32)) < (10 : Int32) then ((48 : Int32) + (b % (16 : Int32))) else (((97 : Int32) + (b % (16 : Int32))) - (10 : Int32))))] [(.int ((48 : Int32) + (b / (16 : Int32)))), (.int (f (q + 4)))])) _
                  refine XS.icmpNo X0.here hx rfl (hb hby d2_230) rfl (teq hc230).2 ?_
                  show Steps p.tables e below (s₁.setTop (mkF m 233 #[.val (.ref a1), .val (.int (Int32.ofNat q)), .val (.int b), .val (.int b), .val (.int (b / (16 : Int32))), .val (.int (b % (16 : Int32))), .val (.int (if (b % (16 : Int32)) < (10 : Int32) then ((48 : Int32) + (b % (16 : Int32))) else (((97 : Int32) + (b % (16 : Int32))) - (10 : Int32))))] [])) _
                  refine XS.aloadN X0.here hx rfl (hb hby d2_233) rfl rfl ?_
                  show Steps p.tables e below (s₁.setTop (mkF m 234 #[.val (.ref a1), .val (.int (Int32.ofNat q)), .val (.int b), .val (.int b), .val (.int (b / (16 : Int32))), .val (.int (b % (16 : Int32))), .val (.int (if (b % (16 : Int32)) < (10 : Int32) then ((48 : Int32) + (b % (16 : Int32))) else (((97 : Int32) + (b % (16 : Int32))) - (10 : Int32))))] [(.ref a1)])) _
                  refine XS.iloadN X0.here hx rfl (hb hby d2_234) rfl ?_
                  show Steps p.tables e below (s₁.setTop (mkF m 235 #[.val (.ref a1), .val (.int (Int32.ofNat q)), .val (.int b), .val (.int b), .val (.int (b / (16 : Int32))), .val (.int (b % (16 : Int32))), .val (.int (if (b % (16 : Int32)) < (10 : Int32) then ((48 : Int32) + (b % (16 : Int32))) else (((97 : Int32) + (b % (16 : Int32))) - (10 : Int32))))] [(.int (Int32.ofNat q)), (.ref a1)])) _
                  refine XS.iconst X0.here hx rfl (hb hby d2_235) ?_
                  show Steps p.tables e below (s₁.setTop (mkF m 236 #[.val (.ref a1), .val (.int (Int32.ofNat q)), .val (.int b), .val (.int b), .val (.int (b / (16 : Int32))), .val (.int (b % (16 : Int32))), .val (.int (if (b % (16 : Int32)) < (10 : Int32) then ((48 : Int32) + (b % (16 : Int32))) else (((97 : Int32) + (b % (16 : Int32))) - (10 : Int32))))] [(.int (5 : Int32)), (.int (Int32.ofNat q)), (.ref a1)])) _
                  refine XS.iadd X0.here hx rfl (hb hby d2_236) rfl ?_
                  exact kt)
                have hv36 : ((Int32.ofNat q) + (5 : Int32)) = (Int32.ofNat (q + 5)) := own_add q 5
                rw [hv36] at pre35
                obtain ⟨fs, hr, hrun, hended, hW, hsame⟩ := X0.leave (v := some (.int ((Int32.ofNat q) + (6 : Int32)))) (fun h => by rw [Bd.returns] at h; cases h)
                refine ⟨_, _, pre35 _ ?_, hrun, hended, _, _, rfl, ?_, ⟨_, rfl⟩, hW, hsame.mono (by decide) (by decide)⟩
                · show Steps p.tables e below (s₁.setTop (mkF m 237 #[.val (.ref a1), .val (.int (Int32.ofNat q)), .val (.int b), .val (.int b), .val (.int (b / (16 : Int32))), .val (.int (b % (16 : Int32))), .val (.int (if (b % (16 : Int32)) < (10 : Int32) then ((48 : Int32) + (b % (16 : Int32))) else (((97 : Int32) + (b % (16 : Int32))) - (10 : Int32))))] [(.int (Int32.ofNat (q + 5))), (.ref a1)])) _
                  refine X0.baloadBytes hx (j := (Int32.ofNat (q + 5))) (v := (.int (f (q + 5)))) (by rw [e0]; exact Ar.1) (State.isArrayOf_alike hZ.alike Ar.2.1) Ar.2.2 (within (c := (q + 5)) rfl (by omega) (by omega)) (by rw [clamp_of (c := (q + 5)) rfl (by omega)]; exact Hf _ (by omega)) (g := (mkF m 237 #[.val (.ref a1), .val (.int (Int32.ofNat q)), .val (.int b), .val (.int b), .val (.int (b / (16 : Int32))), .val (.int (b % (16 : Int32))), .val (.int (if (b % (16 : Int32)) < (10 : Int32) then ((48 : Int32) + (b % (16 : Int32))) else (((97 : Int32) + (b % (16 : Int32))) - (10 : Int32))))] [(.int (Int32.ofNat (q + 5))), (.ref a1)])) rfl rfl (hb hby d2_237) _ ?_
                  show Steps p.tables e below (s₁.setTop (mkF m 238 #[.val (.ref a1), .val (.int (Int32.ofNat q)), .val (.int b), .val (.int b), .val (.int (b / (16 : Int32))), .val (.int (b % (16 : Int32))), .val (.int (if (b % (16 : Int32)) < (10 : Int32) then ((48 : Int32) + (b % (16 : Int32))) else (((97 : Int32) + (b % (16 : Int32))) - (10 : Int32))))] [(.int (f (q + 5)))])) _
                  refine XS.iload X0.here hx rfl (hb hby d2_238) rfl ?_
                  have hc240 : (f (q + 5)) = (if (b % (16 : Int32)) < (10 : Int32) then ((48 : Int32) + (b % (16 : Int32))) else (((97 : Int32) + (b % (16 : Int32))) - (10 : Int32))) := m5
                  show Steps p.tables e below (s₁.setTop (mkF m 240 #[.val (.ref a1), .val (.int (Int32.ofNat q)), .val (.int b), .val (.int b), .val (.int (b / (16 : Int32))), .val (.int (b % (16 : Int32))), .val (.int (if (b % (16 : Int32)) < (10 : Int32) then ((48 : Int32) + (b % (16 : Int32))) else (((97 : Int32) + (b % (16 : Int32))) - (10 : Int32))))] [(.int (if (b % (16 : Int32)) < (10 : Int32) then ((48 : Int32) + (b % (16 : Int32))) else (((97 : Int32) + (b % (16 : Int32))) - (10 : Int32)))), (.int (f (q + 5)))])) _
                  refine XS.icmpNo X0.here hx rfl (hb hby d2_240) rfl (teq hc240).2 ?_
                  show Steps p.tables e below (s₁.setTop (mkF m 243 #[.val (.ref a1), .val (.int (Int32.ofNat q)), .val (.int b), .val (.int b), .val (.int (b / (16 : Int32))), .val (.int (b % (16 : Int32))), .val (.int (if (b % (16 : Int32)) < (10 : Int32) then ((48 : Int32) + (b % (16 : Int32))) else (((97 : Int32) + (b % (16 : Int32))) - (10 : Int32))))] [])) _
                  refine XS.iloadN X0.here hx rfl (hb hby d2_243) rfl ?_
                  show Steps p.tables e below (s₁.setTop (mkF m 244 #[.val (.ref a1), .val (.int (Int32.ofNat q)), .val (.int b), .val (.int b), .val (.int (b / (16 : Int32))), .val (.int (b % (16 : Int32))), .val (.int (if (b % (16 : Int32)) < (10 : Int32) then ((48 : Int32) + (b % (16 : Int32))) else (((97 : Int32) + (b % (16 : Int32))) - (10 : Int32))))] [(.int (Int32.ofNat q))])) _
                  refine XS.bipush X0.here hx rfl (hb hby d2_244) ?_
                  show Steps p.tables e below (s₁.setTop (mkF m 246 #[.val (.ref a1), .val (.int (Int32.ofNat q)), .val (.int b), .val (.int b), .val (.int (b / (16 : Int32))), .val (.int (b % (16 : Int32))), .val (.int (if (b % (16 : Int32)) < (10 : Int32) then ((48 : Int32) + (b % (16 : Int32))) else (((97 : Int32) + (b % (16 : Int32))) - (10 : Int32))))] [(.int (6 : Int32)), (.int (Int32.ofNat q))])) _
                  refine XS.iadd X0.here hx rfl (hb hby d2_246) rfl ?_
                  show Steps p.tables e below (s₁.setTop (mkF m 247 #[.val (.ref a1), .val (.int (Int32.ofNat q)), .val (.int b), .val (.int b), .val (.int (b / (16 : Int32))), .val (.int (b % (16 : Int32))), .val (.int (if (b % (16 : Int32)) < (10 : Int32) then ((48 : Int32) + (b % (16 : Int32))) else (((97 : Int32) + (b % (16 : Int32))) - (10 : Int32))))] [(.int ((Int32.ofNat q) + (6 : Int32)))])) _
                  refine XS.goto X0.here hx rfl (pc0 := 247) (pc' := 251) rfl (hb hby d2_247) (by decide) (by decide) ?_
                  show Steps p.tables e below (s₁.setTop (mkF m 251 #[.val (.ref a1), .val (.int (Int32.ofNat q)), .val (.int b), .val (.int b), .val (.int (b / (16 : Int32))), .val (.int (b % (16 : Int32))), .val (.int (if (b % (16 : Int32)) < (10 : Int32) then ((48 : Int32) + (b % (16 : Int32))) else (((97 : Int32) + (b % (16 : Int32))) - (10 : Int32))))] [(.int ((Int32.ofNat q) + (6 : Int32)))])) _
                  exact retI X0 hx Bd.returns (hb hby d2_251) hr
                · show Q2 Z q b h0 n0 _ s₁.heap _
                  rw [e0]
                  exact ⟨by rw [hl]; exact congrArg (fun z => some (Value.int z)) (own_add q _), N0, rfl⟩
              · have pre37 : ∀ t, Steps p.tables e below (s₁.setTop (mkF m 254 #[.val (.ref a1), .val (.int (Int32.ofNat q)), .val (.int b), .val (.int b), .unset, .unset, .unset] [(.int (Int32.ofNat q)), (.ref a1)])) t → Steps p.tables e below _ t := fun t kt => pre23 t (by
                  show Steps p.tables e below (s₁.setTop (mkF m 142 #[.val (.ref a1), .val (.int (Int32.ofNat q)), .val (.int b), .val (.int b), .unset, .unset, .unset] [(.int (32 : Int32)), (.int b)])) _
                  refine XS.icmpYes X0.here hx rfl (pc0 := 142) (pc' := 252) rfl (hb hby d2_142) rfl (flt hc142).2.1 (by decide) (by decide) ?_
                  show Steps p.tables e below (s₁.setTop (mkF m 252 #[.val (.ref a1), .val (.int (Int32.ofNat q)), .val (.int b), .val (.int b), .unset, .unset, .unset] [])) _
                  refine XS.aloadN X0.here hx rfl (hb hby d2_252) rfl rfl ?_
                  show Steps p.tables e below (s₁.setTop (mkF m 253 #[.val (.ref a1), .val (.int (Int32.ofNat q)), .val (.int b), .val (.int b), .unset, .unset, .unset] [(.ref a1)])) _
                  refine XS.iloadN X0.here hx rfl (hb hby d2_253) rfl ?_
                  exact kt)
                have he : own_enc b = [b] := by
                  simp only [own_enc, if_neg hc5, if_neg hc11, if_neg hc42, if_neg hc74, if_neg hc106, if_neg hc136, if_neg hc142]
                have hm' := hm
                rw [he] at hm'
                have hl : (own_enc b).length = 1 := by rw [he]; rfl
                have m0 : f q = b := hm' 0 (show 0 < 1 by decide)
                obtain ⟨fs, hr, hrun, hended, hW, hsame⟩ := X0.leave (v := some (.int ((Int32.ofNat q) + (1 : Int32)))) (fun h => by rw [Bd.returns] at h; cases h)
                refine ⟨_, _, pre37 _ ?_, hrun, hended, _, _, rfl, ?_, ⟨_, rfl⟩, hW, hsame.mono (by decide) (by decide)⟩
                · show Steps p.tables e below (s₁.setTop (mkF m 254 #[.val (.ref a1), .val (.int (Int32.ofNat q)), .val (.int b), .val (.int b), .unset, .unset, .unset] [(.int (Int32.ofNat q)), (.ref a1)])) _
                  refine X0.baloadBytes hx (j := (Int32.ofNat q)) (v := (.int (f q))) (by rw [e0]; exact Ar.1) (State.isArrayOf_alike hZ.alike Ar.2.1) Ar.2.2 (within (c := q) rfl (by omega) (by omega)) (by rw [clamp_of (c := q) rfl (by omega)]; exact Hf _ (by omega)) (g := (mkF m 254 #[.val (.ref a1), .val (.int (Int32.ofNat q)), .val (.int b), .val (.int b), .unset, .unset, .unset] [(.int (Int32.ofNat q)), (.ref a1)])) rfl rfl (hb hby d2_254) _ ?_
                  show Steps p.tables e below (s₁.setTop (mkF m 255 #[.val (.ref a1), .val (.int (Int32.ofNat q)), .val (.int b), .val (.int b), .unset, .unset, .unset] [(.int (f q))])) _
                  refine XS.iloadN X0.here hx rfl (hb hby d2_255) rfl ?_
                  have hc256 : (f q) = b := m0
                  show Steps p.tables e below (s₁.setTop (mkF m 256 #[.val (.ref a1), .val (.int (Int32.ofNat q)), .val (.int b), .val (.int b), .unset, .unset, .unset] [(.int b), (.int (f q))])) _
                  refine XS.icmpNo X0.here hx rfl (hb hby d2_256) rfl (teq hc256).2 ?_
                  show Steps p.tables e below (s₁.setTop (mkF m 259 #[.val (.ref a1), .val (.int (Int32.ofNat q)), .val (.int b), .val (.int b), .unset, .unset, .unset] [])) _
                  refine XS.iloadN X0.here hx rfl (hb hby d2_259) rfl ?_
                  show Steps p.tables e below (s₁.setTop (mkF m 260 #[.val (.ref a1), .val (.int (Int32.ofNat q)), .val (.int b), .val (.int b), .unset, .unset, .unset] [(.int (Int32.ofNat q))])) _
                  refine XS.iconst X0.here hx rfl (hb hby d2_260) ?_
                  show Steps p.tables e below (s₁.setTop (mkF m 261 #[.val (.ref a1), .val (.int (Int32.ofNat q)), .val (.int b), .val (.int b), .unset, .unset, .unset] [(.int (1 : Int32)), (.int (Int32.ofNat q))])) _
                  refine XS.iadd X0.here hx rfl (hb hby d2_261) rfl ?_
                  show Steps p.tables e below (s₁.setTop (mkF m 262 #[.val (.ref a1), .val (.int (Int32.ofNat q)), .val (.int b), .val (.int b), .unset, .unset, .unset] [(.int ((Int32.ofNat q) + (1 : Int32)))])) _
                  refine XS.goto X0.here hx rfl (pc0 := 262) (pc' := 266) rfl (hb hby d2_262) (by decide) (by decide) ?_
                  show Steps p.tables e below (s₁.setTop (mkF m 266 #[.val (.ref a1), .val (.int (Int32.ofNat q)), .val (.int b), .val (.int b), .unset, .unset, .unset] [(.int ((Int32.ofNat q) + (1 : Int32)))])) _
                  exact retI X0 hx Bd.returns (hb hby d2_266) hr
                · show Q2 Z q b h0 n0 _ s₁.heap _
                  rw [e0]
                  exact ⟨by rw [hl]; exact congrArg (fun z => some (Value.int z)) (own_add q _), N0, rfl⟩

theorem own_four (x : Int32) : ∃ k : Nat, (x &&& (2147483647 : Int32)) % (4 : Int32) = Int32.ofNat k ∧ k < 4 := by
  obtain ⟨n, h, hb⟩ := own_mask x 2147483647 (k := 31) (by decide) (by decide)
  refine ⟨n % 4, ?_, Nat.mod_lt _ (by decide)⟩
  rw [h]
  exact own_rem (b := 4) hb (by decide)
theorem own_byte2 (x : Int32) : nar .byte (x.toInt8.toInt32) = x.toInt8.toInt32 := by
  show x.toInt8.toInt32.toInt8.toInt32 = x.toInt8.toInt32
  rw [Int8.toInt8_toInt32]

theorem own_Sta_keep {Z : State} {h h' : Heap} {C n d : String} {v : Value} (F : Sta Z h C n d v) (K : Keep h h' []) : Sta Z h' C n d v := by
  obtain ⟨cf, i, k, f, st, cell, h1, h2, h3, h4, h5, r⟩ := F; exact ⟨cf, i, k, f, st, cell, h1, h2, h3, h4, K.2.1 st cell h5 nin0, r⟩
theorem pn_0 : plainName "com/example/windrow/windrow/cli/JsonWritePinLaw" = true := by first | (simp [plainName, overriddenIn]; done) | decide +kernel
theorem ef_0 (m : MethodId) (x0 : Int32) (x1 : Int32) (x2 : Int32) (x3 : Int32) (x4 : Int32) : entryFrame m #[(.int x0), (.int x1), (.int x2), (.int x3), (.int x4)] maxLocals = mkF m 0 #[.val (.int x0), .val (.int x1), .val (.int x2), .val (.int x3), .val (.int x4), .unset, .unset, .unset, .unset, .unset, .unset, .unset, .unset, .unset] [] := by first | (simp [entryFrame, mkF, argsToLocals, Value.category, maxLocals]; done) | rfl
theorem pd_0 : parseMethodDescriptor "([B[BI)I" = some ⟨[(.array .byte), (.array .byte), .int], some .int⟩ := by decide +kernel
theorem pd_1 : parseMethodDescriptor "([BIB)I" = some ⟨[(.array .byte), .int, .byte], some .int⟩ := by decide +kernel
def Q0 (Z : State) (h0 : Heap) (n0 : Nat) (v : Option Value) (h : Heap) (L : List Loc) : Prop := v = some (.int (1 : Int32)) ∧ Fr n0 L
set_option maxRecDepth 65536 in
set_option maxHeartbeats 40000000 in
theorem rm0 (l : Launch) (Z : State) (a0 : Array Value) (hw : ∀ d ∈ tables_1, d.before a0 Z = true) (ws : List Jvm.Cond) (p1 : Int32) (p2 : Int32) (p3 : Int32) (p4 : Int32) (p5 : Int32) (hxa : Addr) (h0 : Heap) (n0 : Nat) (Z0 : n0 ≤ h0.size) (SH : Sta Z h0 "com/example/windrow/windrow/cli/Json" "HEX_DIGITS" "[B" (.ref hxa)) (AH : own_A Z h0 hxa .byte 16 own_hex) :
    MetFree l x (head1 (Jvm.Cond.code x code maxLocals ret :: ws) room_1) (fun aa_ U => aa_ = #[(.int p1), (.int p2), (.int p3), (.int p4), (.int p5)] ∧ Z.Warmed39 U.vm ∧ U.heap = h0) (fun _ _ _ _ _ => True) (fun _ U o U' => ∃ v_ L_, o = .returned v_ ∧ Q0 Z  h0 n0 v_ U'.heap L_ ∧ FrameEnd U o U' L_ room_1.cells room_1.slots) := by
  refine MetFree.of_bodySF (plainFor_of_name pn_0) hisR ?_
  intro p e s m args below meth c s₁ Bd hml0 hP hK
  obtain ⟨rfl, hZ, hh⟩ := hP
  have hx := Bd.exec
  have hby := Bd.bytes
  have hml : c.maxLocals = 14 := hml0
  have hown : s.vm.findClass "com/example/windrow/windrow/cli/JsonWritePinLaw" = some m.cls := findClass_of_methodNamed Bd.named
  have hnm := (name_of_methodNamed Bd.named Bd.method).1
  have X0 : Stand p l e room_1 s m #[(.int p1), (.int p2), (.int p3), (.int p4), (.int p5)] below meth c s₁ [] 0 0 := Stand.of_body Bd
  have e0 : s₁.heap = h0 := by rw [← hh, Bd.state]; rfl
  have N0 := Fr.nil n0
  have pre0 : ∀ t, Steps p.tables e below (s₁.setTop (mkF m 0 #[.val (.int p1), .val (.int p2), .val (.int p3), .val (.int p4), .val (.int p5), .unset, .unset, .unset, .unset, .unset, .unset, .unset, .unset, .unset] [])) t → Steps p.tables e below (s₁.setTop (entryFrame m #[(.int p1), (.int p2), (.int p3), (.int p4), (.int p5)] maxLocals)) t := fun t k_ => castTop (ef_0 m p1 p2 p3 p4 p5) k_
  have pre1 : ∀ t, Steps p.tables e below (s₁.setTop (mkF m 5 #[.val (.int p1), .val (.int p2), .val (.int p3), .val (.int p4), .val (.int p5), .val (.int (p1 &&& (3 : Int32))), .unset, .unset, .unset, .unset, .unset, .unset, .unset, .unset] [])) t → Steps p.tables e below _ t := fun t kt => pre0 t (by
    show Steps p.tables e below (s₁.setTop (mkF m 0 #[.val (.int p1), .val (.int p2), .val (.int p3), .val (.int p4), .val (.int p5), .unset, .unset, .unset, .unset, .unset, .unset, .unset, .unset, .unset] [])) _
    refine XS.iloadN X0.here hx rfl (hb hby at_0) rfl ?_
    show Steps p.tables e below (s₁.setTop (mkF m 1 #[.val (.int p1), .val (.int p2), .val (.int p3), .val (.int p4), .val (.int p5), .unset, .unset, .unset, .unset, .unset, .unset, .unset, .unset, .unset] [(.int p1)])) _
    refine XS.iconst X0.here hx rfl (hb hby at_1) ?_
    show Steps p.tables e below (s₁.setTop (mkF m 2 #[.val (.int p1), .val (.int p2), .val (.int p3), .val (.int p4), .val (.int p5), .unset, .unset, .unset, .unset, .unset, .unset, .unset, .unset, .unset] [(.int (3 : Int32)), (.int p1)])) _
    refine XS.iand X0.here hx rfl (hb hby at_2) rfl ?_
    show Steps p.tables e below (s₁.setTop (mkF m 3 #[.val (.int p1), .val (.int p2), .val (.int p3), .val (.int p4), .val (.int p5), .unset, .unset, .unset, .unset, .unset, .unset, .unset, .unset, .unset] [(.int (p1 &&& (3 : Int32)))])) _
    refine XS.istore X0.here hx rfl (hb hby at_3) rfl (l' := #[.val (.int p1), .val (.int p2), .val (.int p3), .val (.int p4), .val (.int p5), .val (.int (p1 &&& (3 : Int32))), .unset, .unset, .unset, .unset, .unset, .unset, .unset, .unset]) rfl ?_
    exact kt)
  obtain ⟨pA, hpA, bpA⟩ := own_mask (k := 2) p1 (3 : Int32) (by decide) (by decide)
  have hv2 : (p1 &&& (3 : Int32)) = (Int32.ofNat pA) := hpA
  rw [hv2] at pre1
  have bpA4 : pA < 4 := bpA
  have pre3 : ∀ t, Steps p.tables e below (s₁.setTop (mkF m 26 #[.val (.int p1), .val (.int p2), .val (.int p3), .val (.int p4), .val (.int p5), .val (.int (Int32.ofNat pA)), .val (.int ((p2 &&& (2147483647 : Int32)) % (4 : Int32))), .val (.int (p3.toInt8.toInt32)), .val (.int (p4.toInt8.toInt32)), .val (.int (p5.toInt8.toInt32)), .unset, .unset, .unset, .unset] [])) t → Steps p.tables e below _ t := fun t kt => pre1 t (by
    show Steps p.tables e below (s₁.setTop (mkF m 5 #[.val (.int p1), .val (.int p2), .val (.int p3), .val (.int p4), .val (.int p5), .val (.int (Int32.ofNat pA)), .unset, .unset, .unset, .unset, .unset, .unset, .unset, .unset] [])) _
    refine XS.iloadN X0.here hx rfl (hb hby at_5) rfl ?_
    show Steps p.tables e below (s₁.setTop (mkF m 6 #[.val (.int p1), .val (.int p2), .val (.int p3), .val (.int p4), .val (.int p5), .val (.int (Int32.ofNat pA)), .unset, .unset, .unset, .unset, .unset, .unset, .unset, .unset] [(.int p2)])) _
    refine X0.ldcInt hx hown (mvT hZ (hw _ (List.mem_of_getElem? (i := 0) rfl))) (g := (mkF m 6 #[.val (.int p1), .val (.int p2), .val (.int p3), .val (.int p4), .val (.int p5), .val (.int (Int32.ofNat pA)), .unset, .unset, .unset, .unset, .unset, .unset, .unset, .unset] [(.int p2)])) rfl (hb hby at_6) _ ?_
    show Steps p.tables e below (s₁.setTop (mkF m 8 #[.val (.int p1), .val (.int p2), .val (.int p3), .val (.int p4), .val (.int p5), .val (.int (Int32.ofNat pA)), .unset, .unset, .unset, .unset, .unset, .unset, .unset, .unset] [(.int (2147483647 : Int32)), (.int p2)])) _
    refine XS.iand X0.here hx rfl (hb hby at_8) rfl ?_
    show Steps p.tables e below (s₁.setTop (mkF m 9 #[.val (.int p1), .val (.int p2), .val (.int p3), .val (.int p4), .val (.int p5), .val (.int (Int32.ofNat pA)), .unset, .unset, .unset, .unset, .unset, .unset, .unset, .unset] [(.int (p2 &&& (2147483647 : Int32)))])) _
    refine XS.iconst X0.here hx rfl (hb hby at_9) ?_
    show Steps p.tables e below (s₁.setTop (mkF m 10 #[.val (.int p1), .val (.int p2), .val (.int p3), .val (.int p4), .val (.int p5), .val (.int (Int32.ofNat pA)), .unset, .unset, .unset, .unset, .unset, .unset, .unset, .unset] [(.int (4 : Int32)), (.int (p2 &&& (2147483647 : Int32)))])) _
    refine iremM X0 hx rfl (hb hby at_10) rfl (by decide) ?_
    show Steps p.tables e below (s₁.setTop (mkF m 11 #[.val (.int p1), .val (.int p2), .val (.int p3), .val (.int p4), .val (.int p5), .val (.int (Int32.ofNat pA)), .unset, .unset, .unset, .unset, .unset, .unset, .unset, .unset] [(.int ((p2 &&& (2147483647 : Int32)) % (4 : Int32)))])) _
    refine XS.istore X0.here hx rfl (hb hby at_11) rfl (l' := #[.val (.int p1), .val (.int p2), .val (.int p3), .val (.int p4), .val (.int p5), .val (.int (Int32.ofNat pA)), .val (.int ((p2 &&& (2147483647 : Int32)) % (4 : Int32))), .unset, .unset, .unset, .unset, .unset, .unset, .unset]) rfl ?_
    show Steps p.tables e below (s₁.setTop (mkF m 13 #[.val (.int p1), .val (.int p2), .val (.int p3), .val (.int p4), .val (.int p5), .val (.int (Int32.ofNat pA)), .val (.int ((p2 &&& (2147483647 : Int32)) % (4 : Int32))), .unset, .unset, .unset, .unset, .unset, .unset, .unset] [])) _
    refine XS.iloadN X0.here hx rfl (hb hby at_13) rfl ?_
    show Steps p.tables e below (s₁.setTop (mkF m 14 #[.val (.int p1), .val (.int p2), .val (.int p3), .val (.int p4), .val (.int p5), .val (.int (Int32.ofNat pA)), .val (.int ((p2 &&& (2147483647 : Int32)) % (4 : Int32))), .unset, .unset, .unset, .unset, .unset, .unset, .unset] [(.int p3)])) _
    refine XS.i2b X0.here hx rfl (hb hby at_14) rfl ?_
    show Steps p.tables e below (s₁.setTop (mkF m 15 #[.val (.int p1), .val (.int p2), .val (.int p3), .val (.int p4), .val (.int p5), .val (.int (Int32.ofNat pA)), .val (.int ((p2 &&& (2147483647 : Int32)) % (4 : Int32))), .unset, .unset, .unset, .unset, .unset, .unset, .unset] [(.int (p3.toInt8.toInt32))])) _
    refine XS.istore X0.here hx rfl (hb hby at_15) rfl (l' := #[.val (.int p1), .val (.int p2), .val (.int p3), .val (.int p4), .val (.int p5), .val (.int (Int32.ofNat pA)), .val (.int ((p2 &&& (2147483647 : Int32)) % (4 : Int32))), .val (.int (p3.toInt8.toInt32)), .unset, .unset, .unset, .unset, .unset, .unset]) rfl ?_
    show Steps p.tables e below (s₁.setTop (mkF m 17 #[.val (.int p1), .val (.int p2), .val (.int p3), .val (.int p4), .val (.int p5), .val (.int (Int32.ofNat pA)), .val (.int ((p2 &&& (2147483647 : Int32)) % (4 : Int32))), .val (.int (p3.toInt8.toInt32)), .unset, .unset, .unset, .unset, .unset, .unset] [])) _
    refine XS.iloadN X0.here hx rfl (hb hby at_17) rfl ?_
    show Steps p.tables e below (s₁.setTop (mkF m 18 #[.val (.int p1), .val (.int p2), .val (.int p3), .val (.int p4), .val (.int p5), .val (.int (Int32.ofNat pA)), .val (.int ((p2 &&& (2147483647 : Int32)) % (4 : Int32))), .val (.int (p3.toInt8.toInt32)), .unset, .unset, .unset, .unset, .unset, .unset] [(.int p4)])) _
    refine XS.i2b X0.here hx rfl (hb hby at_18) rfl ?_
    show Steps p.tables e below (s₁.setTop (mkF m 19 #[.val (.int p1), .val (.int p2), .val (.int p3), .val (.int p4), .val (.int p5), .val (.int (Int32.ofNat pA)), .val (.int ((p2 &&& (2147483647 : Int32)) % (4 : Int32))), .val (.int (p3.toInt8.toInt32)), .unset, .unset, .unset, .unset, .unset, .unset] [(.int (p4.toInt8.toInt32))])) _
    refine XS.istore X0.here hx rfl (hb hby at_19) rfl (l' := #[.val (.int p1), .val (.int p2), .val (.int p3), .val (.int p4), .val (.int p5), .val (.int (Int32.ofNat pA)), .val (.int ((p2 &&& (2147483647 : Int32)) % (4 : Int32))), .val (.int (p3.toInt8.toInt32)), .val (.int (p4.toInt8.toInt32)), .unset, .unset, .unset, .unset, .unset]) rfl ?_
    show Steps p.tables e below (s₁.setTop (mkF m 21 #[.val (.int p1), .val (.int p2), .val (.int p3), .val (.int p4), .val (.int p5), .val (.int (Int32.ofNat pA)), .val (.int ((p2 &&& (2147483647 : Int32)) % (4 : Int32))), .val (.int (p3.toInt8.toInt32)), .val (.int (p4.toInt8.toInt32)), .unset, .unset, .unset, .unset, .unset] [])) _
    refine XS.iload X0.here hx rfl (hb hby at_21) rfl ?_
    show Steps p.tables e below (s₁.setTop (mkF m 23 #[.val (.int p1), .val (.int p2), .val (.int p3), .val (.int p4), .val (.int p5), .val (.int (Int32.ofNat pA)), .val (.int ((p2 &&& (2147483647 : Int32)) % (4 : Int32))), .val (.int (p3.toInt8.toInt32)), .val (.int (p4.toInt8.toInt32)), .unset, .unset, .unset, .unset, .unset] [(.int p5)])) _
    refine XS.i2b X0.here hx rfl (hb hby at_23) rfl ?_
    show Steps p.tables e below (s₁.setTop (mkF m 24 #[.val (.int p1), .val (.int p2), .val (.int p3), .val (.int p4), .val (.int p5), .val (.int (Int32.ofNat pA)), .val (.int ((p2 &&& (2147483647 : Int32)) % (4 : Int32))), .val (.int (p3.toInt8.toInt32)), .val (.int (p4.toInt8.toInt32)), .unset, .unset, .unset, .unset, .unset] [(.int (p5.toInt8.toInt32))])) _
    refine XS.istore X0.here hx rfl (hb hby at_24) rfl (l' := #[.val (.int p1), .val (.int p2), .val (.int p3), .val (.int p4), .val (.int p5), .val (.int (Int32.ofNat pA)), .val (.int ((p2 &&& (2147483647 : Int32)) % (4 : Int32))), .val (.int (p3.toInt8.toInt32)), .val (.int (p4.toInt8.toInt32)), .val (.int (p5.toInt8.toInt32)), .unset, .unset, .unset, .unset]) rfl ?_
    exact kt)
  obtain ⟨ln, hln, bln⟩ := own_four p2
  have hv4 : ((p2 &&& (2147483647 : Int32)) % (4 : Int32)) = (Int32.ofNat ln) := hln
  rw [hv4] at pre3
  obtain ⟨c1, hc1⟩ : ∃ z : Int32, z = (p3.toInt8.toInt32) := ⟨_, rfl⟩
  rw [← hc1] at pre3
  have hbc1 : nar .byte c1 = c1 := by rw [hc1]; exact own_byte2 _
  obtain ⟨c2, hc2⟩ : ∃ z : Int32, z = (p4.toInt8.toInt32) := ⟨_, rfl⟩
  rw [← hc2] at pre3
  have hbc2 : nar .byte c2 = c2 := by rw [hc2]; exact own_byte2 _
  obtain ⟨c3, hc3⟩ : ∃ z : Int32, z = (p5.toInt8.toInt32) := ⟨_, rfl⟩
  rw [← hc3] at pre3
  have hbc3 : nar .byte c3 = c3 := by rw [hc3]; exact own_byte2 _
  have h4 : ln = 0 ∨ ln = 1 ∨ ln = 2 ∨ ln = 3 := by omega
  rcases h4 with rfl | rfl | rfl | rfl
  · have preN : ∀ t, Steps p.tables e below (s₁.setTop (mkF m 26 #[.val (.int p1), .val (.int p2), .val (.int p3), .val (.int p4), .val (.int p5), .val (.int (Int32.ofNat pA)), .val (.int (0 : Int32)), .val (.int c1), .val (.int c2), .val (.int c3), .unset, .unset, .unset, .unset] [])) t → Steps p.tables e below (s₁.setTop (entryFrame m #[(.int p1), (.int p2), (.int p3), (.int p4), (.int p5)] maxLocals)) t := pre3
    have pre5 : ∀ t, Steps p.tables e below (s₁.setTop (mkF m 32 #[.val (.int p1), .val (.int p2), .val (.int p3), .val (.int p4), .val (.int p5), .val (.int (Int32.ofNat pA)), .val (.int (0 : Int32)), .val (.int c1), .val (.int c2), .val (.int c3), .unset, .unset, .unset, .unset] [(.int (0 : Int32))])) t → Steps p.tables e below _ t := fun t kt => preN t (by
      show Steps p.tables e below (s₁.setTop (mkF m 26 #[.val (.int p1), .val (.int p2), .val (.int p3), .val (.int p4), .val (.int p5), .val (.int (Int32.ofNat pA)), .val (.int (0 : Int32)), .val (.int c1), .val (.int c2), .val (.int c3), .unset, .unset, .unset, .unset] [])) _
      refine XS.iload X0.here hx rfl (hb hby at_26) rfl ?_
      have hc28 : (0 : Int32) = (0 : Int32) := rfl
      show Steps p.tables e below (s₁.setTop (mkF m 28 #[.val (.int p1), .val (.int p2), .val (.int p3), .val (.int p4), .val (.int p5), .val (.int (Int32.ofNat pA)), .val (.int (0 : Int32)), .val (.int c1), .val (.int c2), .val (.int c3), .unset, .unset, .unset, .unset] [(.int (0 : Int32))])) _
      refine XS.ifNo X0.here hx rfl (hb hby at_28) rfl ((if0 _ _).trans (teq hc28).2) ?_
      show Steps p.tables e below (s₁.setTop (mkF m 31 #[.val (.int p1), .val (.int p2), .val (.int p3), .val (.int p4), .val (.int p5), .val (.int (Int32.ofNat pA)), .val (.int (0 : Int32)), .val (.int c1), .val (.int c2), .val (.int c3), .unset, .unset, .unset, .unset] [])) _
      refine XS.iconst X0.here hx rfl (hb hby at_31) ?_
      exact kt)
    obtain ⟨T6, h6, k6, X6, e6, E6, A6, st6⟩ := newP X0 hx hZ (hw _ (List.mem_of_getElem? (i := 1) rfl)) e0 (g := (mkF m 32 #[.val (.int p1), .val (.int p2), .val (.int p3), .val (.int p4), .val (.int p5), .val (.int (Int32.ofNat pA)), .val (.int (0 : Int32)), .val (.int c1), .val (.int c2), .val (.int c3), .unset, .unset, .unset, .unset] [(.int (0 : Int32))])) rfl (hb hby at_32) rfl (by decide) (cap := 0) (by decide) (by decide) (by decide) (by decide)
    obtain ⟨b6, gb6⟩ : ∃ z, z = h0.size := ⟨_, rfl⟩
    rw [← gb6] at A6 st6
    have g_b6 : n0 ≤ b6 := Nat.le_trans Z0 (Nat.le_of_eq gb6.symm)
    have Zs6 : n0 ≤ h6.size := Nat.le_trans Z0 E6.1
    have sz_b6 : h0.size ≤ b6 := Nat.le_trans (Keep.refl h0 []).1 (Nat.le_of_eq gb6.symm)
    have Kp6 : Keep h0 h6 [] := (Keep.refl h0 []).ext E6
    have Ft0 : own_A Z h6 b6 .byte 0 (fun _ => 0) := own_A_new A6 rfl rfl
    have pre7 : ∀ t, Steps p.tables e below (T6.setTop (mkF m 98 #[.val (.int p1), .val (.int p2), .val (.int p3), .val (.int p4), .val (.int p5), .val (.int (Int32.ofNat pA)), .val (.int (0 : Int32)), .val (.int c1), .val (.int c2), .val (.int c3), .val (.ref b6), .unset, .unset, .unset] [(.int (24 : Int32))])) t → Steps p.tables e below _ t := fun t kt => pre5 t (by
      show Steps p.tables e below (s₁.setTop (mkF m 32 #[.val (.int p1), .val (.int p2), .val (.int p3), .val (.int p4), .val (.int p5), .val (.int (Int32.ofNat pA)), .val (.int (0 : Int32)), .val (.int c1), .val (.int c2), .val (.int c3), .unset, .unset, .unset, .unset] [(.int (0 : Int32))])) _
      refine st6 _ ?_
      show Steps p.tables e below (T6.setTop (mkF m 34 #[.val (.int p1), .val (.int p2), .val (.int p3), .val (.int p4), .val (.int p5), .val (.int (Int32.ofNat pA)), .val (.int (0 : Int32)), .val (.int c1), .val (.int c2), .val (.int c3), .unset, .unset, .unset, .unset] [(.ref b6)])) _
      refine XS.goto X6.here hx rfl (pc0 := 34) (pc' := 94) rfl (hb hby at_34) (by decide) (by decide) ?_
      show Steps p.tables e below (T6.setTop (mkF m 94 #[.val (.int p1), .val (.int p2), .val (.int p3), .val (.int p4), .val (.int p5), .val (.int (Int32.ofNat pA)), .val (.int (0 : Int32)), .val (.int c1), .val (.int c2), .val (.int c3), .unset, .unset, .unset, .unset] [(.ref b6)])) _
      refine XS.astore X6.here hx rfl (hb hby at_94) rfl rfl (l' := #[.val (.int p1), .val (.int p2), .val (.int p3), .val (.int p4), .val (.int p5), .val (.int (Int32.ofNat pA)), .val (.int (0 : Int32)), .val (.int c1), .val (.int c2), .val (.int c3), .val (.ref b6), .unset, .unset, .unset]) rfl ?_
      show Steps p.tables e below (T6.setTop (mkF m 96 #[.val (.int p1), .val (.int p2), .val (.int p3), .val (.int p4), .val (.int p5), .val (.int (Int32.ofNat pA)), .val (.int (0 : Int32)), .val (.int c1), .val (.int c2), .val (.int c3), .val (.ref b6), .unset, .unset, .unset] [])) _
      refine XS.bipush X6.here hx rfl (hb hby at_96) ?_
      exact kt)
    obtain ⟨g, hg⟩ : ∃ g : Nat → Int32, g = (fun _ => 0) := ⟨_, rfl⟩
    have Ft : own_A Z h6 b6 .byte 0 g := by rw [hg]; exact Ft0
    obtain ⟨T8, h8, k8, X8, e8, E8, A8, st8⟩ := newP X6 hx hZ (hw _ (List.mem_of_getElem? (i := 1) rfl)) e6 (g := (mkF m 98 #[.val (.int p1), .val (.int p2), .val (.int p3), .val (.int p4), .val (.int p5), .val (.int (Int32.ofNat pA)), .val (.int (0 : Int32)), .val (.int c1), .val (.int c2), .val (.int c3), .val (.ref b6), .unset, .unset, .unset] [(.int (24 : Int32))])) rfl (hb hby at_98) rfl (by decide) (cap := 24) (by decide) (by decide) (by decide) (by decide)
    obtain ⟨b8, gb8⟩ : ∃ z, z = h6.size := ⟨_, rfl⟩
    rw [← gb8] at A8 st8
    have g_b8 : n0 ≤ b8 := Nat.le_trans Zs6 (Nat.le_of_eq gb8.symm)
    have Zs8 : n0 ≤ h8.size := Nat.le_trans Zs6 E8.1
    have sz_b8 : h0.size ≤ b8 := Nat.le_trans Kp6.1 (Nat.le_of_eq gb8.symm)
    have Kp8 : Keep h0 h8 [] := Kp6.ext E8
    have Fo : own_A Z h8 b8 .byte 24 (fun _ => 0) := own_A_new A8 rfl rfl
    have neT : b6 ≠ b8 := by have q := own_A_lt Ft; rw [gb8]; exact Nat.ne_of_lt q
    have Ftx := own_A_ext Ft E8
    have neX : hxa ≠ b8 := by have q := own_A_lt AH; exact Nat.ne_of_lt (Nat.lt_of_lt_of_le q sz_b8)
    have AHx := own_A_keep AH Kp8 nin0
    have SHx := own_Sta_keep SH Kp8
    have hby_ : ∀ i, i < 0 → nar .byte (g i) = g i := by
      intro i hi; exact absurd hi (Nat.not_lt_zero _)
    have pre9 : ∀ t, Steps p.tables e below (T8.setTop (mkF m 108 #[.val (.int p1), .val (.int p2), .val (.int p3), .val (.int p4), .val (.int p5), .val (.int (Int32.ofNat pA)), .val (.int (0 : Int32)), .val (.int c1), .val (.int c2), .val (.int c3), .val (.ref b6), .val (.ref b8), .unset, .unset] [(.int (Int32.ofNat pA)), (.ref b8), (.ref b6)])) t → Steps p.tables e below _ t := fun t kt => pre7 t (by
      show Steps p.tables e below (T6.setTop (mkF m 98 #[.val (.int p1), .val (.int p2), .val (.int p3), .val (.int p4), .val (.int p5), .val (.int (Int32.ofNat pA)), .val (.int (0 : Int32)), .val (.int c1), .val (.int c2), .val (.int c3), .val (.ref b6), .unset, .unset, .unset] [(.int (24 : Int32))])) _
      refine st8 _ ?_
      show Steps p.tables e below (T8.setTop (mkF m 100 #[.val (.int p1), .val (.int p2), .val (.int p3), .val (.int p4), .val (.int p5), .val (.int (Int32.ofNat pA)), .val (.int (0 : Int32)), .val (.int c1), .val (.int c2), .val (.int c3), .val (.ref b6), .unset, .unset, .unset] [(.ref b8)])) _
      refine XS.astore X8.here hx rfl (hb hby at_100) rfl rfl (l' := #[.val (.int p1), .val (.int p2), .val (.int p3), .val (.int p4), .val (.int p5), .val (.int (Int32.ofNat pA)), .val (.int (0 : Int32)), .val (.int c1), .val (.int c2), .val (.int c3), .val (.ref b6), .val (.ref b8), .unset, .unset]) rfl ?_
      show Steps p.tables e below (T8.setTop (mkF m 102 #[.val (.int p1), .val (.int p2), .val (.int p3), .val (.int p4), .val (.int p5), .val (.int (Int32.ofNat pA)), .val (.int (0 : Int32)), .val (.int c1), .val (.int c2), .val (.int c3), .val (.ref b6), .val (.ref b8), .unset, .unset] [])) _
      refine XS.aload X8.here hx rfl (hb hby at_102) rfl rfl ?_
      show Steps p.tables e below (T8.setTop (mkF m 104 #[.val (.int p1), .val (.int p2), .val (.int p3), .val (.int p4), .val (.int p5), .val (.int (Int32.ofNat pA)), .val (.int (0 : Int32)), .val (.int c1), .val (.int c2), .val (.int c3), .val (.ref b6), .val (.ref b8), .unset, .unset] [(.ref b6)])) _
      refine XS.aload X8.here hx rfl (hb hby at_104) rfl rfl ?_
      show Steps p.tables e below (T8.setTop (mkF m 106 #[.val (.int p1), .val (.int p2), .val (.int p3), .val (.int p4), .val (.int p5), .val (.int (Int32.ofNat pA)), .val (.int (0 : Int32)), .val (.int c1), .val (.int c2), .val (.int c3), .val (.ref b6), .val (.ref b8), .unset, .unset] [(.ref b8), (.ref b6)])) _
      refine XS.iload X8.here hx rfl (hb hby at_106) rfl ?_
      exact kt)
    obtain ⟨_, _, ⟨T10, L10, k10, n10⟩, -, X10, ⟨Lc10, hQ10, l10, y10, z10⟩, st10⟩ := Jvm.LawKit.callS X8 hx (y := (⟨"com/example/windrow/windrow/cli/Json", "write", "([B[BI)I"⟩ : MethodName)) hown (mvT hZ (hw _ (List.mem_of_getElem? (i := 2) rfl))) (mvT hZ (hw _ (List.mem_of_getElem? (i := 3) rfl))) (mvT hZ (hw _ (List.mem_of_getElem? (i := 4) rfl))) (mvT hZ (hw _ (List.mem_of_getElem? (i := 5) rfl))) (by decide) (backOf (W := 0) (rm1 l Z a0 hw [] b6 b8 hxa pA 0 24 (fun _ => 0) g h8 n0 Zs8 Ftx Fo SHx AHx neT neX g_b8 (by decide) (by decide) (by omega) hby_) hZ (hw _ (List.mem_of_getElem? (i := 5) rfl)) (hw _ (List.mem_of_getElem? (i := 4) rfl)) (by decide) (by decide)) (g := (mkF m 108 #[.val (.int p1), .val (.int p2), .val (.int p3), .val (.int p4), .val (.int p5), .val (.int (Int32.ofNat pA)), .val (.int (0 : Int32)), .val (.int c1), .val (.int c2), .val (.int c3), .val (.ref b6), .val (.ref b8), .unset, .unset] [(.int (Int32.ofNat pA)), (.ref b8), (.ref b6)])) rfl (by rw [hml]; rfl) (argsL := [(.ref b6), (.ref b8), (.int (Int32.ofNat pA))]) (rest := []) (lenOf pd_0 rfl) rfl (by show 2 * 0 + _ ≤ _; exact Nat.le_of_eq rfl) (hb hby at_108) (fun _ _ => ⟨rfl, e8, (by decide : 2 + 0 ≤ _), (by decide : 24 + 0 ≤ _)⟩)
    dsimp only [Pt.U, Pt.locs, Pt.cells, Pt.slots] at X10 l10 y10 z10 st10 hQ10
    subst l10 y10 z10
    obtain ⟨rfl, N10q, Kw, Fw⟩ := hQ10
    have N10 := Fr.app N0 N10q
    have Zw : n0 ≤ T10.heap.size := Nat.le_trans Zs8 Kw.1
    obtain ⟨L0, hL0⟩ : ∃ z, z = (own_encs g 0).length := ⟨_, rfl⟩
    have bL : L0 ≤ 18 := by have := own_encs_len g 0; omega
    obtain ⟨ff, hff⟩ : ∃ z : Nat → Int32, z = upd (own_wr (upd (fun _ => 0) pA 34) (pA + 1) (own_encs g 0)) (pA + 1 + (own_encs g 0).length) 34 := ⟨_, rfl⟩
    rw [← hff] at Fw
    have hLs : L0 = 0 := by
      rw [hL0]; rfl
    have e0_ : ff pA = (34 : Int32) := by rw [hff, own_upd_ne _ _ (by omega), own_wr_lt _ _ _ _ (by omega), own_upd_same]
    have hpe : pA + 1 + L0 = pA + 1 := by omega
    have e1_ : ff (pA + 1) = (34 : Int32) := by rw [← hpe, hff, hL0, own_upd_same]
    have e2_ : ff (pA + 1 + L0 + 1) = (0 : Int32) := by rw [hff, own_upd_ne _ _ (by omega), own_wr_ge _ _ _ _ (by omega), own_upd_ne _ _ (by omega)]
    have e3_ : ∀ j, j < pA → ff j = (0 : Int32) := fun j hj => by rw [hff, own_upd_ne _ _ (by omega), own_wr_lt _ _ _ _ (by omega), own_upd_ne _ _ (by omega)]
    obtain ⟨clO, ArO, SzO, HfO⟩ := id Fw
    have pre11 : ∀ t, Steps p.tables e below (T10.setTop (mkF m 111 #[.val (.int p1), .val (.int p2), .val (.int p3), .val (.int p4), .val (.int p5), .val (.int (Int32.ofNat pA)), .val (.int (0 : Int32)), .val (.int c1), .val (.int c2), .val (.int c3), .val (.ref b6), .val (.ref b8), .unset, .unset] [(.int (Int32.ofNat (pA + 1 + (own_encs g 0).length + 1)))])) t → Steps p.tables e below _ t := fun t kt => pre9 t (by
      show Steps p.tables e below (T8.setTop (mkF m 108 #[.val (.int p1), .val (.int p2), .val (.int p3), .val (.int p4), .val (.int p5), .val (.int (Int32.ofNat pA)), .val (.int (0 : Int32)), .val (.int c1), .val (.int c2), .val (.int c3), .val (.ref b6), .val (.ref b8), .unset, .unset] [(.int (Int32.ofNat pA)), (.ref b8), (.ref b6)])) _
      refine st10 _ ?_
      exact kt)
    have hv12 : (own_encs g 0).length = L0 := hL0.symm
    rw [hv12] at pre11
    have pre13 : ∀ t, Steps p.tables e below (T10.setTop (mkF m 131 #[.val (.int p1), .val (.int p2), .val (.int p3), .val (.int p4), .val (.int p5), .val (.int (Int32.ofNat pA)), .val (.int (0 : Int32)), .val (.int c1), .val (.int c2), .val (.int c3), .val (.ref b6), .val (.ref b8), .val (.int (Int32.ofNat (pA + 1 + L0 + 1))), .unset] [(.int ((Int32.ofNat pA) + (1 : Int32)))])) t → Steps p.tables e below _ t := fun t kt => pre11 t (by
      show Steps p.tables e below (T10.setTop (mkF m 111 #[.val (.int p1), .val (.int p2), .val (.int p3), .val (.int p4), .val (.int p5), .val (.int (Int32.ofNat pA)), .val (.int (0 : Int32)), .val (.int c1), .val (.int c2), .val (.int c3), .val (.ref b6), .val (.ref b8), .unset, .unset] [(.int (Int32.ofNat (pA + 1 + L0 + 1)))])) _
      refine XS.istore X10.here hx rfl (hb hby at_111) rfl (l' := #[.val (.int p1), .val (.int p2), .val (.int p3), .val (.int p4), .val (.int p5), .val (.int (Int32.ofNat pA)), .val (.int (0 : Int32)), .val (.int c1), .val (.int c2), .val (.int c3), .val (.ref b6), .val (.ref b8), .val (.int (Int32.ofNat (pA + 1 + L0 + 1))), .unset]) rfl ?_
      show Steps p.tables e below (T10.setTop (mkF m 113 #[.val (.int p1), .val (.int p2), .val (.int p3), .val (.int p4), .val (.int p5), .val (.int (Int32.ofNat pA)), .val (.int (0 : Int32)), .val (.int c1), .val (.int c2), .val (.int c3), .val (.ref b6), .val (.ref b8), .val (.int (Int32.ofNat (pA + 1 + L0 + 1))), .unset] [])) _
      refine XS.aload X10.here hx rfl (hb hby at_113) rfl rfl ?_
      show Steps p.tables e below (T10.setTop (mkF m 115 #[.val (.int p1), .val (.int p2), .val (.int p3), .val (.int p4), .val (.int p5), .val (.int (Int32.ofNat pA)), .val (.int (0 : Int32)), .val (.int c1), .val (.int c2), .val (.int c3), .val (.ref b6), .val (.ref b8), .val (.int (Int32.ofNat (pA + 1 + L0 + 1))), .unset] [(.ref b8)])) _
      refine XS.iload X10.here hx rfl (hb hby at_115) rfl ?_
      show Steps p.tables e below (T10.setTop (mkF m 117 #[.val (.int p1), .val (.int p2), .val (.int p3), .val (.int p4), .val (.int p5), .val (.int (Int32.ofNat pA)), .val (.int (0 : Int32)), .val (.int c1), .val (.int c2), .val (.int c3), .val (.ref b6), .val (.ref b8), .val (.int (Int32.ofNat (pA + 1 + L0 + 1))), .unset] [(.int (Int32.ofNat pA)), (.ref b8)])) _
      refine X10.baloadBytes hx (j := (Int32.ofNat pA)) (v := (.int (ff pA))) ArO.1 (State.isArrayOf_alike hZ.alike ArO.2.1) ArO.2.2 (within (c := pA) rfl (by omega) (by omega)) (by rw [clamp_of (c := pA) rfl (by omega)]; exact HfO _ (by omega)) (g := (mkF m 117 #[.val (.int p1), .val (.int p2), .val (.int p3), .val (.int p4), .val (.int p5), .val (.int (Int32.ofNat pA)), .val (.int (0 : Int32)), .val (.int c1), .val (.int c2), .val (.int c3), .val (.ref b6), .val (.ref b8), .val (.int (Int32.ofNat (pA + 1 + L0 + 1))), .unset] [(.int (Int32.ofNat pA)), (.ref b8)])) rfl rfl (hb hby at_117) _ ?_
      show Steps p.tables e below (T10.setTop (mkF m 118 #[.val (.int p1), .val (.int p2), .val (.int p3), .val (.int p4), .val (.int p5), .val (.int (Int32.ofNat pA)), .val (.int (0 : Int32)), .val (.int c1), .val (.int c2), .val (.int c3), .val (.ref b6), .val (.ref b8), .val (.int (Int32.ofNat (pA + 1 + L0 + 1))), .unset] [(.int (ff pA))])) _
      refine XS.bipush X10.here hx rfl (hb hby at_118) ?_
      have hc120 : (ff pA) = (34 : Int32) := e0_
      show Steps p.tables e below (T10.setTop (mkF m 120 #[.val (.int p1), .val (.int p2), .val (.int p3), .val (.int p4), .val (.int p5), .val (.int (Int32.ofNat pA)), .val (.int (0 : Int32)), .val (.int c1), .val (.int c2), .val (.int c3), .val (.ref b6), .val (.ref b8), .val (.int (Int32.ofNat (pA + 1 + L0 + 1))), .unset] [(.int (34 : Int32)), (.int (ff pA))])) _
      refine XS.icmpNo X10.here hx rfl (hb hby at_120) rfl (teq hc120).2 ?_
      show Steps p.tables e below (T10.setTop (mkF m 123 #[.val (.int p1), .val (.int p2), .val (.int p3), .val (.int p4), .val (.int p5), .val (.int (Int32.ofNat pA)), .val (.int (0 : Int32)), .val (.int c1), .val (.int c2), .val (.int c3), .val (.ref b6), .val (.ref b8), .val (.int (Int32.ofNat (pA + 1 + L0 + 1))), .unset] [])) _
      refine XS.iload X10.here hx rfl (hb hby at_123) rfl ?_
      show Steps p.tables e below (T10.setTop (mkF m 125 #[.val (.int p1), .val (.int p2), .val (.int p3), .val (.int p4), .val (.int p5), .val (.int (Int32.ofNat pA)), .val (.int (0 : Int32)), .val (.int c1), .val (.int c2), .val (.int c3), .val (.ref b6), .val (.ref b8), .val (.int (Int32.ofNat (pA + 1 + L0 + 1))), .unset] [(.int (Int32.ofNat pA))])) _
      refine XS.iconst X10.here hx rfl (hb hby at_125) ?_
      show Steps p.tables e below (T10.setTop (mkF m 126 #[.val (.int p1), .val (.int p2), .val (.int p3), .val (.int p4), .val (.int p5), .val (.int (Int32.ofNat pA)), .val (.int (0 : Int32)), .val (.int c1), .val (.int c2), .val (.int c3), .val (.ref b6), .val (.ref b8), .val (.int (Int32.ofNat (pA + 1 + L0 + 1))), .unset] [(.int (1 : Int32)), (.int (Int32.ofNat pA))])) _
      refine XS.iadd X10.here hx rfl (hb hby at_126) rfl ?_
      show Steps p.tables e below (T10.setTop (mkF m 127 #[.val (.int p1), .val (.int p2), .val (.int p3), .val (.int p4), .val (.int p5), .val (.int (Int32.ofNat pA)), .val (.int (0 : Int32)), .val (.int c1), .val (.int c2), .val (.int c3), .val (.ref b6), .val (.ref b8), .val (.int (Int32.ofNat (pA + 1 + L0 + 1))), .unset] [(.int ((Int32.ofNat pA) + (1 : Int32)))])) _
      refine XS.goto X10.here hx rfl (pc0 := 127) (pc' := 131) rfl (hb hby at_127) (by decide) (by decide) ?_
      exact kt)
    have hv14 : ((Int32.ofNat pA) + (1 : Int32)) = (Int32.ofNat (pA + 1)) := own_add pA 1
    rw [hv14] at pre13
    have pre15 : ∀ t, Steps p.tables e below (T10.setTop (mkF m 250 #[.val (.int p1), .val (.int p2), .val (.int p3), .val (.int p4), .val (.int p5), .val (.int (Int32.ofNat pA)), .val (.int (0 : Int32)), .val (.int c1), .val (.int c2), .val (.int c3), .val (.ref b6), .val (.ref b8), .val (.int (Int32.ofNat (pA + 1 + L0 + 1))), .val (.int (Int32.ofNat (pA + 1)))] [(.int (Int32.ofNat pA))])) t → Steps p.tables e below _ t := fun t kt => pre13 t (by
      show Steps p.tables e below (T10.setTop (mkF m 131 #[.val (.int p1), .val (.int p2), .val (.int p3), .val (.int p4), .val (.int p5), .val (.int (Int32.ofNat pA)), .val (.int (0 : Int32)), .val (.int c1), .val (.int c2), .val (.int c3), .val (.ref b6), .val (.ref b8), .val (.int (Int32.ofNat (pA + 1 + L0 + 1))), .unset] [(.int (Int32.ofNat (pA + 1)))])) _
      refine XS.istore X10.here hx rfl (hb hby at_131) rfl (l' := #[.val (.int p1), .val (.int p2), .val (.int p3), .val (.int p4), .val (.int p5), .val (.int (Int32.ofNat pA)), .val (.int (0 : Int32)), .val (.int c1), .val (.int c2), .val (.int c3), .val (.ref b6), .val (.ref b8), .val (.int (Int32.ofNat (pA + 1 + L0 + 1))), .val (.int (Int32.ofNat (pA + 1)))]) rfl ?_
      show Steps p.tables e below (T10.setTop (mkF m 133 #[.val (.int p1), .val (.int p2), .val (.int p3), .val (.int p4), .val (.int p5), .val (.int (Int32.ofNat pA)), .val (.int (0 : Int32)), .val (.int c1), .val (.int c2), .val (.int c3), .val (.ref b6), .val (.ref b8), .val (.int (Int32.ofNat (pA + 1 + L0 + 1))), .val (.int (Int32.ofNat (pA + 1)))] [])) _
      refine XS.iload X10.here hx rfl (hb hby at_133) rfl ?_
      have hc135 : ¬ ((0 : Int32) < (0 : Int32)) := by decide
      show Steps p.tables e below (T10.setTop (mkF m 135 #[.val (.int p1), .val (.int p2), .val (.int p3), .val (.int p4), .val (.int p5), .val (.int (Int32.ofNat pA)), .val (.int (0 : Int32)), .val (.int c1), .val (.int c2), .val (.int c3), .val (.ref b6), .val (.ref b8), .val (.int (Int32.ofNat (pA + 1 + L0 + 1))), .val (.int (Int32.ofNat (pA + 1)))] [(.int (0 : Int32))])) _
      refine XS.ifYes X10.here hx rfl (pc0 := 135) (pc' := 154) rfl (hb hby at_135) rfl ((if0 _ _).trans (flt hc135).2.2.2) (by decide) (by decide) ?_
      show Steps p.tables e below (T10.setTop (mkF m 154 #[.val (.int p1), .val (.int p2), .val (.int p3), .val (.int p4), .val (.int p5), .val (.int (Int32.ofNat pA)), .val (.int (0 : Int32)), .val (.int c1), .val (.int c2), .val (.int c3), .val (.ref b6), .val (.ref b8), .val (.int (Int32.ofNat (pA + 1 + L0 + 1))), .val (.int (Int32.ofNat (pA + 1)))] [])) _
      refine XS.iload X10.here hx rfl (hb hby at_154) rfl ?_
      show Steps p.tables e below (T10.setTop (mkF m 156 #[.val (.int p1), .val (.int p2), .val (.int p3), .val (.int p4), .val (.int p5), .val (.int (Int32.ofNat pA)), .val (.int (0 : Int32)), .val (.int c1), .val (.int c2), .val (.int c3), .val (.ref b6), .val (.ref b8), .val (.int (Int32.ofNat (pA + 1 + L0 + 1))), .val (.int (Int32.ofNat (pA + 1)))] [(.int (0 : Int32))])) _
      refine XS.iconst X10.here hx rfl (hb hby at_156) ?_
      have hc157 : ¬ ((1 : Int32) < (0 : Int32)) := by decide
      show Steps p.tables e below (T10.setTop (mkF m 157 #[.val (.int p1), .val (.int p2), .val (.int p3), .val (.int p4), .val (.int p5), .val (.int (Int32.ofNat pA)), .val (.int (0 : Int32)), .val (.int c1), .val (.int c2), .val (.int c3), .val (.ref b6), .val (.ref b8), .val (.int (Int32.ofNat (pA + 1 + L0 + 1))), .val (.int (Int32.ofNat (pA + 1)))] [(.int (1 : Int32)), (.int (0 : Int32))])) _
      refine XS.icmpYes X10.here hx rfl (pc0 := 157) (pc' := 176) rfl (hb hby at_157) rfl (flt hc157).2.2.2 (by decide) (by decide) ?_
      show Steps p.tables e below (T10.setTop (mkF m 176 #[.val (.int p1), .val (.int p2), .val (.int p3), .val (.int p4), .val (.int p5), .val (.int (Int32.ofNat pA)), .val (.int (0 : Int32)), .val (.int c1), .val (.int c2), .val (.int c3), .val (.ref b6), .val (.ref b8), .val (.int (Int32.ofNat (pA + 1 + L0 + 1))), .val (.int (Int32.ofNat (pA + 1)))] [])) _
      refine XS.iload X10.here hx rfl (hb hby at_176) rfl ?_
      show Steps p.tables e below (T10.setTop (mkF m 178 #[.val (.int p1), .val (.int p2), .val (.int p3), .val (.int p4), .val (.int p5), .val (.int (Int32.ofNat pA)), .val (.int (0 : Int32)), .val (.int c1), .val (.int c2), .val (.int c3), .val (.ref b6), .val (.ref b8), .val (.int (Int32.ofNat (pA + 1 + L0 + 1))), .val (.int (Int32.ofNat (pA + 1)))] [(.int (0 : Int32))])) _
      refine XS.iconst X10.here hx rfl (hb hby at_178) ?_
      have hc179 : ¬ ((2 : Int32) < (0 : Int32)) := by decide
      show Steps p.tables e below (T10.setTop (mkF m 179 #[.val (.int p1), .val (.int p2), .val (.int p3), .val (.int p4), .val (.int p5), .val (.int (Int32.ofNat pA)), .val (.int (0 : Int32)), .val (.int c1), .val (.int c2), .val (.int c3), .val (.ref b6), .val (.ref b8), .val (.int (Int32.ofNat (pA + 1 + L0 + 1))), .val (.int (Int32.ofNat (pA + 1)))] [(.int (2 : Int32)), (.int (0 : Int32))])) _
      refine XS.icmpYes X10.here hx rfl (pc0 := 179) (pc' := 198) rfl (hb hby at_179) rfl (flt hc179).2.2.2 (by decide) (by decide) ?_
      show Steps p.tables e below (T10.setTop (mkF m 198 #[.val (.int p1), .val (.int p2), .val (.int p3), .val (.int p4), .val (.int p5), .val (.int (Int32.ofNat pA)), .val (.int (0 : Int32)), .val (.int c1), .val (.int c2), .val (.int c3), .val (.ref b6), .val (.ref b8), .val (.int (Int32.ofNat (pA + 1 + L0 + 1))), .val (.int (Int32.ofNat (pA + 1)))] [])) _
      refine XS.iload X10.here hx rfl (hb hby at_198) rfl ?_
      have hc200 : ¬ ((Int32.ofNat (pA + 1)) < (0 : Int32)) := own_nneg (by omega)
      show Steps p.tables e below (T10.setTop (mkF m 200 #[.val (.int p1), .val (.int p2), .val (.int p3), .val (.int p4), .val (.int p5), .val (.int (Int32.ofNat pA)), .val (.int (0 : Int32)), .val (.int c1), .val (.int c2), .val (.int c3), .val (.ref b6), .val (.ref b8), .val (.int (Int32.ofNat (pA + 1 + L0 + 1))), .val (.int (Int32.ofNat (pA + 1)))] [(.int (Int32.ofNat (pA + 1)))])) _
      refine XS.ifYes X10.here hx rfl (pc0 := 200) (pc' := 205) rfl (hb hby at_200) rfl ((if0 _ _).trans (flt hc200).2.1) (by decide) (by decide) ?_
      show Steps p.tables e below (T10.setTop (mkF m 205 #[.val (.int p1), .val (.int p2), .val (.int p3), .val (.int p4), .val (.int p5), .val (.int (Int32.ofNat pA)), .val (.int (0 : Int32)), .val (.int c1), .val (.int c2), .val (.int c3), .val (.ref b6), .val (.ref b8), .val (.int (Int32.ofNat (pA + 1 + L0 + 1))), .val (.int (Int32.ofNat (pA + 1)))] [])) _
      refine XS.aload X10.here hx rfl (hb hby at_205) rfl rfl ?_
      show Steps p.tables e below (T10.setTop (mkF m 207 #[.val (.int p1), .val (.int p2), .val (.int p3), .val (.int p4), .val (.int p5), .val (.int (Int32.ofNat pA)), .val (.int (0 : Int32)), .val (.int c1), .val (.int c2), .val (.int c3), .val (.ref b6), .val (.ref b8), .val (.int (Int32.ofNat (pA + 1 + L0 + 1))), .val (.int (Int32.ofNat (pA + 1)))] [(.ref b8)])) _
      refine XS.iload X10.here hx rfl (hb hby at_207) rfl ?_
      show Steps p.tables e below (T10.setTop (mkF m 209 #[.val (.int p1), .val (.int p2), .val (.int p3), .val (.int p4), .val (.int p5), .val (.int (Int32.ofNat pA)), .val (.int (0 : Int32)), .val (.int c1), .val (.int c2), .val (.int c3), .val (.ref b6), .val (.ref b8), .val (.int (Int32.ofNat (pA + 1 + L0 + 1))), .val (.int (Int32.ofNat (pA + 1)))] [(.int (Int32.ofNat (pA + 1))), (.ref b8)])) _
      refine X10.baloadBytes hx (j := (Int32.ofNat (pA + 1))) (v := (.int (ff (pA + 1)))) ArO.1 (State.isArrayOf_alike hZ.alike ArO.2.1) ArO.2.2 (within (c := (pA + 1)) rfl (by omega) (by omega)) (by rw [clamp_of (c := (pA + 1)) rfl (by omega)]; exact HfO _ (by omega)) (g := (mkF m 209 #[.val (.int p1), .val (.int p2), .val (.int p3), .val (.int p4), .val (.int p5), .val (.int (Int32.ofNat pA)), .val (.int (0 : Int32)), .val (.int c1), .val (.int c2), .val (.int c3), .val (.ref b6), .val (.ref b8), .val (.int (Int32.ofNat (pA + 1 + L0 + 1))), .val (.int (Int32.ofNat (pA + 1)))] [(.int (Int32.ofNat (pA + 1))), (.ref b8)])) rfl rfl (hb hby at_209) _ ?_
      show Steps p.tables e below (T10.setTop (mkF m 210 #[.val (.int p1), .val (.int p2), .val (.int p3), .val (.int p4), .val (.int p5), .val (.int (Int32.ofNat pA)), .val (.int (0 : Int32)), .val (.int c1), .val (.int c2), .val (.int c3), .val (.ref b6), .val (.ref b8), .val (.int (Int32.ofNat (pA + 1 + L0 + 1))), .val (.int (Int32.ofNat (pA + 1)))] [(.int (ff (pA + 1)))])) _
      refine XS.bipush X10.here hx rfl (hb hby at_210) ?_
      have hc212 : (ff (pA + 1)) = (34 : Int32) := e1_
      show Steps p.tables e below (T10.setTop (mkF m 212 #[.val (.int p1), .val (.int p2), .val (.int p3), .val (.int p4), .val (.int p5), .val (.int (Int32.ofNat pA)), .val (.int (0 : Int32)), .val (.int c1), .val (.int c2), .val (.int c3), .val (.ref b6), .val (.ref b8), .val (.int (Int32.ofNat (pA + 1 + L0 + 1))), .val (.int (Int32.ofNat (pA + 1)))] [(.int (34 : Int32)), (.int (ff (pA + 1)))])) _
      refine XS.icmpNo X10.here hx rfl (hb hby at_212) rfl (teq hc212).2 ?_
      show Steps p.tables e below (T10.setTop (mkF m 215 #[.val (.int p1), .val (.int p2), .val (.int p3), .val (.int p4), .val (.int p5), .val (.int (Int32.ofNat pA)), .val (.int (0 : Int32)), .val (.int c1), .val (.int c2), .val (.int c3), .val (.ref b6), .val (.ref b8), .val (.int (Int32.ofNat (pA + 1 + L0 + 1))), .val (.int (Int32.ofNat (pA + 1)))] [])) _
      refine XS.iload X10.here hx rfl (hb hby at_215) rfl ?_
      show Steps p.tables e below (T10.setTop (mkF m 217 #[.val (.int p1), .val (.int p2), .val (.int p3), .val (.int p4), .val (.int p5), .val (.int (Int32.ofNat pA)), .val (.int (0 : Int32)), .val (.int c1), .val (.int c2), .val (.int c3), .val (.ref b6), .val (.ref b8), .val (.int (Int32.ofNat (pA + 1 + L0 + 1))), .val (.int (Int32.ofNat (pA + 1)))] [(.int (Int32.ofNat (pA + 1 + L0 + 1)))])) _
      refine XS.iload X10.here hx rfl (hb hby at_217) rfl ?_
      show Steps p.tables e below (T10.setTop (mkF m 219 #[.val (.int p1), .val (.int p2), .val (.int p3), .val (.int p4), .val (.int p5), .val (.int (Int32.ofNat pA)), .val (.int (0 : Int32)), .val (.int c1), .val (.int c2), .val (.int c3), .val (.ref b6), .val (.ref b8), .val (.int (Int32.ofNat (pA + 1 + L0 + 1))), .val (.int (Int32.ofNat (pA + 1)))] [(.int (Int32.ofNat (pA + 1))), (.int (Int32.ofNat (pA + 1 + L0 + 1)))])) _
      refine XS.iconst X10.here hx rfl (hb hby at_219) ?_
      show Steps p.tables e below (T10.setTop (mkF m 220 #[.val (.int p1), .val (.int p2), .val (.int p3), .val (.int p4), .val (.int p5), .val (.int (Int32.ofNat pA)), .val (.int (0 : Int32)), .val (.int c1), .val (.int c2), .val (.int c3), .val (.ref b6), .val (.ref b8), .val (.int (Int32.ofNat (pA + 1 + L0 + 1))), .val (.int (Int32.ofNat (pA + 1)))] [(.int (1 : Int32)), (.int (Int32.ofNat (pA + 1))), (.int (Int32.ofNat (pA + 1 + L0 + 1)))])) _
      refine XS.iadd X10.here hx rfl (hb hby at_220) rfl ?_
      have hc221 : (Int32.ofNat (pA + 1 + L0 + 1)) = ((Int32.ofNat (pA + 1)) + (1 : Int32)) := by rw [hpe]; exact (own_add (pA + 1) 1).symm
      show Steps p.tables e below (T10.setTop (mkF m 221 #[.val (.int p1), .val (.int p2), .val (.int p3), .val (.int p4), .val (.int p5), .val (.int (Int32.ofNat pA)), .val (.int (0 : Int32)), .val (.int c1), .val (.int c2), .val (.int c3), .val (.ref b6), .val (.ref b8), .val (.int (Int32.ofNat (pA + 1 + L0 + 1))), .val (.int (Int32.ofNat (pA + 1)))] [(.int ((Int32.ofNat (pA + 1)) + (1 : Int32))), (.int (Int32.ofNat (pA + 1 + L0 + 1)))])) _
      refine XS.icmpNo X10.here hx rfl (hb hby at_221) rfl (teq hc221).2 ?_
      show Steps p.tables e below (T10.setTop (mkF m 224 #[.val (.int p1), .val (.int p2), .val (.int p3), .val (.int p4), .val (.int p5), .val (.int (Int32.ofNat pA)), .val (.int (0 : Int32)), .val (.int c1), .val (.int c2), .val (.int c3), .val (.ref b6), .val (.ref b8), .val (.int (Int32.ofNat (pA + 1 + L0 + 1))), .val (.int (Int32.ofNat (pA + 1)))] [])) _
      refine XS.iload X10.here hx rfl (hb hby at_224) rfl ?_
      have hc226 : ¬ ((Int32.ofNat (pA + 1 + L0 + 1)) < (0 : Int32)) := own_nneg (by omega)
      show Steps p.tables e below (T10.setTop (mkF m 226 #[.val (.int p1), .val (.int p2), .val (.int p3), .val (.int p4), .val (.int p5), .val (.int (Int32.ofNat pA)), .val (.int (0 : Int32)), .val (.int c1), .val (.int c2), .val (.int c3), .val (.ref b6), .val (.ref b8), .val (.int (Int32.ofNat (pA + 1 + L0 + 1))), .val (.int (Int32.ofNat (pA + 1)))] [(.int (Int32.ofNat (pA + 1 + L0 + 1)))])) _
      refine XS.ifNo X10.here hx rfl (hb hby at_226) rfl ((if0 _ _).trans (flt hc226).1) ?_
      show Steps p.tables e below (T10.setTop (mkF m 229 #[.val (.int p1), .val (.int p2), .val (.int p3), .val (.int p4), .val (.int p5), .val (.int (Int32.ofNat pA)), .val (.int (0 : Int32)), .val (.int c1), .val (.int c2), .val (.int c3), .val (.ref b6), .val (.ref b8), .val (.int (Int32.ofNat (pA + 1 + L0 + 1))), .val (.int (Int32.ofNat (pA + 1)))] [])) _
      refine XS.iload X10.here hx rfl (hb hby at_229) rfl ?_
      show Steps p.tables e below (T10.setTop (mkF m 231 #[.val (.int p1), .val (.int p2), .val (.int p3), .val (.int p4), .val (.int p5), .val (.int (Int32.ofNat pA)), .val (.int (0 : Int32)), .val (.int c1), .val (.int c2), .val (.int c3), .val (.ref b6), .val (.ref b8), .val (.int (Int32.ofNat (pA + 1 + L0 + 1))), .val (.int (Int32.ofNat (pA + 1)))] [(.int (Int32.ofNat (pA + 1 + L0 + 1)))])) _
      refine XS.bipush X10.here hx rfl (hb hby at_231) ?_
      have hc233 : (Int32.ofNat (pA + 1 + L0 + 1)) < (24 : Int32) := own_lt (n := 24) (by omega) (by decide)
      show Steps p.tables e below (T10.setTop (mkF m 233 #[.val (.int p1), .val (.int p2), .val (.int p3), .val (.int p4), .val (.int p5), .val (.int (Int32.ofNat pA)), .val (.int (0 : Int32)), .val (.int c1), .val (.int c2), .val (.int c3), .val (.ref b6), .val (.ref b8), .val (.int (Int32.ofNat (pA + 1 + L0 + 1))), .val (.int (Int32.ofNat (pA + 1)))] [(.int (24 : Int32)), (.int (Int32.ofNat (pA + 1 + L0 + 1)))])) _
      refine XS.icmpYes X10.here hx rfl (pc0 := 233) (pc' := 238) rfl (hb hby at_233) rfl (tlt hc233).1 (by decide) (by decide) ?_
      show Steps p.tables e below (T10.setTop (mkF m 238 #[.val (.int p1), .val (.int p2), .val (.int p3), .val (.int p4), .val (.int p5), .val (.int (Int32.ofNat pA)), .val (.int (0 : Int32)), .val (.int c1), .val (.int c2), .val (.int c3), .val (.ref b6), .val (.ref b8), .val (.int (Int32.ofNat (pA + 1 + L0 + 1))), .val (.int (Int32.ofNat (pA + 1)))] [])) _
      refine XS.aload X10.here hx rfl (hb hby at_238) rfl rfl ?_
      show Steps p.tables e below (T10.setTop (mkF m 240 #[.val (.int p1), .val (.int p2), .val (.int p3), .val (.int p4), .val (.int p5), .val (.int (Int32.ofNat pA)), .val (.int (0 : Int32)), .val (.int c1), .val (.int c2), .val (.int c3), .val (.ref b6), .val (.ref b8), .val (.int (Int32.ofNat (pA + 1 + L0 + 1))), .val (.int (Int32.ofNat (pA + 1)))] [(.ref b8)])) _
      refine XS.iload X10.here hx rfl (hb hby at_240) rfl ?_
      show Steps p.tables e below (T10.setTop (mkF m 242 #[.val (.int p1), .val (.int p2), .val (.int p3), .val (.int p4), .val (.int p5), .val (.int (Int32.ofNat pA)), .val (.int (0 : Int32)), .val (.int c1), .val (.int c2), .val (.int c3), .val (.ref b6), .val (.ref b8), .val (.int (Int32.ofNat (pA + 1 + L0 + 1))), .val (.int (Int32.ofNat (pA + 1)))] [(.int (Int32.ofNat (pA + 1 + L0 + 1))), (.ref b8)])) _
      refine X10.baloadBytes hx (j := (Int32.ofNat (pA + 1 + L0 + 1))) (v := (.int (ff (pA + 1 + L0 + 1)))) ArO.1 (State.isArrayOf_alike hZ.alike ArO.2.1) ArO.2.2 (within (c := (pA + 1 + L0 + 1)) rfl (by omega) (by omega)) (by rw [clamp_of (c := (pA + 1 + L0 + 1)) rfl (by omega)]; exact HfO _ (by omega)) (g := (mkF m 242 #[.val (.int p1), .val (.int p2), .val (.int p3), .val (.int p4), .val (.int p5), .val (.int (Int32.ofNat pA)), .val (.int (0 : Int32)), .val (.int c1), .val (.int c2), .val (.int c3), .val (.ref b6), .val (.ref b8), .val (.int (Int32.ofNat (pA + 1 + L0 + 1))), .val (.int (Int32.ofNat (pA + 1)))] [(.int (Int32.ofNat (pA + 1 + L0 + 1))), (.ref b8)])) rfl rfl (hb hby at_242) _ ?_
      have hc243 : (ff (pA + 1 + L0 + 1)) = (0 : Int32) := e2_
      show Steps p.tables e below (T10.setTop (mkF m 243 #[.val (.int p1), .val (.int p2), .val (.int p3), .val (.int p4), .val (.int p5), .val (.int (Int32.ofNat pA)), .val (.int (0 : Int32)), .val (.int c1), .val (.int c2), .val (.int c3), .val (.ref b6), .val (.ref b8), .val (.int (Int32.ofNat (pA + 1 + L0 + 1))), .val (.int (Int32.ofNat (pA + 1)))] [(.int (ff (pA + 1 + L0 + 1)))])) _
      refine XS.ifYes X10.here hx rfl (pc0 := 243) (pc' := 248) rfl (hb hby at_243) rfl ((if0 _ _).trans (teq hc243).1) (by decide) (by decide) ?_
      show Steps p.tables e below (T10.setTop (mkF m 248 #[.val (.int p1), .val (.int p2), .val (.int p3), .val (.int p4), .val (.int p5), .val (.int (Int32.ofNat pA)), .val (.int (0 : Int32)), .val (.int c1), .val (.int c2), .val (.int c3), .val (.ref b6), .val (.ref b8), .val (.int (Int32.ofNat (pA + 1 + L0 + 1))), .val (.int (Int32.ofNat (pA + 1)))] [])) _
      refine XS.iload X10.here hx rfl (hb hby at_248) rfl ?_
      exact kt)
    by_cases hz : pA = 0
    · obtain ⟨fs, hr, hrun, hended, hW, hsame⟩ := X10.leave (v := some (.int (1 : Int32))) (fun h => by rw [Bd.returns] at h; cases h)
      refine ⟨_, _, pre15 _ ?_, hrun, hended, _, _, rfl, ?_, ⟨_, rfl⟩, hW, hsame.mono (by decide) (by decide)⟩
      · have hc250 : (Int32.ofNat pA) = (0 : Int32) := by rw [hz]; rfl
        show Steps p.tables e below (T10.setTop (mkF m 250 #[.val (.int p1), .val (.int p2), .val (.int p3), .val (.int p4), .val (.int p5), .val (.int (Int32.ofNat pA)), .val (.int (0 : Int32)), .val (.int c1), .val (.int c2), .val (.int c3), .val (.ref b6), .val (.ref b8), .val (.int (Int32.ofNat (pA + 1 + L0 + 1))), .val (.int (Int32.ofNat (pA + 1)))] [(.int (Int32.ofNat pA))])) _
        refine XS.ifYes X10.here hx rfl (pc0 := 250) (pc' := 263) rfl (hb hby at_250) rfl ((if0 _ _).trans (teq hc250).1) (by decide) (by decide) ?_
        show Steps p.tables e below (T10.setTop (mkF m 263 #[.val (.int p1), .val (.int p2), .val (.int p3), .val (.int p4), .val (.int p5), .val (.int (Int32.ofNat pA)), .val (.int (0 : Int32)), .val (.int c1), .val (.int c2), .val (.int c3), .val (.ref b6), .val (.ref b8), .val (.int (Int32.ofNat (pA + 1 + L0 + 1))), .val (.int (Int32.ofNat (pA + 1)))] [])) _
        refine XS.iconst X10.here hx rfl (hb hby at_263) ?_
        show Steps p.tables e below (T10.setTop (mkF m 264 #[.val (.int p1), .val (.int p2), .val (.int p3), .val (.int p4), .val (.int p5), .val (.int (Int32.ofNat pA)), .val (.int (0 : Int32)), .val (.int c1), .val (.int c2), .val (.int c3), .val (.ref b6), .val (.ref b8), .val (.int (Int32.ofNat (pA + 1 + L0 + 1))), .val (.int (Int32.ofNat (pA + 1)))] [(.int (1 : Int32))])) _
        refine XS.goto X10.here hx rfl (pc0 := 264) (pc' := 268) rfl (hb hby at_264) (by decide) (by decide) ?_
        show Steps p.tables e below (T10.setTop (mkF m 268 #[.val (.int p1), .val (.int p2), .val (.int p3), .val (.int p4), .val (.int p5), .val (.int (Int32.ofNat pA)), .val (.int (0 : Int32)), .val (.int c1), .val (.int c2), .val (.int c3), .val (.ref b6), .val (.ref b8), .val (.int (Int32.ofNat (pA + 1 + L0 + 1))), .val (.int (Int32.ofNat (pA + 1)))] [(.int (1 : Int32))])) _
        exact retN X10 hx (t := .boolean) Bd.returns (by simp) (hb hby at_268) hr
      · exact ⟨rfl, N10⟩
    · have pre16 : ∀ t, Steps p.tables e below (T10.setTop (mkF m 259 #[.val (.int p1), .val (.int p2), .val (.int p3), .val (.int p4), .val (.int p5), .val (.int (Int32.ofNat pA)), .val (.int (0 : Int32)), .val (.int c1), .val (.int c2), .val (.int c3), .val (.ref b6), .val (.ref b8), .val (.int (Int32.ofNat (pA + 1 + L0 + 1))), .val (.int (Int32.ofNat (pA + 1)))] [(.int ((Int32.ofNat pA) - (1 : Int32))), (.ref b8)])) t → Steps p.tables e below _ t := fun t kt => pre15 t (by
        have hc250 : ¬ ((Int32.ofNat pA) = (0 : Int32)) := own_ne (n := 0) hz (by omega) (by decide)
        show Steps p.tables e below (T10.setTop (mkF m 250 #[.val (.int p1), .val (.int p2), .val (.int p3), .val (.int p4), .val (.int p5), .val (.int (Int32.ofNat pA)), .val (.int (0 : Int32)), .val (.int c1), .val (.int c2), .val (.int c3), .val (.ref b6), .val (.ref b8), .val (.int (Int32.ofNat (pA + 1 + L0 + 1))), .val (.int (Int32.ofNat (pA + 1)))] [(.int (Int32.ofNat pA))])) _
        refine XS.ifNo X10.here hx rfl (hb hby at_250) rfl ((if0 _ _).trans (feq hc250).1) ?_
        show Steps p.tables e below (T10.setTop (mkF m 253 #[.val (.int p1), .val (.int p2), .val (.int p3), .val (.int p4), .val (.int p5), .val (.int (Int32.ofNat pA)), .val (.int (0 : Int32)), .val (.int c1), .val (.int c2), .val (.int c3), .val (.ref b6), .val (.ref b8), .val (.int (Int32.ofNat (pA + 1 + L0 + 1))), .val (.int (Int32.ofNat (pA + 1)))] [])) _
        refine XS.aload X10.here hx rfl (hb hby at_253) rfl rfl ?_
        show Steps p.tables e below (T10.setTop (mkF m 255 #[.val (.int p1), .val (.int p2), .val (.int p3), .val (.int p4), .val (.int p5), .val (.int (Int32.ofNat pA)), .val (.int (0 : Int32)), .val (.int c1), .val (.int c2), .val (.int c3), .val (.ref b6), .val (.ref b8), .val (.int (Int32.ofNat (pA + 1 + L0 + 1))), .val (.int (Int32.ofNat (pA + 1)))] [(.ref b8)])) _
        refine XS.iload X10.here hx rfl (hb hby at_255) rfl ?_
        show Steps p.tables e below (T10.setTop (mkF m 257 #[.val (.int p1), .val (.int p2), .val (.int p3), .val (.int p4), .val (.int p5), .val (.int (Int32.ofNat pA)), .val (.int (0 : Int32)), .val (.int c1), .val (.int c2), .val (.int c3), .val (.ref b6), .val (.ref b8), .val (.int (Int32.ofNat (pA + 1 + L0 + 1))), .val (.int (Int32.ofNat (pA + 1)))] [(.int (Int32.ofNat pA)), (.ref b8)])) _
        refine XS.iconst X10.here hx rfl (hb hby at_257) ?_
        show Steps p.tables e below (T10.setTop (mkF m 258 #[.val (.int p1), .val (.int p2), .val (.int p3), .val (.int p4), .val (.int p5), .val (.int (Int32.ofNat pA)), .val (.int (0 : Int32)), .val (.int c1), .val (.int c2), .val (.int c3), .val (.ref b6), .val (.ref b8), .val (.int (Int32.ofNat (pA + 1 + L0 + 1))), .val (.int (Int32.ofNat (pA + 1)))] [(.int (1 : Int32)), (.int (Int32.ofNat pA)), (.ref b8)])) _
        refine XS.isub X10.here hx rfl (hb hby at_258) rfl ?_
        exact kt)
      have hv17 : ((Int32.ofNat pA) - (1 : Int32)) = (Int32.ofNat (pA - 1)) := own_sub (b := 1) (by omega) (by omega)
      rw [hv17] at pre16
      obtain ⟨fs, hr, hrun, hended, hW, hsame⟩ := X10.leave (v := some (.int (1 : Int32))) (fun h => by rw [Bd.returns] at h; cases h)
      refine ⟨_, _, pre16 _ ?_, hrun, hended, _, _, rfl, ?_, ⟨_, rfl⟩, hW, hsame.mono (by decide) (by decide)⟩
      · show Steps p.tables e below (T10.setTop (mkF m 259 #[.val (.int p1), .val (.int p2), .val (.int p3), .val (.int p4), .val (.int p5), .val (.int (Int32.ofNat pA)), .val (.int (0 : Int32)), .val (.int c1), .val (.int c2), .val (.int c3), .val (.ref b6), .val (.ref b8), .val (.int (Int32.ofNat (pA + 1 + L0 + 1))), .val (.int (Int32.ofNat (pA + 1)))] [(.int (Int32.ofNat (pA - 1))), (.ref b8)])) _
        refine X10.baloadBytes hx (j := (Int32.ofNat (pA - 1))) (v := (.int (ff (pA - 1)))) ArO.1 (State.isArrayOf_alike hZ.alike ArO.2.1) ArO.2.2 (within (c := (pA - 1)) rfl (by omega) (by omega)) (by rw [clamp_of (c := (pA - 1)) rfl (by omega)]; exact HfO _ (by omega)) (g := (mkF m 259 #[.val (.int p1), .val (.int p2), .val (.int p3), .val (.int p4), .val (.int p5), .val (.int (Int32.ofNat pA)), .val (.int (0 : Int32)), .val (.int c1), .val (.int c2), .val (.int c3), .val (.ref b6), .val (.ref b8), .val (.int (Int32.ofNat (pA + 1 + L0 + 1))), .val (.int (Int32.ofNat (pA + 1)))] [(.int (Int32.ofNat (pA - 1))), (.ref b8)])) rfl rfl (hb hby at_259) _ ?_
        have hc260 : (ff (pA - 1)) = (0 : Int32) := e3_ _ (by omega)
        show Steps p.tables e below (T10.setTop (mkF m 260 #[.val (.int p1), .val (.int p2), .val (.int p3), .val (.int p4), .val (.int p5), .val (.int (Int32.ofNat pA)), .val (.int (0 : Int32)), .val (.int c1), .val (.int c2), .val (.int c3), .val (.ref b6), .val (.ref b8), .val (.int (Int32.ofNat (pA + 1 + L0 + 1))), .val (.int (Int32.ofNat (pA + 1)))] [(.int (ff (pA - 1)))])) _
        refine XS.ifNo X10.here hx rfl (hb hby at_260) rfl ((if0 _ _).trans (teq hc260).2) ?_
        show Steps p.tables e below (T10.setTop (mkF m 263 #[.val (.int p1), .val (.int p2), .val (.int p3), .val (.int p4), .val (.int p5), .val (.int (Int32.ofNat pA)), .val (.int (0 : Int32)), .val (.int c1), .val (.int c2), .val (.int c3), .val (.ref b6), .val (.ref b8), .val (.int (Int32.ofNat (pA + 1 + L0 + 1))), .val (.int (Int32.ofNat (pA + 1)))] [])) _
        refine XS.iconst X10.here hx rfl (hb hby at_263) ?_
        show Steps p.tables e below (T10.setTop (mkF m 264 #[.val (.int p1), .val (.int p2), .val (.int p3), .val (.int p4), .val (.int p5), .val (.int (Int32.ofNat pA)), .val (.int (0 : Int32)), .val (.int c1), .val (.int c2), .val (.int c3), .val (.ref b6), .val (.ref b8), .val (.int (Int32.ofNat (pA + 1 + L0 + 1))), .val (.int (Int32.ofNat (pA + 1)))] [(.int (1 : Int32))])) _
        refine XS.goto X10.here hx rfl (pc0 := 264) (pc' := 268) rfl (hb hby at_264) (by decide) (by decide) ?_
        show Steps p.tables e below (T10.setTop (mkF m 268 #[.val (.int p1), .val (.int p2), .val (.int p3), .val (.int p4), .val (.int p5), .val (.int (Int32.ofNat pA)), .val (.int (0 : Int32)), .val (.int c1), .val (.int c2), .val (.int c3), .val (.ref b6), .val (.ref b8), .val (.int (Int32.ofNat (pA + 1 + L0 + 1))), .val (.int (Int32.ofNat (pA + 1)))] [(.int (1 : Int32))])) _
        exact retN X10 hx (t := .boolean) Bd.returns (by simp) (hb hby at_268) hr
      · exact ⟨rfl, N10⟩
  · have preN : ∀ t, Steps p.tables e below (s₁.setTop (mkF m 26 #[.val (.int p1), .val (.int p2), .val (.int p3), .val (.int p4), .val (.int p5), .val (.int (Int32.ofNat pA)), .val (.int (1 : Int32)), .val (.int c1), .val (.int c2), .val (.int c3), .unset, .unset, .unset, .unset] [])) t → Steps p.tables e below (s₁.setTop (entryFrame m #[(.int p1), (.int p2), (.int p3), (.int p4), (.int p5)] maxLocals)) t := pre3
    have pre18 : ∀ t, Steps p.tables e below (s₁.setTop (mkF m 44 #[.val (.int p1), .val (.int p2), .val (.int p3), .val (.int p4), .val (.int p5), .val (.int (Int32.ofNat pA)), .val (.int (1 : Int32)), .val (.int c1), .val (.int c2), .val (.int c3), .unset, .unset, .unset, .unset] [(.int (1 : Int32))])) t → Steps p.tables e below _ t := fun t kt => preN t (by
      show Steps p.tables e below (s₁.setTop (mkF m 26 #[.val (.int p1), .val (.int p2), .val (.int p3), .val (.int p4), .val (.int p5), .val (.int (Int32.ofNat pA)), .val (.int (1 : Int32)), .val (.int c1), .val (.int c2), .val (.int c3), .unset, .unset, .unset, .unset] [])) _
      refine XS.iload X0.here hx rfl (hb hby at_26) rfl ?_
      have hc28 : ¬ ((1 : Int32) = (0 : Int32)) := by decide
      show Steps p.tables e below (s₁.setTop (mkF m 28 #[.val (.int p1), .val (.int p2), .val (.int p3), .val (.int p4), .val (.int p5), .val (.int (Int32.ofNat pA)), .val (.int (1 : Int32)), .val (.int c1), .val (.int c2), .val (.int c3), .unset, .unset, .unset, .unset] [(.int (1 : Int32))])) _
      refine XS.ifYes X0.here hx rfl (pc0 := 28) (pc' := 37) rfl (hb hby at_28) rfl ((if0 _ _).trans (feq hc28).2) (by decide) (by decide) ?_
      show Steps p.tables e below (s₁.setTop (mkF m 37 #[.val (.int p1), .val (.int p2), .val (.int p3), .val (.int p4), .val (.int p5), .val (.int (Int32.ofNat pA)), .val (.int (1 : Int32)), .val (.int c1), .val (.int c2), .val (.int c3), .unset, .unset, .unset, .unset] [])) _
      refine XS.iload X0.here hx rfl (hb hby at_37) rfl ?_
      show Steps p.tables e below (s₁.setTop (mkF m 39 #[.val (.int p1), .val (.int p2), .val (.int p3), .val (.int p4), .val (.int p5), .val (.int (Int32.ofNat pA)), .val (.int (1 : Int32)), .val (.int c1), .val (.int c2), .val (.int c3), .unset, .unset, .unset, .unset] [(.int (1 : Int32))])) _
      refine XS.iconst X0.here hx rfl (hb hby at_39) ?_
      have hc40 : (1 : Int32) = (1 : Int32) := rfl
      show Steps p.tables e below (s₁.setTop (mkF m 40 #[.val (.int p1), .val (.int p2), .val (.int p3), .val (.int p4), .val (.int p5), .val (.int (Int32.ofNat pA)), .val (.int (1 : Int32)), .val (.int c1), .val (.int c2), .val (.int c3), .unset, .unset, .unset, .unset] [(.int (1 : Int32)), (.int (1 : Int32))])) _
      refine XS.icmpNo X0.here hx rfl (hb hby at_40) rfl (teq hc40).2 ?_
      show Steps p.tables e below (s₁.setTop (mkF m 43 #[.val (.int p1), .val (.int p2), .val (.int p3), .val (.int p4), .val (.int p5), .val (.int (Int32.ofNat pA)), .val (.int (1 : Int32)), .val (.int c1), .val (.int c2), .val (.int c3), .unset, .unset, .unset, .unset] [])) _
      refine XS.iconst X0.here hx rfl (hb hby at_43) ?_
      exact kt)
    obtain ⟨T19, h19, k19, X19, e19, E19, A19, st19⟩ := newP X0 hx hZ (hw _ (List.mem_of_getElem? (i := 1) rfl)) e0 (g := (mkF m 44 #[.val (.int p1), .val (.int p2), .val (.int p3), .val (.int p4), .val (.int p5), .val (.int (Int32.ofNat pA)), .val (.int (1 : Int32)), .val (.int c1), .val (.int c2), .val (.int c3), .unset, .unset, .unset, .unset] [(.int (1 : Int32))])) rfl (hb hby at_44) rfl (by decide) (cap := 1) (by decide) (by decide) (by decide) (by decide)
    obtain ⟨b19, gb19⟩ : ∃ z, z = h0.size := ⟨_, rfl⟩
    rw [← gb19] at A19 st19
    have g_b19 : n0 ≤ b19 := Nat.le_trans Z0 (Nat.le_of_eq gb19.symm)
    have Zs19 : n0 ≤ h19.size := Nat.le_trans Z0 E19.1
    have sz_b19 : h0.size ≤ b19 := Nat.le_trans (Keep.refl h0 []).1 (Nat.le_of_eq gb19.symm)
    have Kp19 : Keep h0 h19 [] := (Keep.refl h0 []).ext E19
    have Ft0 : own_A Z h19 b19 .byte 1 (fun _ => 0) := own_A_new A19 rfl rfl
    have pre20 : ∀ t, Steps p.tables e below (T19.setTop (mkF m 50 #[.val (.int p1), .val (.int p2), .val (.int p3), .val (.int p4), .val (.int p5), .val (.int (Int32.ofNat pA)), .val (.int (1 : Int32)), .val (.int c1), .val (.int c2), .val (.int c3), .unset, .unset, .unset, .unset] [(.int c1), (.int (0 : Int32)), (.ref b19), (.ref b19)])) t → Steps p.tables e below _ t := fun t kt => pre18 t (by
      show Steps p.tables e below (s₁.setTop (mkF m 44 #[.val (.int p1), .val (.int p2), .val (.int p3), .val (.int p4), .val (.int p5), .val (.int (Int32.ofNat pA)), .val (.int (1 : Int32)), .val (.int c1), .val (.int c2), .val (.int c3), .unset, .unset, .unset, .unset] [(.int (1 : Int32))])) _
      refine st19 _ ?_
      show Steps p.tables e below (T19.setTop (mkF m 46 #[.val (.int p1), .val (.int p2), .val (.int p3), .val (.int p4), .val (.int p5), .val (.int (Int32.ofNat pA)), .val (.int (1 : Int32)), .val (.int c1), .val (.int c2), .val (.int c3), .unset, .unset, .unset, .unset] [(.ref b19)])) _
      refine XS.dup X19.here hx rfl (hb hby at_46) rfl rfl ?_
      show Steps p.tables e below (T19.setTop (mkF m 47 #[.val (.int p1), .val (.int p2), .val (.int p3), .val (.int p4), .val (.int p5), .val (.int (Int32.ofNat pA)), .val (.int (1 : Int32)), .val (.int c1), .val (.int c2), .val (.int c3), .unset, .unset, .unset, .unset] [(.ref b19), (.ref b19)])) _
      refine XS.iconst X19.here hx rfl (hb hby at_47) ?_
      show Steps p.tables e below (T19.setTop (mkF m 48 #[.val (.int p1), .val (.int p2), .val (.int p3), .val (.int p4), .val (.int p5), .val (.int (Int32.ofNat pA)), .val (.int (1 : Int32)), .val (.int c1), .val (.int c2), .val (.int c3), .unset, .unset, .unset, .unset] [(.int (0 : Int32)), (.ref b19), (.ref b19)])) _
      refine XS.iload X19.here hx rfl (hb hby at_48) rfl ?_
      exact kt)
    obtain ⟨cl0, Ar0, Sz0, Hf0⟩ := id Ft0
    obtain ⟨T21, h21, X21, e21, W21, st21⟩ := stB X19 hx hZ e19 Ar0 (j := (0 : Int32)) (within (c := 0) rfl (by omega) (by omega)) (g := (mkF m 50 #[.val (.int p1), .val (.int p2), .val (.int p3), .val (.int p4), .val (.int p5), .val (.int (Int32.ofNat pA)), .val (.int (1 : Int32)), .val (.int c1), .val (.int c2), .val (.int c3), .unset, .unset, .unset, .unset] [(.int c1), (.int (0 : Int32)), (.ref b19), (.ref b19)])) rfl rfl (hb hby at_50)
    have N21 := Fr.snoc X21 N0 g_b19
    have Zs21 : n0 ≤ h21.size := Nat.le_trans Zs19 (Nat.le_of_eq W21.size.symm)
    have Kp21 : Keep h0 h21 [] := Kp19.wr W21 (Or.inr sz_b19)
    have Vt0 : Wr h19 h21 b19 0 (.int c1) := by have z' := W21; rw [hbc1] at z'; exact z'
    have Ft1 := own_A_set Ft0 Vt0
    have pre22 : ∀ t, Steps p.tables e below (T21.setTop (mkF m 98 #[.val (.int p1), .val (.int p2), .val (.int p3), .val (.int p4), .val (.int p5), .val (.int (Int32.ofNat pA)), .val (.int (1 : Int32)), .val (.int c1), .val (.int c2), .val (.int c3), .val (.ref b19), .unset, .unset, .unset] [(.int (24 : Int32))])) t → Steps p.tables e below _ t := fun t kt => pre20 t (by
      show Steps p.tables e below (T19.setTop (mkF m 50 #[.val (.int p1), .val (.int p2), .val (.int p3), .val (.int p4), .val (.int p5), .val (.int (Int32.ofNat pA)), .val (.int (1 : Int32)), .val (.int c1), .val (.int c2), .val (.int c3), .unset, .unset, .unset, .unset] [(.int c1), (.int (0 : Int32)), (.ref b19), (.ref b19)])) _
      refine st21 _ ?_
      show Steps p.tables e below (T21.setTop (mkF m 51 #[.val (.int p1), .val (.int p2), .val (.int p3), .val (.int p4), .val (.int p5), .val (.int (Int32.ofNat pA)), .val (.int (1 : Int32)), .val (.int c1), .val (.int c2), .val (.int c3), .unset, .unset, .unset, .unset] [(.ref b19)])) _
      refine XS.goto X21.here hx rfl (pc0 := 51) (pc' := 94) rfl (hb hby at_51) (by decide) (by decide) ?_
      show Steps p.tables e below (T21.setTop (mkF m 94 #[.val (.int p1), .val (.int p2), .val (.int p3), .val (.int p4), .val (.int p5), .val (.int (Int32.ofNat pA)), .val (.int (1 : Int32)), .val (.int c1), .val (.int c2), .val (.int c3), .unset, .unset, .unset, .unset] [(.ref b19)])) _
      refine XS.astore X21.here hx rfl (hb hby at_94) rfl rfl (l' := #[.val (.int p1), .val (.int p2), .val (.int p3), .val (.int p4), .val (.int p5), .val (.int (Int32.ofNat pA)), .val (.int (1 : Int32)), .val (.int c1), .val (.int c2), .val (.int c3), .val (.ref b19), .unset, .unset, .unset]) rfl ?_
      show Steps p.tables e below (T21.setTop (mkF m 96 #[.val (.int p1), .val (.int p2), .val (.int p3), .val (.int p4), .val (.int p5), .val (.int (Int32.ofNat pA)), .val (.int (1 : Int32)), .val (.int c1), .val (.int c2), .val (.int c3), .val (.ref b19), .unset, .unset, .unset] [])) _
      refine XS.bipush X21.here hx rfl (hb hby at_96) ?_
      exact kt)
    obtain ⟨g, hg⟩ : ∃ g : Nat → Int32, g = (upd (fun _ => 0) 0 c1) := ⟨_, rfl⟩
    have Ft : own_A Z h21 b19 .byte 1 g := by rw [hg]; exact Ft1
    have G0 : g 0 = c1 := by rw [hg]; rfl
    obtain ⟨T23, h23, k23, X23, e23, E23, A23, st23⟩ := newP X21 hx hZ (hw _ (List.mem_of_getElem? (i := 1) rfl)) e21 (g := (mkF m 98 #[.val (.int p1), .val (.int p2), .val (.int p3), .val (.int p4), .val (.int p5), .val (.int (Int32.ofNat pA)), .val (.int (1 : Int32)), .val (.int c1), .val (.int c2), .val (.int c3), .val (.ref b19), .unset, .unset, .unset] [(.int (24 : Int32))])) rfl (hb hby at_98) rfl (by decide) (cap := 24) (by decide) (by decide) (by decide) (by decide)
    obtain ⟨b23, gb23⟩ : ∃ z, z = h21.size := ⟨_, rfl⟩
    rw [← gb23] at A23 st23
    have g_b23 : n0 ≤ b23 := Nat.le_trans Zs21 (Nat.le_of_eq gb23.symm)
    have Zs23 : n0 ≤ h23.size := Nat.le_trans Zs21 E23.1
    have sz_b23 : h0.size ≤ b23 := Nat.le_trans Kp21.1 (Nat.le_of_eq gb23.symm)
    have Kp23 : Keep h0 h23 [] := Kp21.ext E23
    have Fo : own_A Z h23 b23 .byte 24 (fun _ => 0) := own_A_new A23 rfl rfl
    have neT : b19 ≠ b23 := by have q := own_A_lt Ft; rw [gb23]; exact Nat.ne_of_lt q
    have Ftx := own_A_ext Ft E23
    have neX : hxa ≠ b23 := by have q := own_A_lt AH; exact Nat.ne_of_lt (Nat.lt_of_lt_of_le q sz_b23)
    have AHx := own_A_keep AH Kp23 nin0
    have SHx := own_Sta_keep SH Kp23
    have hby_ : ∀ i, i < 1 → nar .byte (g i) = g i := by
      intro i hi
      have hi' : i = 0 := by omega
      rcases hi' with rfl
      · rw [G0]; exact hbc1
    have pre24 : ∀ t, Steps p.tables e below (T23.setTop (mkF m 108 #[.val (.int p1), .val (.int p2), .val (.int p3), .val (.int p4), .val (.int p5), .val (.int (Int32.ofNat pA)), .val (.int (1 : Int32)), .val (.int c1), .val (.int c2), .val (.int c3), .val (.ref b19), .val (.ref b23), .unset, .unset] [(.int (Int32.ofNat pA)), (.ref b23), (.ref b19)])) t → Steps p.tables e below _ t := fun t kt => pre22 t (by
      show Steps p.tables e below (T21.setTop (mkF m 98 #[.val (.int p1), .val (.int p2), .val (.int p3), .val (.int p4), .val (.int p5), .val (.int (Int32.ofNat pA)), .val (.int (1 : Int32)), .val (.int c1), .val (.int c2), .val (.int c3), .val (.ref b19), .unset, .unset, .unset] [(.int (24 : Int32))])) _
      refine st23 _ ?_
      show Steps p.tables e below (T23.setTop (mkF m 100 #[.val (.int p1), .val (.int p2), .val (.int p3), .val (.int p4), .val (.int p5), .val (.int (Int32.ofNat pA)), .val (.int (1 : Int32)), .val (.int c1), .val (.int c2), .val (.int c3), .val (.ref b19), .unset, .unset, .unset] [(.ref b23)])) _
      refine XS.astore X23.here hx rfl (hb hby at_100) rfl rfl (l' := #[.val (.int p1), .val (.int p2), .val (.int p3), .val (.int p4), .val (.int p5), .val (.int (Int32.ofNat pA)), .val (.int (1 : Int32)), .val (.int c1), .val (.int c2), .val (.int c3), .val (.ref b19), .val (.ref b23), .unset, .unset]) rfl ?_
      show Steps p.tables e below (T23.setTop (mkF m 102 #[.val (.int p1), .val (.int p2), .val (.int p3), .val (.int p4), .val (.int p5), .val (.int (Int32.ofNat pA)), .val (.int (1 : Int32)), .val (.int c1), .val (.int c2), .val (.int c3), .val (.ref b19), .val (.ref b23), .unset, .unset] [])) _
      refine XS.aload X23.here hx rfl (hb hby at_102) rfl rfl ?_
      show Steps p.tables e below (T23.setTop (mkF m 104 #[.val (.int p1), .val (.int p2), .val (.int p3), .val (.int p4), .val (.int p5), .val (.int (Int32.ofNat pA)), .val (.int (1 : Int32)), .val (.int c1), .val (.int c2), .val (.int c3), .val (.ref b19), .val (.ref b23), .unset, .unset] [(.ref b19)])) _
      refine XS.aload X23.here hx rfl (hb hby at_104) rfl rfl ?_
      show Steps p.tables e below (T23.setTop (mkF m 106 #[.val (.int p1), .val (.int p2), .val (.int p3), .val (.int p4), .val (.int p5), .val (.int (Int32.ofNat pA)), .val (.int (1 : Int32)), .val (.int c1), .val (.int c2), .val (.int c3), .val (.ref b19), .val (.ref b23), .unset, .unset] [(.ref b23), (.ref b19)])) _
      refine XS.iload X23.here hx rfl (hb hby at_106) rfl ?_
      exact kt)
    obtain ⟨_, _, ⟨T25, L25, k25, n25⟩, -, X25, ⟨Lc25, hQ25, l25, y25, z25⟩, st25⟩ := Jvm.LawKit.callS X23 hx (y := (⟨"com/example/windrow/windrow/cli/Json", "write", "([B[BI)I"⟩ : MethodName)) hown (mvT hZ (hw _ (List.mem_of_getElem? (i := 2) rfl))) (mvT hZ (hw _ (List.mem_of_getElem? (i := 3) rfl))) (mvT hZ (hw _ (List.mem_of_getElem? (i := 4) rfl))) (mvT hZ (hw _ (List.mem_of_getElem? (i := 5) rfl))) (by decide) (backOf (W := 0) (rm1 l Z a0 hw [] b19 b23 hxa pA 1 24 (fun _ => 0) g h23 n0 Zs23 Ftx Fo SHx AHx neT neX g_b23 (by decide) (by decide) (by omega) hby_) hZ (hw _ (List.mem_of_getElem? (i := 5) rfl)) (hw _ (List.mem_of_getElem? (i := 4) rfl)) (by decide) (by decide)) (g := (mkF m 108 #[.val (.int p1), .val (.int p2), .val (.int p3), .val (.int p4), .val (.int p5), .val (.int (Int32.ofNat pA)), .val (.int (1 : Int32)), .val (.int c1), .val (.int c2), .val (.int c3), .val (.ref b19), .val (.ref b23), .unset, .unset] [(.int (Int32.ofNat pA)), (.ref b23), (.ref b19)])) rfl (by rw [hml]; rfl) (argsL := [(.ref b19), (.ref b23), (.int (Int32.ofNat pA))]) (rest := []) (lenOf pd_0 rfl) rfl (by show 2 * 0 + _ ≤ _; exact Nat.le_of_eq rfl) (hb hby at_108) (fun _ _ => ⟨rfl, e23, (by decide : 2 + 0 ≤ _), (by decide : 25 + 0 ≤ _)⟩)
    dsimp only [Pt.U, Pt.locs, Pt.cells, Pt.slots] at X25 l25 y25 z25 st25 hQ25
    subst l25 y25 z25
    obtain ⟨rfl, N25q, Kw, Fw⟩ := hQ25
    have N25 := Fr.app N21 N25q
    have Zw : n0 ≤ T25.heap.size := Nat.le_trans Zs23 Kw.1
    obtain ⟨L0, hL0⟩ : ∃ z, z = (own_encs g 1).length := ⟨_, rfl⟩
    have bL : L0 ≤ 18 := by have := own_encs_len g 1; omega
    obtain ⟨ff, hff⟩ : ∃ z : Nat → Int32, z = upd (own_wr (upd (fun _ => 0) pA 34) (pA + 1) (own_encs g 1)) (pA + 1 + (own_encs g 1).length) 34 := ⟨_, rfl⟩
    rw [← hff] at Fw
    have el0 := (own_enc_len c1)
    have hE : own_encs g 1 = own_enc c1 := by
      simp only [own_encs, G0, List.nil_append]
    have hLs : L0 = (own_enc c1).length := by
      rw [hL0, hE]
    have e0_ : ff pA = (34 : Int32) := by rw [hff, own_upd_ne _ _ (by omega), own_wr_lt _ _ _ _ (by omega), own_upd_same]
    have mt0 : ∀ j, j < (own_enc c1).length → ff (pA + 1 + j) = (own_enc c1).getD j 0 := by
      intro j hj
      have q1 : own_encs g 1 = (([] : List Int32)) ++ (own_enc c1) ++ ([]) := by rw [hE]; simp only [List.nil_append, List.append_nil, List.append_assoc]
      have q2 := own_wr_mid (upd (fun _ => 0) pA 34) (pA + 1) q1 j hj
      have q3 : pA + 1 + (([] : List Int32)).length + j = pA + 1 + j := by (simp only [List.nil_append, List.length_append, List.length_nil]) <;> omega
      rw [q3] at q2
      rw [hff, own_upd_ne _ _ (by omega)]; exact q2
    have hpe : pA + 1 + L0 = pA + 1 + (own_enc c1).length := by omega
    have e1_ : ff (pA + 1 + (own_enc c1).length) = (34 : Int32) := by rw [← hpe, hff, hL0, own_upd_same]
    have e2_ : ff (pA + 1 + L0 + 1) = (0 : Int32) := by rw [hff, own_upd_ne _ _ (by omega), own_wr_ge _ _ _ _ (by omega), own_upd_ne _ _ (by omega)]
    have e3_ : ∀ j, j < pA → ff j = (0 : Int32) := fun j hj => by rw [hff, own_upd_ne _ _ (by omega), own_wr_lt _ _ _ _ (by omega), own_upd_ne _ _ (by omega)]
    obtain ⟨clO, ArO, SzO, HfO⟩ := id Fw
    have pre26 : ∀ t, Steps p.tables e below (T25.setTop (mkF m 111 #[.val (.int p1), .val (.int p2), .val (.int p3), .val (.int p4), .val (.int p5), .val (.int (Int32.ofNat pA)), .val (.int (1 : Int32)), .val (.int c1), .val (.int c2), .val (.int c3), .val (.ref b19), .val (.ref b23), .unset, .unset] [(.int (Int32.ofNat (pA + 1 + (own_encs g 1).length + 1)))])) t → Steps p.tables e below _ t := fun t kt => pre24 t (by
      show Steps p.tables e below (T23.setTop (mkF m 108 #[.val (.int p1), .val (.int p2), .val (.int p3), .val (.int p4), .val (.int p5), .val (.int (Int32.ofNat pA)), .val (.int (1 : Int32)), .val (.int c1), .val (.int c2), .val (.int c3), .val (.ref b19), .val (.ref b23), .unset, .unset] [(.int (Int32.ofNat pA)), (.ref b23), (.ref b19)])) _
      refine st25 _ ?_
      exact kt)
    have hv27 : (own_encs g 1).length = L0 := hL0.symm
    rw [hv27] at pre26
    have pre28 : ∀ t, Steps p.tables e below (T25.setTop (mkF m 131 #[.val (.int p1), .val (.int p2), .val (.int p3), .val (.int p4), .val (.int p5), .val (.int (Int32.ofNat pA)), .val (.int (1 : Int32)), .val (.int c1), .val (.int c2), .val (.int c3), .val (.ref b19), .val (.ref b23), .val (.int (Int32.ofNat (pA + 1 + L0 + 1))), .unset] [(.int ((Int32.ofNat pA) + (1 : Int32)))])) t → Steps p.tables e below _ t := fun t kt => pre26 t (by
      show Steps p.tables e below (T25.setTop (mkF m 111 #[.val (.int p1), .val (.int p2), .val (.int p3), .val (.int p4), .val (.int p5), .val (.int (Int32.ofNat pA)), .val (.int (1 : Int32)), .val (.int c1), .val (.int c2), .val (.int c3), .val (.ref b19), .val (.ref b23), .unset, .unset] [(.int (Int32.ofNat (pA + 1 + L0 + 1)))])) _
      refine XS.istore X25.here hx rfl (hb hby at_111) rfl (l' := #[.val (.int p1), .val (.int p2), .val (.int p3), .val (.int p4), .val (.int p5), .val (.int (Int32.ofNat pA)), .val (.int (1 : Int32)), .val (.int c1), .val (.int c2), .val (.int c3), .val (.ref b19), .val (.ref b23), .val (.int (Int32.ofNat (pA + 1 + L0 + 1))), .unset]) rfl ?_
      show Steps p.tables e below (T25.setTop (mkF m 113 #[.val (.int p1), .val (.int p2), .val (.int p3), .val (.int p4), .val (.int p5), .val (.int (Int32.ofNat pA)), .val (.int (1 : Int32)), .val (.int c1), .val (.int c2), .val (.int c3), .val (.ref b19), .val (.ref b23), .val (.int (Int32.ofNat (pA + 1 + L0 + 1))), .unset] [])) _
      refine XS.aload X25.here hx rfl (hb hby at_113) rfl rfl ?_
      show Steps p.tables e below (T25.setTop (mkF m 115 #[.val (.int p1), .val (.int p2), .val (.int p3), .val (.int p4), .val (.int p5), .val (.int (Int32.ofNat pA)), .val (.int (1 : Int32)), .val (.int c1), .val (.int c2), .val (.int c3), .val (.ref b19), .val (.ref b23), .val (.int (Int32.ofNat (pA + 1 + L0 + 1))), .unset] [(.ref b23)])) _
      refine XS.iload X25.here hx rfl (hb hby at_115) rfl ?_
      show Steps p.tables e below (T25.setTop (mkF m 117 #[.val (.int p1), .val (.int p2), .val (.int p3), .val (.int p4), .val (.int p5), .val (.int (Int32.ofNat pA)), .val (.int (1 : Int32)), .val (.int c1), .val (.int c2), .val (.int c3), .val (.ref b19), .val (.ref b23), .val (.int (Int32.ofNat (pA + 1 + L0 + 1))), .unset] [(.int (Int32.ofNat pA)), (.ref b23)])) _
      refine X25.baloadBytes hx (j := (Int32.ofNat pA)) (v := (.int (ff pA))) ArO.1 (State.isArrayOf_alike hZ.alike ArO.2.1) ArO.2.2 (within (c := pA) rfl (by omega) (by omega)) (by rw [clamp_of (c := pA) rfl (by omega)]; exact HfO _ (by omega)) (g := (mkF m 117 #[.val (.int p1), .val (.int p2), .val (.int p3), .val (.int p4), .val (.int p5), .val (.int (Int32.ofNat pA)), .val (.int (1 : Int32)), .val (.int c1), .val (.int c2), .val (.int c3), .val (.ref b19), .val (.ref b23), .val (.int (Int32.ofNat (pA + 1 + L0 + 1))), .unset] [(.int (Int32.ofNat pA)), (.ref b23)])) rfl rfl (hb hby at_117) _ ?_
      show Steps p.tables e below (T25.setTop (mkF m 118 #[.val (.int p1), .val (.int p2), .val (.int p3), .val (.int p4), .val (.int p5), .val (.int (Int32.ofNat pA)), .val (.int (1 : Int32)), .val (.int c1), .val (.int c2), .val (.int c3), .val (.ref b19), .val (.ref b23), .val (.int (Int32.ofNat (pA + 1 + L0 + 1))), .unset] [(.int (ff pA))])) _
      refine XS.bipush X25.here hx rfl (hb hby at_118) ?_
      have hc120 : (ff pA) = (34 : Int32) := e0_
      show Steps p.tables e below (T25.setTop (mkF m 120 #[.val (.int p1), .val (.int p2), .val (.int p3), .val (.int p4), .val (.int p5), .val (.int (Int32.ofNat pA)), .val (.int (1 : Int32)), .val (.int c1), .val (.int c2), .val (.int c3), .val (.ref b19), .val (.ref b23), .val (.int (Int32.ofNat (pA + 1 + L0 + 1))), .unset] [(.int (34 : Int32)), (.int (ff pA))])) _
      refine XS.icmpNo X25.here hx rfl (hb hby at_120) rfl (teq hc120).2 ?_
      show Steps p.tables e below (T25.setTop (mkF m 123 #[.val (.int p1), .val (.int p2), .val (.int p3), .val (.int p4), .val (.int p5), .val (.int (Int32.ofNat pA)), .val (.int (1 : Int32)), .val (.int c1), .val (.int c2), .val (.int c3), .val (.ref b19), .val (.ref b23), .val (.int (Int32.ofNat (pA + 1 + L0 + 1))), .unset] [])) _
      refine XS.iload X25.here hx rfl (hb hby at_123) rfl ?_
      show Steps p.tables e below (T25.setTop (mkF m 125 #[.val (.int p1), .val (.int p2), .val (.int p3), .val (.int p4), .val (.int p5), .val (.int (Int32.ofNat pA)), .val (.int (1 : Int32)), .val (.int c1), .val (.int c2), .val (.int c3), .val (.ref b19), .val (.ref b23), .val (.int (Int32.ofNat (pA + 1 + L0 + 1))), .unset] [(.int (Int32.ofNat pA))])) _
      refine XS.iconst X25.here hx rfl (hb hby at_125) ?_
      show Steps p.tables e below (T25.setTop (mkF m 126 #[.val (.int p1), .val (.int p2), .val (.int p3), .val (.int p4), .val (.int p5), .val (.int (Int32.ofNat pA)), .val (.int (1 : Int32)), .val (.int c1), .val (.int c2), .val (.int c3), .val (.ref b19), .val (.ref b23), .val (.int (Int32.ofNat (pA + 1 + L0 + 1))), .unset] [(.int (1 : Int32)), (.int (Int32.ofNat pA))])) _
      refine XS.iadd X25.here hx rfl (hb hby at_126) rfl ?_
      show Steps p.tables e below (T25.setTop (mkF m 127 #[.val (.int p1), .val (.int p2), .val (.int p3), .val (.int p4), .val (.int p5), .val (.int (Int32.ofNat pA)), .val (.int (1 : Int32)), .val (.int c1), .val (.int c2), .val (.int c3), .val (.ref b19), .val (.ref b23), .val (.int (Int32.ofNat (pA + 1 + L0 + 1))), .unset] [(.int ((Int32.ofNat pA) + (1 : Int32)))])) _
      refine XS.goto X25.here hx rfl (pc0 := 127) (pc' := 131) rfl (hb hby at_127) (by decide) (by decide) ?_
      exact kt)
    have hv29 : ((Int32.ofNat pA) + (1 : Int32)) = (Int32.ofNat (pA + 1)) := own_add pA 1
    rw [hv29] at pre28
    have pre30 : ∀ t, Steps p.tables e below (T25.setTop (mkF m 149 #[.val (.int p1), .val (.int p2), .val (.int p3), .val (.int p4), .val (.int p5), .val (.int (Int32.ofNat pA)), .val (.int (1 : Int32)), .val (.int c1), .val (.int c2), .val (.int c3), .val (.ref b19), .val (.ref b23), .val (.int (Int32.ofNat (pA + 1 + L0 + 1))), .val (.int (Int32.ofNat (pA + 1)))] [(.int c1), (.int (Int32.ofNat (pA + 1))), (.ref b23)])) t → Steps p.tables e below _ t := fun t kt => pre28 t (by
      show Steps p.tables e below (T25.setTop (mkF m 131 #[.val (.int p1), .val (.int p2), .val (.int p3), .val (.int p4), .val (.int p5), .val (.int (Int32.ofNat pA)), .val (.int (1 : Int32)), .val (.int c1), .val (.int c2), .val (.int c3), .val (.ref b19), .val (.ref b23), .val (.int (Int32.ofNat (pA + 1 + L0 + 1))), .unset] [(.int (Int32.ofNat (pA + 1)))])) _
      refine XS.istore X25.here hx rfl (hb hby at_131) rfl (l' := #[.val (.int p1), .val (.int p2), .val (.int p3), .val (.int p4), .val (.int p5), .val (.int (Int32.ofNat pA)), .val (.int (1 : Int32)), .val (.int c1), .val (.int c2), .val (.int c3), .val (.ref b19), .val (.ref b23), .val (.int (Int32.ofNat (pA + 1 + L0 + 1))), .val (.int (Int32.ofNat (pA + 1)))]) rfl ?_
      show Steps p.tables e below (T25.setTop (mkF m 133 #[.val (.int p1), .val (.int p2), .val (.int p3), .val (.int p4), .val (.int p5), .val (.int (Int32.ofNat pA)), .val (.int (1 : Int32)), .val (.int c1), .val (.int c2), .val (.int c3), .val (.ref b19), .val (.ref b23), .val (.int (Int32.ofNat (pA + 1 + L0 + 1))), .val (.int (Int32.ofNat (pA + 1)))] [])) _
      refine XS.iload X25.here hx rfl (hb hby at_133) rfl ?_
      have hc135 : (0 : Int32) < (1 : Int32) := by decide
      show Steps p.tables e below (T25.setTop (mkF m 135 #[.val (.int p1), .val (.int p2), .val (.int p3), .val (.int p4), .val (.int p5), .val (.int (Int32.ofNat pA)), .val (.int (1 : Int32)), .val (.int c1), .val (.int c2), .val (.int c3), .val (.ref b19), .val (.ref b23), .val (.int (Int32.ofNat (pA + 1 + L0 + 1))), .val (.int (Int32.ofNat (pA + 1)))] [(.int (1 : Int32))])) _
      refine XS.ifNo X25.here hx rfl (hb hby at_135) rfl ((if0 _ _).trans (tlt hc135).2.2.2) ?_
      show Steps p.tables e below (T25.setTop (mkF m 138 #[.val (.int p1), .val (.int p2), .val (.int p3), .val (.int p4), .val (.int p5), .val (.int (Int32.ofNat pA)), .val (.int (1 : Int32)), .val (.int c1), .val (.int c2), .val (.int c3), .val (.ref b19), .val (.ref b23), .val (.int (Int32.ofNat (pA + 1 + L0 + 1))), .val (.int (Int32.ofNat (pA + 1)))] [])) _
      refine XS.iload X25.here hx rfl (hb hby at_138) rfl ?_
      have hc140 : ¬ ((Int32.ofNat (pA + 1)) < (0 : Int32)) := own_nneg (by omega)
      show Steps p.tables e below (T25.setTop (mkF m 140 #[.val (.int p1), .val (.int p2), .val (.int p3), .val (.int p4), .val (.int p5), .val (.int (Int32.ofNat pA)), .val (.int (1 : Int32)), .val (.int c1), .val (.int c2), .val (.int c3), .val (.ref b19), .val (.ref b23), .val (.int (Int32.ofNat (pA + 1 + L0 + 1))), .val (.int (Int32.ofNat (pA + 1)))] [(.int (Int32.ofNat (pA + 1)))])) _
      refine XS.ifNo X25.here hx rfl (hb hby at_140) rfl ((if0 _ _).trans (flt hc140).1) ?_
      show Steps p.tables e below (T25.setTop (mkF m 143 #[.val (.int p1), .val (.int p2), .val (.int p3), .val (.int p4), .val (.int p5), .val (.int (Int32.ofNat pA)), .val (.int (1 : Int32)), .val (.int c1), .val (.int c2), .val (.int c3), .val (.ref b19), .val (.ref b23), .val (.int (Int32.ofNat (pA + 1 + L0 + 1))), .val (.int (Int32.ofNat (pA + 1)))] [])) _
      refine XS.aload X25.here hx rfl (hb hby at_143) rfl rfl ?_
      show Steps p.tables e below (T25.setTop (mkF m 145 #[.val (.int p1), .val (.int p2), .val (.int p3), .val (.int p4), .val (.int p5), .val (.int (Int32.ofNat pA)), .val (.int (1 : Int32)), .val (.int c1), .val (.int c2), .val (.int c3), .val (.ref b19), .val (.ref b23), .val (.int (Int32.ofNat (pA + 1 + L0 + 1))), .val (.int (Int32.ofNat (pA + 1)))] [(.ref b23)])) _
      refine XS.iload X25.here hx rfl (hb hby at_145) rfl ?_
      show Steps p.tables e below (T25.setTop (mkF m 147 #[.val (.int p1), .val (.int p2), .val (.int p3), .val (.int p4), .val (.int p5), .val (.int (Int32.ofNat pA)), .val (.int (1 : Int32)), .val (.int c1), .val (.int c2), .val (.int c3), .val (.ref b19), .val (.ref b23), .val (.int (Int32.ofNat (pA + 1 + L0 + 1))), .val (.int (Int32.ofNat (pA + 1)))] [(.int (Int32.ofNat (pA + 1))), (.ref b23)])) _
      refine XS.iload X25.here hx rfl (hb hby at_147) rfl ?_
      exact kt)
    obtain ⟨_, _, ⟨T31, L31, k31, n31⟩, -, X31, ⟨Lc31, hQ31, l31, y31, z31⟩, st31⟩ := Jvm.LawKit.callS X25 hx (y := (⟨"com/example/windrow/windrow/cli/JsonWritePinLaw", "enc", "([BIB)I"⟩ : MethodName)) hown (mvT hZ (hw _ (List.mem_of_getElem? (i := 8) rfl))) (mvT hZ (hw _ (List.mem_of_getElem? (i := 9) rfl))) (mvT hZ (hw _ (List.mem_of_getElem? (i := 10) rfl))) (mvT hZ (hw _ (List.mem_of_getElem? (i := 11) rfl))) (by decide) (backOf (W := 0) (rm2 l Z a0 hw [] b23 (pA + 1) c1 24 ff T25.heap n0 Zw ⟨clO, ArO, SzO, HfO⟩ (by decide) (by omega) mt0) hZ (hw _ (List.mem_of_getElem? (i := 11) rfl)) (hw _ (List.mem_of_getElem? (i := 10) rfl)) (by decide) (by decide)) (g := (mkF m 149 #[.val (.int p1), .val (.int p2), .val (.int p3), .val (.int p4), .val (.int p5), .val (.int (Int32.ofNat pA)), .val (.int (1 : Int32)), .val (.int c1), .val (.int c2), .val (.int c3), .val (.ref b19), .val (.ref b23), .val (.int (Int32.ofNat (pA + 1 + L0 + 1))), .val (.int (Int32.ofNat (pA + 1)))] [(.int c1), (.int (Int32.ofNat (pA + 1))), (.ref b23)])) rfl (by rw [hml]; rfl) (argsL := [(.ref b23), (.int (Int32.ofNat (pA + 1))), (.int c1)]) (rest := []) (lenOf pd_1 rfl) rfl (by show 2 * 0 + _ ≤ _; exact Nat.le_of_eq rfl) (hb hby at_149) (fun _ _ => ⟨rfl, rfl, (by decide : 2 + 0 ≤ _), (by decide : 25 + 0 ≤ _)⟩)
    dsimp only [Pt.U, Pt.locs, Pt.cells, Pt.slots] at X31 l31 y31 z31 st31 hQ31
    subst l31 y31 z31
    obtain ⟨rfl, N31q, e31⟩ := hQ31
    have N31 := Fr.app N25 N31q
    have pre32 : ∀ t, Steps p.tables e below (T31.setTop (mkF m 250 #[.val (.int p1), .val (.int p2), .val (.int p3), .val (.int p4), .val (.int p5), .val (.int (Int32.ofNat pA)), .val (.int (1 : Int32)), .val (.int c1), .val (.int c2), .val (.int c3), .val (.ref b19), .val (.ref b23), .val (.int (Int32.ofNat (pA + 1 + L0 + 1))), .val (.int (Int32.ofNat (pA + 1 + (own_enc c1).length)))] [(.int (Int32.ofNat pA))])) t → Steps p.tables e below _ t := fun t kt => pre30 t (by
      show Steps p.tables e below (T25.setTop (mkF m 149 #[.val (.int p1), .val (.int p2), .val (.int p3), .val (.int p4), .val (.int p5), .val (.int (Int32.ofNat pA)), .val (.int (1 : Int32)), .val (.int c1), .val (.int c2), .val (.int c3), .val (.ref b19), .val (.ref b23), .val (.int (Int32.ofNat (pA + 1 + L0 + 1))), .val (.int (Int32.ofNat (pA + 1)))] [(.int c1), (.int (Int32.ofNat (pA + 1))), (.ref b23)])) _
      refine st31 _ ?_
      show Steps p.tables e below (T31.setTop (mkF m 152 #[.val (.int p1), .val (.int p2), .val (.int p3), .val (.int p4), .val (.int p5), .val (.int (Int32.ofNat pA)), .val (.int (1 : Int32)), .val (.int c1), .val (.int c2), .val (.int c3), .val (.ref b19), .val (.ref b23), .val (.int (Int32.ofNat (pA + 1 + L0 + 1))), .val (.int (Int32.ofNat (pA + 1)))] [(.int (Int32.ofNat (pA + 1 + (own_enc c1).length)))])) _
      refine XS.istore X31.here hx rfl (hb hby at_152) rfl (l' := #[.val (.int p1), .val (.int p2), .val (.int p3), .val (.int p4), .val (.int p5), .val (.int (Int32.ofNat pA)), .val (.int (1 : Int32)), .val (.int c1), .val (.int c2), .val (.int c3), .val (.ref b19), .val (.ref b23), .val (.int (Int32.ofNat (pA + 1 + L0 + 1))), .val (.int (Int32.ofNat (pA + 1 + (own_enc c1).length)))]) rfl ?_
      show Steps p.tables e below (T31.setTop (mkF m 154 #[.val (.int p1), .val (.int p2), .val (.int p3), .val (.int p4), .val (.int p5), .val (.int (Int32.ofNat pA)), .val (.int (1 : Int32)), .val (.int c1), .val (.int c2), .val (.int c3), .val (.ref b19), .val (.ref b23), .val (.int (Int32.ofNat (pA + 1 + L0 + 1))), .val (.int (Int32.ofNat (pA + 1 + (own_enc c1).length)))] [])) _
      refine XS.iload X31.here hx rfl (hb hby at_154) rfl ?_
      show Steps p.tables e below (T31.setTop (mkF m 156 #[.val (.int p1), .val (.int p2), .val (.int p3), .val (.int p4), .val (.int p5), .val (.int (Int32.ofNat pA)), .val (.int (1 : Int32)), .val (.int c1), .val (.int c2), .val (.int c3), .val (.ref b19), .val (.ref b23), .val (.int (Int32.ofNat (pA + 1 + L0 + 1))), .val (.int (Int32.ofNat (pA + 1 + (own_enc c1).length)))] [(.int (1 : Int32))])) _
      refine XS.iconst X31.here hx rfl (hb hby at_156) ?_
      have hc157 : ¬ ((1 : Int32) < (1 : Int32)) := by decide
      show Steps p.tables e below (T31.setTop (mkF m 157 #[.val (.int p1), .val (.int p2), .val (.int p3), .val (.int p4), .val (.int p5), .val (.int (Int32.ofNat pA)), .val (.int (1 : Int32)), .val (.int c1), .val (.int c2), .val (.int c3), .val (.ref b19), .val (.ref b23), .val (.int (Int32.ofNat (pA + 1 + L0 + 1))), .val (.int (Int32.ofNat (pA + 1 + (own_enc c1).length)))] [(.int (1 : Int32)), (.int (1 : Int32))])) _
      refine XS.icmpYes X31.here hx rfl (pc0 := 157) (pc' := 176) rfl (hb hby at_157) rfl (flt hc157).2.2.2 (by decide) (by decide) ?_
      show Steps p.tables e below (T31.setTop (mkF m 176 #[.val (.int p1), .val (.int p2), .val (.int p3), .val (.int p4), .val (.int p5), .val (.int (Int32.ofNat pA)), .val (.int (1 : Int32)), .val (.int c1), .val (.int c2), .val (.int c3), .val (.ref b19), .val (.ref b23), .val (.int (Int32.ofNat (pA + 1 + L0 + 1))), .val (.int (Int32.ofNat (pA + 1 + (own_enc c1).length)))] [])) _
      refine XS.iload X31.here hx rfl (hb hby at_176) rfl ?_
      show Steps p.tables e below (T31.setTop (mkF m 178 #[.val (.int p1), .val (.int p2), .val (.int p3), .val (.int p4), .val (.int p5), .val (.int (Int32.ofNat pA)), .val (.int (1 : Int32)), .val (.int c1), .val (.int c2), .val (.int c3), .val (.ref b19), .val (.ref b23), .val (.int (Int32.ofNat (pA + 1 + L0 + 1))), .val (.int (Int32.ofNat (pA + 1 + (own_enc c1).length)))] [(.int (1 : Int32))])) _
      refine XS.iconst X31.here hx rfl (hb hby at_178) ?_
      have hc179 : ¬ ((2 : Int32) < (1 : Int32)) := by decide
      show Steps p.tables e below (T31.setTop (mkF m 179 #[.val (.int p1), .val (.int p2), .val (.int p3), .val (.int p4), .val (.int p5), .val (.int (Int32.ofNat pA)), .val (.int (1 : Int32)), .val (.int c1), .val (.int c2), .val (.int c3), .val (.ref b19), .val (.ref b23), .val (.int (Int32.ofNat (pA + 1 + L0 + 1))), .val (.int (Int32.ofNat (pA + 1 + (own_enc c1).length)))] [(.int (2 : Int32)), (.int (1 : Int32))])) _
      refine XS.icmpYes X31.here hx rfl (pc0 := 179) (pc' := 198) rfl (hb hby at_179) rfl (flt hc179).2.2.2 (by decide) (by decide) ?_
      show Steps p.tables e below (T31.setTop (mkF m 198 #[.val (.int p1), .val (.int p2), .val (.int p3), .val (.int p4), .val (.int p5), .val (.int (Int32.ofNat pA)), .val (.int (1 : Int32)), .val (.int c1), .val (.int c2), .val (.int c3), .val (.ref b19), .val (.ref b23), .val (.int (Int32.ofNat (pA + 1 + L0 + 1))), .val (.int (Int32.ofNat (pA + 1 + (own_enc c1).length)))] [])) _
      refine XS.iload X31.here hx rfl (hb hby at_198) rfl ?_
      have hc200 : ¬ ((Int32.ofNat (pA + 1 + (own_enc c1).length)) < (0 : Int32)) := own_nneg (by omega)
      show Steps p.tables e below (T31.setTop (mkF m 200 #[.val (.int p1), .val (.int p2), .val (.int p3), .val (.int p4), .val (.int p5), .val (.int (Int32.ofNat pA)), .val (.int (1 : Int32)), .val (.int c1), .val (.int c2), .val (.int c3), .val (.ref b19), .val (.ref b23), .val (.int (Int32.ofNat (pA + 1 + L0 + 1))), .val (.int (Int32.ofNat (pA + 1 + (own_enc c1).length)))] [(.int (Int32.ofNat (pA + 1 + (own_enc c1).length)))])) _
      refine XS.ifYes X31.here hx rfl (pc0 := 200) (pc' := 205) rfl (hb hby at_200) rfl ((if0 _ _).trans (flt hc200).2.1) (by decide) (by decide) ?_
      show Steps p.tables e below (T31.setTop (mkF m 205 #[.val (.int p1), .val (.int p2), .val (.int p3), .val (.int p4), .val (.int p5), .val (.int (Int32.ofNat pA)), .val (.int (1 : Int32)), .val (.int c1), .val (.int c2), .val (.int c3), .val (.ref b19), .val (.ref b23), .val (.int (Int32.ofNat (pA + 1 + L0 + 1))), .val (.int (Int32.ofNat (pA + 1 + (own_enc c1).length)))] [])) _
      refine XS.aload X31.here hx rfl (hb hby at_205) rfl rfl ?_
      show Steps p.tables e below (T31.setTop (mkF m 207 #[.val (.int p1), .val (.int p2), .val (.int p3), .val (.int p4), .val (.int p5), .val (.int (Int32.ofNat pA)), .val (.int (1 : Int32)), .val (.int c1), .val (.int c2), .val (.int c3), .val (.ref b19), .val (.ref b23), .val (.int (Int32.ofNat (pA + 1 + L0 + 1))), .val (.int (Int32.ofNat (pA + 1 + (own_enc c1).length)))] [(.ref b23)])) _
      refine XS.iload X31.here hx rfl (hb hby at_207) rfl ?_
      show Steps p.tables e below (T31.setTop (mkF m 209 #[.val (.int p1), .val (.int p2), .val (.int p3), .val (.int p4), .val (.int p5), .val (.int (Int32.ofNat pA)), .val (.int (1 : Int32)), .val (.int c1), .val (.int c2), .val (.int c3), .val (.ref b19), .val (.ref b23), .val (.int (Int32.ofNat (pA + 1 + L0 + 1))), .val (.int (Int32.ofNat (pA + 1 + (own_enc c1).length)))] [(.int (Int32.ofNat (pA + 1 + (own_enc c1).length))), (.ref b23)])) _
      refine X31.baloadBytes hx (j := (Int32.ofNat (pA + 1 + (own_enc c1).length))) (v := (.int (ff (pA + 1 + (own_enc c1).length)))) (by rw [e31]; exact ArO.1) (State.isArrayOf_alike hZ.alike ArO.2.1) ArO.2.2 (within (c := (pA + 1 + (own_enc c1).length)) rfl (by omega) (by omega)) (by rw [clamp_of (c := (pA + 1 + (own_enc c1).length)) rfl (by omega)]; exact HfO _ (by omega)) (g := (mkF m 209 #[.val (.int p1), .val (.int p2), .val (.int p3), .val (.int p4), .val (.int p5), .val (.int (Int32.ofNat pA)), .val (.int (1 : Int32)), .val (.int c1), .val (.int c2), .val (.int c3), .val (.ref b19), .val (.ref b23), .val (.int (Int32.ofNat (pA + 1 + L0 + 1))), .val (.int (Int32.ofNat (pA + 1 + (own_enc c1).length)))] [(.int (Int32.ofNat (pA + 1 + (own_enc c1).length))), (.ref b23)])) rfl rfl (hb hby at_209) _ ?_
      show Steps p.tables e below (T31.setTop (mkF m 210 #[.val (.int p1), .val (.int p2), .val (.int p3), .val (.int p4), .val (.int p5), .val (.int (Int32.ofNat pA)), .val (.int (1 : Int32)), .val (.int c1), .val (.int c2), .val (.int c3), .val (.ref b19), .val (.ref b23), .val (.int (Int32.ofNat (pA + 1 + L0 + 1))), .val (.int (Int32.ofNat (pA + 1 + (own_enc c1).length)))] [(.int (ff (pA + 1 + (own_enc c1).length)))])) _
      refine XS.bipush X31.here hx rfl (hb hby at_210) ?_
      have hc212 : (ff (pA + 1 + (own_enc c1).length)) = (34 : Int32) := e1_
      show Steps p.tables e below (T31.setTop (mkF m 212 #[.val (.int p1), .val (.int p2), .val (.int p3), .val (.int p4), .val (.int p5), .val (.int (Int32.ofNat pA)), .val (.int (1 : Int32)), .val (.int c1), .val (.int c2), .val (.int c3), .val (.ref b19), .val (.ref b23), .val (.int (Int32.ofNat (pA + 1 + L0 + 1))), .val (.int (Int32.ofNat (pA + 1 + (own_enc c1).length)))] [(.int (34 : Int32)), (.int (ff (pA + 1 + (own_enc c1).length)))])) _
      refine XS.icmpNo X31.here hx rfl (hb hby at_212) rfl (teq hc212).2 ?_
      show Steps p.tables e below (T31.setTop (mkF m 215 #[.val (.int p1), .val (.int p2), .val (.int p3), .val (.int p4), .val (.int p5), .val (.int (Int32.ofNat pA)), .val (.int (1 : Int32)), .val (.int c1), .val (.int c2), .val (.int c3), .val (.ref b19), .val (.ref b23), .val (.int (Int32.ofNat (pA + 1 + L0 + 1))), .val (.int (Int32.ofNat (pA + 1 + (own_enc c1).length)))] [])) _
      refine XS.iload X31.here hx rfl (hb hby at_215) rfl ?_
      show Steps p.tables e below (T31.setTop (mkF m 217 #[.val (.int p1), .val (.int p2), .val (.int p3), .val (.int p4), .val (.int p5), .val (.int (Int32.ofNat pA)), .val (.int (1 : Int32)), .val (.int c1), .val (.int c2), .val (.int c3), .val (.ref b19), .val (.ref b23), .val (.int (Int32.ofNat (pA + 1 + L0 + 1))), .val (.int (Int32.ofNat (pA + 1 + (own_enc c1).length)))] [(.int (Int32.ofNat (pA + 1 + L0 + 1)))])) _
      refine XS.iload X31.here hx rfl (hb hby at_217) rfl ?_
      show Steps p.tables e below (T31.setTop (mkF m 219 #[.val (.int p1), .val (.int p2), .val (.int p3), .val (.int p4), .val (.int p5), .val (.int (Int32.ofNat pA)), .val (.int (1 : Int32)), .val (.int c1), .val (.int c2), .val (.int c3), .val (.ref b19), .val (.ref b23), .val (.int (Int32.ofNat (pA + 1 + L0 + 1))), .val (.int (Int32.ofNat (pA + 1 + (own_enc c1).length)))] [(.int (Int32.ofNat (pA + 1 + (own_enc c1).length))), (.int (Int32.ofNat (pA + 1 + L0 + 1)))])) _
      refine XS.iconst X31.here hx rfl (hb hby at_219) ?_
      show Steps p.tables e below (T31.setTop (mkF m 220 #[.val (.int p1), .val (.int p2), .val (.int p3), .val (.int p4), .val (.int p5), .val (.int (Int32.ofNat pA)), .val (.int (1 : Int32)), .val (.int c1), .val (.int c2), .val (.int c3), .val (.ref b19), .val (.ref b23), .val (.int (Int32.ofNat (pA + 1 + L0 + 1))), .val (.int (Int32.ofNat (pA + 1 + (own_enc c1).length)))] [(.int (1 : Int32)), (.int (Int32.ofNat (pA + 1 + (own_enc c1).length))), (.int (Int32.ofNat (pA + 1 + L0 + 1)))])) _
      refine XS.iadd X31.here hx rfl (hb hby at_220) rfl ?_
      have hc221 : (Int32.ofNat (pA + 1 + L0 + 1)) = ((Int32.ofNat (pA + 1 + (own_enc c1).length)) + (1 : Int32)) := by rw [hpe]; exact (own_add (pA + 1 + (own_enc c1).length) 1).symm
      show Steps p.tables e below (T31.setTop (mkF m 221 #[.val (.int p1), .val (.int p2), .val (.int p3), .val (.int p4), .val (.int p5), .val (.int (Int32.ofNat pA)), .val (.int (1 : Int32)), .val (.int c1), .val (.int c2), .val (.int c3), .val (.ref b19), .val (.ref b23), .val (.int (Int32.ofNat (pA + 1 + L0 + 1))), .val (.int (Int32.ofNat (pA + 1 + (own_enc c1).length)))] [(.int ((Int32.ofNat (pA + 1 + (own_enc c1).length)) + (1 : Int32))), (.int (Int32.ofNat (pA + 1 + L0 + 1)))])) _
      refine XS.icmpNo X31.here hx rfl (hb hby at_221) rfl (teq hc221).2 ?_
      show Steps p.tables e below (T31.setTop (mkF m 224 #[.val (.int p1), .val (.int p2), .val (.int p3), .val (.int p4), .val (.int p5), .val (.int (Int32.ofNat pA)), .val (.int (1 : Int32)), .val (.int c1), .val (.int c2), .val (.int c3), .val (.ref b19), .val (.ref b23), .val (.int (Int32.ofNat (pA + 1 + L0 + 1))), .val (.int (Int32.ofNat (pA + 1 + (own_enc c1).length)))] [])) _
      refine XS.iload X31.here hx rfl (hb hby at_224) rfl ?_
      have hc226 : ¬ ((Int32.ofNat (pA + 1 + L0 + 1)) < (0 : Int32)) := own_nneg (by omega)
      show Steps p.tables e below (T31.setTop (mkF m 226 #[.val (.int p1), .val (.int p2), .val (.int p3), .val (.int p4), .val (.int p5), .val (.int (Int32.ofNat pA)), .val (.int (1 : Int32)), .val (.int c1), .val (.int c2), .val (.int c3), .val (.ref b19), .val (.ref b23), .val (.int (Int32.ofNat (pA + 1 + L0 + 1))), .val (.int (Int32.ofNat (pA + 1 + (own_enc c1).length)))] [(.int (Int32.ofNat (pA + 1 + L0 + 1)))])) _
      refine XS.ifNo X31.here hx rfl (hb hby at_226) rfl ((if0 _ _).trans (flt hc226).1) ?_
      show Steps p.tables e below (T31.setTop (mkF m 229 #[.val (.int p1), .val (.int p2), .val (.int p3), .val (.int p4), .val (.int p5), .val (.int (Int32.ofNat pA)), .val (.int (1 : Int32)), .val (.int c1), .val (.int c2), .val (.int c3), .val (.ref b19), .val (.ref b23), .val (.int (Int32.ofNat (pA + 1 + L0 + 1))), .val (.int (Int32.ofNat (pA + 1 + (own_enc c1).length)))] [])) _
      refine XS.iload X31.here hx rfl (hb hby at_229) rfl ?_
      show Steps p.tables e below (T31.setTop (mkF m 231 #[.val (.int p1), .val (.int p2), .val (.int p3), .val (.int p4), .val (.int p5), .val (.int (Int32.ofNat pA)), .val (.int (1 : Int32)), .val (.int c1), .val (.int c2), .val (.int c3), .val (.ref b19), .val (.ref b23), .val (.int (Int32.ofNat (pA + 1 + L0 + 1))), .val (.int (Int32.ofNat (pA + 1 + (own_enc c1).length)))] [(.int (Int32.ofNat (pA + 1 + L0 + 1)))])) _
      refine XS.bipush X31.here hx rfl (hb hby at_231) ?_
      have hc233 : (Int32.ofNat (pA + 1 + L0 + 1)) < (24 : Int32) := own_lt (n := 24) (by omega) (by decide)
      show Steps p.tables e below (T31.setTop (mkF m 233 #[.val (.int p1), .val (.int p2), .val (.int p3), .val (.int p4), .val (.int p5), .val (.int (Int32.ofNat pA)), .val (.int (1 : Int32)), .val (.int c1), .val (.int c2), .val (.int c3), .val (.ref b19), .val (.ref b23), .val (.int (Int32.ofNat (pA + 1 + L0 + 1))), .val (.int (Int32.ofNat (pA + 1 + (own_enc c1).length)))] [(.int (24 : Int32)), (.int (Int32.ofNat (pA + 1 + L0 + 1)))])) _
      refine XS.icmpYes X31.here hx rfl (pc0 := 233) (pc' := 238) rfl (hb hby at_233) rfl (tlt hc233).1 (by decide) (by decide) ?_
      show Steps p.tables e below (T31.setTop (mkF m 238 #[.val (.int p1), .val (.int p2), .val (.int p3), .val (.int p4), .val (.int p5), .val (.int (Int32.ofNat pA)), .val (.int (1 : Int32)), .val (.int c1), .val (.int c2), .val (.int c3), .val (.ref b19), .val (.ref b23), .val (.int (Int32.ofNat (pA + 1 + L0 + 1))), .val (.int (Int32.ofNat (pA + 1 + (own_enc c1).length)))] [])) _
      refine XS.aload X31.here hx rfl (hb hby at_238) rfl rfl ?_
      show Steps p.tables e below (T31.setTop (mkF m 240 #[.val (.int p1), .val (.int p2), .val (.int p3), .val (.int p4), .val (.int p5), .val (.int (Int32.ofNat pA)), .val (.int (1 : Int32)), .val (.int c1), .val (.int c2), .val (.int c3), .val (.ref b19), .val (.ref b23), .val (.int (Int32.ofNat (pA + 1 + L0 + 1))), .val (.int (Int32.ofNat (pA + 1 + (own_enc c1).length)))] [(.ref b23)])) _
      refine XS.iload X31.here hx rfl (hb hby at_240) rfl ?_
      show Steps p.tables e below (T31.setTop (mkF m 242 #[.val (.int p1), .val (.int p2), .val (.int p3), .val (.int p4), .val (.int p5), .val (.int (Int32.ofNat pA)), .val (.int (1 : Int32)), .val (.int c1), .val (.int c2), .val (.int c3), .val (.ref b19), .val (.ref b23), .val (.int (Int32.ofNat (pA + 1 + L0 + 1))), .val (.int (Int32.ofNat (pA + 1 + (own_enc c1).length)))] [(.int (Int32.ofNat (pA + 1 + L0 + 1))), (.ref b23)])) _
      refine X31.baloadBytes hx (j := (Int32.ofNat (pA + 1 + L0 + 1))) (v := (.int (ff (pA + 1 + L0 + 1)))) (by rw [e31]; exact ArO.1) (State.isArrayOf_alike hZ.alike ArO.2.1) ArO.2.2 (within (c := (pA + 1 + L0 + 1)) rfl (by omega) (by omega)) (by rw [clamp_of (c := (pA + 1 + L0 + 1)) rfl (by omega)]; exact HfO _ (by omega)) (g := (mkF m 242 #[.val (.int p1), .val (.int p2), .val (.int p3), .val (.int p4), .val (.int p5), .val (.int (Int32.ofNat pA)), .val (.int (1 : Int32)), .val (.int c1), .val (.int c2), .val (.int c3), .val (.ref b19), .val (.ref b23), .val (.int (Int32.ofNat (pA + 1 + L0 + 1))), .val (.int (Int32.ofNat (pA + 1 + (own_enc c1).length)))] [(.int (Int32.ofNat (pA + 1 + L0 + 1))), (.ref b23)])) rfl rfl (hb hby at_242) _ ?_
      have hc243 : (ff (pA + 1 + L0 + 1)) = (0 : Int32) := e2_
      show Steps p.tables e below (T31.setTop (mkF m 243 #[.val (.int p1), .val (.int p2), .val (.int p3), .val (.int p4), .val (.int p5), .val (.int (Int32.ofNat pA)), .val (.int (1 : Int32)), .val (.int c1), .val (.int c2), .val (.int c3), .val (.ref b19), .val (.ref b23), .val (.int (Int32.ofNat (pA + 1 + L0 + 1))), .val (.int (Int32.ofNat (pA + 1 + (own_enc c1).length)))] [(.int (ff (pA + 1 + L0 + 1)))])) _
      refine XS.ifYes X31.here hx rfl (pc0 := 243) (pc' := 248) rfl (hb hby at_243) rfl ((if0 _ _).trans (teq hc243).1) (by decide) (by decide) ?_
      show Steps p.tables e below (T31.setTop (mkF m 248 #[.val (.int p1), .val (.int p2), .val (.int p3), .val (.int p4), .val (.int p5), .val (.int (Int32.ofNat pA)), .val (.int (1 : Int32)), .val (.int c1), .val (.int c2), .val (.int c3), .val (.ref b19), .val (.ref b23), .val (.int (Int32.ofNat (pA + 1 + L0 + 1))), .val (.int (Int32.ofNat (pA + 1 + (own_enc c1).length)))] [])) _
      refine XS.iload X31.here hx rfl (hb hby at_248) rfl ?_
      exact kt)
    by_cases hz : pA = 0
    · obtain ⟨fs, hr, hrun, hended, hW, hsame⟩ := X31.leave (v := some (.int (1 : Int32))) (fun h => by rw [Bd.returns] at h; cases h)
      refine ⟨_, _, pre32 _ ?_, hrun, hended, _, _, rfl, ?_, ⟨_, rfl⟩, hW, hsame.mono (by decide) (by decide)⟩
      · have hc250 : (Int32.ofNat pA) = (0 : Int32) := by rw [hz]; rfl
        show Steps p.tables e below (T31.setTop (mkF m 250 #[.val (.int p1), .val (.int p2), .val (.int p3), .val (.int p4), .val (.int p5), .val (.int (Int32.ofNat pA)), .val (.int (1 : Int32)), .val (.int c1), .val (.int c2), .val (.int c3), .val (.ref b19), .val (.ref b23), .val (.int (Int32.ofNat (pA + 1 + L0 + 1))), .val (.int (Int32.ofNat (pA + 1 + (own_enc c1).length)))] [(.int (Int32.ofNat pA))])) _
        refine XS.ifYes X31.here hx rfl (pc0 := 250) (pc' := 263) rfl (hb hby at_250) rfl ((if0 _ _).trans (teq hc250).1) (by decide) (by decide) ?_
        show Steps p.tables e below (T31.setTop (mkF m 263 #[.val (.int p1), .val (.int p2), .val (.int p3), .val (.int p4), .val (.int p5), .val (.int (Int32.ofNat pA)), .val (.int (1 : Int32)), .val (.int c1), .val (.int c2), .val (.int c3), .val (.ref b19), .val (.ref b23), .val (.int (Int32.ofNat (pA + 1 + L0 + 1))), .val (.int (Int32.ofNat (pA + 1 + (own_enc c1).length)))] [])) _
        refine XS.iconst X31.here hx rfl (hb hby at_263) ?_
        show Steps p.tables e below (T31.setTop (mkF m 264 #[.val (.int p1), .val (.int p2), .val (.int p3), .val (.int p4), .val (.int p5), .val (.int (Int32.ofNat pA)), .val (.int (1 : Int32)), .val (.int c1), .val (.int c2), .val (.int c3), .val (.ref b19), .val (.ref b23), .val (.int (Int32.ofNat (pA + 1 + L0 + 1))), .val (.int (Int32.ofNat (pA + 1 + (own_enc c1).length)))] [(.int (1 : Int32))])) _
        refine XS.goto X31.here hx rfl (pc0 := 264) (pc' := 268) rfl (hb hby at_264) (by decide) (by decide) ?_
        show Steps p.tables e below (T31.setTop (mkF m 268 #[.val (.int p1), .val (.int p2), .val (.int p3), .val (.int p4), .val (.int p5), .val (.int (Int32.ofNat pA)), .val (.int (1 : Int32)), .val (.int c1), .val (.int c2), .val (.int c3), .val (.ref b19), .val (.ref b23), .val (.int (Int32.ofNat (pA + 1 + L0 + 1))), .val (.int (Int32.ofNat (pA + 1 + (own_enc c1).length)))] [(.int (1 : Int32))])) _
        exact retN X31 hx (t := .boolean) Bd.returns (by simp) (hb hby at_268) hr
      · exact ⟨rfl, N31⟩
    · have pre33 : ∀ t, Steps p.tables e below (T31.setTop (mkF m 259 #[.val (.int p1), .val (.int p2), .val (.int p3), .val (.int p4), .val (.int p5), .val (.int (Int32.ofNat pA)), .val (.int (1 : Int32)), .val (.int c1), .val (.int c2), .val (.int c3), .val (.ref b19), .val (.ref b23), .val (.int (Int32.ofNat (pA + 1 + L0 + 1))), .val (.int (Int32.ofNat (pA + 1 + (own_enc c1).length)))] [(.int ((Int32.ofNat pA) - (1 : Int32))), (.ref b23)])) t → Steps p.tables e below _ t := fun t kt => pre32 t (by
        have hc250 : ¬ ((Int32.ofNat pA) = (0 : Int32)) := own_ne (n := 0) hz (by omega) (by decide)
        show Steps p.tables e below (T31.setTop (mkF m 250 #[.val (.int p1), .val (.int p2), .val (.int p3), .val (.int p4), .val (.int p5), .val (.int (Int32.ofNat pA)), .val (.int (1 : Int32)), .val (.int c1), .val (.int c2), .val (.int c3), .val (.ref b19), .val (.ref b23), .val (.int (Int32.ofNat (pA + 1 + L0 + 1))), .val (.int (Int32.ofNat (pA + 1 + (own_enc c1).length)))] [(.int (Int32.ofNat pA))])) _
        refine XS.ifNo X31.here hx rfl (hb hby at_250) rfl ((if0 _ _).trans (feq hc250).1) ?_
        show Steps p.tables e below (T31.setTop (mkF m 253 #[.val (.int p1), .val (.int p2), .val (.int p3), .val (.int p4), .val (.int p5), .val (.int (Int32.ofNat pA)), .val (.int (1 : Int32)), .val (.int c1), .val (.int c2), .val (.int c3), .val (.ref b19), .val (.ref b23), .val (.int (Int32.ofNat (pA + 1 + L0 + 1))), .val (.int (Int32.ofNat (pA + 1 + (own_enc c1).length)))] [])) _
        refine XS.aload X31.here hx rfl (hb hby at_253) rfl rfl ?_
        show Steps p.tables e below (T31.setTop (mkF m 255 #[.val (.int p1), .val (.int p2), .val (.int p3), .val (.int p4), .val (.int p5), .val (.int (Int32.ofNat pA)), .val (.int (1 : Int32)), .val (.int c1), .val (.int c2), .val (.int c3), .val (.ref b19), .val (.ref b23), .val (.int (Int32.ofNat (pA + 1 + L0 + 1))), .val (.int (Int32.ofNat (pA + 1 + (own_enc c1).length)))] [(.ref b23)])) _
        refine XS.iload X31.here hx rfl (hb hby at_255) rfl ?_
        show Steps p.tables e below (T31.setTop (mkF m 257 #[.val (.int p1), .val (.int p2), .val (.int p3), .val (.int p4), .val (.int p5), .val (.int (Int32.ofNat pA)), .val (.int (1 : Int32)), .val (.int c1), .val (.int c2), .val (.int c3), .val (.ref b19), .val (.ref b23), .val (.int (Int32.ofNat (pA + 1 + L0 + 1))), .val (.int (Int32.ofNat (pA + 1 + (own_enc c1).length)))] [(.int (Int32.ofNat pA)), (.ref b23)])) _
        refine XS.iconst X31.here hx rfl (hb hby at_257) ?_
        show Steps p.tables e below (T31.setTop (mkF m 258 #[.val (.int p1), .val (.int p2), .val (.int p3), .val (.int p4), .val (.int p5), .val (.int (Int32.ofNat pA)), .val (.int (1 : Int32)), .val (.int c1), .val (.int c2), .val (.int c3), .val (.ref b19), .val (.ref b23), .val (.int (Int32.ofNat (pA + 1 + L0 + 1))), .val (.int (Int32.ofNat (pA + 1 + (own_enc c1).length)))] [(.int (1 : Int32)), (.int (Int32.ofNat pA)), (.ref b23)])) _
        refine XS.isub X31.here hx rfl (hb hby at_258) rfl ?_
        exact kt)
      have hv34 : ((Int32.ofNat pA) - (1 : Int32)) = (Int32.ofNat (pA - 1)) := own_sub (b := 1) (by omega) (by omega)
      rw [hv34] at pre33
      obtain ⟨fs, hr, hrun, hended, hW, hsame⟩ := X31.leave (v := some (.int (1 : Int32))) (fun h => by rw [Bd.returns] at h; cases h)
      refine ⟨_, _, pre33 _ ?_, hrun, hended, _, _, rfl, ?_, ⟨_, rfl⟩, hW, hsame.mono (by decide) (by decide)⟩
      · show Steps p.tables e below (T31.setTop (mkF m 259 #[.val (.int p1), .val (.int p2), .val (.int p3), .val (.int p4), .val (.int p5), .val (.int (Int32.ofNat pA)), .val (.int (1 : Int32)), .val (.int c1), .val (.int c2), .val (.int c3), .val (.ref b19), .val (.ref b23), .val (.int (Int32.ofNat (pA + 1 + L0 + 1))), .val (.int (Int32.ofNat (pA + 1 + (own_enc c1).length)))] [(.int (Int32.ofNat (pA - 1))), (.ref b23)])) _
        refine X31.baloadBytes hx (j := (Int32.ofNat (pA - 1))) (v := (.int (ff (pA - 1)))) (by rw [e31]; exact ArO.1) (State.isArrayOf_alike hZ.alike ArO.2.1) ArO.2.2 (within (c := (pA - 1)) rfl (by omega) (by omega)) (by rw [clamp_of (c := (pA - 1)) rfl (by omega)]; exact HfO _ (by omega)) (g := (mkF m 259 #[.val (.int p1), .val (.int p2), .val (.int p3), .val (.int p4), .val (.int p5), .val (.int (Int32.ofNat pA)), .val (.int (1 : Int32)), .val (.int c1), .val (.int c2), .val (.int c3), .val (.ref b19), .val (.ref b23), .val (.int (Int32.ofNat (pA + 1 + L0 + 1))), .val (.int (Int32.ofNat (pA + 1 + (own_enc c1).length)))] [(.int (Int32.ofNat (pA - 1))), (.ref b23)])) rfl rfl (hb hby at_259) _ ?_
        have hc260 : (ff (pA - 1)) = (0 : Int32) := e3_ _ (by omega)
        show Steps p.tables e below (T31.setTop (mkF m 260 #[.val (.int p1), .val (.int p2), .val (.int p3), .val (.int p4), .val (.int p5), .val (.int (Int32.ofNat pA)), .val (.int (1 : Int32)), .val (.int c1), .val (.int c2), .val (.int c3), .val (.ref b19), .val (.ref b23), .val (.int (Int32.ofNat (pA + 1 + L0 + 1))), .val (.int (Int32.ofNat (pA + 1 + (own_enc c1).length)))] [(.int (ff (pA - 1)))])) _
        refine XS.ifNo X31.here hx rfl (hb hby at_260) rfl ((if0 _ _).trans (teq hc260).2) ?_
        show Steps p.tables e below (T31.setTop (mkF m 263 #[.val (.int p1), .val (.int p2), .val (.int p3), .val (.int p4), .val (.int p5), .val (.int (Int32.ofNat pA)), .val (.int (1 : Int32)), .val (.int c1), .val (.int c2), .val (.int c3), .val (.ref b19), .val (.ref b23), .val (.int (Int32.ofNat (pA + 1 + L0 + 1))), .val (.int (Int32.ofNat (pA + 1 + (own_enc c1).length)))] [])) _
        refine XS.iconst X31.here hx rfl (hb hby at_263) ?_
        show Steps p.tables e below (T31.setTop (mkF m 264 #[.val (.int p1), .val (.int p2), .val (.int p3), .val (.int p4), .val (.int p5), .val (.int (Int32.ofNat pA)), .val (.int (1 : Int32)), .val (.int c1), .val (.int c2), .val (.int c3), .val (.ref b19), .val (.ref b23), .val (.int (Int32.ofNat (pA + 1 + L0 + 1))), .val (.int (Int32.ofNat (pA + 1 + (own_enc c1).length)))] [(.int (1 : Int32))])) _
        refine XS.goto X31.here hx rfl (pc0 := 264) (pc' := 268) rfl (hb hby at_264) (by decide) (by decide) ?_
        show Steps p.tables e below (T31.setTop (mkF m 268 #[.val (.int p1), .val (.int p2), .val (.int p3), .val (.int p4), .val (.int p5), .val (.int (Int32.ofNat pA)), .val (.int (1 : Int32)), .val (.int c1), .val (.int c2), .val (.int c3), .val (.ref b19), .val (.ref b23), .val (.int (Int32.ofNat (pA + 1 + L0 + 1))), .val (.int (Int32.ofNat (pA + 1 + (own_enc c1).length)))] [(.int (1 : Int32))])) _
        exact retN X31 hx (t := .boolean) Bd.returns (by simp) (hb hby at_268) hr
      · exact ⟨rfl, N31⟩
  · have preN : ∀ t, Steps p.tables e below (s₁.setTop (mkF m 26 #[.val (.int p1), .val (.int p2), .val (.int p3), .val (.int p4), .val (.int p5), .val (.int (Int32.ofNat pA)), .val (.int (2 : Int32)), .val (.int c1), .val (.int c2), .val (.int c3), .unset, .unset, .unset, .unset] [])) t → Steps p.tables e below (s₁.setTop (entryFrame m #[(.int p1), (.int p2), (.int p3), (.int p4), (.int p5)] maxLocals)) t := pre3
    have pre35 : ∀ t, Steps p.tables e below (s₁.setTop (mkF m 61 #[.val (.int p1), .val (.int p2), .val (.int p3), .val (.int p4), .val (.int p5), .val (.int (Int32.ofNat pA)), .val (.int (2 : Int32)), .val (.int c1), .val (.int c2), .val (.int c3), .unset, .unset, .unset, .unset] [(.int (2 : Int32))])) t → Steps p.tables e below _ t := fun t kt => preN t (by
      show Steps p.tables e below (s₁.setTop (mkF m 26 #[.val (.int p1), .val (.int p2), .val (.int p3), .val (.int p4), .val (.int p5), .val (.int (Int32.ofNat pA)), .val (.int (2 : Int32)), .val (.int c1), .val (.int c2), .val (.int c3), .unset, .unset, .unset, .unset] [])) _
      refine XS.iload X0.here hx rfl (hb hby at_26) rfl ?_
      have hc28 : ¬ ((2 : Int32) = (0 : Int32)) := by decide
      show Steps p.tables e below (s₁.setTop (mkF m 28 #[.val (.int p1), .val (.int p2), .val (.int p3), .val (.int p4), .val (.int p5), .val (.int (Int32.ofNat pA)), .val (.int (2 : Int32)), .val (.int c1), .val (.int c2), .val (.int c3), .unset, .unset, .unset, .unset] [(.int (2 : Int32))])) _
      refine XS.ifYes X0.here hx rfl (pc0 := 28) (pc' := 37) rfl (hb hby at_28) rfl ((if0 _ _).trans (feq hc28).2) (by decide) (by decide) ?_
      show Steps p.tables e below (s₁.setTop (mkF m 37 #[.val (.int p1), .val (.int p2), .val (.int p3), .val (.int p4), .val (.int p5), .val (.int (Int32.ofNat pA)), .val (.int (2 : Int32)), .val (.int c1), .val (.int c2), .val (.int c3), .unset, .unset, .unset, .unset] [])) _
      refine XS.iload X0.here hx rfl (hb hby at_37) rfl ?_
      show Steps p.tables e below (s₁.setTop (mkF m 39 #[.val (.int p1), .val (.int p2), .val (.int p3), .val (.int p4), .val (.int p5), .val (.int (Int32.ofNat pA)), .val (.int (2 : Int32)), .val (.int c1), .val (.int c2), .val (.int c3), .unset, .unset, .unset, .unset] [(.int (2 : Int32))])) _
      refine XS.iconst X0.here hx rfl (hb hby at_39) ?_
      have hc40 : ¬ ((2 : Int32) = (1 : Int32)) := by decide
      show Steps p.tables e below (s₁.setTop (mkF m 40 #[.val (.int p1), .val (.int p2), .val (.int p3), .val (.int p4), .val (.int p5), .val (.int (Int32.ofNat pA)), .val (.int (2 : Int32)), .val (.int c1), .val (.int c2), .val (.int c3), .unset, .unset, .unset, .unset] [(.int (1 : Int32)), (.int (2 : Int32))])) _
      refine XS.icmpYes X0.here hx rfl (pc0 := 40) (pc' := 54) rfl (hb hby at_40) rfl (feq hc40).2 (by decide) (by decide) ?_
      show Steps p.tables e below (s₁.setTop (mkF m 54 #[.val (.int p1), .val (.int p2), .val (.int p3), .val (.int p4), .val (.int p5), .val (.int (Int32.ofNat pA)), .val (.int (2 : Int32)), .val (.int c1), .val (.int c2), .val (.int c3), .unset, .unset, .unset, .unset] [])) _
      refine XS.iload X0.here hx rfl (hb hby at_54) rfl ?_
      show Steps p.tables e below (s₁.setTop (mkF m 56 #[.val (.int p1), .val (.int p2), .val (.int p3), .val (.int p4), .val (.int p5), .val (.int (Int32.ofNat pA)), .val (.int (2 : Int32)), .val (.int c1), .val (.int c2), .val (.int c3), .unset, .unset, .unset, .unset] [(.int (2 : Int32))])) _
      refine XS.iconst X0.here hx rfl (hb hby at_56) ?_
      have hc57 : (2 : Int32) = (2 : Int32) := rfl
      show Steps p.tables e below (s₁.setTop (mkF m 57 #[.val (.int p1), .val (.int p2), .val (.int p3), .val (.int p4), .val (.int p5), .val (.int (Int32.ofNat pA)), .val (.int (2 : Int32)), .val (.int c1), .val (.int c2), .val (.int c3), .unset, .unset, .unset, .unset] [(.int (2 : Int32)), (.int (2 : Int32))])) _
      refine XS.icmpNo X0.here hx rfl (hb hby at_57) rfl (teq hc57).2 ?_
      show Steps p.tables e below (s₁.setTop (mkF m 60 #[.val (.int p1), .val (.int p2), .val (.int p3), .val (.int p4), .val (.int p5), .val (.int (Int32.ofNat pA)), .val (.int (2 : Int32)), .val (.int c1), .val (.int c2), .val (.int c3), .unset, .unset, .unset, .unset] [])) _
      refine XS.iconst X0.here hx rfl (hb hby at_60) ?_
      exact kt)
    obtain ⟨T36, h36, k36, X36, e36, E36, A36, st36⟩ := newP X0 hx hZ (hw _ (List.mem_of_getElem? (i := 1) rfl)) e0 (g := (mkF m 61 #[.val (.int p1), .val (.int p2), .val (.int p3), .val (.int p4), .val (.int p5), .val (.int (Int32.ofNat pA)), .val (.int (2 : Int32)), .val (.int c1), .val (.int c2), .val (.int c3), .unset, .unset, .unset, .unset] [(.int (2 : Int32))])) rfl (hb hby at_61) rfl (by decide) (cap := 2) (by decide) (by decide) (by decide) (by decide)
    obtain ⟨b36, gb36⟩ : ∃ z, z = h0.size := ⟨_, rfl⟩
    rw [← gb36] at A36 st36
    have g_b36 : n0 ≤ b36 := Nat.le_trans Z0 (Nat.le_of_eq gb36.symm)
    have Zs36 : n0 ≤ h36.size := Nat.le_trans Z0 E36.1
    have sz_b36 : h0.size ≤ b36 := Nat.le_trans (Keep.refl h0 []).1 (Nat.le_of_eq gb36.symm)
    have Kp36 : Keep h0 h36 [] := (Keep.refl h0 []).ext E36
    have Ft0 : own_A Z h36 b36 .byte 2 (fun _ => 0) := own_A_new A36 rfl rfl
    have pre37 : ∀ t, Steps p.tables e below (T36.setTop (mkF m 67 #[.val (.int p1), .val (.int p2), .val (.int p3), .val (.int p4), .val (.int p5), .val (.int (Int32.ofNat pA)), .val (.int (2 : Int32)), .val (.int c1), .val (.int c2), .val (.int c3), .unset, .unset, .unset, .unset] [(.int c1), (.int (0 : Int32)), (.ref b36), (.ref b36)])) t → Steps p.tables e below _ t := fun t kt => pre35 t (by
      show Steps p.tables e below (s₁.setTop (mkF m 61 #[.val (.int p1), .val (.int p2), .val (.int p3), .val (.int p4), .val (.int p5), .val (.int (Int32.ofNat pA)), .val (.int (2 : Int32)), .val (.int c1), .val (.int c2), .val (.int c3), .unset, .unset, .unset, .unset] [(.int (2 : Int32))])) _
      refine st36 _ ?_
      show Steps p.tables e below (T36.setTop (mkF m 63 #[.val (.int p1), .val (.int p2), .val (.int p3), .val (.int p4), .val (.int p5), .val (.int (Int32.ofNat pA)), .val (.int (2 : Int32)), .val (.int c1), .val (.int c2), .val (.int c3), .unset, .unset, .unset, .unset] [(.ref b36)])) _
      refine XS.dup X36.here hx rfl (hb hby at_63) rfl rfl ?_
      show Steps p.tables e below (T36.setTop (mkF m 64 #[.val (.int p1), .val (.int p2), .val (.int p3), .val (.int p4), .val (.int p5), .val (.int (Int32.ofNat pA)), .val (.int (2 : Int32)), .val (.int c1), .val (.int c2), .val (.int c3), .unset, .unset, .unset, .unset] [(.ref b36), (.ref b36)])) _
      refine XS.iconst X36.here hx rfl (hb hby at_64) ?_
      show Steps p.tables e below (T36.setTop (mkF m 65 #[.val (.int p1), .val (.int p2), .val (.int p3), .val (.int p4), .val (.int p5), .val (.int (Int32.ofNat pA)), .val (.int (2 : Int32)), .val (.int c1), .val (.int c2), .val (.int c3), .unset, .unset, .unset, .unset] [(.int (0 : Int32)), (.ref b36), (.ref b36)])) _
      refine XS.iload X36.here hx rfl (hb hby at_65) rfl ?_
      exact kt)
    obtain ⟨cl0, Ar0, Sz0, Hf0⟩ := id Ft0
    obtain ⟨T38, h38, X38, e38, W38, st38⟩ := stB X36 hx hZ e36 Ar0 (j := (0 : Int32)) (within (c := 0) rfl (by omega) (by omega)) (g := (mkF m 67 #[.val (.int p1), .val (.int p2), .val (.int p3), .val (.int p4), .val (.int p5), .val (.int (Int32.ofNat pA)), .val (.int (2 : Int32)), .val (.int c1), .val (.int c2), .val (.int c3), .unset, .unset, .unset, .unset] [(.int c1), (.int (0 : Int32)), (.ref b36), (.ref b36)])) rfl rfl (hb hby at_67)
    have N38 := Fr.snoc X38 N0 g_b36
    have Zs38 : n0 ≤ h38.size := Nat.le_trans Zs36 (Nat.le_of_eq W38.size.symm)
    have Kp38 : Keep h0 h38 [] := Kp36.wr W38 (Or.inr sz_b36)
    have Vt0 : Wr h36 h38 b36 0 (.int c1) := by have z' := W38; rw [hbc1] at z'; exact z'
    have Ft1 := own_A_set Ft0 Vt0
    have pre39 : ∀ t, Steps p.tables e below (T38.setTop (mkF m 72 #[.val (.int p1), .val (.int p2), .val (.int p3), .val (.int p4), .val (.int p5), .val (.int (Int32.ofNat pA)), .val (.int (2 : Int32)), .val (.int c1), .val (.int c2), .val (.int c3), .unset, .unset, .unset, .unset] [(.int c2), (.int (1 : Int32)), (.ref b36), (.ref b36)])) t → Steps p.tables e below _ t := fun t kt => pre37 t (by
      show Steps p.tables e below (T36.setTop (mkF m 67 #[.val (.int p1), .val (.int p2), .val (.int p3), .val (.int p4), .val (.int p5), .val (.int (Int32.ofNat pA)), .val (.int (2 : Int32)), .val (.int c1), .val (.int c2), .val (.int c3), .unset, .unset, .unset, .unset] [(.int c1), (.int (0 : Int32)), (.ref b36), (.ref b36)])) _
      refine st38 _ ?_
      show Steps p.tables e below (T38.setTop (mkF m 68 #[.val (.int p1), .val (.int p2), .val (.int p3), .val (.int p4), .val (.int p5), .val (.int (Int32.ofNat pA)), .val (.int (2 : Int32)), .val (.int c1), .val (.int c2), .val (.int c3), .unset, .unset, .unset, .unset] [(.ref b36)])) _
      refine XS.dup X38.here hx rfl (hb hby at_68) rfl rfl ?_
      show Steps p.tables e below (T38.setTop (mkF m 69 #[.val (.int p1), .val (.int p2), .val (.int p3), .val (.int p4), .val (.int p5), .val (.int (Int32.ofNat pA)), .val (.int (2 : Int32)), .val (.int c1), .val (.int c2), .val (.int c3), .unset, .unset, .unset, .unset] [(.ref b36), (.ref b36)])) _
      refine XS.iconst X38.here hx rfl (hb hby at_69) ?_
      show Steps p.tables e below (T38.setTop (mkF m 70 #[.val (.int p1), .val (.int p2), .val (.int p3), .val (.int p4), .val (.int p5), .val (.int (Int32.ofNat pA)), .val (.int (2 : Int32)), .val (.int c1), .val (.int c2), .val (.int c3), .unset, .unset, .unset, .unset] [(.int (1 : Int32)), (.ref b36), (.ref b36)])) _
      refine XS.iload X38.here hx rfl (hb hby at_70) rfl ?_
      exact kt)
    obtain ⟨cl1, Ar1, Sz1, Hf1⟩ := id Ft1
    obtain ⟨T40, h40, X40, e40, W40, st40⟩ := stB X38 hx hZ e38 Ar1 (j := (1 : Int32)) (within (c := 1) rfl (by omega) (by omega)) (g := (mkF m 72 #[.val (.int p1), .val (.int p2), .val (.int p3), .val (.int p4), .val (.int p5), .val (.int (Int32.ofNat pA)), .val (.int (2 : Int32)), .val (.int c1), .val (.int c2), .val (.int c3), .unset, .unset, .unset, .unset] [(.int c2), (.int (1 : Int32)), (.ref b36), (.ref b36)])) rfl rfl (hb hby at_72)
    have N40 := Fr.snoc X40 N38 g_b36
    have Zs40 : n0 ≤ h40.size := Nat.le_trans Zs38 (Nat.le_of_eq W40.size.symm)
    have Kp40 : Keep h0 h40 [] := Kp38.wr W40 (Or.inr sz_b36)
    have Vt1 : Wr h38 h40 b36 1 (.int c2) := by have z' := W40; rw [hbc2] at z'; exact z'
    have Ft2 := own_A_set Ft1 Vt1
    have pre41 : ∀ t, Steps p.tables e below (T40.setTop (mkF m 98 #[.val (.int p1), .val (.int p2), .val (.int p3), .val (.int p4), .val (.int p5), .val (.int (Int32.ofNat pA)), .val (.int (2 : Int32)), .val (.int c1), .val (.int c2), .val (.int c3), .val (.ref b36), .unset, .unset, .unset] [(.int (24 : Int32))])) t → Steps p.tables e below _ t := fun t kt => pre39 t (by
      show Steps p.tables e below (T38.setTop (mkF m 72 #[.val (.int p1), .val (.int p2), .val (.int p3), .val (.int p4), .val (.int p5), .val (.int (Int32.ofNat pA)), .val (.int (2 : Int32)), .val (.int c1), .val (.int c2), .val (.int c3), .unset, .unset, .unset, .unset] [(.int c2), (.int (1 : Int32)), (.ref b36), (.ref b36)])) _
      refine st40 _ ?_
      show Steps p.tables e below (T40.setTop (mkF m 73 #[.val (.int p1), .val (.int p2), .val (.int p3), .val (.int p4), .val (.int p5), .val (.int (Int32.ofNat pA)), .val (.int (2 : Int32)), .val (.int c1), .val (.int c2), .val (.int c3), .unset, .unset, .unset, .unset] [(.ref b36)])) _
      refine XS.goto X40.here hx rfl (pc0 := 73) (pc' := 94) rfl (hb hby at_73) (by decide) (by decide) ?_
      show Steps p.tables e below (T40.setTop (mkF m 94 #[.val (.int p1), .val (.int p2), .val (.int p3), .val (.int p4), .val (.int p5), .val (.int (Int32.ofNat pA)), .val (.int (2 : Int32)), .val (.int c1), .val (.int c2), .val (.int c3), .unset, .unset, .unset, .unset] [(.ref b36)])) _
      refine XS.astore X40.here hx rfl (hb hby at_94) rfl rfl (l' := #[.val (.int p1), .val (.int p2), .val (.int p3), .val (.int p4), .val (.int p5), .val (.int (Int32.ofNat pA)), .val (.int (2 : Int32)), .val (.int c1), .val (.int c2), .val (.int c3), .val (.ref b36), .unset, .unset, .unset]) rfl ?_
      show Steps p.tables e below (T40.setTop (mkF m 96 #[.val (.int p1), .val (.int p2), .val (.int p3), .val (.int p4), .val (.int p5), .val (.int (Int32.ofNat pA)), .val (.int (2 : Int32)), .val (.int c1), .val (.int c2), .val (.int c3), .val (.ref b36), .unset, .unset, .unset] [])) _
      refine XS.bipush X40.here hx rfl (hb hby at_96) ?_
      exact kt)
    obtain ⟨g, hg⟩ : ∃ g : Nat → Int32, g = (upd (upd (fun _ => 0) 0 c1) 1 c2) := ⟨_, rfl⟩
    have Ft : own_A Z h40 b36 .byte 2 g := by rw [hg]; exact Ft2
    have G0 : g 0 = c1 := by rw [hg]; rfl
    have G1 : g 1 = c2 := by rw [hg]; rfl
    obtain ⟨T42, h42, k42, X42, e42, E42, A42, st42⟩ := newP X40 hx hZ (hw _ (List.mem_of_getElem? (i := 1) rfl)) e40 (g := (mkF m 98 #[.val (.int p1), .val (.int p2), .val (.int p3), .val (.int p4), .val (.int p5), .val (.int (Int32.ofNat pA)), .val (.int (2 : Int32)), .val (.int c1), .val (.int c2), .val (.int c3), .val (.ref b36), .unset, .unset, .unset] [(.int (24 : Int32))])) rfl (hb hby at_98) rfl (by decide) (cap := 24) (by decide) (by decide) (by decide) (by decide)
    obtain ⟨b42, gb42⟩ : ∃ z, z = h40.size := ⟨_, rfl⟩
    rw [← gb42] at A42 st42
    have g_b42 : n0 ≤ b42 := Nat.le_trans Zs40 (Nat.le_of_eq gb42.symm)
    have Zs42 : n0 ≤ h42.size := Nat.le_trans Zs40 E42.1
    have sz_b42 : h0.size ≤ b42 := Nat.le_trans Kp40.1 (Nat.le_of_eq gb42.symm)
    have Kp42 : Keep h0 h42 [] := Kp40.ext E42
    have Fo : own_A Z h42 b42 .byte 24 (fun _ => 0) := own_A_new A42 rfl rfl
    have neT : b36 ≠ b42 := by have q := own_A_lt Ft; rw [gb42]; exact Nat.ne_of_lt q
    have Ftx := own_A_ext Ft E42
    have neX : hxa ≠ b42 := by have q := own_A_lt AH; exact Nat.ne_of_lt (Nat.lt_of_lt_of_le q sz_b42)
    have AHx := own_A_keep AH Kp42 nin0
    have SHx := own_Sta_keep SH Kp42
    have hby_ : ∀ i, i < 2 → nar .byte (g i) = g i := by
      intro i hi
      have hi' : i = 0 ∨ i = 1 := by omega
      rcases hi' with rfl | rfl
      · rw [G0]; exact hbc1
      · rw [G1]; exact hbc2
    have pre43 : ∀ t, Steps p.tables e below (T42.setTop (mkF m 108 #[.val (.int p1), .val (.int p2), .val (.int p3), .val (.int p4), .val (.int p5), .val (.int (Int32.ofNat pA)), .val (.int (2 : Int32)), .val (.int c1), .val (.int c2), .val (.int c3), .val (.ref b36), .val (.ref b42), .unset, .unset] [(.int (Int32.ofNat pA)), (.ref b42), (.ref b36)])) t → Steps p.tables e below _ t := fun t kt => pre41 t (by
      show Steps p.tables e below (T40.setTop (mkF m 98 #[.val (.int p1), .val (.int p2), .val (.int p3), .val (.int p4), .val (.int p5), .val (.int (Int32.ofNat pA)), .val (.int (2 : Int32)), .val (.int c1), .val (.int c2), .val (.int c3), .val (.ref b36), .unset, .unset, .unset] [(.int (24 : Int32))])) _
      refine st42 _ ?_
      show Steps p.tables e below (T42.setTop (mkF m 100 #[.val (.int p1), .val (.int p2), .val (.int p3), .val (.int p4), .val (.int p5), .val (.int (Int32.ofNat pA)), .val (.int (2 : Int32)), .val (.int c1), .val (.int c2), .val (.int c3), .val (.ref b36), .unset, .unset, .unset] [(.ref b42)])) _
      refine XS.astore X42.here hx rfl (hb hby at_100) rfl rfl (l' := #[.val (.int p1), .val (.int p2), .val (.int p3), .val (.int p4), .val (.int p5), .val (.int (Int32.ofNat pA)), .val (.int (2 : Int32)), .val (.int c1), .val (.int c2), .val (.int c3), .val (.ref b36), .val (.ref b42), .unset, .unset]) rfl ?_
      show Steps p.tables e below (T42.setTop (mkF m 102 #[.val (.int p1), .val (.int p2), .val (.int p3), .val (.int p4), .val (.int p5), .val (.int (Int32.ofNat pA)), .val (.int (2 : Int32)), .val (.int c1), .val (.int c2), .val (.int c3), .val (.ref b36), .val (.ref b42), .unset, .unset] [])) _
      refine XS.aload X42.here hx rfl (hb hby at_102) rfl rfl ?_
      show Steps p.tables e below (T42.setTop (mkF m 104 #[.val (.int p1), .val (.int p2), .val (.int p3), .val (.int p4), .val (.int p5), .val (.int (Int32.ofNat pA)), .val (.int (2 : Int32)), .val (.int c1), .val (.int c2), .val (.int c3), .val (.ref b36), .val (.ref b42), .unset, .unset] [(.ref b36)])) _
      refine XS.aload X42.here hx rfl (hb hby at_104) rfl rfl ?_
      show Steps p.tables e below (T42.setTop (mkF m 106 #[.val (.int p1), .val (.int p2), .val (.int p3), .val (.int p4), .val (.int p5), .val (.int (Int32.ofNat pA)), .val (.int (2 : Int32)), .val (.int c1), .val (.int c2), .val (.int c3), .val (.ref b36), .val (.ref b42), .unset, .unset] [(.ref b42), (.ref b36)])) _
      refine XS.iload X42.here hx rfl (hb hby at_106) rfl ?_
      exact kt)
    obtain ⟨_, _, ⟨T44, L44, k44, n44⟩, -, X44, ⟨Lc44, hQ44, l44, y44, z44⟩, st44⟩ := Jvm.LawKit.callS X42 hx (y := (⟨"com/example/windrow/windrow/cli/Json", "write", "([B[BI)I"⟩ : MethodName)) hown (mvT hZ (hw _ (List.mem_of_getElem? (i := 2) rfl))) (mvT hZ (hw _ (List.mem_of_getElem? (i := 3) rfl))) (mvT hZ (hw _ (List.mem_of_getElem? (i := 4) rfl))) (mvT hZ (hw _ (List.mem_of_getElem? (i := 5) rfl))) (by decide) (backOf (W := 0) (rm1 l Z a0 hw [] b36 b42 hxa pA 2 24 (fun _ => 0) g h42 n0 Zs42 Ftx Fo SHx AHx neT neX g_b42 (by decide) (by decide) (by omega) hby_) hZ (hw _ (List.mem_of_getElem? (i := 5) rfl)) (hw _ (List.mem_of_getElem? (i := 4) rfl)) (by decide) (by decide)) (g := (mkF m 108 #[.val (.int p1), .val (.int p2), .val (.int p3), .val (.int p4), .val (.int p5), .val (.int (Int32.ofNat pA)), .val (.int (2 : Int32)), .val (.int c1), .val (.int c2), .val (.int c3), .val (.ref b36), .val (.ref b42), .unset, .unset] [(.int (Int32.ofNat pA)), (.ref b42), (.ref b36)])) rfl (by rw [hml]; rfl) (argsL := [(.ref b36), (.ref b42), (.int (Int32.ofNat pA))]) (rest := []) (lenOf pd_0 rfl) rfl (by show 2 * 0 + _ ≤ _; exact Nat.le_of_eq rfl) (hb hby at_108) (fun _ _ => ⟨rfl, e42, (by decide : 2 + 0 ≤ _), (by decide : 26 + 0 ≤ _)⟩)
    dsimp only [Pt.U, Pt.locs, Pt.cells, Pt.slots] at X44 l44 y44 z44 st44 hQ44
    subst l44 y44 z44
    obtain ⟨rfl, N44q, Kw, Fw⟩ := hQ44
    have N44 := Fr.app N40 N44q
    have Zw : n0 ≤ T44.heap.size := Nat.le_trans Zs42 Kw.1
    obtain ⟨L0, hL0⟩ : ∃ z, z = (own_encs g 2).length := ⟨_, rfl⟩
    have bL : L0 ≤ 18 := by have := own_encs_len g 2; omega
    obtain ⟨ff, hff⟩ : ∃ z : Nat → Int32, z = upd (own_wr (upd (fun _ => 0) pA 34) (pA + 1) (own_encs g 2)) (pA + 1 + (own_encs g 2).length) 34 := ⟨_, rfl⟩
    rw [← hff] at Fw
    have el0 := (own_enc_len c1)
    have el1 := (own_enc_len c2)
    have hE : own_encs g 2 = own_enc c1 ++ own_enc c2 := by
      simp only [own_encs, G0, G1, List.nil_append]
    have hLs : L0 = (own_enc c1).length + (own_enc c2).length := by
      rw [hL0, hE]; simp only [List.length_append]
    have e0_ : ff pA = (34 : Int32) := by rw [hff, own_upd_ne _ _ (by omega), own_wr_lt _ _ _ _ (by omega), own_upd_same]
    have mt0 : ∀ j, j < (own_enc c1).length → ff (pA + 1 + j) = (own_enc c1).getD j 0 := by
      intro j hj
      have q1 : own_encs g 2 = (([] : List Int32)) ++ (own_enc c1) ++ (own_enc c2) := by rw [hE]; simp only [List.nil_append, List.append_nil, List.append_assoc]
      have q2 := own_wr_mid (upd (fun _ => 0) pA 34) (pA + 1) q1 j hj
      have q3 : pA + 1 + (([] : List Int32)).length + j = pA + 1 + j := by (simp only [List.nil_append, List.length_append, List.length_nil]) <;> omega
      rw [q3] at q2
      rw [hff, own_upd_ne _ _ (by omega)]; exact q2
    have mt1 : ∀ j, j < (own_enc c2).length → ff (pA + 1 + (own_enc c1).length + j) = (own_enc c2).getD j 0 := by
      intro j hj
      have q1 : own_encs g 2 = (([] : List Int32) ++ own_enc c1) ++ (own_enc c2) ++ ([]) := by rw [hE]; simp only [List.nil_append, List.append_nil, List.append_assoc]
      have q2 := own_wr_mid (upd (fun _ => 0) pA 34) (pA + 1) q1 j hj
      have q3 : pA + 1 + (([] : List Int32) ++ own_enc c1).length + j = pA + 1 + (own_enc c1).length + j := by (simp only [List.nil_append, List.length_append, List.length_nil]) <;> omega
      rw [q3] at q2
      rw [hff, own_upd_ne _ _ (by omega)]; exact q2
    have hpe : pA + 1 + L0 = pA + 1 + (own_enc c1).length + (own_enc c2).length := by omega
    have e1_ : ff (pA + 1 + (own_enc c1).length + (own_enc c2).length) = (34 : Int32) := by rw [← hpe, hff, hL0, own_upd_same]
    have e2_ : ff (pA + 1 + L0 + 1) = (0 : Int32) := by rw [hff, own_upd_ne _ _ (by omega), own_wr_ge _ _ _ _ (by omega), own_upd_ne _ _ (by omega)]
    have e3_ : ∀ j, j < pA → ff j = (0 : Int32) := fun j hj => by rw [hff, own_upd_ne _ _ (by omega), own_wr_lt _ _ _ _ (by omega), own_upd_ne _ _ (by omega)]
    obtain ⟨clO, ArO, SzO, HfO⟩ := id Fw
    have pre45 : ∀ t, Steps p.tables e below (T44.setTop (mkF m 111 #[.val (.int p1), .val (.int p2), .val (.int p3), .val (.int p4), .val (.int p5), .val (.int (Int32.ofNat pA)), .val (.int (2 : Int32)), .val (.int c1), .val (.int c2), .val (.int c3), .val (.ref b36), .val (.ref b42), .unset, .unset] [(.int (Int32.ofNat (pA + 1 + (own_encs g 2).length + 1)))])) t → Steps p.tables e below _ t := fun t kt => pre43 t (by
      show Steps p.tables e below (T42.setTop (mkF m 108 #[.val (.int p1), .val (.int p2), .val (.int p3), .val (.int p4), .val (.int p5), .val (.int (Int32.ofNat pA)), .val (.int (2 : Int32)), .val (.int c1), .val (.int c2), .val (.int c3), .val (.ref b36), .val (.ref b42), .unset, .unset] [(.int (Int32.ofNat pA)), (.ref b42), (.ref b36)])) _
      refine st44 _ ?_
      exact kt)
    have hv46 : (own_encs g 2).length = L0 := hL0.symm
    rw [hv46] at pre45
    have pre47 : ∀ t, Steps p.tables e below (T44.setTop (mkF m 131 #[.val (.int p1), .val (.int p2), .val (.int p3), .val (.int p4), .val (.int p5), .val (.int (Int32.ofNat pA)), .val (.int (2 : Int32)), .val (.int c1), .val (.int c2), .val (.int c3), .val (.ref b36), .val (.ref b42), .val (.int (Int32.ofNat (pA + 1 + L0 + 1))), .unset] [(.int ((Int32.ofNat pA) + (1 : Int32)))])) t → Steps p.tables e below _ t := fun t kt => pre45 t (by
      show Steps p.tables e below (T44.setTop (mkF m 111 #[.val (.int p1), .val (.int p2), .val (.int p3), .val (.int p4), .val (.int p5), .val (.int (Int32.ofNat pA)), .val (.int (2 : Int32)), .val (.int c1), .val (.int c2), .val (.int c3), .val (.ref b36), .val (.ref b42), .unset, .unset] [(.int (Int32.ofNat (pA + 1 + L0 + 1)))])) _
      refine XS.istore X44.here hx rfl (hb hby at_111) rfl (l' := #[.val (.int p1), .val (.int p2), .val (.int p3), .val (.int p4), .val (.int p5), .val (.int (Int32.ofNat pA)), .val (.int (2 : Int32)), .val (.int c1), .val (.int c2), .val (.int c3), .val (.ref b36), .val (.ref b42), .val (.int (Int32.ofNat (pA + 1 + L0 + 1))), .unset]) rfl ?_
      show Steps p.tables e below (T44.setTop (mkF m 113 #[.val (.int p1), .val (.int p2), .val (.int p3), .val (.int p4), .val (.int p5), .val (.int (Int32.ofNat pA)), .val (.int (2 : Int32)), .val (.int c1), .val (.int c2), .val (.int c3), .val (.ref b36), .val (.ref b42), .val (.int (Int32.ofNat (pA + 1 + L0 + 1))), .unset] [])) _
      refine XS.aload X44.here hx rfl (hb hby at_113) rfl rfl ?_
      show Steps p.tables e below (T44.setTop (mkF m 115 #[.val (.int p1), .val (.int p2), .val (.int p3), .val (.int p4), .val (.int p5), .val (.int (Int32.ofNat pA)), .val (.int (2 : Int32)), .val (.int c1), .val (.int c2), .val (.int c3), .val (.ref b36), .val (.ref b42), .val (.int (Int32.ofNat (pA + 1 + L0 + 1))), .unset] [(.ref b42)])) _
      refine XS.iload X44.here hx rfl (hb hby at_115) rfl ?_
      show Steps p.tables e below (T44.setTop (mkF m 117 #[.val (.int p1), .val (.int p2), .val (.int p3), .val (.int p4), .val (.int p5), .val (.int (Int32.ofNat pA)), .val (.int (2 : Int32)), .val (.int c1), .val (.int c2), .val (.int c3), .val (.ref b36), .val (.ref b42), .val (.int (Int32.ofNat (pA + 1 + L0 + 1))), .unset] [(.int (Int32.ofNat pA)), (.ref b42)])) _
      refine X44.baloadBytes hx (j := (Int32.ofNat pA)) (v := (.int (ff pA))) ArO.1 (State.isArrayOf_alike hZ.alike ArO.2.1) ArO.2.2 (within (c := pA) rfl (by omega) (by omega)) (by rw [clamp_of (c := pA) rfl (by omega)]; exact HfO _ (by omega)) (g := (mkF m 117 #[.val (.int p1), .val (.int p2), .val (.int p3), .val (.int p4), .val (.int p5), .val (.int (Int32.ofNat pA)), .val (.int (2 : Int32)), .val (.int c1), .val (.int c2), .val (.int c3), .val (.ref b36), .val (.ref b42), .val (.int (Int32.ofNat (pA + 1 + L0 + 1))), .unset] [(.int (Int32.ofNat pA)), (.ref b42)])) rfl rfl (hb hby at_117) _ ?_
      show Steps p.tables e below (T44.setTop (mkF m 118 #[.val (.int p1), .val (.int p2), .val (.int p3), .val (.int p4), .val (.int p5), .val (.int (Int32.ofNat pA)), .val (.int (2 : Int32)), .val (.int c1), .val (.int c2), .val (.int c3), .val (.ref b36), .val (.ref b42), .val (.int (Int32.ofNat (pA + 1 + L0 + 1))), .unset] [(.int (ff pA))])) _
      refine XS.bipush X44.here hx rfl (hb hby at_118) ?_
      have hc120 : (ff pA) = (34 : Int32) := e0_
      show Steps p.tables e below (T44.setTop (mkF m 120 #[.val (.int p1), .val (.int p2), .val (.int p3), .val (.int p4), .val (.int p5), .val (.int (Int32.ofNat pA)), .val (.int (2 : Int32)), .val (.int c1), .val (.int c2), .val (.int c3), .val (.ref b36), .val (.ref b42), .val (.int (Int32.ofNat (pA + 1 + L0 + 1))), .unset] [(.int (34 : Int32)), (.int (ff pA))])) _
      refine XS.icmpNo X44.here hx rfl (hb hby at_120) rfl (teq hc120).2 ?_
      show Steps p.tables e below (T44.setTop (mkF m 123 #[.val (.int p1), .val (.int p2), .val (.int p3), .val (.int p4), .val (.int p5), .val (.int (Int32.ofNat pA)), .val (.int (2 : Int32)), .val (.int c1), .val (.int c2), .val (.int c3), .val (.ref b36), .val (.ref b42), .val (.int (Int32.ofNat (pA + 1 + L0 + 1))), .unset] [])) _
      refine XS.iload X44.here hx rfl (hb hby at_123) rfl ?_
      show Steps p.tables e below (T44.setTop (mkF m 125 #[.val (.int p1), .val (.int p2), .val (.int p3), .val (.int p4), .val (.int p5), .val (.int (Int32.ofNat pA)), .val (.int (2 : Int32)), .val (.int c1), .val (.int c2), .val (.int c3), .val (.ref b36), .val (.ref b42), .val (.int (Int32.ofNat (pA + 1 + L0 + 1))), .unset] [(.int (Int32.ofNat pA))])) _
      refine XS.iconst X44.here hx rfl (hb hby at_125) ?_
      show Steps p.tables e below (T44.setTop (mkF m 126 #[.val (.int p1), .val (.int p2), .val (.int p3), .val (.int p4), .val (.int p5), .val (.int (Int32.ofNat pA)), .val (.int (2 : Int32)), .val (.int c1), .val (.int c2), .val (.int c3), .val (.ref b36), .val (.ref b42), .val (.int (Int32.ofNat (pA + 1 + L0 + 1))), .unset] [(.int (1 : Int32)), (.int (Int32.ofNat pA))])) _
      refine XS.iadd X44.here hx rfl (hb hby at_126) rfl ?_
      show Steps p.tables e below (T44.setTop (mkF m 127 #[.val (.int p1), .val (.int p2), .val (.int p3), .val (.int p4), .val (.int p5), .val (.int (Int32.ofNat pA)), .val (.int (2 : Int32)), .val (.int c1), .val (.int c2), .val (.int c3), .val (.ref b36), .val (.ref b42), .val (.int (Int32.ofNat (pA + 1 + L0 + 1))), .unset] [(.int ((Int32.ofNat pA) + (1 : Int32)))])) _
      refine XS.goto X44.here hx rfl (pc0 := 127) (pc' := 131) rfl (hb hby at_127) (by decide) (by decide) ?_
      exact kt)
    have hv48 : ((Int32.ofNat pA) + (1 : Int32)) = (Int32.ofNat (pA + 1)) := own_add pA 1
    rw [hv48] at pre47
    have pre49 : ∀ t, Steps p.tables e below (T44.setTop (mkF m 149 #[.val (.int p1), .val (.int p2), .val (.int p3), .val (.int p4), .val (.int p5), .val (.int (Int32.ofNat pA)), .val (.int (2 : Int32)), .val (.int c1), .val (.int c2), .val (.int c3), .val (.ref b36), .val (.ref b42), .val (.int (Int32.ofNat (pA + 1 + L0 + 1))), .val (.int (Int32.ofNat (pA + 1)))] [(.int c1), (.int (Int32.ofNat (pA + 1))), (.ref b42)])) t → Steps p.tables e below _ t := fun t kt => pre47 t (by
      show Steps p.tables e below (T44.setTop (mkF m 131 #[.val (.int p1), .val (.int p2), .val (.int p3), .val (.int p4), .val (.int p5), .val (.int (Int32.ofNat pA)), .val (.int (2 : Int32)), .val (.int c1), .val (.int c2), .val (.int c3), .val (.ref b36), .val (.ref b42), .val (.int (Int32.ofNat (pA + 1 + L0 + 1))), .unset] [(.int (Int32.ofNat (pA + 1)))])) _
      refine XS.istore X44.here hx rfl (hb hby at_131) rfl (l' := #[.val (.int p1), .val (.int p2), .val (.int p3), .val (.int p4), .val (.int p5), .val (.int (Int32.ofNat pA)), .val (.int (2 : Int32)), .val (.int c1), .val (.int c2), .val (.int c3), .val (.ref b36), .val (.ref b42), .val (.int (Int32.ofNat (pA + 1 + L0 + 1))), .val (.int (Int32.ofNat (pA + 1)))]) rfl ?_
      show Steps p.tables e below (T44.setTop (mkF m 133 #[.val (.int p1), .val (.int p2), .val (.int p3), .val (.int p4), .val (.int p5), .val (.int (Int32.ofNat pA)), .val (.int (2 : Int32)), .val (.int c1), .val (.int c2), .val (.int c3), .val (.ref b36), .val (.ref b42), .val (.int (Int32.ofNat (pA + 1 + L0 + 1))), .val (.int (Int32.ofNat (pA + 1)))] [])) _
      refine XS.iload X44.here hx rfl (hb hby at_133) rfl ?_
      have hc135 : (0 : Int32) < (2 : Int32) := by decide
      show Steps p.tables e below (T44.setTop (mkF m 135 #[.val (.int p1), .val (.int p2), .val (.int p3), .val (.int p4), .val (.int p5), .val (.int (Int32.ofNat pA)), .val (.int (2 : Int32)), .val (.int c1), .val (.int c2), .val (.int c3), .val (.ref b36), .val (.ref b42), .val (.int (Int32.ofNat (pA + 1 + L0 + 1))), .val (.int (Int32.ofNat (pA + 1)))] [(.int (2 : Int32))])) _
      refine XS.ifNo X44.here hx rfl (hb hby at_135) rfl ((if0 _ _).trans (tlt hc135).2.2.2) ?_
      show Steps p.tables e below (T44.setTop (mkF m 138 #[.val (.int p1), .val (.int p2), .val (.int p3), .val (.int p4), .val (.int p5), .val (.int (Int32.ofNat pA)), .val (.int (2 : Int32)), .val (.int c1), .val (.int c2), .val (.int c3), .val (.ref b36), .val (.ref b42), .val (.int (Int32.ofNat (pA + 1 + L0 + 1))), .val (.int (Int32.ofNat (pA + 1)))] [])) _
      refine XS.iload X44.here hx rfl (hb hby at_138) rfl ?_
      have hc140 : ¬ ((Int32.ofNat (pA + 1)) < (0 : Int32)) := own_nneg (by omega)
      show Steps p.tables e below (T44.setTop (mkF m 140 #[.val (.int p1), .val (.int p2), .val (.int p3), .val (.int p4), .val (.int p5), .val (.int (Int32.ofNat pA)), .val (.int (2 : Int32)), .val (.int c1), .val (.int c2), .val (.int c3), .val (.ref b36), .val (.ref b42), .val (.int (Int32.ofNat (pA + 1 + L0 + 1))), .val (.int (Int32.ofNat (pA + 1)))] [(.int (Int32.ofNat (pA + 1)))])) _
      refine XS.ifNo X44.here hx rfl (hb hby at_140) rfl ((if0 _ _).trans (flt hc140).1) ?_
      show Steps p.tables e below (T44.setTop (mkF m 143 #[.val (.int p1), .val (.int p2), .val (.int p3), .val (.int p4), .val (.int p5), .val (.int (Int32.ofNat pA)), .val (.int (2 : Int32)), .val (.int c1), .val (.int c2), .val (.int c3), .val (.ref b36), .val (.ref b42), .val (.int (Int32.ofNat (pA + 1 + L0 + 1))), .val (.int (Int32.ofNat (pA + 1)))] [])) _
      refine XS.aload X44.here hx rfl (hb hby at_143) rfl rfl ?_
      show Steps p.tables e below (T44.setTop (mkF m 145 #[.val (.int p1), .val (.int p2), .val (.int p3), .val (.int p4), .val (.int p5), .val (.int (Int32.ofNat pA)), .val (.int (2 : Int32)), .val (.int c1), .val (.int c2), .val (.int c3), .val (.ref b36), .val (.ref b42), .val (.int (Int32.ofNat (pA + 1 + L0 + 1))), .val (.int (Int32.ofNat (pA + 1)))] [(.ref b42)])) _
      refine XS.iload X44.here hx rfl (hb hby at_145) rfl ?_
      show Steps p.tables e below (T44.setTop (mkF m 147 #[.val (.int p1), .val (.int p2), .val (.int p3), .val (.int p4), .val (.int p5), .val (.int (Int32.ofNat pA)), .val (.int (2 : Int32)), .val (.int c1), .val (.int c2), .val (.int c3), .val (.ref b36), .val (.ref b42), .val (.int (Int32.ofNat (pA + 1 + L0 + 1))), .val (.int (Int32.ofNat (pA + 1)))] [(.int (Int32.ofNat (pA + 1))), (.ref b42)])) _
      refine XS.iload X44.here hx rfl (hb hby at_147) rfl ?_
      exact kt)
    obtain ⟨_, _, ⟨T50, L50, k50, n50⟩, -, X50, ⟨Lc50, hQ50, l50, y50, z50⟩, st50⟩ := Jvm.LawKit.callS X44 hx (y := (⟨"com/example/windrow/windrow/cli/JsonWritePinLaw", "enc", "([BIB)I"⟩ : MethodName)) hown (mvT hZ (hw _ (List.mem_of_getElem? (i := 8) rfl))) (mvT hZ (hw _ (List.mem_of_getElem? (i := 9) rfl))) (mvT hZ (hw _ (List.mem_of_getElem? (i := 10) rfl))) (mvT hZ (hw _ (List.mem_of_getElem? (i := 11) rfl))) (by decide) (backOf (W := 0) (rm2 l Z a0 hw [] b42 (pA + 1) c1 24 ff T44.heap n0 Zw ⟨clO, ArO, SzO, HfO⟩ (by decide) (by omega) mt0) hZ (hw _ (List.mem_of_getElem? (i := 11) rfl)) (hw _ (List.mem_of_getElem? (i := 10) rfl)) (by decide) (by decide)) (g := (mkF m 149 #[.val (.int p1), .val (.int p2), .val (.int p3), .val (.int p4), .val (.int p5), .val (.int (Int32.ofNat pA)), .val (.int (2 : Int32)), .val (.int c1), .val (.int c2), .val (.int c3), .val (.ref b36), .val (.ref b42), .val (.int (Int32.ofNat (pA + 1 + L0 + 1))), .val (.int (Int32.ofNat (pA + 1)))] [(.int c1), (.int (Int32.ofNat (pA + 1))), (.ref b42)])) rfl (by rw [hml]; rfl) (argsL := [(.ref b42), (.int (Int32.ofNat (pA + 1))), (.int c1)]) (rest := []) (lenOf pd_1 rfl) rfl (by show 2 * 0 + _ ≤ _; exact Nat.le_of_eq rfl) (hb hby at_149) (fun _ _ => ⟨rfl, rfl, (by decide : 2 + 0 ≤ _), (by decide : 26 + 0 ≤ _)⟩)
    dsimp only [Pt.U, Pt.locs, Pt.cells, Pt.slots] at X50 l50 y50 z50 st50 hQ50
    subst l50 y50 z50
    obtain ⟨rfl, N50q, e50⟩ := hQ50
    have N50 := Fr.app N44 N50q
    have pre51 : ∀ t, Steps p.tables e below (T50.setTop (mkF m 171 #[.val (.int p1), .val (.int p2), .val (.int p3), .val (.int p4), .val (.int p5), .val (.int (Int32.ofNat pA)), .val (.int (2 : Int32)), .val (.int c1), .val (.int c2), .val (.int c3), .val (.ref b36), .val (.ref b42), .val (.int (Int32.ofNat (pA + 1 + L0 + 1))), .val (.int (Int32.ofNat (pA + 1 + (own_enc c1).length)))] [(.int c2), (.int (Int32.ofNat (pA + 1 + (own_enc c1).length))), (.ref b42)])) t → Steps p.tables e below _ t := fun t kt => pre49 t (by
      show Steps p.tables e below (T44.setTop (mkF m 149 #[.val (.int p1), .val (.int p2), .val (.int p3), .val (.int p4), .val (.int p5), .val (.int (Int32.ofNat pA)), .val (.int (2 : Int32)), .val (.int c1), .val (.int c2), .val (.int c3), .val (.ref b36), .val (.ref b42), .val (.int (Int32.ofNat (pA + 1 + L0 + 1))), .val (.int (Int32.ofNat (pA + 1)))] [(.int c1), (.int (Int32.ofNat (pA + 1))), (.ref b42)])) _
      refine st50 _ ?_
      show Steps p.tables e below (T50.setTop (mkF m 152 #[.val (.int p1), .val (.int p2), .val (.int p3), .val (.int p4), .val (.int p5), .val (.int (Int32.ofNat pA)), .val (.int (2 : Int32)), .val (.int c1), .val (.int c2), .val (.int c3), .val (.ref b36), .val (.ref b42), .val (.int (Int32.ofNat (pA + 1 + L0 + 1))), .val (.int (Int32.ofNat (pA + 1)))] [(.int (Int32.ofNat (pA + 1 + (own_enc c1).length)))])) _
      refine XS.istore X50.here hx rfl (hb hby at_152) rfl (l' := #[.val (.int p1), .val (.int p2), .val (.int p3), .val (.int p4), .val (.int p5), .val (.int (Int32.ofNat pA)), .val (.int (2 : Int32)), .val (.int c1), .val (.int c2), .val (.int c3), .val (.ref b36), .val (.ref b42), .val (.int (Int32.ofNat (pA + 1 + L0 + 1))), .val (.int (Int32.ofNat (pA + 1 + (own_enc c1).length)))]) rfl ?_
      show Steps p.tables e below (T50.setTop (mkF m 154 #[.val (.int p1), .val (.int p2), .val (.int p3), .val (.int p4), .val (.int p5), .val (.int (Int32.ofNat pA)), .val (.int (2 : Int32)), .val (.int c1), .val (.int c2), .val (.int c3), .val (.ref b36), .val (.ref b42), .val (.int (Int32.ofNat (pA + 1 + L0 + 1))), .val (.int (Int32.ofNat (pA + 1 + (own_enc c1).length)))] [])) _
      refine XS.iload X50.here hx rfl (hb hby at_154) rfl ?_
      show Steps p.tables e below (T50.setTop (mkF m 156 #[.val (.int p1), .val (.int p2), .val (.int p3), .val (.int p4), .val (.int p5), .val (.int (Int32.ofNat pA)), .val (.int (2 : Int32)), .val (.int c1), .val (.int c2), .val (.int c3), .val (.ref b36), .val (.ref b42), .val (.int (Int32.ofNat (pA + 1 + L0 + 1))), .val (.int (Int32.ofNat (pA + 1 + (own_enc c1).length)))] [(.int (2 : Int32))])) _
      refine XS.iconst X50.here hx rfl (hb hby at_156) ?_
      have hc157 : (1 : Int32) < (2 : Int32) := by decide
      show Steps p.tables e below (T50.setTop (mkF m 157 #[.val (.int p1), .val (.int p2), .val (.int p3), .val (.int p4), .val (.int p5), .val (.int (Int32.ofNat pA)), .val (.int (2 : Int32)), .val (.int c1), .val (.int c2), .val (.int c3), .val (.ref b36), .val (.ref b42), .val (.int (Int32.ofNat (pA + 1 + L0 + 1))), .val (.int (Int32.ofNat (pA + 1 + (own_enc c1).length)))] [(.int (1 : Int32)), (.int (2 : Int32))])) _
      refine XS.icmpNo X50.here hx rfl (hb hby at_157) rfl (tlt hc157).2.2.2 ?_
      show Steps p.tables e below (T50.setTop (mkF m 160 #[.val (.int p1), .val (.int p2), .val (.int p3), .val (.int p4), .val (.int p5), .val (.int (Int32.ofNat pA)), .val (.int (2 : Int32)), .val (.int c1), .val (.int c2), .val (.int c3), .val (.ref b36), .val (.ref b42), .val (.int (Int32.ofNat (pA + 1 + L0 + 1))), .val (.int (Int32.ofNat (pA + 1 + (own_enc c1).length)))] [])) _
      refine XS.iload X50.here hx rfl (hb hby at_160) rfl ?_
      have hc162 : ¬ ((Int32.ofNat (pA + 1 + (own_enc c1).length)) < (0 : Int32)) := own_nneg (by omega)
      show Steps p.tables e below (T50.setTop (mkF m 162 #[.val (.int p1), .val (.int p2), .val (.int p3), .val (.int p4), .val (.int p5), .val (.int (Int32.ofNat pA)), .val (.int (2 : Int32)), .val (.int c1), .val (.int c2), .val (.int c3), .val (.ref b36), .val (.ref b42), .val (.int (Int32.ofNat (pA + 1 + L0 + 1))), .val (.int (Int32.ofNat (pA + 1 + (own_enc c1).length)))] [(.int (Int32.ofNat (pA + 1 + (own_enc c1).length)))])) _
      refine XS.ifNo X50.here hx rfl (hb hby at_162) rfl ((if0 _ _).trans (flt hc162).1) ?_
      show Steps p.tables e below (T50.setTop (mkF m 165 #[.val (.int p1), .val (.int p2), .val (.int p3), .val (.int p4), .val (.int p5), .val (.int (Int32.ofNat pA)), .val (.int (2 : Int32)), .val (.int c1), .val (.int c2), .val (.int c3), .val (.ref b36), .val (.ref b42), .val (.int (Int32.ofNat (pA + 1 + L0 + 1))), .val (.int (Int32.ofNat (pA + 1 + (own_enc c1).length)))] [])) _
      refine XS.aload X50.here hx rfl (hb hby at_165) rfl rfl ?_
      show Steps p.tables e below (T50.setTop (mkF m 167 #[.val (.int p1), .val (.int p2), .val (.int p3), .val (.int p4), .val (.int p5), .val (.int (Int32.ofNat pA)), .val (.int (2 : Int32)), .val (.int c1), .val (.int c2), .val (.int c3), .val (.ref b36), .val (.ref b42), .val (.int (Int32.ofNat (pA + 1 + L0 + 1))), .val (.int (Int32.ofNat (pA + 1 + (own_enc c1).length)))] [(.ref b42)])) _
      refine XS.iload X50.here hx rfl (hb hby at_167) rfl ?_
      show Steps p.tables e below (T50.setTop (mkF m 169 #[.val (.int p1), .val (.int p2), .val (.int p3), .val (.int p4), .val (.int p5), .val (.int (Int32.ofNat pA)), .val (.int (2 : Int32)), .val (.int c1), .val (.int c2), .val (.int c3), .val (.ref b36), .val (.ref b42), .val (.int (Int32.ofNat (pA + 1 + L0 + 1))), .val (.int (Int32.ofNat (pA + 1 + (own_enc c1).length)))] [(.int (Int32.ofNat (pA + 1 + (own_enc c1).length))), (.ref b42)])) _
      refine XS.iload X50.here hx rfl (hb hby at_169) rfl ?_
      exact kt)
    obtain ⟨_, _, ⟨T52, L52, k52, n52⟩, -, X52, ⟨Lc52, hQ52, l52, y52, z52⟩, st52⟩ := Jvm.LawKit.callS X50 hx (y := (⟨"com/example/windrow/windrow/cli/JsonWritePinLaw", "enc", "([BIB)I"⟩ : MethodName)) hown (mvT hZ (hw _ (List.mem_of_getElem? (i := 8) rfl))) (mvT hZ (hw _ (List.mem_of_getElem? (i := 9) rfl))) (mvT hZ (hw _ (List.mem_of_getElem? (i := 10) rfl))) (mvT hZ (hw _ (List.mem_of_getElem? (i := 11) rfl))) (by decide) (backOf (W := 0) (rm2 l Z a0 hw [] b42 (pA + 1 + (own_enc c1).length) c2 24 ff T44.heap n0 Zw ⟨clO, ArO, SzO, HfO⟩ (by decide) (by omega) mt1) hZ (hw _ (List.mem_of_getElem? (i := 11) rfl)) (hw _ (List.mem_of_getElem? (i := 10) rfl)) (by decide) (by decide)) (g := (mkF m 171 #[.val (.int p1), .val (.int p2), .val (.int p3), .val (.int p4), .val (.int p5), .val (.int (Int32.ofNat pA)), .val (.int (2 : Int32)), .val (.int c1), .val (.int c2), .val (.int c3), .val (.ref b36), .val (.ref b42), .val (.int (Int32.ofNat (pA + 1 + L0 + 1))), .val (.int (Int32.ofNat (pA + 1 + (own_enc c1).length)))] [(.int c2), (.int (Int32.ofNat (pA + 1 + (own_enc c1).length))), (.ref b42)])) rfl (by rw [hml]; rfl) (argsL := [(.ref b42), (.int (Int32.ofNat (pA + 1 + (own_enc c1).length))), (.int c2)]) (rest := []) (lenOf pd_1 rfl) rfl (by show 2 * 0 + _ ≤ _; exact Nat.le_of_eq rfl) (hb hby at_171) (fun _ _ => ⟨rfl, e50, (by decide : 2 + 0 ≤ _), (by decide : 26 + 0 ≤ _)⟩)
    dsimp only [Pt.U, Pt.locs, Pt.cells, Pt.slots] at X52 l52 y52 z52 st52 hQ52
    subst l52 y52 z52
    obtain ⟨rfl, N52q, e52⟩ := hQ52
    have N52 := Fr.app N50 N52q
    have pre53 : ∀ t, Steps p.tables e below (T52.setTop (mkF m 250 #[.val (.int p1), .val (.int p2), .val (.int p3), .val (.int p4), .val (.int p5), .val (.int (Int32.ofNat pA)), .val (.int (2 : Int32)), .val (.int c1), .val (.int c2), .val (.int c3), .val (.ref b36), .val (.ref b42), .val (.int (Int32.ofNat (pA + 1 + L0 + 1))), .val (.int (Int32.ofNat (pA + 1 + (own_enc c1).length + (own_enc c2).length)))] [(.int (Int32.ofNat pA))])) t → Steps p.tables e below _ t := fun t kt => pre51 t (by
      show Steps p.tables e below (T50.setTop (mkF m 171 #[.val (.int p1), .val (.int p2), .val (.int p3), .val (.int p4), .val (.int p5), .val (.int (Int32.ofNat pA)), .val (.int (2 : Int32)), .val (.int c1), .val (.int c2), .val (.int c3), .val (.ref b36), .val (.ref b42), .val (.int (Int32.ofNat (pA + 1 + L0 + 1))), .val (.int (Int32.ofNat (pA + 1 + (own_enc c1).length)))] [(.int c2), (.int (Int32.ofNat (pA + 1 + (own_enc c1).length))), (.ref b42)])) _
      refine st52 _ ?_
      show Steps p.tables e below (T52.setTop (mkF m 174 #[.val (.int p1), .val (.int p2), .val (.int p3), .val (.int p4), .val (.int p5), .val (.int (Int32.ofNat pA)), .val (.int (2 : Int32)), .val (.int c1), .val (.int c2), .val (.int c3), .val (.ref b36), .val (.ref b42), .val (.int (Int32.ofNat (pA + 1 + L0 + 1))), .val (.int (Int32.ofNat (pA + 1 + (own_enc c1).length)))] [(.int (Int32.ofNat (pA + 1 + (own_enc c1).length + (own_enc c2).length)))])) _
      refine XS.istore X52.here hx rfl (hb hby at_174) rfl (l' := #[.val (.int p1), .val (.int p2), .val (.int p3), .val (.int p4), .val (.int p5), .val (.int (Int32.ofNat pA)), .val (.int (2 : Int32)), .val (.int c1), .val (.int c2), .val (.int c3), .val (.ref b36), .val (.ref b42), .val (.int (Int32.ofNat (pA + 1 + L0 + 1))), .val (.int (Int32.ofNat (pA + 1 + (own_enc c1).length + (own_enc c2).length)))]) rfl ?_
      show Steps p.tables e below (T52.setTop (mkF m 176 #[.val (.int p1), .val (.int p2), .val (.int p3), .val (.int p4), .val (.int p5), .val (.int (Int32.ofNat pA)), .val (.int (2 : Int32)), .val (.int c1), .val (.int c2), .val (.int c3), .val (.ref b36), .val (.ref b42), .val (.int (Int32.ofNat (pA + 1 + L0 + 1))), .val (.int (Int32.ofNat (pA + 1 + (own_enc c1).length + (own_enc c2).length)))] [])) _
      refine XS.iload X52.here hx rfl (hb hby at_176) rfl ?_
      show Steps p.tables e below (T52.setTop (mkF m 178 #[.val (.int p1), .val (.int p2), .val (.int p3), .val (.int p4), .val (.int p5), .val (.int (Int32.ofNat pA)), .val (.int (2 : Int32)), .val (.int c1), .val (.int c2), .val (.int c3), .val (.ref b36), .val (.ref b42), .val (.int (Int32.ofNat (pA + 1 + L0 + 1))), .val (.int (Int32.ofNat (pA + 1 + (own_enc c1).length + (own_enc c2).length)))] [(.int (2 : Int32))])) _
      refine XS.iconst X52.here hx rfl (hb hby at_178) ?_
      have hc179 : ¬ ((2 : Int32) < (2 : Int32)) := by decide
      show Steps p.tables e below (T52.setTop (mkF m 179 #[.val (.int p1), .val (.int p2), .val (.int p3), .val (.int p4), .val (.int p5), .val (.int (Int32.ofNat pA)), .val (.int (2 : Int32)), .val (.int c1), .val (.int c2), .val (.int c3), .val (.ref b36), .val (.ref b42), .val (.int (Int32.ofNat (pA + 1 + L0 + 1))), .val (.int (Int32.ofNat (pA + 1 + (own_enc c1).length + (own_enc c2).length)))] [(.int (2 : Int32)), (.int (2 : Int32))])) _
      refine XS.icmpYes X52.here hx rfl (pc0 := 179) (pc' := 198) rfl (hb hby at_179) rfl (flt hc179).2.2.2 (by decide) (by decide) ?_
      show Steps p.tables e below (T52.setTop (mkF m 198 #[.val (.int p1), .val (.int p2), .val (.int p3), .val (.int p4), .val (.int p5), .val (.int (Int32.ofNat pA)), .val (.int (2 : Int32)), .val (.int c1), .val (.int c2), .val (.int c3), .val (.ref b36), .val (.ref b42), .val (.int (Int32.ofNat (pA + 1 + L0 + 1))), .val (.int (Int32.ofNat (pA + 1 + (own_enc c1).length + (own_enc c2).length)))] [])) _
      refine XS.iload X52.here hx rfl (hb hby at_198) rfl ?_
      have hc200 : ¬ ((Int32.ofNat (pA + 1 + (own_enc c1).length + (own_enc c2).length)) < (0 : Int32)) := own_nneg (by omega)
      show Steps p.tables e below (T52.setTop (mkF m 200 #[.val (.int p1), .val (.int p2), .val (.int p3), .val (.int p4), .val (.int p5), .val (.int (Int32.ofNat pA)), .val (.int (2 : Int32)), .val (.int c1), .val (.int c2), .val (.int c3), .val (.ref b36), .val (.ref b42), .val (.int (Int32.ofNat (pA + 1 + L0 + 1))), .val (.int (Int32.ofNat (pA + 1 + (own_enc c1).length + (own_enc c2).length)))] [(.int (Int32.ofNat (pA + 1 + (own_enc c1).length + (own_enc c2).length)))])) _
      refine XS.ifYes X52.here hx rfl (pc0 := 200) (pc' := 205) rfl (hb hby at_200) rfl ((if0 _ _).trans (flt hc200).2.1) (by decide) (by decide) ?_
      show Steps p.tables e below (T52.setTop (mkF m 205 #[.val (.int p1), .val (.int p2), .val (.int p3), .val (.int p4), .val (.int p5), .val (.int (Int32.ofNat pA)), .val (.int (2 : Int32)), .val (.int c1), .val (.int c2), .val (.int c3), .val (.ref b36), .val (.ref b42), .val (.int (Int32.ofNat (pA + 1 + L0 + 1))), .val (.int (Int32.ofNat (pA + 1 + (own_enc c1).length + (own_enc c2).length)))] [])) _
      refine XS.aload X52.here hx rfl (hb hby at_205) rfl rfl ?_
      show Steps p.tables e below (T52.setTop (mkF m 207 #[.val (.int p1), .val (.int p2), .val (.int p3), .val (.int p4), .val (.int p5), .val (.int (Int32.ofNat pA)), .val (.int (2 : Int32)), .val (.int c1), .val (.int c2), .val (.int c3), .val (.ref b36), .val (.ref b42), .val (.int (Int32.ofNat (pA + 1 + L0 + 1))), .val (.int (Int32.ofNat (pA + 1 + (own_enc c1).length + (own_enc c2).length)))] [(.ref b42)])) _
      refine XS.iload X52.here hx rfl (hb hby at_207) rfl ?_
      show Steps p.tables e below (T52.setTop (mkF m 209 #[.val (.int p1), .val (.int p2), .val (.int p3), .val (.int p4), .val (.int p5), .val (.int (Int32.ofNat pA)), .val (.int (2 : Int32)), .val (.int c1), .val (.int c2), .val (.int c3), .val (.ref b36), .val (.ref b42), .val (.int (Int32.ofNat (pA + 1 + L0 + 1))), .val (.int (Int32.ofNat (pA + 1 + (own_enc c1).length + (own_enc c2).length)))] [(.int (Int32.ofNat (pA + 1 + (own_enc c1).length + (own_enc c2).length))), (.ref b42)])) _
      refine X52.baloadBytes hx (j := (Int32.ofNat (pA + 1 + (own_enc c1).length + (own_enc c2).length))) (v := (.int (ff (pA + 1 + (own_enc c1).length + (own_enc c2).length)))) (by rw [e52]; exact ArO.1) (State.isArrayOf_alike hZ.alike ArO.2.1) ArO.2.2 (within (c := (pA + 1 + (own_enc c1).length + (own_enc c2).length)) rfl (by omega) (by omega)) (by rw [clamp_of (c := (pA + 1 + (own_enc c1).length + (own_enc c2).length)) rfl (by omega)]; exact HfO _ (by omega)) (g := (mkF m 209 #[.val (.int p1), .val (.int p2), .val (.int p3), .val (.int p4), .val (.int p5), .val (.int (Int32.ofNat pA)), .val (.int (2 : Int32)), .val (.int c1), .val (.int c2), .val (.int c3), .val (.ref b36), .val (.ref b42), .val (.int (Int32.ofNat (pA + 1 + L0 + 1))), .val (.int (Int32.ofNat (pA + 1 + (own_enc c1).length + (own_enc c2).length)))] [(.int (Int32.ofNat (pA + 1 + (own_enc c1).length + (own_enc c2).length))), (.ref b42)])) rfl rfl (hb hby at_209) _ ?_
      show Steps p.tables e below (T52.setTop (mkF m 210 #[.val (.int p1), .val (.int p2), .val (.int p3), .val (.int p4), .val (.int p5), .val (.int (Int32.ofNat pA)), .val (.int (2 : Int32)), .val (.int c1), .val (.int c2), .val (.int c3), .val (.ref b36), .val (.ref b42), .val (.int (Int32.ofNat (pA + 1 + L0 + 1))), .val (.int (Int32.ofNat (pA + 1 + (own_enc c1).length + (own_enc c2).length)))] [(.int (ff (pA + 1 + (own_enc c1).length + (own_enc c2).length)))])) _
      refine XS.bipush X52.here hx rfl (hb hby at_210) ?_
      have hc212 : (ff (pA + 1 + (own_enc c1).length + (own_enc c2).length)) = (34 : Int32) := e1_
      show Steps p.tables e below (T52.setTop (mkF m 212 #[.val (.int p1), .val (.int p2), .val (.int p3), .val (.int p4), .val (.int p5), .val (.int (Int32.ofNat pA)), .val (.int (2 : Int32)), .val (.int c1), .val (.int c2), .val (.int c3), .val (.ref b36), .val (.ref b42), .val (.int (Int32.ofNat (pA + 1 + L0 + 1))), .val (.int (Int32.ofNat (pA + 1 + (own_enc c1).length + (own_enc c2).length)))] [(.int (34 : Int32)), (.int (ff (pA + 1 + (own_enc c1).length + (own_enc c2).length)))])) _
      refine XS.icmpNo X52.here hx rfl (hb hby at_212) rfl (teq hc212).2 ?_
      show Steps p.tables e below (T52.setTop (mkF m 215 #[.val (.int p1), .val (.int p2), .val (.int p3), .val (.int p4), .val (.int p5), .val (.int (Int32.ofNat pA)), .val (.int (2 : Int32)), .val (.int c1), .val (.int c2), .val (.int c3), .val (.ref b36), .val (.ref b42), .val (.int (Int32.ofNat (pA + 1 + L0 + 1))), .val (.int (Int32.ofNat (pA + 1 + (own_enc c1).length + (own_enc c2).length)))] [])) _
      refine XS.iload X52.here hx rfl (hb hby at_215) rfl ?_
      show Steps p.tables e below (T52.setTop (mkF m 217 #[.val (.int p1), .val (.int p2), .val (.int p3), .val (.int p4), .val (.int p5), .val (.int (Int32.ofNat pA)), .val (.int (2 : Int32)), .val (.int c1), .val (.int c2), .val (.int c3), .val (.ref b36), .val (.ref b42), .val (.int (Int32.ofNat (pA + 1 + L0 + 1))), .val (.int (Int32.ofNat (pA + 1 + (own_enc c1).length + (own_enc c2).length)))] [(.int (Int32.ofNat (pA + 1 + L0 + 1)))])) _
      refine XS.iload X52.here hx rfl (hb hby at_217) rfl ?_
      show Steps p.tables e below (T52.setTop (mkF m 219 #[.val (.int p1), .val (.int p2), .val (.int p3), .val (.int p4), .val (.int p5), .val (.int (Int32.ofNat pA)), .val (.int (2 : Int32)), .val (.int c1), .val (.int c2), .val (.int c3), .val (.ref b36), .val (.ref b42), .val (.int (Int32.ofNat (pA + 1 + L0 + 1))), .val (.int (Int32.ofNat (pA + 1 + (own_enc c1).length + (own_enc c2).length)))] [(.int (Int32.ofNat (pA + 1 + (own_enc c1).length + (own_enc c2).length))), (.int (Int32.ofNat (pA + 1 + L0 + 1)))])) _
      refine XS.iconst X52.here hx rfl (hb hby at_219) ?_
      show Steps p.tables e below (T52.setTop (mkF m 220 #[.val (.int p1), .val (.int p2), .val (.int p3), .val (.int p4), .val (.int p5), .val (.int (Int32.ofNat pA)), .val (.int (2 : Int32)), .val (.int c1), .val (.int c2), .val (.int c3), .val (.ref b36), .val (.ref b42), .val (.int (Int32.ofNat (pA + 1 + L0 + 1))), .val (.int (Int32.ofNat (pA + 1 + (own_enc c1).length + (own_enc c2).length)))] [(.int (1 : Int32)), (.int (Int32.ofNat (pA + 1 + (own_enc c1).length + (own_enc c2).length))), (.int (Int32.ofNat (pA + 1 + L0 + 1)))])) _
      refine XS.iadd X52.here hx rfl (hb hby at_220) rfl ?_
      have hc221 : (Int32.ofNat (pA + 1 + L0 + 1)) = ((Int32.ofNat (pA + 1 + (own_enc c1).length + (own_enc c2).length)) + (1 : Int32)) := by rw [hpe]; exact (own_add (pA + 1 + (own_enc c1).length + (own_enc c2).length) 1).symm
      show Steps p.tables e below (T52.setTop (mkF m 221 #[.val (.int p1), .val (.int p2), .val (.int p3), .val (.int p4), .val (.int p5), .val (.int (Int32.ofNat pA)), .val (.int (2 : Int32)), .val (.int c1), .val (.int c2), .val (.int c3), .val (.ref b36), .val (.ref b42), .val (.int (Int32.ofNat (pA + 1 + L0 + 1))), .val (.int (Int32.ofNat (pA + 1 + (own_enc c1).length + (own_enc c2).length)))] [(.int ((Int32.ofNat (pA + 1 + (own_enc c1).length + (own_enc c2).length)) + (1 : Int32))), (.int (Int32.ofNat (pA + 1 + L0 + 1)))])) _
      refine XS.icmpNo X52.here hx rfl (hb hby at_221) rfl (teq hc221).2 ?_
      show Steps p.tables e below (T52.setTop (mkF m 224 #[.val (.int p1), .val (.int p2), .val (.int p3), .val (.int p4), .val (.int p5), .val (.int (Int32.ofNat pA)), .val (.int (2 : Int32)), .val (.int c1), .val (.int c2), .val (.int c3), .val (.ref b36), .val (.ref b42), .val (.int (Int32.ofNat (pA + 1 + L0 + 1))), .val (.int (Int32.ofNat (pA + 1 + (own_enc c1).length + (own_enc c2).length)))] [])) _
      refine XS.iload X52.here hx rfl (hb hby at_224) rfl ?_
      have hc226 : ¬ ((Int32.ofNat (pA + 1 + L0 + 1)) < (0 : Int32)) := own_nneg (by omega)
      show Steps p.tables e below (T52.setTop (mkF m 226 #[.val (.int p1), .val (.int p2), .val (.int p3), .val (.int p4), .val (.int p5), .val (.int (Int32.ofNat pA)), .val (.int (2 : Int32)), .val (.int c1), .val (.int c2), .val (.int c3), .val (.ref b36), .val (.ref b42), .val (.int (Int32.ofNat (pA + 1 + L0 + 1))), .val (.int (Int32.ofNat (pA + 1 + (own_enc c1).length + (own_enc c2).length)))] [(.int (Int32.ofNat (pA + 1 + L0 + 1)))])) _
      refine XS.ifNo X52.here hx rfl (hb hby at_226) rfl ((if0 _ _).trans (flt hc226).1) ?_
      show Steps p.tables e below (T52.setTop (mkF m 229 #[.val (.int p1), .val (.int p2), .val (.int p3), .val (.int p4), .val (.int p5), .val (.int (Int32.ofNat pA)), .val (.int (2 : Int32)), .val (.int c1), .val (.int c2), .val (.int c3), .val (.ref b36), .val (.ref b42), .val (.int (Int32.ofNat (pA + 1 + L0 + 1))), .val (.int (Int32.ofNat (pA + 1 + (own_enc c1).length + (own_enc c2).length)))] [])) _
      refine XS.iload X52.here hx rfl (hb hby at_229) rfl ?_
      show Steps p.tables e below (T52.setTop (mkF m 231 #[.val (.int p1), .val (.int p2), .val (.int p3), .val (.int p4), .val (.int p5), .val (.int (Int32.ofNat pA)), .val (.int (2 : Int32)), .val (.int c1), .val (.int c2), .val (.int c3), .val (.ref b36), .val (.ref b42), .val (.int (Int32.ofNat (pA + 1 + L0 + 1))), .val (.int (Int32.ofNat (pA + 1 + (own_enc c1).length + (own_enc c2).length)))] [(.int (Int32.ofNat (pA + 1 + L0 + 1)))])) _
      refine XS.bipush X52.here hx rfl (hb hby at_231) ?_
      have hc233 : (Int32.ofNat (pA + 1 + L0 + 1)) < (24 : Int32) := own_lt (n := 24) (by omega) (by decide)
      show Steps p.tables e below (T52.setTop (mkF m 233 #[.val (.int p1), .val (.int p2), .val (.int p3), .val (.int p4), .val (.int p5), .val (.int (Int32.ofNat pA)), .val (.int (2 : Int32)), .val (.int c1), .val (.int c2), .val (.int c3), .val (.ref b36), .val (.ref b42), .val (.int (Int32.ofNat (pA + 1 + L0 + 1))), .val (.int (Int32.ofNat (pA + 1 + (own_enc c1).length + (own_enc c2).length)))] [(.int (24 : Int32)), (.int (Int32.ofNat (pA + 1 + L0 + 1)))])) _
      refine XS.icmpYes X52.here hx rfl (pc0 := 233) (pc' := 238) rfl (hb hby at_233) rfl (tlt hc233).1 (by decide) (by decide) ?_
      show Steps p.tables e below (T52.setTop (mkF m 238 #[.val (.int p1), .val (.int p2), .val (.int p3), .val (.int p4), .val (.int p5), .val (.int (Int32.ofNat pA)), .val (.int (2 : Int32)), .val (.int c1), .val (.int c2), .val (.int c3), .val (.ref b36), .val (.ref b42), .val (.int (Int32.ofNat (pA + 1 + L0 + 1))), .val (.int (Int32.ofNat (pA + 1 + (own_enc c1).length + (own_enc c2).length)))] [])) _
      refine XS.aload X52.here hx rfl (hb hby at_238) rfl rfl ?_
      show Steps p.tables e below (T52.setTop (mkF m 240 #[.val (.int p1), .val (.int p2), .val (.int p3), .val (.int p4), .val (.int p5), .val (.int (Int32.ofNat pA)), .val (.int (2 : Int32)), .val (.int c1), .val (.int c2), .val (.int c3), .val (.ref b36), .val (.ref b42), .val (.int (Int32.ofNat (pA + 1 + L0 + 1))), .val (.int (Int32.ofNat (pA + 1 + (own_enc c1).length + (own_enc c2).length)))] [(.ref b42)])) _
      refine XS.iload X52.here hx rfl (hb hby at_240) rfl ?_
      show Steps p.tables e below (T52.setTop (mkF m 242 #[.val (.int p1), .val (.int p2), .val (.int p3), .val (.int p4), .val (.int p5), .val (.int (Int32.ofNat pA)), .val (.int (2 : Int32)), .val (.int c1), .val (.int c2), .val (.int c3), .val (.ref b36), .val (.ref b42), .val (.int (Int32.ofNat (pA + 1 + L0 + 1))), .val (.int (Int32.ofNat (pA + 1 + (own_enc c1).length + (own_enc c2).length)))] [(.int (Int32.ofNat (pA + 1 + L0 + 1))), (.ref b42)])) _
      refine X52.baloadBytes hx (j := (Int32.ofNat (pA + 1 + L0 + 1))) (v := (.int (ff (pA + 1 + L0 + 1)))) (by rw [e52]; exact ArO.1) (State.isArrayOf_alike hZ.alike ArO.2.1) ArO.2.2 (within (c := (pA + 1 + L0 + 1)) rfl (by omega) (by omega)) (by rw [clamp_of (c := (pA + 1 + L0 + 1)) rfl (by omega)]; exact HfO _ (by omega)) (g := (mkF m 242 #[.val (.int p1), .val (.int p2), .val (.int p3), .val (.int p4), .val (.int p5), .val (.int (Int32.ofNat pA)), .val (.int (2 : Int32)), .val (.int c1), .val (.int c2), .val (.int c3), .val (.ref b36), .val (.ref b42), .val (.int (Int32.ofNat (pA + 1 + L0 + 1))), .val (.int (Int32.ofNat (pA + 1 + (own_enc c1).length + (own_enc c2).length)))] [(.int (Int32.ofNat (pA + 1 + L0 + 1))), (.ref b42)])) rfl rfl (hb hby at_242) _ ?_
      have hc243 : (ff (pA + 1 + L0 + 1)) = (0 : Int32) := e2_
      show Steps p.tables e below (T52.setTop (mkF m 243 #[.val (.int p1), .val (.int p2), .val (.int p3), .val (.int p4), .val (.int p5), .val (.int (Int32.ofNat pA)), .val (.int (2 : Int32)), .val (.int c1), .val (.int c2), .val (.int c3), .val (.ref b36), .val (.ref b42), .val (.int (Int32.ofNat (pA + 1 + L0 + 1))), .val (.int (Int32.ofNat (pA + 1 + (own_enc c1).length + (own_enc c2).length)))] [(.int (ff (pA + 1 + L0 + 1)))])) _
      refine XS.ifYes X52.here hx rfl (pc0 := 243) (pc' := 248) rfl (hb hby at_243) rfl ((if0 _ _).trans (teq hc243).1) (by decide) (by decide) ?_
      show Steps p.tables e below (T52.setTop (mkF m 248 #[.val (.int p1), .val (.int p2), .val (.int p3), .val (.int p4), .val (.int p5), .val (.int (Int32.ofNat pA)), .val (.int (2 : Int32)), .val (.int c1), .val (.int c2), .val (.int c3), .val (.ref b36), .val (.ref b42), .val (.int (Int32.ofNat (pA + 1 + L0 + 1))), .val (.int (Int32.ofNat (pA + 1 + (own_enc c1).length + (own_enc c2).length)))] [])) _
      refine XS.iload X52.here hx rfl (hb hby at_248) rfl ?_
      exact kt)
    by_cases hz : pA = 0
    · obtain ⟨fs, hr, hrun, hended, hW, hsame⟩ := X52.leave (v := some (.int (1 : Int32))) (fun h => by rw [Bd.returns] at h; cases h)
      refine ⟨_, _, pre53 _ ?_, hrun, hended, _, _, rfl, ?_, ⟨_, rfl⟩, hW, hsame.mono (by decide) (by decide)⟩
      · have hc250 : (Int32.ofNat pA) = (0 : Int32) := by rw [hz]; rfl
        show Steps p.tables e below (T52.setTop (mkF m 250 #[.val (.int p1), .val (.int p2), .val (.int p3), .val (.int p4), .val (.int p5), .val (.int (Int32.ofNat pA)), .val (.int (2 : Int32)), .val (.int c1), .val (.int c2), .val (.int c3), .val (.ref b36), .val (.ref b42), .val (.int (Int32.ofNat (pA + 1 + L0 + 1))), .val (.int (Int32.ofNat (pA + 1 + (own_enc c1).length + (own_enc c2).length)))] [(.int (Int32.ofNat pA))])) _
        refine XS.ifYes X52.here hx rfl (pc0 := 250) (pc' := 263) rfl (hb hby at_250) rfl ((if0 _ _).trans (teq hc250).1) (by decide) (by decide) ?_
        show Steps p.tables e below (T52.setTop (mkF m 263 #[.val (.int p1), .val (.int p2), .val (.int p3), .val (.int p4), .val (.int p5), .val (.int (Int32.ofNat pA)), .val (.int (2 : Int32)), .val (.int c1), .val (.int c2), .val (.int c3), .val (.ref b36), .val (.ref b42), .val (.int (Int32.ofNat (pA + 1 + L0 + 1))), .val (.int (Int32.ofNat (pA + 1 + (own_enc c1).length + (own_enc c2).length)))] [])) _
        refine XS.iconst X52.here hx rfl (hb hby at_263) ?_
        show Steps p.tables e below (T52.setTop (mkF m 264 #[.val (.int p1), .val (.int p2), .val (.int p3), .val (.int p4), .val (.int p5), .val (.int (Int32.ofNat pA)), .val (.int (2 : Int32)), .val (.int c1), .val (.int c2), .val (.int c3), .val (.ref b36), .val (.ref b42), .val (.int (Int32.ofNat (pA + 1 + L0 + 1))), .val (.int (Int32.ofNat (pA + 1 + (own_enc c1).length + (own_enc c2).length)))] [(.int (1 : Int32))])) _
        refine XS.goto X52.here hx rfl (pc0 := 264) (pc' := 268) rfl (hb hby at_264) (by decide) (by decide) ?_
        show Steps p.tables e below (T52.setTop (mkF m 268 #[.val (.int p1), .val (.int p2), .val (.int p3), .val (.int p4), .val (.int p5), .val (.int (Int32.ofNat pA)), .val (.int (2 : Int32)), .val (.int c1), .val (.int c2), .val (.int c3), .val (.ref b36), .val (.ref b42), .val (.int (Int32.ofNat (pA + 1 + L0 + 1))), .val (.int (Int32.ofNat (pA + 1 + (own_enc c1).length + (own_enc c2).length)))] [(.int (1 : Int32))])) _
        exact retN X52 hx (t := .boolean) Bd.returns (by simp) (hb hby at_268) hr
      · exact ⟨rfl, N52⟩
    · have pre54 : ∀ t, Steps p.tables e below (T52.setTop (mkF m 259 #[.val (.int p1), .val (.int p2), .val (.int p3), .val (.int p4), .val (.int p5), .val (.int (Int32.ofNat pA)), .val (.int (2 : Int32)), .val (.int c1), .val (.int c2), .val (.int c3), .val (.ref b36), .val (.ref b42), .val (.int (Int32.ofNat (pA + 1 + L0 + 1))), .val (.int (Int32.ofNat (pA + 1 + (own_enc c1).length + (own_enc c2).length)))] [(.int ((Int32.ofNat pA) - (1 : Int32))), (.ref b42)])) t → Steps p.tables e below _ t := fun t kt => pre53 t (by
        have hc250 : ¬ ((Int32.ofNat pA) = (0 : Int32)) := own_ne (n := 0) hz (by omega) (by decide)
        show Steps p.tables e below (T52.setTop (mkF m 250 #[.val (.int p1), .val (.int p2), .val (.int p3), .val (.int p4), .val (.int p5), .val (.int (Int32.ofNat pA)), .val (.int (2 : Int32)), .val (.int c1), .val (.int c2), .val (.int c3), .val (.ref b36), .val (.ref b42), .val (.int (Int32.ofNat (pA + 1 + L0 + 1))), .val (.int (Int32.ofNat (pA + 1 + (own_enc c1).length + (own_enc c2).length)))] [(.int (Int32.ofNat pA))])) _
        refine XS.ifNo X52.here hx rfl (hb hby at_250) rfl ((if0 _ _).trans (feq hc250).1) ?_
        show Steps p.tables e below (T52.setTop (mkF m 253 #[.val (.int p1), .val (.int p2), .val (.int p3), .val (.int p4), .val (.int p5), .val (.int (Int32.ofNat pA)), .val (.int (2 : Int32)), .val (.int c1), .val (.int c2), .val (.int c3), .val (.ref b36), .val (.ref b42), .val (.int (Int32.ofNat (pA + 1 + L0 + 1))), .val (.int (Int32.ofNat (pA + 1 + (own_enc c1).length + (own_enc c2).length)))] [])) _
        refine XS.aload X52.here hx rfl (hb hby at_253) rfl rfl ?_
        show Steps p.tables e below (T52.setTop (mkF m 255 #[.val (.int p1), .val (.int p2), .val (.int p3), .val (.int p4), .val (.int p5), .val (.int (Int32.ofNat pA)), .val (.int (2 : Int32)), .val (.int c1), .val (.int c2), .val (.int c3), .val (.ref b36), .val (.ref b42), .val (.int (Int32.ofNat (pA + 1 + L0 + 1))), .val (.int (Int32.ofNat (pA + 1 + (own_enc c1).length + (own_enc c2).length)))] [(.ref b42)])) _
        refine XS.iload X52.here hx rfl (hb hby at_255) rfl ?_
        show Steps p.tables e below (T52.setTop (mkF m 257 #[.val (.int p1), .val (.int p2), .val (.int p3), .val (.int p4), .val (.int p5), .val (.int (Int32.ofNat pA)), .val (.int (2 : Int32)), .val (.int c1), .val (.int c2), .val (.int c3), .val (.ref b36), .val (.ref b42), .val (.int (Int32.ofNat (pA + 1 + L0 + 1))), .val (.int (Int32.ofNat (pA + 1 + (own_enc c1).length + (own_enc c2).length)))] [(.int (Int32.ofNat pA)), (.ref b42)])) _
        refine XS.iconst X52.here hx rfl (hb hby at_257) ?_
        show Steps p.tables e below (T52.setTop (mkF m 258 #[.val (.int p1), .val (.int p2), .val (.int p3), .val (.int p4), .val (.int p5), .val (.int (Int32.ofNat pA)), .val (.int (2 : Int32)), .val (.int c1), .val (.int c2), .val (.int c3), .val (.ref b36), .val (.ref b42), .val (.int (Int32.ofNat (pA + 1 + L0 + 1))), .val (.int (Int32.ofNat (pA + 1 + (own_enc c1).length + (own_enc c2).length)))] [(.int (1 : Int32)), (.int (Int32.ofNat pA)), (.ref b42)])) _
        refine XS.isub X52.here hx rfl (hb hby at_258) rfl ?_
        exact kt)
      have hv55 : ((Int32.ofNat pA) - (1 : Int32)) = (Int32.ofNat (pA - 1)) := own_sub (b := 1) (by omega) (by omega)
      rw [hv55] at pre54
      obtain ⟨fs, hr, hrun, hended, hW, hsame⟩ := X52.leave (v := some (.int (1 : Int32))) (fun h => by rw [Bd.returns] at h; cases h)
      refine ⟨_, _, pre54 _ ?_, hrun, hended, _, _, rfl, ?_, ⟨_, rfl⟩, hW, hsame.mono (by decide) (by decide)⟩
      · show Steps p.tables e below (T52.setTop (mkF m 259 #[.val (.int p1), .val (.int p2), .val (.int p3), .val (.int p4), .val (.int p5), .val (.int (Int32.ofNat pA)), .val (.int (2 : Int32)), .val (.int c1), .val (.int c2), .val (.int c3), .val (.ref b36), .val (.ref b42), .val (.int (Int32.ofNat (pA + 1 + L0 + 1))), .val (.int (Int32.ofNat (pA + 1 + (own_enc c1).length + (own_enc c2).length)))] [(.int (Int32.ofNat (pA - 1))), (.ref b42)])) _
        refine X52.baloadBytes hx (j := (Int32.ofNat (pA - 1))) (v := (.int (ff (pA - 1)))) (by rw [e52]; exact ArO.1) (State.isArrayOf_alike hZ.alike ArO.2.1) ArO.2.2 (within (c := (pA - 1)) rfl (by omega) (by omega)) (by rw [clamp_of (c := (pA - 1)) rfl (by omega)]; exact HfO _ (by omega)) (g := (mkF m 259 #[.val (.int p1), .val (.int p2), .val (.int p3), .val (.int p4), .val (.int p5), .val (.int (Int32.ofNat pA)), .val (.int (2 : Int32)), .val (.int c1), .val (.int c2), .val (.int c3), .val (.ref b36), .val (.ref b42), .val (.int (Int32.ofNat (pA + 1 + L0 + 1))), .val (.int (Int32.ofNat (pA + 1 + (own_enc c1).length + (own_enc c2).length)))] [(.int (Int32.ofNat (pA - 1))), (.ref b42)])) rfl rfl (hb hby at_259) _ ?_
        have hc260 : (ff (pA - 1)) = (0 : Int32) := e3_ _ (by omega)
        show Steps p.tables e below (T52.setTop (mkF m 260 #[.val (.int p1), .val (.int p2), .val (.int p3), .val (.int p4), .val (.int p5), .val (.int (Int32.ofNat pA)), .val (.int (2 : Int32)), .val (.int c1), .val (.int c2), .val (.int c3), .val (.ref b36), .val (.ref b42), .val (.int (Int32.ofNat (pA + 1 + L0 + 1))), .val (.int (Int32.ofNat (pA + 1 + (own_enc c1).length + (own_enc c2).length)))] [(.int (ff (pA - 1)))])) _
        refine XS.ifNo X52.here hx rfl (hb hby at_260) rfl ((if0 _ _).trans (teq hc260).2) ?_
        show Steps p.tables e below (T52.setTop (mkF m 263 #[.val (.int p1), .val (.int p2), .val (.int p3), .val (.int p4), .val (.int p5), .val (.int (Int32.ofNat pA)), .val (.int (2 : Int32)), .val (.int c1), .val (.int c2), .val (.int c3), .val (.ref b36), .val (.ref b42), .val (.int (Int32.ofNat (pA + 1 + L0 + 1))), .val (.int (Int32.ofNat (pA + 1 + (own_enc c1).length + (own_enc c2).length)))] [])) _
        refine XS.iconst X52.here hx rfl (hb hby at_263) ?_
        show Steps p.tables e below (T52.setTop (mkF m 264 #[.val (.int p1), .val (.int p2), .val (.int p3), .val (.int p4), .val (.int p5), .val (.int (Int32.ofNat pA)), .val (.int (2 : Int32)), .val (.int c1), .val (.int c2), .val (.int c3), .val (.ref b36), .val (.ref b42), .val (.int (Int32.ofNat (pA + 1 + L0 + 1))), .val (.int (Int32.ofNat (pA + 1 + (own_enc c1).length + (own_enc c2).length)))] [(.int (1 : Int32))])) _
        refine XS.goto X52.here hx rfl (pc0 := 264) (pc' := 268) rfl (hb hby at_264) (by decide) (by decide) ?_
        show Steps p.tables e below (T52.setTop (mkF m 268 #[.val (.int p1), .val (.int p2), .val (.int p3), .val (.int p4), .val (.int p5), .val (.int (Int32.ofNat pA)), .val (.int (2 : Int32)), .val (.int c1), .val (.int c2), .val (.int c3), .val (.ref b36), .val (.ref b42), .val (.int (Int32.ofNat (pA + 1 + L0 + 1))), .val (.int (Int32.ofNat (pA + 1 + (own_enc c1).length + (own_enc c2).length)))] [(.int (1 : Int32))])) _
        exact retN X52 hx (t := .boolean) Bd.returns (by simp) (hb hby at_268) hr
      · exact ⟨rfl, N52⟩
  · have preN : ∀ t, Steps p.tables e below (s₁.setTop (mkF m 26 #[.val (.int p1), .val (.int p2), .val (.int p3), .val (.int p4), .val (.int p5), .val (.int (Int32.ofNat pA)), .val (.int (3 : Int32)), .val (.int c1), .val (.int c2), .val (.int c3), .unset, .unset, .unset, .unset] [])) t → Steps p.tables e below (s₁.setTop (entryFrame m #[(.int p1), (.int p2), (.int p3), (.int p4), (.int p5)] maxLocals)) t := pre3
    have pre56 : ∀ t, Steps p.tables e below (s₁.setTop (mkF m 77 #[.val (.int p1), .val (.int p2), .val (.int p3), .val (.int p4), .val (.int p5), .val (.int (Int32.ofNat pA)), .val (.int (3 : Int32)), .val (.int c1), .val (.int c2), .val (.int c3), .unset, .unset, .unset, .unset] [(.int (3 : Int32))])) t → Steps p.tables e below _ t := fun t kt => preN t (by
      show Steps p.tables e below (s₁.setTop (mkF m 26 #[.val (.int p1), .val (.int p2), .val (.int p3), .val (.int p4), .val (.int p5), .val (.int (Int32.ofNat pA)), .val (.int (3 : Int32)), .val (.int c1), .val (.int c2), .val (.int c3), .unset, .unset, .unset, .unset] [])) _
      refine XS.iload X0.here hx rfl (hb hby at_26) rfl ?_
      have hc28 : ¬ ((3 : Int32) = (0 : Int32)) := by decide
      show Steps p.tables e below (s₁.setTop (mkF m 28 #[.val (.int p1), .val (.int p2), .val (.int p3), .val (.int p4), .val (.int p5), .val (.int (Int32.ofNat pA)), .val (.int (3 : Int32)), .val (.int c1), .val (.int c2), .val (.int c3), .unset, .unset, .unset, .unset] [(.int (3 : Int32))])) _
      refine XS.ifYes X0.here hx rfl (pc0 := 28) (pc' := 37) rfl (hb hby at_28) rfl ((if0 _ _).trans (feq hc28).2) (by decide) (by decide) ?_
      show Steps p.tables e below (s₁.setTop (mkF m 37 #[.val (.int p1), .val (.int p2), .val (.int p3), .val (.int p4), .val (.int p5), .val (.int (Int32.ofNat pA)), .val (.int (3 : Int32)), .val (.int c1), .val (.int c2), .val (.int c3), .unset, .unset, .unset, .unset] [])) _
      refine XS.iload X0.here hx rfl (hb hby at_37) rfl ?_
      show Steps p.tables e below (s₁.setTop (mkF m 39 #[.val (.int p1), .val (.int p2), .val (.int p3), .val (.int p4), .val (.int p5), .val (.int (Int32.ofNat pA)), .val (.int (3 : Int32)), .val (.int c1), .val (.int c2), .val (.int c3), .unset, .unset, .unset, .unset] [(.int (3 : Int32))])) _
      refine XS.iconst X0.here hx rfl (hb hby at_39) ?_
      have hc40 : ¬ ((3 : Int32) = (1 : Int32)) := by decide
      show Steps p.tables e below (s₁.setTop (mkF m 40 #[.val (.int p1), .val (.int p2), .val (.int p3), .val (.int p4), .val (.int p5), .val (.int (Int32.ofNat pA)), .val (.int (3 : Int32)), .val (.int c1), .val (.int c2), .val (.int c3), .unset, .unset, .unset, .unset] [(.int (1 : Int32)), (.int (3 : Int32))])) _
      refine XS.icmpYes X0.here hx rfl (pc0 := 40) (pc' := 54) rfl (hb hby at_40) rfl (feq hc40).2 (by decide) (by decide) ?_
      show Steps p.tables e below (s₁.setTop (mkF m 54 #[.val (.int p1), .val (.int p2), .val (.int p3), .val (.int p4), .val (.int p5), .val (.int (Int32.ofNat pA)), .val (.int (3 : Int32)), .val (.int c1), .val (.int c2), .val (.int c3), .unset, .unset, .unset, .unset] [])) _
      refine XS.iload X0.here hx rfl (hb hby at_54) rfl ?_
      show Steps p.tables e below (s₁.setTop (mkF m 56 #[.val (.int p1), .val (.int p2), .val (.int p3), .val (.int p4), .val (.int p5), .val (.int (Int32.ofNat pA)), .val (.int (3 : Int32)), .val (.int c1), .val (.int c2), .val (.int c3), .unset, .unset, .unset, .unset] [(.int (3 : Int32))])) _
      refine XS.iconst X0.here hx rfl (hb hby at_56) ?_
      have hc57 : ¬ ((3 : Int32) = (2 : Int32)) := by decide
      show Steps p.tables e below (s₁.setTop (mkF m 57 #[.val (.int p1), .val (.int p2), .val (.int p3), .val (.int p4), .val (.int p5), .val (.int (Int32.ofNat pA)), .val (.int (3 : Int32)), .val (.int c1), .val (.int c2), .val (.int c3), .unset, .unset, .unset, .unset] [(.int (2 : Int32)), (.int (3 : Int32))])) _
      refine XS.icmpYes X0.here hx rfl (pc0 := 57) (pc' := 76) rfl (hb hby at_57) rfl (feq hc57).2 (by decide) (by decide) ?_
      show Steps p.tables e below (s₁.setTop (mkF m 76 #[.val (.int p1), .val (.int p2), .val (.int p3), .val (.int p4), .val (.int p5), .val (.int (Int32.ofNat pA)), .val (.int (3 : Int32)), .val (.int c1), .val (.int c2), .val (.int c3), .unset, .unset, .unset, .unset] [])) _
      refine XS.iconst X0.here hx rfl (hb hby at_76) ?_
      exact kt)
    obtain ⟨T57, h57, k57, X57, e57, E57, A57, st57⟩ := newP X0 hx hZ (hw _ (List.mem_of_getElem? (i := 1) rfl)) e0 (g := (mkF m 77 #[.val (.int p1), .val (.int p2), .val (.int p3), .val (.int p4), .val (.int p5), .val (.int (Int32.ofNat pA)), .val (.int (3 : Int32)), .val (.int c1), .val (.int c2), .val (.int c3), .unset, .unset, .unset, .unset] [(.int (3 : Int32))])) rfl (hb hby at_77) rfl (by decide) (cap := 3) (by decide) (by decide) (by decide) (by decide)
    obtain ⟨b57, gb57⟩ : ∃ z, z = h0.size := ⟨_, rfl⟩
    rw [← gb57] at A57 st57
    have g_b57 : n0 ≤ b57 := Nat.le_trans Z0 (Nat.le_of_eq gb57.symm)
    have Zs57 : n0 ≤ h57.size := Nat.le_trans Z0 E57.1
    have sz_b57 : h0.size ≤ b57 := Nat.le_trans (Keep.refl h0 []).1 (Nat.le_of_eq gb57.symm)
    have Kp57 : Keep h0 h57 [] := (Keep.refl h0 []).ext E57
    have Ft0 : own_A Z h57 b57 .byte 3 (fun _ => 0) := own_A_new A57 rfl rfl
    have pre58 : ∀ t, Steps p.tables e below (T57.setTop (mkF m 83 #[.val (.int p1), .val (.int p2), .val (.int p3), .val (.int p4), .val (.int p5), .val (.int (Int32.ofNat pA)), .val (.int (3 : Int32)), .val (.int c1), .val (.int c2), .val (.int c3), .unset, .unset, .unset, .unset] [(.int c1), (.int (0 : Int32)), (.ref b57), (.ref b57)])) t → Steps p.tables e below _ t := fun t kt => pre56 t (by
      show Steps p.tables e below (s₁.setTop (mkF m 77 #[.val (.int p1), .val (.int p2), .val (.int p3), .val (.int p4), .val (.int p5), .val (.int (Int32.ofNat pA)), .val (.int (3 : Int32)), .val (.int c1), .val (.int c2), .val (.int c3), .unset, .unset, .unset, .unset] [(.int (3 : Int32))])) _
      refine st57 _ ?_
      show Steps p.tables e below (T57.setTop (mkF m 79 #[.val (.int p1), .val (.int p2), .val (.int p3), .val (.int p4), .val (.int p5), .val (.int (Int32.ofNat pA)), .val (.int (3 : Int32)), .val (.int c1), .val (.int c2), .val (.int c3), .unset, .unset, .unset, .unset] [(.ref b57)])) _
      refine XS.dup X57.here hx rfl (hb hby at_79) rfl rfl ?_
      show Steps p.tables e below (T57.setTop (mkF m 80 #[.val (.int p1), .val (.int p2), .val (.int p3), .val (.int p4), .val (.int p5), .val (.int (Int32.ofNat pA)), .val (.int (3 : Int32)), .val (.int c1), .val (.int c2), .val (.int c3), .unset, .unset, .unset, .unset] [(.ref b57), (.ref b57)])) _
      refine XS.iconst X57.here hx rfl (hb hby at_80) ?_
      show Steps p.tables e below (T57.setTop (mkF m 81 #[.val (.int p1), .val (.int p2), .val (.int p3), .val (.int p4), .val (.int p5), .val (.int (Int32.ofNat pA)), .val (.int (3 : Int32)), .val (.int c1), .val (.int c2), .val (.int c3), .unset, .unset, .unset, .unset] [(.int (0 : Int32)), (.ref b57), (.ref b57)])) _
      refine XS.iload X57.here hx rfl (hb hby at_81) rfl ?_
      exact kt)
    obtain ⟨cl0, Ar0, Sz0, Hf0⟩ := id Ft0
    obtain ⟨T59, h59, X59, e59, W59, st59⟩ := stB X57 hx hZ e57 Ar0 (j := (0 : Int32)) (within (c := 0) rfl (by omega) (by omega)) (g := (mkF m 83 #[.val (.int p1), .val (.int p2), .val (.int p3), .val (.int p4), .val (.int p5), .val (.int (Int32.ofNat pA)), .val (.int (3 : Int32)), .val (.int c1), .val (.int c2), .val (.int c3), .unset, .unset, .unset, .unset] [(.int c1), (.int (0 : Int32)), (.ref b57), (.ref b57)])) rfl rfl (hb hby at_83)
    have N59 := Fr.snoc X59 N0 g_b57
    have Zs59 : n0 ≤ h59.size := Nat.le_trans Zs57 (Nat.le_of_eq W59.size.symm)
    have Kp59 : Keep h0 h59 [] := Kp57.wr W59 (Or.inr sz_b57)
    have Vt0 : Wr h57 h59 b57 0 (.int c1) := by have z' := W59; rw [hbc1] at z'; exact z'
    have Ft1 := own_A_set Ft0 Vt0
    have pre60 : ∀ t, Steps p.tables e below (T59.setTop (mkF m 88 #[.val (.int p1), .val (.int p2), .val (.int p3), .val (.int p4), .val (.int p5), .val (.int (Int32.ofNat pA)), .val (.int (3 : Int32)), .val (.int c1), .val (.int c2), .val (.int c3), .unset, .unset, .unset, .unset] [(.int c2), (.int (1 : Int32)), (.ref b57), (.ref b57)])) t → Steps p.tables e below _ t := fun t kt => pre58 t (by
      show Steps p.tables e below (T57.setTop (mkF m 83 #[.val (.int p1), .val (.int p2), .val (.int p3), .val (.int p4), .val (.int p5), .val (.int (Int32.ofNat pA)), .val (.int (3 : Int32)), .val (.int c1), .val (.int c2), .val (.int c3), .unset, .unset, .unset, .unset] [(.int c1), (.int (0 : Int32)), (.ref b57), (.ref b57)])) _
      refine st59 _ ?_
      show Steps p.tables e below (T59.setTop (mkF m 84 #[.val (.int p1), .val (.int p2), .val (.int p3), .val (.int p4), .val (.int p5), .val (.int (Int32.ofNat pA)), .val (.int (3 : Int32)), .val (.int c1), .val (.int c2), .val (.int c3), .unset, .unset, .unset, .unset] [(.ref b57)])) _
      refine XS.dup X59.here hx rfl (hb hby at_84) rfl rfl ?_
      show Steps p.tables e below (T59.setTop (mkF m 85 #[.val (.int p1), .val (.int p2), .val (.int p3), .val (.int p4), .val (.int p5), .val (.int (Int32.ofNat pA)), .val (.int (3 : Int32)), .val (.int c1), .val (.int c2), .val (.int c3), .unset, .unset, .unset, .unset] [(.ref b57), (.ref b57)])) _
      refine XS.iconst X59.here hx rfl (hb hby at_85) ?_
      show Steps p.tables e below (T59.setTop (mkF m 86 #[.val (.int p1), .val (.int p2), .val (.int p3), .val (.int p4), .val (.int p5), .val (.int (Int32.ofNat pA)), .val (.int (3 : Int32)), .val (.int c1), .val (.int c2), .val (.int c3), .unset, .unset, .unset, .unset] [(.int (1 : Int32)), (.ref b57), (.ref b57)])) _
      refine XS.iload X59.here hx rfl (hb hby at_86) rfl ?_
      exact kt)
    obtain ⟨cl1, Ar1, Sz1, Hf1⟩ := id Ft1
    obtain ⟨T61, h61, X61, e61, W61, st61⟩ := stB X59 hx hZ e59 Ar1 (j := (1 : Int32)) (within (c := 1) rfl (by omega) (by omega)) (g := (mkF m 88 #[.val (.int p1), .val (.int p2), .val (.int p3), .val (.int p4), .val (.int p5), .val (.int (Int32.ofNat pA)), .val (.int (3 : Int32)), .val (.int c1), .val (.int c2), .val (.int c3), .unset, .unset, .unset, .unset] [(.int c2), (.int (1 : Int32)), (.ref b57), (.ref b57)])) rfl rfl (hb hby at_88)
    have N61 := Fr.snoc X61 N59 g_b57
    have Zs61 : n0 ≤ h61.size := Nat.le_trans Zs59 (Nat.le_of_eq W61.size.symm)
    have Kp61 : Keep h0 h61 [] := Kp59.wr W61 (Or.inr sz_b57)
    have Vt1 : Wr h59 h61 b57 1 (.int c2) := by have z' := W61; rw [hbc2] at z'; exact z'
    have Ft2 := own_A_set Ft1 Vt1
    have pre62 : ∀ t, Steps p.tables e below (T61.setTop (mkF m 93 #[.val (.int p1), .val (.int p2), .val (.int p3), .val (.int p4), .val (.int p5), .val (.int (Int32.ofNat pA)), .val (.int (3 : Int32)), .val (.int c1), .val (.int c2), .val (.int c3), .unset, .unset, .unset, .unset] [(.int c3), (.int (2 : Int32)), (.ref b57), (.ref b57)])) t → Steps p.tables e below _ t := fun t kt => pre60 t (by
      show Steps p.tables e below (T59.setTop (mkF m 88 #[.val (.int p1), .val (.int p2), .val (.int p3), .val (.int p4), .val (.int p5), .val (.int (Int32.ofNat pA)), .val (.int (3 : Int32)), .val (.int c1), .val (.int c2), .val (.int c3), .unset, .unset, .unset, .unset] [(.int c2), (.int (1 : Int32)), (.ref b57), (.ref b57)])) _
      refine st61 _ ?_
      show Steps p.tables e below (T61.setTop (mkF m 89 #[.val (.int p1), .val (.int p2), .val (.int p3), .val (.int p4), .val (.int p5), .val (.int (Int32.ofNat pA)), .val (.int (3 : Int32)), .val (.int c1), .val (.int c2), .val (.int c3), .unset, .unset, .unset, .unset] [(.ref b57)])) _
      refine XS.dup X61.here hx rfl (hb hby at_89) rfl rfl ?_
      show Steps p.tables e below (T61.setTop (mkF m 90 #[.val (.int p1), .val (.int p2), .val (.int p3), .val (.int p4), .val (.int p5), .val (.int (Int32.ofNat pA)), .val (.int (3 : Int32)), .val (.int c1), .val (.int c2), .val (.int c3), .unset, .unset, .unset, .unset] [(.ref b57), (.ref b57)])) _
      refine XS.iconst X61.here hx rfl (hb hby at_90) ?_
      show Steps p.tables e below (T61.setTop (mkF m 91 #[.val (.int p1), .val (.int p2), .val (.int p3), .val (.int p4), .val (.int p5), .val (.int (Int32.ofNat pA)), .val (.int (3 : Int32)), .val (.int c1), .val (.int c2), .val (.int c3), .unset, .unset, .unset, .unset] [(.int (2 : Int32)), (.ref b57), (.ref b57)])) _
      refine XS.iload X61.here hx rfl (hb hby at_91) rfl ?_
      exact kt)
    obtain ⟨cl2, Ar2, Sz2, Hf2⟩ := id Ft2
    obtain ⟨T63, h63, X63, e63, W63, st63⟩ := stB X61 hx hZ e61 Ar2 (j := (2 : Int32)) (within (c := 2) rfl (by omega) (by omega)) (g := (mkF m 93 #[.val (.int p1), .val (.int p2), .val (.int p3), .val (.int p4), .val (.int p5), .val (.int (Int32.ofNat pA)), .val (.int (3 : Int32)), .val (.int c1), .val (.int c2), .val (.int c3), .unset, .unset, .unset, .unset] [(.int c3), (.int (2 : Int32)), (.ref b57), (.ref b57)])) rfl rfl (hb hby at_93)
    have N63 := Fr.snoc X63 N61 g_b57
    have Zs63 : n0 ≤ h63.size := Nat.le_trans Zs61 (Nat.le_of_eq W63.size.symm)
    have Kp63 : Keep h0 h63 [] := Kp61.wr W63 (Or.inr sz_b57)
    have Vt2 : Wr h61 h63 b57 2 (.int c3) := by have z' := W63; rw [hbc3] at z'; exact z'
    have Ft3 := own_A_set Ft2 Vt2
    have pre64 : ∀ t, Steps p.tables e below (T63.setTop (mkF m 98 #[.val (.int p1), .val (.int p2), .val (.int p3), .val (.int p4), .val (.int p5), .val (.int (Int32.ofNat pA)), .val (.int (3 : Int32)), .val (.int c1), .val (.int c2), .val (.int c3), .val (.ref b57), .unset, .unset, .unset] [(.int (24 : Int32))])) t → Steps p.tables e below _ t := fun t kt => pre62 t (by
      show Steps p.tables e below (T61.setTop (mkF m 93 #[.val (.int p1), .val (.int p2), .val (.int p3), .val (.int p4), .val (.int p5), .val (.int (Int32.ofNat pA)), .val (.int (3 : Int32)), .val (.int c1), .val (.int c2), .val (.int c3), .unset, .unset, .unset, .unset] [(.int c3), (.int (2 : Int32)), (.ref b57), (.ref b57)])) _
      refine st63 _ ?_
      show Steps p.tables e below (T63.setTop (mkF m 94 #[.val (.int p1), .val (.int p2), .val (.int p3), .val (.int p4), .val (.int p5), .val (.int (Int32.ofNat pA)), .val (.int (3 : Int32)), .val (.int c1), .val (.int c2), .val (.int c3), .unset, .unset, .unset, .unset] [(.ref b57)])) _
      refine XS.astore X63.here hx rfl (hb hby at_94) rfl rfl (l' := #[.val (.int p1), .val (.int p2), .val (.int p3), .val (.int p4), .val (.int p5), .val (.int (Int32.ofNat pA)), .val (.int (3 : Int32)), .val (.int c1), .val (.int c2), .val (.int c3), .val (.ref b57), .unset, .unset, .unset]) rfl ?_
      show Steps p.tables e below (T63.setTop (mkF m 96 #[.val (.int p1), .val (.int p2), .val (.int p3), .val (.int p4), .val (.int p5), .val (.int (Int32.ofNat pA)), .val (.int (3 : Int32)), .val (.int c1), .val (.int c2), .val (.int c3), .val (.ref b57), .unset, .unset, .unset] [])) _
      refine XS.bipush X63.here hx rfl (hb hby at_96) ?_
      exact kt)
    obtain ⟨g, hg⟩ : ∃ g : Nat → Int32, g = (upd (upd (upd (fun _ => 0) 0 c1) 1 c2) 2 c3) := ⟨_, rfl⟩
    have Ft : own_A Z h63 b57 .byte 3 g := by rw [hg]; exact Ft3
    have G0 : g 0 = c1 := by rw [hg]; rfl
    have G1 : g 1 = c2 := by rw [hg]; rfl
    have G2 : g 2 = c3 := by rw [hg]; rfl
    obtain ⟨T65, h65, k65, X65, e65, E65, A65, st65⟩ := newP X63 hx hZ (hw _ (List.mem_of_getElem? (i := 1) rfl)) e63 (g := (mkF m 98 #[.val (.int p1), .val (.int p2), .val (.int p3), .val (.int p4), .val (.int p5), .val (.int (Int32.ofNat pA)), .val (.int (3 : Int32)), .val (.int c1), .val (.int c2), .val (.int c3), .val (.ref b57), .unset, .unset, .unset] [(.int (24 : Int32))])) rfl (hb hby at_98) rfl (by decide) (cap := 24) (by decide) (by decide) (by decide) (by decide)
    obtain ⟨b65, gb65⟩ : ∃ z, z = h63.size := ⟨_, rfl⟩
    rw [← gb65] at A65 st65
    have g_b65 : n0 ≤ b65 := Nat.le_trans Zs63 (Nat.le_of_eq gb65.symm)
    have Zs65 : n0 ≤ h65.size := Nat.le_trans Zs63 E65.1
    have sz_b65 : h0.size ≤ b65 := Nat.le_trans Kp63.1 (Nat.le_of_eq gb65.symm)
    have Kp65 : Keep h0 h65 [] := Kp63.ext E65
    have Fo : own_A Z h65 b65 .byte 24 (fun _ => 0) := own_A_new A65 rfl rfl
    have neT : b57 ≠ b65 := by have q := own_A_lt Ft; rw [gb65]; exact Nat.ne_of_lt q
    have Ftx := own_A_ext Ft E65
    have neX : hxa ≠ b65 := by have q := own_A_lt AH; exact Nat.ne_of_lt (Nat.lt_of_lt_of_le q sz_b65)
    have AHx := own_A_keep AH Kp65 nin0
    have SHx := own_Sta_keep SH Kp65
    have hby_ : ∀ i, i < 3 → nar .byte (g i) = g i := by
      intro i hi
      have hi' : i = 0 ∨ i = 1 ∨ i = 2 := by omega
      rcases hi' with rfl | rfl | rfl
      · rw [G0]; exact hbc1
      · rw [G1]; exact hbc2
      · rw [G2]; exact hbc3
    have pre66 : ∀ t, Steps p.tables e below (T65.setTop (mkF m 108 #[.val (.int p1), .val (.int p2), .val (.int p3), .val (.int p4), .val (.int p5), .val (.int (Int32.ofNat pA)), .val (.int (3 : Int32)), .val (.int c1), .val (.int c2), .val (.int c3), .val (.ref b57), .val (.ref b65), .unset, .unset] [(.int (Int32.ofNat pA)), (.ref b65), (.ref b57)])) t → Steps p.tables e below _ t := fun t kt => pre64 t (by
      show Steps p.tables e below (T63.setTop (mkF m 98 #[.val (.int p1), .val (.int p2), .val (.int p3), .val (.int p4), .val (.int p5), .val (.int (Int32.ofNat pA)), .val (.int (3 : Int32)), .val (.int c1), .val (.int c2), .val (.int c3), .val (.ref b57), .unset, .unset, .unset] [(.int (24 : Int32))])) _
      refine st65 _ ?_
      show Steps p.tables e below (T65.setTop (mkF m 100 #[.val (.int p1), .val (.int p2), .val (.int p3), .val (.int p4), .val (.int p5), .val (.int (Int32.ofNat pA)), .val (.int (3 : Int32)), .val (.int c1), .val (.int c2), .val (.int c3), .val (.ref b57), .unset, .unset, .unset] [(.ref b65)])) _
      refine XS.astore X65.here hx rfl (hb hby at_100) rfl rfl (l' := #[.val (.int p1), .val (.int p2), .val (.int p3), .val (.int p4), .val (.int p5), .val (.int (Int32.ofNat pA)), .val (.int (3 : Int32)), .val (.int c1), .val (.int c2), .val (.int c3), .val (.ref b57), .val (.ref b65), .unset, .unset]) rfl ?_
      show Steps p.tables e below (T65.setTop (mkF m 102 #[.val (.int p1), .val (.int p2), .val (.int p3), .val (.int p4), .val (.int p5), .val (.int (Int32.ofNat pA)), .val (.int (3 : Int32)), .val (.int c1), .val (.int c2), .val (.int c3), .val (.ref b57), .val (.ref b65), .unset, .unset] [])) _
      refine XS.aload X65.here hx rfl (hb hby at_102) rfl rfl ?_
      show Steps p.tables e below (T65.setTop (mkF m 104 #[.val (.int p1), .val (.int p2), .val (.int p3), .val (.int p4), .val (.int p5), .val (.int (Int32.ofNat pA)), .val (.int (3 : Int32)), .val (.int c1), .val (.int c2), .val (.int c3), .val (.ref b57), .val (.ref b65), .unset, .unset] [(.ref b57)])) _
      refine XS.aload X65.here hx rfl (hb hby at_104) rfl rfl ?_
      show Steps p.tables e below (T65.setTop (mkF m 106 #[.val (.int p1), .val (.int p2), .val (.int p3), .val (.int p4), .val (.int p5), .val (.int (Int32.ofNat pA)), .val (.int (3 : Int32)), .val (.int c1), .val (.int c2), .val (.int c3), .val (.ref b57), .val (.ref b65), .unset, .unset] [(.ref b65), (.ref b57)])) _
      refine XS.iload X65.here hx rfl (hb hby at_106) rfl ?_
      exact kt)
    obtain ⟨_, _, ⟨T67, L67, k67, n67⟩, -, X67, ⟨Lc67, hQ67, l67, y67, z67⟩, st67⟩ := Jvm.LawKit.callS X65 hx (y := (⟨"com/example/windrow/windrow/cli/Json", "write", "([B[BI)I"⟩ : MethodName)) hown (mvT hZ (hw _ (List.mem_of_getElem? (i := 2) rfl))) (mvT hZ (hw _ (List.mem_of_getElem? (i := 3) rfl))) (mvT hZ (hw _ (List.mem_of_getElem? (i := 4) rfl))) (mvT hZ (hw _ (List.mem_of_getElem? (i := 5) rfl))) (by decide) (backOf (W := 0) (rm1 l Z a0 hw [] b57 b65 hxa pA 3 24 (fun _ => 0) g h65 n0 Zs65 Ftx Fo SHx AHx neT neX g_b65 (by decide) (by decide) (by omega) hby_) hZ (hw _ (List.mem_of_getElem? (i := 5) rfl)) (hw _ (List.mem_of_getElem? (i := 4) rfl)) (by decide) (by decide)) (g := (mkF m 108 #[.val (.int p1), .val (.int p2), .val (.int p3), .val (.int p4), .val (.int p5), .val (.int (Int32.ofNat pA)), .val (.int (3 : Int32)), .val (.int c1), .val (.int c2), .val (.int c3), .val (.ref b57), .val (.ref b65), .unset, .unset] [(.int (Int32.ofNat pA)), (.ref b65), (.ref b57)])) rfl (by rw [hml]; rfl) (argsL := [(.ref b57), (.ref b65), (.int (Int32.ofNat pA))]) (rest := []) (lenOf pd_0 rfl) rfl (by show 2 * 0 + _ ≤ _; exact Nat.le_of_eq rfl) (hb hby at_108) (fun _ _ => ⟨rfl, e65, (by decide : 2 + 0 ≤ _), (by decide : 27 + 0 ≤ _)⟩)
    dsimp only [Pt.U, Pt.locs, Pt.cells, Pt.slots] at X67 l67 y67 z67 st67 hQ67
    subst l67 y67 z67
    obtain ⟨rfl, N67q, Kw, Fw⟩ := hQ67
    have N67 := Fr.app N63 N67q
    have Zw : n0 ≤ T67.heap.size := Nat.le_trans Zs65 Kw.1
    obtain ⟨L0, hL0⟩ : ∃ z, z = (own_encs g 3).length := ⟨_, rfl⟩
    have bL : L0 ≤ 18 := by have := own_encs_len g 3; omega
    obtain ⟨ff, hff⟩ : ∃ z : Nat → Int32, z = upd (own_wr (upd (fun _ => 0) pA 34) (pA + 1) (own_encs g 3)) (pA + 1 + (own_encs g 3).length) 34 := ⟨_, rfl⟩
    rw [← hff] at Fw
    have el0 := (own_enc_len c1)
    have el1 := (own_enc_len c2)
    have el2 := (own_enc_len c3)
    have hE : own_encs g 3 = own_enc c1 ++ own_enc c2 ++ own_enc c3 := by
      simp only [own_encs, G0, G1, G2, List.nil_append]
    have hLs : L0 = (own_enc c1).length + (own_enc c2).length + (own_enc c3).length := by
      rw [hL0, hE]; simp only [List.length_append]
    have e0_ : ff pA = (34 : Int32) := by rw [hff, own_upd_ne _ _ (by omega), own_wr_lt _ _ _ _ (by omega), own_upd_same]
    have mt0 : ∀ j, j < (own_enc c1).length → ff (pA + 1 + j) = (own_enc c1).getD j 0 := by
      intro j hj
      have q1 : own_encs g 3 = (([] : List Int32)) ++ (own_enc c1) ++ (own_enc c2 ++ own_enc c3) := by rw [hE]; simp only [List.nil_append, List.append_nil, List.append_assoc]
      have q2 := own_wr_mid (upd (fun _ => 0) pA 34) (pA + 1) q1 j hj
      have q3 : pA + 1 + (([] : List Int32)).length + j = pA + 1 + j := by (simp only [List.nil_append, List.length_append, List.length_nil]) <;> omega
      rw [q3] at q2
      rw [hff, own_upd_ne _ _ (by omega)]; exact q2
    have mt1 : ∀ j, j < (own_enc c2).length → ff (pA + 1 + (own_enc c1).length + j) = (own_enc c2).getD j 0 := by
      intro j hj
      have q1 : own_encs g 3 = (([] : List Int32) ++ own_enc c1) ++ (own_enc c2) ++ (own_enc c3) := by rw [hE]; simp only [List.nil_append, List.append_nil, List.append_assoc]
      have q2 := own_wr_mid (upd (fun _ => 0) pA 34) (pA + 1) q1 j hj
      have q3 : pA + 1 + (([] : List Int32) ++ own_enc c1).length + j = pA + 1 + (own_enc c1).length + j := by (simp only [List.nil_append, List.length_append, List.length_nil]) <;> omega
      rw [q3] at q2
      rw [hff, own_upd_ne _ _ (by omega)]; exact q2
    have mt2 : ∀ j, j < (own_enc c3).length → ff (pA + 1 + (own_enc c1).length + (own_enc c2).length + j) = (own_enc c3).getD j 0 := by
      intro j hj
      have q1 : own_encs g 3 = (([] : List Int32) ++ own_enc c1 ++ own_enc c2) ++ (own_enc c3) ++ ([]) := by rw [hE]; simp only [List.nil_append, List.append_nil, List.append_assoc]
      have q2 := own_wr_mid (upd (fun _ => 0) pA 34) (pA + 1) q1 j hj
      have q3 : pA + 1 + (([] : List Int32) ++ own_enc c1 ++ own_enc c2).length + j = pA + 1 + (own_enc c1).length + (own_enc c2).length + j := by (simp only [List.nil_append, List.length_append, List.length_nil]) <;> omega
      rw [q3] at q2
      rw [hff, own_upd_ne _ _ (by omega)]; exact q2
    have hpe : pA + 1 + L0 = pA + 1 + (own_enc c1).length + (own_enc c2).length + (own_enc c3).length := by omega
    have e1_ : ff (pA + 1 + (own_enc c1).length + (own_enc c2).length + (own_enc c3).length) = (34 : Int32) := by rw [← hpe, hff, hL0, own_upd_same]
    have e2_ : ff (pA + 1 + L0 + 1) = (0 : Int32) := by rw [hff, own_upd_ne _ _ (by omega), own_wr_ge _ _ _ _ (by omega), own_upd_ne _ _ (by omega)]
    have e3_ : ∀ j, j < pA → ff j = (0 : Int32) := fun j hj => by rw [hff, own_upd_ne _ _ (by omega), own_wr_lt _ _ _ _ (by omega), own_upd_ne _ _ (by omega)]
    obtain ⟨clO, ArO, SzO, HfO⟩ := id Fw
    have pre68 : ∀ t, Steps p.tables e below (T67.setTop (mkF m 111 #[.val (.int p1), .val (.int p2), .val (.int p3), .val (.int p4), .val (.int p5), .val (.int (Int32.ofNat pA)), .val (.int (3 : Int32)), .val (.int c1), .val (.int c2), .val (.int c3), .val (.ref b57), .val (.ref b65), .unset, .unset] [(.int (Int32.ofNat (pA + 1 + (own_encs g 3).length + 1)))])) t → Steps p.tables e below _ t := fun t kt => pre66 t (by
      show Steps p.tables e below (T65.setTop (mkF m 108 #[.val (.int p1), .val (.int p2), .val (.int p3), .val (.int p4), .val (.int p5), .val (.int (Int32.ofNat pA)), .val (.int (3 : Int32)), .val (.int c1), .val (.int c2), .val (.int c3), .val (.ref b57), .val (.ref b65), .unset, .unset] [(.int (Int32.ofNat pA)), (.ref b65), (.ref b57)])) _
      refine st67 _ ?_
      exact kt)
    have hv69 : (own_encs g 3).length = L0 := hL0.symm
    rw [hv69] at pre68
    have pre70 : ∀ t, Steps p.tables e below (T67.setTop (mkF m 131 #[.val (.int p1), .val (.int p2), .val (.int p3), .val (.int p4), .val (.int p5), .val (.int (Int32.ofNat pA)), .val (.int (3 : Int32)), .val (.int c1), .val (.int c2), .val (.int c3), .val (.ref b57), .val (.ref b65), .val (.int (Int32.ofNat (pA + 1 + L0 + 1))), .unset] [(.int ((Int32.ofNat pA) + (1 : Int32)))])) t → Steps p.tables e below _ t := fun t kt => pre68 t (by
      show Steps p.tables e below (T67.setTop (mkF m 111 #[.val (.int p1), .val (.int p2), .val (.int p3), .val (.int p4), .val (.int p5), .val (.int (Int32.ofNat pA)), .val (.int (3 : Int32)), .val (.int c1), .val (.int c2), .val (.int c3), .val (.ref b57), .val (.ref b65), .unset, .unset] [(.int (Int32.ofNat (pA + 1 + L0 + 1)))])) _
      refine XS.istore X67.here hx rfl (hb hby at_111) rfl (l' := #[.val (.int p1), .val (.int p2), .val (.int p3), .val (.int p4), .val (.int p5), .val (.int (Int32.ofNat pA)), .val (.int (3 : Int32)), .val (.int c1), .val (.int c2), .val (.int c3), .val (.ref b57), .val (.ref b65), .val (.int (Int32.ofNat (pA + 1 + L0 + 1))), .unset]) rfl ?_
      show Steps p.tables e below (T67.setTop (mkF m 113 #[.val (.int p1), .val (.int p2), .val (.int p3), .val (.int p4), .val (.int p5), .val (.int (Int32.ofNat pA)), .val (.int (3 : Int32)), .val (.int c1), .val (.int c2), .val (.int c3), .val (.ref b57), .val (.ref b65), .val (.int (Int32.ofNat (pA + 1 + L0 + 1))), .unset] [])) _
      refine XS.aload X67.here hx rfl (hb hby at_113) rfl rfl ?_
      show Steps p.tables e below (T67.setTop (mkF m 115 #[.val (.int p1), .val (.int p2), .val (.int p3), .val (.int p4), .val (.int p5), .val (.int (Int32.ofNat pA)), .val (.int (3 : Int32)), .val (.int c1), .val (.int c2), .val (.int c3), .val (.ref b57), .val (.ref b65), .val (.int (Int32.ofNat (pA + 1 + L0 + 1))), .unset] [(.ref b65)])) _
      refine XS.iload X67.here hx rfl (hb hby at_115) rfl ?_
      show Steps p.tables e below (T67.setTop (mkF m 117 #[.val (.int p1), .val (.int p2), .val (.int p3), .val (.int p4), .val (.int p5), .val (.int (Int32.ofNat pA)), .val (.int (3 : Int32)), .val (.int c1), .val (.int c2), .val (.int c3), .val (.ref b57), .val (.ref b65), .val (.int (Int32.ofNat (pA + 1 + L0 + 1))), .unset] [(.int (Int32.ofNat pA)), (.ref b65)])) _
      refine X67.baloadBytes hx (j := (Int32.ofNat pA)) (v := (.int (ff pA))) ArO.1 (State.isArrayOf_alike hZ.alike ArO.2.1) ArO.2.2 (within (c := pA) rfl (by omega) (by omega)) (by rw [clamp_of (c := pA) rfl (by omega)]; exact HfO _ (by omega)) (g := (mkF m 117 #[.val (.int p1), .val (.int p2), .val (.int p3), .val (.int p4), .val (.int p5), .val (.int (Int32.ofNat pA)), .val (.int (3 : Int32)), .val (.int c1), .val (.int c2), .val (.int c3), .val (.ref b57), .val (.ref b65), .val (.int (Int32.ofNat (pA + 1 + L0 + 1))), .unset] [(.int (Int32.ofNat pA)), (.ref b65)])) rfl rfl (hb hby at_117) _ ?_
      show Steps p.tables e below (T67.setTop (mkF m 118 #[.val (.int p1), .val (.int p2), .val (.int p3), .val (.int p4), .val (.int p5), .val (.int (Int32.ofNat pA)), .val (.int (3 : Int32)), .val (.int c1), .val (.int c2), .val (.int c3), .val (.ref b57), .val (.ref b65), .val (.int (Int32.ofNat (pA + 1 + L0 + 1))), .unset] [(.int (ff pA))])) _
      refine XS.bipush X67.here hx rfl (hb hby at_118) ?_
      have hc120 : (ff pA) = (34 : Int32) := e0_
      show Steps p.tables e below (T67.setTop (mkF m 120 #[.val (.int p1), .val (.int p2), .val (.int p3), .val (.int p4), .val (.int p5), .val (.int (Int32.ofNat pA)), .val (.int (3 : Int32)), .val (.int c1), .val (.int c2), .val (.int c3), .val (.ref b57), .val (.ref b65), .val (.int (Int32.ofNat (pA + 1 + L0 + 1))), .unset] [(.int (34 : Int32)), (.int (ff pA))])) _
      refine XS.icmpNo X67.here hx rfl (hb hby at_120) rfl (teq hc120).2 ?_
      show Steps p.tables e below (T67.setTop (mkF m 123 #[.val (.int p1), .val (.int p2), .val (.int p3), .val (.int p4), .val (.int p5), .val (.int (Int32.ofNat pA)), .val (.int (3 : Int32)), .val (.int c1), .val (.int c2), .val (.int c3), .val (.ref b57), .val (.ref b65), .val (.int (Int32.ofNat (pA + 1 + L0 + 1))), .unset] [])) _
      refine XS.iload X67.here hx rfl (hb hby at_123) rfl ?_
      show Steps p.tables e below (T67.setTop (mkF m 125 #[.val (.int p1), .val (.int p2), .val (.int p3), .val (.int p4), .val (.int p5), .val (.int (Int32.ofNat pA)), .val (.int (3 : Int32)), .val (.int c1), .val (.int c2), .val (.int c3), .val (.ref b57), .val (.ref b65), .val (.int (Int32.ofNat (pA + 1 + L0 + 1))), .unset] [(.int (Int32.ofNat pA))])) _
      refine XS.iconst X67.here hx rfl (hb hby at_125) ?_
      show Steps p.tables e below (T67.setTop (mkF m 126 #[.val (.int p1), .val (.int p2), .val (.int p3), .val (.int p4), .val (.int p5), .val (.int (Int32.ofNat pA)), .val (.int (3 : Int32)), .val (.int c1), .val (.int c2), .val (.int c3), .val (.ref b57), .val (.ref b65), .val (.int (Int32.ofNat (pA + 1 + L0 + 1))), .unset] [(.int (1 : Int32)), (.int (Int32.ofNat pA))])) _
      refine XS.iadd X67.here hx rfl (hb hby at_126) rfl ?_
      show Steps p.tables e below (T67.setTop (mkF m 127 #[.val (.int p1), .val (.int p2), .val (.int p3), .val (.int p4), .val (.int p5), .val (.int (Int32.ofNat pA)), .val (.int (3 : Int32)), .val (.int c1), .val (.int c2), .val (.int c3), .val (.ref b57), .val (.ref b65), .val (.int (Int32.ofNat (pA + 1 + L0 + 1))), .unset] [(.int ((Int32.ofNat pA) + (1 : Int32)))])) _
      refine XS.goto X67.here hx rfl (pc0 := 127) (pc' := 131) rfl (hb hby at_127) (by decide) (by decide) ?_
      exact kt)
    have hv71 : ((Int32.ofNat pA) + (1 : Int32)) = (Int32.ofNat (pA + 1)) := own_add pA 1
    rw [hv71] at pre70
    have pre72 : ∀ t, Steps p.tables e below (T67.setTop (mkF m 149 #[.val (.int p1), .val (.int p2), .val (.int p3), .val (.int p4), .val (.int p5), .val (.int (Int32.ofNat pA)), .val (.int (3 : Int32)), .val (.int c1), .val (.int c2), .val (.int c3), .val (.ref b57), .val (.ref b65), .val (.int (Int32.ofNat (pA + 1 + L0 + 1))), .val (.int (Int32.ofNat (pA + 1)))] [(.int c1), (.int (Int32.ofNat (pA + 1))), (.ref b65)])) t → Steps p.tables e below _ t := fun t kt => pre70 t (by
      show Steps p.tables e below (T67.setTop (mkF m 131 #[.val (.int p1), .val (.int p2), .val (.int p3), .val (.int p4), .val (.int p5), .val (.int (Int32.ofNat pA)), .val (.int (3 : Int32)), .val (.int c1), .val (.int c2), .val (.int c3), .val (.ref b57), .val (.ref b65), .val (.int (Int32.ofNat (pA + 1 + L0 + 1))), .unset] [(.int (Int32.ofNat (pA + 1)))])) _
      refine XS.istore X67.here hx rfl (hb hby at_131) rfl (l' := #[.val (.int p1), .val (.int p2), .val (.int p3), .val (.int p4), .val (.int p5), .val (.int (Int32.ofNat pA)), .val (.int (3 : Int32)), .val (.int c1), .val (.int c2), .val (.int c3), .val (.ref b57), .val (.ref b65), .val (.int (Int32.ofNat (pA + 1 + L0 + 1))), .val (.int (Int32.ofNat (pA + 1)))]) rfl ?_
      show Steps p.tables e below (T67.setTop (mkF m 133 #[.val (.int p1), .val (.int p2), .val (.int p3), .val (.int p4), .val (.int p5), .val (.int (Int32.ofNat pA)), .val (.int (3 : Int32)), .val (.int c1), .val (.int c2), .val (.int c3), .val (.ref b57), .val (.ref b65), .val (.int (Int32.ofNat (pA + 1 + L0 + 1))), .val (.int (Int32.ofNat (pA + 1)))] [])) _
      refine XS.iload X67.here hx rfl (hb hby at_133) rfl ?_
      have hc135 : (0 : Int32) < (3 : Int32) := by decide
      show Steps p.tables e below (T67.setTop (mkF m 135 #[.val (.int p1), .val (.int p2), .val (.int p3), .val (.int p4), .val (.int p5), .val (.int (Int32.ofNat pA)), .val (.int (3 : Int32)), .val (.int c1), .val (.int c2), .val (.int c3), .val (.ref b57), .val (.ref b65), .val (.int (Int32.ofNat (pA + 1 + L0 + 1))), .val (.int (Int32.ofNat (pA + 1)))] [(.int (3 : Int32))])) _
      refine XS.ifNo X67.here hx rfl (hb hby at_135) rfl ((if0 _ _).trans (tlt hc135).2.2.2) ?_
      show Steps p.tables e below (T67.setTop (mkF m 138 #[.val (.int p1), .val (.int p2), .val (.int p3), .val (.int p4), .val (.int p5), .val (.int (Int32.ofNat pA)), .val (.int (3 : Int32)), .val (.int c1), .val (.int c2), .val (.int c3), .val (.ref b57), .val (.ref b65), .val (.int (Int32.ofNat (pA + 1 + L0 + 1))), .val (.int (Int32.ofNat (pA + 1)))] [])) _
      refine XS.iload X67.here hx rfl (hb hby at_138) rfl ?_
      have hc140 : ¬ ((Int32.ofNat (pA + 1)) < (0 : Int32)) := own_nneg (by omega)
      show Steps p.tables e below (T67.setTop (mkF m 140 #[.val (.int p1), .val (.int p2), .val (.int p3), .val (.int p4), .val (.int p5), .val (.int (Int32.ofNat pA)), .val (.int (3 : Int32)), .val (.int c1), .val (.int c2), .val (.int c3), .val (.ref b57), .val (.ref b65), .val (.int (Int32.ofNat (pA + 1 + L0 + 1))), .val (.int (Int32.ofNat (pA + 1)))] [(.int (Int32.ofNat (pA + 1)))])) _
      refine XS.ifNo X67.here hx rfl (hb hby at_140) rfl ((if0 _ _).trans (flt hc140).1) ?_
      show Steps p.tables e below (T67.setTop (mkF m 143 #[.val (.int p1), .val (.int p2), .val (.int p3), .val (.int p4), .val (.int p5), .val (.int (Int32.ofNat pA)), .val (.int (3 : Int32)), .val (.int c1), .val (.int c2), .val (.int c3), .val (.ref b57), .val (.ref b65), .val (.int (Int32.ofNat (pA + 1 + L0 + 1))), .val (.int (Int32.ofNat (pA + 1)))] [])) _
      refine XS.aload X67.here hx rfl (hb hby at_143) rfl rfl ?_
      show Steps p.tables e below (T67.setTop (mkF m 145 #[.val (.int p1), .val (.int p2), .val (.int p3), .val (.int p4), .val (.int p5), .val (.int (Int32.ofNat pA)), .val (.int (3 : Int32)), .val (.int c1), .val (.int c2), .val (.int c3), .val (.ref b57), .val (.ref b65), .val (.int (Int32.ofNat (pA + 1 + L0 + 1))), .val (.int (Int32.ofNat (pA + 1)))] [(.ref b65)])) _
      refine XS.iload X67.here hx rfl (hb hby at_145) rfl ?_
      show Steps p.tables e below (T67.setTop (mkF m 147 #[.val (.int p1), .val (.int p2), .val (.int p3), .val (.int p4), .val (.int p5), .val (.int (Int32.ofNat pA)), .val (.int (3 : Int32)), .val (.int c1), .val (.int c2), .val (.int c3), .val (.ref b57), .val (.ref b65), .val (.int (Int32.ofNat (pA + 1 + L0 + 1))), .val (.int (Int32.ofNat (pA + 1)))] [(.int (Int32.ofNat (pA + 1))), (.ref b65)])) _
      refine XS.iload X67.here hx rfl (hb hby at_147) rfl ?_
      exact kt)
    obtain ⟨_, _, ⟨T73, L73, k73, n73⟩, -, X73, ⟨Lc73, hQ73, l73, y73, z73⟩, st73⟩ := Jvm.LawKit.callS X67 hx (y := (⟨"com/example/windrow/windrow/cli/JsonWritePinLaw", "enc", "([BIB)I"⟩ : MethodName)) hown (mvT hZ (hw _ (List.mem_of_getElem? (i := 8) rfl))) (mvT hZ (hw _ (List.mem_of_getElem? (i := 9) rfl))) (mvT hZ (hw _ (List.mem_of_getElem? (i := 10) rfl))) (mvT hZ (hw _ (List.mem_of_getElem? (i := 11) rfl))) (by decide) (backOf (W := 0) (rm2 l Z a0 hw [] b65 (pA + 1) c1 24 ff T67.heap n0 Zw ⟨clO, ArO, SzO, HfO⟩ (by decide) (by omega) mt0) hZ (hw _ (List.mem_of_getElem? (i := 11) rfl)) (hw _ (List.mem_of_getElem? (i := 10) rfl)) (by decide) (by decide)) (g := (mkF m 149 #[.val (.int p1), .val (.int p2), .val (.int p3), .val (.int p4), .val (.int p5), .val (.int (Int32.ofNat pA)), .val (.int (3 : Int32)), .val (.int c1), .val (.int c2), .val (.int c3), .val (.ref b57), .val (.ref b65), .val (.int (Int32.ofNat (pA + 1 + L0 + 1))), .val (.int (Int32.ofNat (pA + 1)))] [(.int c1), (.int (Int32.ofNat (pA + 1))), (.ref b65)])) rfl (by rw [hml]; rfl) (argsL := [(.ref b65), (.int (Int32.ofNat (pA + 1))), (.int c1)]) (rest := []) (lenOf pd_1 rfl) rfl (by show 2 * 0 + _ ≤ _; exact Nat.le_of_eq rfl) (hb hby at_149) (fun _ _ => ⟨rfl, rfl, (by decide : 2 + 0 ≤ _), (by decide : 27 + 0 ≤ _)⟩)
    dsimp only [Pt.U, Pt.locs, Pt.cells, Pt.slots] at X73 l73 y73 z73 st73 hQ73
    subst l73 y73 z73
    obtain ⟨rfl, N73q, e73⟩ := hQ73
    have N73 := Fr.app N67 N73q
    have pre74 : ∀ t, Steps p.tables e below (T73.setTop (mkF m 171 #[.val (.int p1), .val (.int p2), .val (.int p3), .val (.int p4), .val (.int p5), .val (.int (Int32.ofNat pA)), .val (.int (3 : Int32)), .val (.int c1), .val (.int c2), .val (.int c3), .val (.ref b57), .val (.ref b65), .val (.int (Int32.ofNat (pA + 1 + L0 + 1))), .val (.int (Int32.ofNat (pA + 1 + (own_enc c1).length)))] [(.int c2), (.int (Int32.ofNat (pA + 1 + (own_enc c1).length))), (.ref b65)])) t → Steps p.tables e below _ t := fun t kt => pre72 t (by
      show Steps p.tables e below (T67.setTop (mkF m 149 #[.val (.int p1), .val (.int p2), .val (.int p3), .val (.int p4), .val (.int p5), .val (.int (Int32.ofNat pA)), .val (.int (3 : Int32)), .val (.int c1), .val (.int c2), .val (.int c3), .val (.ref b57), .val (.ref b65), .val (.int (Int32.ofNat (pA + 1 + L0 + 1))), .val (.int (Int32.ofNat (pA + 1)))] [(.int c1), (.int (Int32.ofNat (pA + 1))), (.ref b65)])) _
      refine st73 _ ?_
      show Steps p.tables e below (T73.setTop (mkF m 152 #[.val (.int p1), .val (.int p2), .val (.int p3), .val (.int p4), .val (.int p5), .val (.int (Int32.ofNat pA)), .val (.int (3 : Int32)), .val (.int c1), .val (.int c2), .val (.int c3), .val (.ref b57), .val (.ref b65), .val (.int (Int32.ofNat (pA + 1 + L0 + 1))), .val (.int (Int32.ofNat (pA + 1)))] [(.int (Int32.ofNat (pA + 1 + (own_enc c1).length)))])) _
      refine XS.istore X73.here hx rfl (hb hby at_152) rfl (l' := #[.val (.int p1), .val (.int p2), .val (.int p3), .val (.int p4), .val (.int p5), .val (.int (Int32.ofNat pA)), .val (.int (3 : Int32)), .val (.int c1), .val (.int c2), .val (.int c3), .val (.ref b57), .val (.ref b65), .val (.int (Int32.ofNat (pA + 1 + L0 + 1))), .val (.int (Int32.ofNat (pA + 1 + (own_enc c1).length)))]) rfl ?_
      show Steps p.tables e below (T73.setTop (mkF m 154 #[.val (.int p1), .val (.int p2), .val (.int p3), .val (.int p4), .val (.int p5), .val (.int (Int32.ofNat pA)), .val (.int (3 : Int32)), .val (.int c1), .val (.int c2), .val (.int c3), .val (.ref b57), .val (.ref b65), .val (.int (Int32.ofNat (pA + 1 + L0 + 1))), .val (.int (Int32.ofNat (pA + 1 + (own_enc c1).length)))] [])) _
      refine XS.iload X73.here hx rfl (hb hby at_154) rfl ?_
      show Steps p.tables e below (T73.setTop (mkF m 156 #[.val (.int p1), .val (.int p2), .val (.int p3), .val (.int p4), .val (.int p5), .val (.int (Int32.ofNat pA)), .val (.int (3 : Int32)), .val (.int c1), .val (.int c2), .val (.int c3), .val (.ref b57), .val (.ref b65), .val (.int (Int32.ofNat (pA + 1 + L0 + 1))), .val (.int (Int32.ofNat (pA + 1 + (own_enc c1).length)))] [(.int (3 : Int32))])) _
      refine XS.iconst X73.here hx rfl (hb hby at_156) ?_
      have hc157 : (1 : Int32) < (3 : Int32) := by decide
      show Steps p.tables e below (T73.setTop (mkF m 157 #[.val (.int p1), .val (.int p2), .val (.int p3), .val (.int p4), .val (.int p5), .val (.int (Int32.ofNat pA)), .val (.int (3 : Int32)), .val (.int c1), .val (.int c2), .val (.int c3), .val (.ref b57), .val (.ref b65), .val (.int (Int32.ofNat (pA + 1 + L0 + 1))), .val (.int (Int32.ofNat (pA + 1 + (own_enc c1).length)))] [(.int (1 : Int32)), (.int (3 : Int32))])) _
      refine XS.icmpNo X73.here hx rfl (hb hby at_157) rfl (tlt hc157).2.2.2 ?_
      show Steps p.tables e below (T73.setTop (mkF m 160 #[.val (.int p1), .val (.int p2), .val (.int p3), .val (.int p4), .val (.int p5), .val (.int (Int32.ofNat pA)), .val (.int (3 : Int32)), .val (.int c1), .val (.int c2), .val (.int c3), .val (.ref b57), .val (.ref b65), .val (.int (Int32.ofNat (pA + 1 + L0 + 1))), .val (.int (Int32.ofNat (pA + 1 + (own_enc c1).length)))] [])) _
      refine XS.iload X73.here hx rfl (hb hby at_160) rfl ?_
      have hc162 : ¬ ((Int32.ofNat (pA + 1 + (own_enc c1).length)) < (0 : Int32)) := own_nneg (by omega)
      show Steps p.tables e below (T73.setTop (mkF m 162 #[.val (.int p1), .val (.int p2), .val (.int p3), .val (.int p4), .val (.int p5), .val (.int (Int32.ofNat pA)), .val (.int (3 : Int32)), .val (.int c1), .val (.int c2), .val (.int c3), .val (.ref b57), .val (.ref b65), .val (.int (Int32.ofNat (pA + 1 + L0 + 1))), .val (.int (Int32.ofNat (pA + 1 + (own_enc c1).length)))] [(.int (Int32.ofNat (pA + 1 + (own_enc c1).length)))])) _
      refine XS.ifNo X73.here hx rfl (hb hby at_162) rfl ((if0 _ _).trans (flt hc162).1) ?_
      show Steps p.tables e below (T73.setTop (mkF m 165 #[.val (.int p1), .val (.int p2), .val (.int p3), .val (.int p4), .val (.int p5), .val (.int (Int32.ofNat pA)), .val (.int (3 : Int32)), .val (.int c1), .val (.int c2), .val (.int c3), .val (.ref b57), .val (.ref b65), .val (.int (Int32.ofNat (pA + 1 + L0 + 1))), .val (.int (Int32.ofNat (pA + 1 + (own_enc c1).length)))] [])) _
      refine XS.aload X73.here hx rfl (hb hby at_165) rfl rfl ?_
      show Steps p.tables e below (T73.setTop (mkF m 167 #[.val (.int p1), .val (.int p2), .val (.int p3), .val (.int p4), .val (.int p5), .val (.int (Int32.ofNat pA)), .val (.int (3 : Int32)), .val (.int c1), .val (.int c2), .val (.int c3), .val (.ref b57), .val (.ref b65), .val (.int (Int32.ofNat (pA + 1 + L0 + 1))), .val (.int (Int32.ofNat (pA + 1 + (own_enc c1).length)))] [(.ref b65)])) _
      refine XS.iload X73.here hx rfl (hb hby at_167) rfl ?_
      show Steps p.tables e below (T73.setTop (mkF m 169 #[.val (.int p1), .val (.int p2), .val (.int p3), .val (.int p4), .val (.int p5), .val (.int (Int32.ofNat pA)), .val (.int (3 : Int32)), .val (.int c1), .val (.int c2), .val (.int c3), .val (.ref b57), .val (.ref b65), .val (.int (Int32.ofNat (pA + 1 + L0 + 1))), .val (.int (Int32.ofNat (pA + 1 + (own_enc c1).length)))] [(.int (Int32.ofNat (pA + 1 + (own_enc c1).length))), (.ref b65)])) _
      refine XS.iload X73.here hx rfl (hb hby at_169) rfl ?_
      exact kt)
    obtain ⟨_, _, ⟨T75, L75, k75, n75⟩, -, X75, ⟨Lc75, hQ75, l75, y75, z75⟩, st75⟩ := Jvm.LawKit.callS X73 hx (y := (⟨"com/example/windrow/windrow/cli/JsonWritePinLaw", "enc", "([BIB)I"⟩ : MethodName)) hown (mvT hZ (hw _ (List.mem_of_getElem? (i := 8) rfl))) (mvT hZ (hw _ (List.mem_of_getElem? (i := 9) rfl))) (mvT hZ (hw _ (List.mem_of_getElem? (i := 10) rfl))) (mvT hZ (hw _ (List.mem_of_getElem? (i := 11) rfl))) (by decide) (backOf (W := 0) (rm2 l Z a0 hw [] b65 (pA + 1 + (own_enc c1).length) c2 24 ff T67.heap n0 Zw ⟨clO, ArO, SzO, HfO⟩ (by decide) (by omega) mt1) hZ (hw _ (List.mem_of_getElem? (i := 11) rfl)) (hw _ (List.mem_of_getElem? (i := 10) rfl)) (by decide) (by decide)) (g := (mkF m 171 #[.val (.int p1), .val (.int p2), .val (.int p3), .val (.int p4), .val (.int p5), .val (.int (Int32.ofNat pA)), .val (.int (3 : Int32)), .val (.int c1), .val (.int c2), .val (.int c3), .val (.ref b57), .val (.ref b65), .val (.int (Int32.ofNat (pA + 1 + L0 + 1))), .val (.int (Int32.ofNat (pA + 1 + (own_enc c1).length)))] [(.int c2), (.int (Int32.ofNat (pA + 1 + (own_enc c1).length))), (.ref b65)])) rfl (by rw [hml]; rfl) (argsL := [(.ref b65), (.int (Int32.ofNat (pA + 1 + (own_enc c1).length))), (.int c2)]) (rest := []) (lenOf pd_1 rfl) rfl (by show 2 * 0 + _ ≤ _; exact Nat.le_of_eq rfl) (hb hby at_171) (fun _ _ => ⟨rfl, e73, (by decide : 2 + 0 ≤ _), (by decide : 27 + 0 ≤ _)⟩)
    dsimp only [Pt.U, Pt.locs, Pt.cells, Pt.slots] at X75 l75 y75 z75 st75 hQ75
    subst l75 y75 z75
    obtain ⟨rfl, N75q, e75⟩ := hQ75
    have N75 := Fr.app N73 N75q
    have pre76 : ∀ t, Steps p.tables e below (T75.setTop (mkF m 193 #[.val (.int p1), .val (.int p2), .val (.int p3), .val (.int p4), .val (.int p5), .val (.int (Int32.ofNat pA)), .val (.int (3 : Int32)), .val (.int c1), .val (.int c2), .val (.int c3), .val (.ref b57), .val (.ref b65), .val (.int (Int32.ofNat (pA + 1 + L0 + 1))), .val (.int (Int32.ofNat (pA + 1 + (own_enc c1).length + (own_enc c2).length)))] [(.int c3), (.int (Int32.ofNat (pA + 1 + (own_enc c1).length + (own_enc c2).length))), (.ref b65)])) t → Steps p.tables e below _ t := fun t kt => pre74 t (by
      show Steps p.tables e below (T73.setTop (mkF m 171 #[.val (.int p1), .val (.int p2), .val (.int p3), .val (.int p4), .val (.int p5), .val (.int (Int32.ofNat pA)), .val (.int (3 : Int32)), .val (.int c1), .val (.int c2), .val (.int c3), .val (.ref b57), .val (.ref b65), .val (.int (Int32.ofNat (pA + 1 + L0 + 1))), .val (.int (Int32.ofNat (pA + 1 + (own_enc c1).length)))] [(.int c2), (.int (Int32.ofNat (pA + 1 + (own_enc c1).length))), (.ref b65)])) _
      refine st75 _ ?_
      show Steps p.tables e below (T75.setTop (mkF m 174 #[.val (.int p1), .val (.int p2), .val (.int p3), .val (.int p4), .val (.int p5), .val (.int (Int32.ofNat pA)), .val (.int (3 : Int32)), .val (.int c1), .val (.int c2), .val (.int c3), .val (.ref b57), .val (.ref b65), .val (.int (Int32.ofNat (pA + 1 + L0 + 1))), .val (.int (Int32.ofNat (pA + 1 + (own_enc c1).length)))] [(.int (Int32.ofNat (pA + 1 + (own_enc c1).length + (own_enc c2).length)))])) _
      refine XS.istore X75.here hx rfl (hb hby at_174) rfl (l' := #[.val (.int p1), .val (.int p2), .val (.int p3), .val (.int p4), .val (.int p5), .val (.int (Int32.ofNat pA)), .val (.int (3 : Int32)), .val (.int c1), .val (.int c2), .val (.int c3), .val (.ref b57), .val (.ref b65), .val (.int (Int32.ofNat (pA + 1 + L0 + 1))), .val (.int (Int32.ofNat (pA + 1 + (own_enc c1).length + (own_enc c2).length)))]) rfl ?_
      show Steps p.tables e below (T75.setTop (mkF m 176 #[.val (.int p1), .val (.int p2), .val (.int p3), .val (.int p4), .val (.int p5), .val (.int (Int32.ofNat pA)), .val (.int (3 : Int32)), .val (.int c1), .val (.int c2), .val (.int c3), .val (.ref b57), .val (.ref b65), .val (.int (Int32.ofNat (pA + 1 + L0 + 1))), .val (.int (Int32.ofNat (pA + 1 + (own_enc c1).length + (own_enc c2).length)))] [])) _
      refine XS.iload X75.here hx rfl (hb hby at_176) rfl ?_
      show Steps p.tables e below (T75.setTop (mkF m 178 #[.val (.int p1), .val (.int p2), .val (.int p3), .val (.int p4), .val (.int p5), .val (.int (Int32.ofNat pA)), .val (.int (3 : Int32)), .val (.int c1), .val (.int c2), .val (.int c3), .val (.ref b57), .val (.ref b65), .val (.int (Int32.ofNat (pA + 1 + L0 + 1))), .val (.int (Int32.ofNat (pA + 1 + (own_enc c1).length + (own_enc c2).length)))] [(.int (3 : Int32))])) _
      refine XS.iconst X75.here hx rfl (hb hby at_178) ?_
      have hc179 : (2 : Int32) < (3 : Int32) := by decide
      show Steps p.tables e below (T75.setTop (mkF m 179 #[.val (.int p1), .val (.int p2), .val (.int p3), .val (.int p4), .val (.int p5), .val (.int (Int32.ofNat pA)), .val (.int (3 : Int32)), .val (.int c1), .val (.int c2), .val (.int c3), .val (.ref b57), .val (.ref b65), .val (.int (Int32.ofNat (pA + 1 + L0 + 1))), .val (.int (Int32.ofNat (pA + 1 + (own_enc c1).length + (own_enc c2).length)))] [(.int (2 : Int32)), (.int (3 : Int32))])) _
      refine XS.icmpNo X75.here hx rfl (hb hby at_179) rfl (tlt hc179).2.2.2 ?_
      show Steps p.tables e below (T75.setTop (mkF m 182 #[.val (.int p1), .val (.int p2), .val (.int p3), .val (.int p4), .val (.int p5), .val (.int (Int32.ofNat pA)), .val (.int (3 : Int32)), .val (.int c1), .val (.int c2), .val (.int c3), .val (.ref b57), .val (.ref b65), .val (.int (Int32.ofNat (pA + 1 + L0 + 1))), .val (.int (Int32.ofNat (pA + 1 + (own_enc c1).length + (own_enc c2).length)))] [])) _
      refine XS.iload X75.here hx rfl (hb hby at_182) rfl ?_
      have hc184 : ¬ ((Int32.ofNat (pA + 1 + (own_enc c1).length + (own_enc c2).length)) < (0 : Int32)) := own_nneg (by omega)
      show Steps p.tables e below (T75.setTop (mkF m 184 #[.val (.int p1), .val (.int p2), .val (.int p3), .val (.int p4), .val (.int p5), .val (.int (Int32.ofNat pA)), .val (.int (3 : Int32)), .val (.int c1), .val (.int c2), .val (.int c3), .val (.ref b57), .val (.ref b65), .val (.int (Int32.ofNat (pA + 1 + L0 + 1))), .val (.int (Int32.ofNat (pA + 1 + (own_enc c1).length + (own_enc c2).length)))] [(.int (Int32.ofNat (pA + 1 + (own_enc c1).length + (own_enc c2).length)))])) _
      refine XS.ifNo X75.here hx rfl (hb hby at_184) rfl ((if0 _ _).trans (flt hc184).1) ?_
      show Steps p.tables e below (T75.setTop (mkF m 187 #[.val (.int p1), .val (.int p2), .val (.int p3), .val (.int p4), .val (.int p5), .val (.int (Int32.ofNat pA)), .val (.int (3 : Int32)), .val (.int c1), .val (.int c2), .val (.int c3), .val (.ref b57), .val (.ref b65), .val (.int (Int32.ofNat (pA + 1 + L0 + 1))), .val (.int (Int32.ofNat (pA + 1 + (own_enc c1).length + (own_enc c2).length)))] [])) _
      refine XS.aload X75.here hx rfl (hb hby at_187) rfl rfl ?_
      show Steps p.tables e below (T75.setTop (mkF m 189 #[.val (.int p1), .val (.int p2), .val (.int p3), .val (.int p4), .val (.int p5), .val (.int (Int32.ofNat pA)), .val (.int (3 : Int32)), .val (.int c1), .val (.int c2), .val (.int c3), .val (.ref b57), .val (.ref b65), .val (.int (Int32.ofNat (pA + 1 + L0 + 1))), .val (.int (Int32.ofNat (pA + 1 + (own_enc c1).length + (own_enc c2).length)))] [(.ref b65)])) _
      refine XS.iload X75.here hx rfl (hb hby at_189) rfl ?_
      show Steps p.tables e below (T75.setTop (mkF m 191 #[.val (.int p1), .val (.int p2), .val (.int p3), .val (.int p4), .val (.int p5), .val (.int (Int32.ofNat pA)), .val (.int (3 : Int32)), .val (.int c1), .val (.int c2), .val (.int c3), .val (.ref b57), .val (.ref b65), .val (.int (Int32.ofNat (pA + 1 + L0 + 1))), .val (.int (Int32.ofNat (pA + 1 + (own_enc c1).length + (own_enc c2).length)))] [(.int (Int32.ofNat (pA + 1 + (own_enc c1).length + (own_enc c2).length))), (.ref b65)])) _
      refine XS.iload X75.here hx rfl (hb hby at_191) rfl ?_
      exact kt)
    obtain ⟨_, _, ⟨T77, L77, k77, n77⟩, -, X77, ⟨Lc77, hQ77, l77, y77, z77⟩, st77⟩ := Jvm.LawKit.callS X75 hx (y := (⟨"com/example/windrow/windrow/cli/JsonWritePinLaw", "enc", "([BIB)I"⟩ : MethodName)) hown (mvT hZ (hw _ (List.mem_of_getElem? (i := 8) rfl))) (mvT hZ (hw _ (List.mem_of_getElem? (i := 9) rfl))) (mvT hZ (hw _ (List.mem_of_getElem? (i := 10) rfl))) (mvT hZ (hw _ (List.mem_of_getElem? (i := 11) rfl))) (by decide) (backOf (W := 0) (rm2 l Z a0 hw [] b65 (pA + 1 + (own_enc c1).length + (own_enc c2).length) c3 24 ff T67.heap n0 Zw ⟨clO, ArO, SzO, HfO⟩ (by decide) (by omega) mt2) hZ (hw _ (List.mem_of_getElem? (i := 11) rfl)) (hw _ (List.mem_of_getElem? (i := 10) rfl)) (by decide) (by decide)) (g := (mkF m 193 #[.val (.int p1), .val (.int p2), .val (.int p3), .val (.int p4), .val (.int p5), .val (.int (Int32.ofNat pA)), .val (.int (3 : Int32)), .val (.int c1), .val (.int c2), .val (.int c3), .val (.ref b57), .val (.ref b65), .val (.int (Int32.ofNat (pA + 1 + L0 + 1))), .val (.int (Int32.ofNat (pA + 1 + (own_enc c1).length + (own_enc c2).length)))] [(.int c3), (.int (Int32.ofNat (pA + 1 + (own_enc c1).length + (own_enc c2).length))), (.ref b65)])) rfl (by rw [hml]; rfl) (argsL := [(.ref b65), (.int (Int32.ofNat (pA + 1 + (own_enc c1).length + (own_enc c2).length))), (.int c3)]) (rest := []) (lenOf pd_1 rfl) rfl (by show 2 * 0 + _ ≤ _; exact Nat.le_of_eq rfl) (hb hby at_193) (fun _ _ => ⟨rfl, e75, (by decide : 2 + 0 ≤ _), (by decide : 27 + 0 ≤ _)⟩)
    dsimp only [Pt.U, Pt.locs, Pt.cells, Pt.slots] at X77 l77 y77 z77 st77 hQ77
    subst l77 y77 z77
    obtain ⟨rfl, N77q, e77⟩ := hQ77
    have N77 := Fr.app N75 N77q
    have pre78 : ∀ t, Steps p.tables e below (T77.setTop (mkF m 250 #[.val (.int p1), .val (.int p2), .val (.int p3), .val (.int p4), .val (.int p5), .val (.int (Int32.ofNat pA)), .val (.int (3 : Int32)), .val (.int c1), .val (.int c2), .val (.int c3), .val (.ref b57), .val (.ref b65), .val (.int (Int32.ofNat (pA + 1 + L0 + 1))), .val (.int (Int32.ofNat (pA + 1 + (own_enc c1).length + (own_enc c2).length + (own_enc c3).length)))] [(.int (Int32.ofNat pA))])) t → Steps p.tables e below _ t := fun t kt => pre76 t (by
      show Steps p.tables e below (T75.setTop (mkF m 193 #[.val (.int p1), .val (.int p2), .val (.int p3), .val (.int p4), .val (.int p5), .val (.int (Int32.ofNat pA)), .val (.int (3 : Int32)), .val (.int c1), .val (.int c2), .val (.int c3), .val (.ref b57), .val (.ref b65), .val (.int (Int32.ofNat (pA + 1 + L0 + 1))), .val (.int (Int32.ofNat (pA + 1 + (own_enc c1).length + (own_enc c2).length)))] [(.int c3), (.int (Int32.ofNat (pA + 1 + (own_enc c1).length + (own_enc c2).length))), (.ref b65)])) _
      refine st77 _ ?_
      show Steps p.tables e below (T77.setTop (mkF m 196 #[.val (.int p1), .val (.int p2), .val (.int p3), .val (.int p4), .val (.int p5), .val (.int (Int32.ofNat pA)), .val (.int (3 : Int32)), .val (.int c1), .val (.int c2), .val (.int c3), .val (.ref b57), .val (.ref b65), .val (.int (Int32.ofNat (pA + 1 + L0 + 1))), .val (.int (Int32.ofNat (pA + 1 + (own_enc c1).length + (own_enc c2).length)))] [(.int (Int32.ofNat (pA + 1 + (own_enc c1).length + (own_enc c2).length + (own_enc c3).length)))])) _
      refine XS.istore X77.here hx rfl (hb hby at_196) rfl (l' := #[.val (.int p1), .val (.int p2), .val (.int p3), .val (.int p4), .val (.int p5), .val (.int (Int32.ofNat pA)), .val (.int (3 : Int32)), .val (.int c1), .val (.int c2), .val (.int c3), .val (.ref b57), .val (.ref b65), .val (.int (Int32.ofNat (pA + 1 + L0 + 1))), .val (.int (Int32.ofNat (pA + 1 + (own_enc c1).length + (own_enc c2).length + (own_enc c3).length)))]) rfl ?_
      show Steps p.tables e below (T77.setTop (mkF m 198 #[.val (.int p1), .val (.int p2), .val (.int p3), .val (.int p4), .val (.int p5), .val (.int (Int32.ofNat pA)), .val (.int (3 : Int32)), .val (.int c1), .val (.int c2), .val (.int c3), .val (.ref b57), .val (.ref b65), .val (.int (Int32.ofNat (pA + 1 + L0 + 1))), .val (.int (Int32.ofNat (pA + 1 + (own_enc c1).length + (own_enc c2).length + (own_enc c3).length)))] [])) _
      refine XS.iload X77.here hx rfl (hb hby at_198) rfl ?_
      have hc200 : ¬ ((Int32.ofNat (pA + 1 + (own_enc c1).length + (own_enc c2).length + (own_enc c3).length)) < (0 : Int32)) := own_nneg (by omega)
      show Steps p.tables e below (T77.setTop (mkF m 200 #[.val (.int p1), .val (.int p2), .val (.int p3), .val (.int p4), .val (.int p5), .val (.int (Int32.ofNat pA)), .val (.int (3 : Int32)), .val (.int c1), .val (.int c2), .val (.int c3), .val (.ref b57), .val (.ref b65), .val (.int (Int32.ofNat (pA + 1 + L0 + 1))), .val (.int (Int32.ofNat (pA + 1 + (own_enc c1).length + (own_enc c2).length + (own_enc c3).length)))] [(.int (Int32.ofNat (pA + 1 + (own_enc c1).length + (own_enc c2).length + (own_enc c3).length)))])) _
      refine XS.ifYes X77.here hx rfl (pc0 := 200) (pc' := 205) rfl (hb hby at_200) rfl ((if0 _ _).trans (flt hc200).2.1) (by decide) (by decide) ?_
      show Steps p.tables e below (T77.setTop (mkF m 205 #[.val (.int p1), .val (.int p2), .val (.int p3), .val (.int p4), .val (.int p5), .val (.int (Int32.ofNat pA)), .val (.int (3 : Int32)), .val (.int c1), .val (.int c2), .val (.int c3), .val (.ref b57), .val (.ref b65), .val (.int (Int32.ofNat (pA + 1 + L0 + 1))), .val (.int (Int32.ofNat (pA + 1 + (own_enc c1).length + (own_enc c2).length + (own_enc c3).length)))] [])) _
      refine XS.aload X77.here hx rfl (hb hby at_205) rfl rfl ?_
      show Steps p.tables e below (T77.setTop (mkF m 207 #[.val (.int p1), .val (.int p2), .val (.int p3), .val (.int p4), .val (.int p5), .val (.int (Int32.ofNat pA)), .val (.int (3 : Int32)), .val (.int c1), .val (.int c2), .val (.int c3), .val (.ref b57), .val (.ref b65), .val (.int (Int32.ofNat (pA + 1 + L0 + 1))), .val (.int (Int32.ofNat (pA + 1 + (own_enc c1).length + (own_enc c2).length + (own_enc c3).length)))] [(.ref b65)])) _
      refine XS.iload X77.here hx rfl (hb hby at_207) rfl ?_
      show Steps p.tables e below (T77.setTop (mkF m 209 #[.val (.int p1), .val (.int p2), .val (.int p3), .val (.int p4), .val (.int p5), .val (.int (Int32.ofNat pA)), .val (.int (3 : Int32)), .val (.int c1), .val (.int c2), .val (.int c3), .val (.ref b57), .val (.ref b65), .val (.int (Int32.ofNat (pA + 1 + L0 + 1))), .val (.int (Int32.ofNat (pA + 1 + (own_enc c1).length + (own_enc c2).length + (own_enc c3).length)))] [(.int (Int32.ofNat (pA + 1 + (own_enc c1).length + (own_enc c2).length + (own_enc c3).length))), (.ref b65)])) _
      refine X77.baloadBytes hx (j := (Int32.ofNat (pA + 1 + (own_enc c1).length + (own_enc c2).length + (own_enc c3).length))) (v := (.int (ff (pA + 1 + (own_enc c1).length + (own_enc c2).length + (own_enc c3).length)))) (by rw [e77]; exact ArO.1) (State.isArrayOf_alike hZ.alike ArO.2.1) ArO.2.2 (within (c := (pA + 1 + (own_enc c1).length + (own_enc c2).length + (own_enc c3).length)) rfl (by omega) (by omega)) (by rw [clamp_of (c := (pA + 1 + (own_enc c1).length + (own_enc c2).length + (own_enc c3).length)) rfl (by omega)]; exact HfO _ (by omega)) (g := (mkF m 209 #[.val (.int p1), .val (.int p2), .val (.int p3), .val (.int p4), .val (.int p5), .val (.int (Int32.ofNat pA)), .val (.int (3 : Int32)), .val (.int c1), .val (.int c2), .val (.int c3), .val (.ref b57), .val (.ref b65), .val (.int (Int32.ofNat (pA + 1 + L0 + 1))), .val (.int (Int32.ofNat (pA + 1 + (own_enc c1).length + (own_enc c2).length + (own_enc c3).length)))] [(.int (Int32.ofNat (pA + 1 + (own_enc c1).length + (own_enc c2).length + (own_enc c3).length))), (.ref b65)])) rfl rfl (hb hby at_209) _ ?_
      show Steps p.tables e below (T77.setTop (mkF m 210 #[.val (.int p1), .val (.int p2), .val (.int p3), .val (.int p4), .val (.int p5), .val (.int (Int32.ofNat pA)), .val (.int (3 : Int32)), .val (.int c1), .val (.int c2), .val (.int c3), .val (.ref b57), .val (.ref b65), .val (.int (Int32.ofNat (pA + 1 + L0 + 1))), .val (.int (Int32.ofNat (pA + 1 + (own_enc c1).length + (own_enc c2).length + (own_enc c3).length)))] [(.int (ff (pA + 1 + (own_enc c1).length + (own_enc c2).length + (own_enc c3).length)))])) _
      refine XS.bipush X77.here hx rfl (hb hby at_210) ?_
      have hc212 : (ff (pA + 1 + (own_enc c1).length + (own_enc c2).length + (own_enc c3).length)) = (34 : Int32) := e1_
      show Steps p.tables e below (T77.setTop (mkF m 212 #[.val (.int p1), .val (.int p2), .val (.int p3), .val (.int p4), .val (.int p5), .val (.int (Int32.ofNat pA)), .val (.int (3 : Int32)), .val (.int c1), .val (.int c2), .val (.int c3), .val (.ref b57), .val (.ref b65), .val (.int (Int32.ofNat (pA + 1 + L0 + 1))), .val (.int (Int32.ofNat (pA + 1 + (own_enc c1).length + (own_enc c2).length + (own_enc c3).length)))] [(.int (34 : Int32)), (.int (ff (pA + 1 + (own_enc c1).length + (own_enc c2).length + (own_enc c3).length)))])) _
      refine XS.icmpNo X77.here hx rfl (hb hby at_212) rfl (teq hc212).2 ?_
      show Steps p.tables e below (T77.setTop (mkF m 215 #[.val (.int p1), .val (.int p2), .val (.int p3), .val (.int p4), .val (.int p5), .val (.int (Int32.ofNat pA)), .val (.int (3 : Int32)), .val (.int c1), .val (.int c2), .val (.int c3), .val (.ref b57), .val (.ref b65), .val (.int (Int32.ofNat (pA + 1 + L0 + 1))), .val (.int (Int32.ofNat (pA + 1 + (own_enc c1).length + (own_enc c2).length + (own_enc c3).length)))] [])) _
      refine XS.iload X77.here hx rfl (hb hby at_215) rfl ?_
      show Steps p.tables e below (T77.setTop (mkF m 217 #[.val (.int p1), .val (.int p2), .val (.int p3), .val (.int p4), .val (.int p5), .val (.int (Int32.ofNat pA)), .val (.int (3 : Int32)), .val (.int c1), .val (.int c2), .val (.int c3), .val (.ref b57), .val (.ref b65), .val (.int (Int32.ofNat (pA + 1 + L0 + 1))), .val (.int (Int32.ofNat (pA + 1 + (own_enc c1).length + (own_enc c2).length + (own_enc c3).length)))] [(.int (Int32.ofNat (pA + 1 + L0 + 1)))])) _
      refine XS.iload X77.here hx rfl (hb hby at_217) rfl ?_
      show Steps p.tables e below (T77.setTop (mkF m 219 #[.val (.int p1), .val (.int p2), .val (.int p3), .val (.int p4), .val (.int p5), .val (.int (Int32.ofNat pA)), .val (.int (3 : Int32)), .val (.int c1), .val (.int c2), .val (.int c3), .val (.ref b57), .val (.ref b65), .val (.int (Int32.ofNat (pA + 1 + L0 + 1))), .val (.int (Int32.ofNat (pA + 1 + (own_enc c1).length + (own_enc c2).length + (own_enc c3).length)))] [(.int (Int32.ofNat (pA + 1 + (own_enc c1).length + (own_enc c2).length + (own_enc c3).length))), (.int (Int32.ofNat (pA + 1 + L0 + 1)))])) _
      refine XS.iconst X77.here hx rfl (hb hby at_219) ?_
      show Steps p.tables e below (T77.setTop (mkF m 220 #[.val (.int p1), .val (.int p2), .val (.int p3), .val (.int p4), .val (.int p5), .val (.int (Int32.ofNat pA)), .val (.int (3 : Int32)), .val (.int c1), .val (.int c2), .val (.int c3), .val (.ref b57), .val (.ref b65), .val (.int (Int32.ofNat (pA + 1 + L0 + 1))), .val (.int (Int32.ofNat (pA + 1 + (own_enc c1).length + (own_enc c2).length + (own_enc c3).length)))] [(.int (1 : Int32)), (.int (Int32.ofNat (pA + 1 + (own_enc c1).length + (own_enc c2).length + (own_enc c3).length))), (.int (Int32.ofNat (pA + 1 + L0 + 1)))])) _
      refine XS.iadd X77.here hx rfl (hb hby at_220) rfl ?_
      have hc221 : (Int32.ofNat (pA + 1 + L0 + 1)) = ((Int32.ofNat (pA + 1 + (own_enc c1).length + (own_enc c2).length + (own_enc c3).length)) + (1 : Int32)) := by rw [hpe]; exact (own_add (pA + 1 + (own_enc c1).length + (own_enc c2).length + (own_enc c3).length) 1).symm
      show Steps p.tables e below (T77.setTop (mkF m 221 #[.val (.int p1), .val (.int p2), .val (.int p3), .val (.int p4), .val (.int p5), .val (.int (Int32.ofNat pA)), .val (.int (3 : Int32)), .val (.int c1), .val (.int c2), .val (.int c3), .val (.ref b57), .val (.ref b65), .val (.int (Int32.ofNat (pA + 1 + L0 + 1))), .val (.int (Int32.ofNat (pA + 1 + (own_enc c1).length + (own_enc c2).length + (own_enc c3).length)))] [(.int ((Int32.ofNat (pA + 1 + (own_enc c1).length + (own_enc c2).length + (own_enc c3).length)) + (1 : Int32))), (.int (Int32.ofNat (pA + 1 + L0 + 1)))])) _
      refine XS.icmpNo X77.here hx rfl (hb hby at_221) rfl (teq hc221).2 ?_
      show Steps p.tables e below (T77.setTop (mkF m 224 #[.val (.int p1), .val (.int p2), .val (.int p3), .val (.int p4), .val (.int p5), .val (.int (Int32.ofNat pA)), .val (.int (3 : Int32)), .val (.int c1), .val (.int c2), .val (.int c3), .val (.ref b57), .val (.ref b65), .val (.int (Int32.ofNat (pA + 1 + L0 + 1))), .val (.int (Int32.ofNat (pA + 1 + (own_enc c1).length + (own_enc c2).length + (own_enc c3).length)))] [])) _
      refine XS.iload X77.here hx rfl (hb hby at_224) rfl ?_
      have hc226 : ¬ ((Int32.ofNat (pA + 1 + L0 + 1)) < (0 : Int32)) := own_nneg (by omega)
      show Steps p.tables e below (T77.setTop (mkF m 226 #[.val (.int p1), .val (.int p2), .val (.int p3), .val (.int p4), .val (.int p5), .val (.int (Int32.ofNat pA)), .val (.int (3 : Int32)), .val (.int c1), .val (.int c2), .val (.int c3), .val (.ref b57), .val (.ref b65), .val (.int (Int32.ofNat (pA + 1 + L0 + 1))), .val (.int (Int32.ofNat (pA + 1 + (own_enc c1).length + (own_enc c2).length + (own_enc c3).length)))] [(.int (Int32.ofNat (pA + 1 + L0 + 1)))])) _
      refine XS.ifNo X77.here hx rfl (hb hby at_226) rfl ((if0 _ _).trans (flt hc226).1) ?_
      show Steps p.tables e below (T77.setTop (mkF m 229 #[.val (.int p1), .val (.int p2), .val (.int p3), .val (.int p4), .val (.int p5), .val (.int (Int32.ofNat pA)), .val (.int (3 : Int32)), .val (.int c1), .val (.int c2), .val (.int c3), .val (.ref b57), .val (.ref b65), .val (.int (Int32.ofNat (pA + 1 + L0 + 1))), .val (.int (Int32.ofNat (pA + 1 + (own_enc c1).length + (own_enc c2).length + (own_enc c3).length)))] [])) _
      refine XS.iload X77.here hx rfl (hb hby at_229) rfl ?_
      show Steps p.tables e below (T77.setTop (mkF m 231 #[.val (.int p1), .val (.int p2), .val (.int p3), .val (.int p4), .val (.int p5), .val (.int (Int32.ofNat pA)), .val (.int (3 : Int32)), .val (.int c1), .val (.int c2), .val (.int c3), .val (.ref b57), .val (.ref b65), .val (.int (Int32.ofNat (pA + 1 + L0 + 1))), .val (.int (Int32.ofNat (pA + 1 + (own_enc c1).length + (own_enc c2).length + (own_enc c3).length)))] [(.int (Int32.ofNat (pA + 1 + L0 + 1)))])) _
      refine XS.bipush X77.here hx rfl (hb hby at_231) ?_
      have hc233 : (Int32.ofNat (pA + 1 + L0 + 1)) < (24 : Int32) := own_lt (n := 24) (by omega) (by decide)
      show Steps p.tables e below (T77.setTop (mkF m 233 #[.val (.int p1), .val (.int p2), .val (.int p3), .val (.int p4), .val (.int p5), .val (.int (Int32.ofNat pA)), .val (.int (3 : Int32)), .val (.int c1), .val (.int c2), .val (.int c3), .val (.ref b57), .val (.ref b65), .val (.int (Int32.ofNat (pA + 1 + L0 + 1))), .val (.int (Int32.ofNat (pA + 1 + (own_enc c1).length + (own_enc c2).length + (own_enc c3).length)))] [(.int (24 : Int32)), (.int (Int32.ofNat (pA + 1 + L0 + 1)))])) _
      refine XS.icmpYes X77.here hx rfl (pc0 := 233) (pc' := 238) rfl (hb hby at_233) rfl (tlt hc233).1 (by decide) (by decide) ?_
      show Steps p.tables e below (T77.setTop (mkF m 238 #[.val (.int p1), .val (.int p2), .val (.int p3), .val (.int p4), .val (.int p5), .val (.int (Int32.ofNat pA)), .val (.int (3 : Int32)), .val (.int c1), .val (.int c2), .val (.int c3), .val (.ref b57), .val (.ref b65), .val (.int (Int32.ofNat (pA + 1 + L0 + 1))), .val (.int (Int32.ofNat (pA + 1 + (own_enc c1).length + (own_enc c2).length + (own_enc c3).length)))] [])) _
      refine XS.aload X77.here hx rfl (hb hby at_238) rfl rfl ?_
      show Steps p.tables e below (T77.setTop (mkF m 240 #[.val (.int p1), .val (.int p2), .val (.int p3), .val (.int p4), .val (.int p5), .val (.int (Int32.ofNat pA)), .val (.int (3 : Int32)), .val (.int c1), .val (.int c2), .val (.int c3), .val (.ref b57), .val (.ref b65), .val (.int (Int32.ofNat (pA + 1 + L0 + 1))), .val (.int (Int32.ofNat (pA + 1 + (own_enc c1).length + (own_enc c2).length + (own_enc c3).length)))] [(.ref b65)])) _
      refine XS.iload X77.here hx rfl (hb hby at_240) rfl ?_
      show Steps p.tables e below (T77.setTop (mkF m 242 #[.val (.int p1), .val (.int p2), .val (.int p3), .val (.int p4), .val (.int p5), .val (.int (Int32.ofNat pA)), .val (.int (3 : Int32)), .val (.int c1), .val (.int c2), .val (.int c3), .val (.ref b57), .val (.ref b65), .val (.int (Int32.ofNat (pA + 1 + L0 + 1))), .val (.int (Int32.ofNat (pA + 1 + (own_enc c1).length + (own_enc c2).length + (own_enc c3).length)))] [(.int (Int32.ofNat (pA + 1 + L0 + 1))), (.ref b65)])) _
      refine X77.baloadBytes hx (j := (Int32.ofNat (pA + 1 + L0 + 1))) (v := (.int (ff (pA + 1 + L0 + 1)))) (by rw [e77]; exact ArO.1) (State.isArrayOf_alike hZ.alike ArO.2.1) ArO.2.2 (within (c := (pA + 1 + L0 + 1)) rfl (by omega) (by omega)) (by rw [clamp_of (c := (pA + 1 + L0 + 1)) rfl (by omega)]; exact HfO _ (by omega)) (g := (mkF m 242 #[.val (.int p1), .val (.int p2), .val (.int p3), .val (.int p4), .val (.int p5), .val (.int (Int32.ofNat pA)), .val (.int (3 : Int32)), .val (.int c1), .val (.int c2), .val (.int c3), .val (.ref b57), .val (.ref b65), .val (.int (Int32.ofNat (pA + 1 + L0 + 1))), .val (.int (Int32.ofNat (pA + 1 + (own_enc c1).length + (own_enc c2).length + (own_enc c3).length)))] [(.int (Int32.ofNat (pA + 1 + L0 + 1))), (.ref b65)])) rfl rfl (hb hby at_242) _ ?_
      have hc243 : (ff (pA + 1 + L0 + 1)) = (0 : Int32) := e2_
      show Steps p.tables e below (T77.setTop (mkF m 243 #[.val (.int p1), .val (.int p2), .val (.int p3), .val (.int p4), .val (.int p5), .val (.int (Int32.ofNat pA)), .val (.int (3 : Int32)), .val (.int c1), .val (.int c2), .val (.int c3), .val (.ref b57), .val (.ref b65), .val (.int (Int32.ofNat (pA + 1 + L0 + 1))), .val (.int (Int32.ofNat (pA + 1 + (own_enc c1).length + (own_enc c2).length + (own_enc c3).length)))] [(.int (ff (pA + 1 + L0 + 1)))])) _
      refine XS.ifYes X77.here hx rfl (pc0 := 243) (pc' := 248) rfl (hb hby at_243) rfl ((if0 _ _).trans (teq hc243).1) (by decide) (by decide) ?_
      show Steps p.tables e below (T77.setTop (mkF m 248 #[.val (.int p1), .val (.int p2), .val (.int p3), .val (.int p4), .val (.int p5), .val (.int (Int32.ofNat pA)), .val (.int (3 : Int32)), .val (.int c1), .val (.int c2), .val (.int c3), .val (.ref b57), .val (.ref b65), .val (.int (Int32.ofNat (pA + 1 + L0 + 1))), .val (.int (Int32.ofNat (pA + 1 + (own_enc c1).length + (own_enc c2).length + (own_enc c3).length)))] [])) _
      refine XS.iload X77.here hx rfl (hb hby at_248) rfl ?_
      exact kt)
    by_cases hz : pA = 0
    · obtain ⟨fs, hr, hrun, hended, hW, hsame⟩ := X77.leave (v := some (.int (1 : Int32))) (fun h => by rw [Bd.returns] at h; cases h)
      refine ⟨_, _, pre78 _ ?_, hrun, hended, _, _, rfl, ?_, ⟨_, rfl⟩, hW, hsame.mono (by decide) (by decide)⟩
      · have hc250 : (Int32.ofNat pA) = (0 : Int32) := by rw [hz]; rfl
        show Steps p.tables e below (T77.setTop (mkF m 250 #[.val (.int p1), .val (.int p2), .val (.int p3), .val (.int p4), .val (.int p5), .val (.int (Int32.ofNat pA)), .val (.int (3 : Int32)), .val (.int c1), .val (.int c2), .val (.int c3), .val (.ref b57), .val (.ref b65), .val (.int (Int32.ofNat (pA + 1 + L0 + 1))), .val (.int (Int32.ofNat (pA + 1 + (own_enc c1).length + (own_enc c2).length + (own_enc c3).length)))] [(.int (Int32.ofNat pA))])) _
        refine XS.ifYes X77.here hx rfl (pc0 := 250) (pc' := 263) rfl (hb hby at_250) rfl ((if0 _ _).trans (teq hc250).1) (by decide) (by decide) ?_
        show Steps p.tables e below (T77.setTop (mkF m 263 #[.val (.int p1), .val (.int p2), .val (.int p3), .val (.int p4), .val (.int p5), .val (.int (Int32.ofNat pA)), .val (.int (3 : Int32)), .val (.int c1), .val (.int c2), .val (.int c3), .val (.ref b57), .val (.ref b65), .val (.int (Int32.ofNat (pA + 1 + L0 + 1))), .val (.int (Int32.ofNat (pA + 1 + (own_enc c1).length + (own_enc c2).length + (own_enc c3).length)))] [])) _
        refine XS.iconst X77.here hx rfl (hb hby at_263) ?_
        show Steps p.tables e below (T77.setTop (mkF m 264 #[.val (.int p1), .val (.int p2), .val (.int p3), .val (.int p4), .val (.int p5), .val (.int (Int32.ofNat pA)), .val (.int (3 : Int32)), .val (.int c1), .val (.int c2), .val (.int c3), .val (.ref b57), .val (.ref b65), .val (.int (Int32.ofNat (pA + 1 + L0 + 1))), .val (.int (Int32.ofNat (pA + 1 + (own_enc c1).length + (own_enc c2).length + (own_enc c3).length)))] [(.int (1 : Int32))])) _
        refine XS.goto X77.here hx rfl (pc0 := 264) (pc' := 268) rfl (hb hby at_264) (by decide) (by decide) ?_
        show Steps p.tables e below (T77.setTop (mkF m 268 #[.val (.int p1), .val (.int p2), .val (.int p3), .val (.int p4), .val (.int p5), .val (.int (Int32.ofNat pA)), .val (.int (3 : Int32)), .val (.int c1), .val (.int c2), .val (.int c3), .val (.ref b57), .val (.ref b65), .val (.int (Int32.ofNat (pA + 1 + L0 + 1))), .val (.int (Int32.ofNat (pA + 1 + (own_enc c1).length + (own_enc c2).length + (own_enc c3).length)))] [(.int (1 : Int32))])) _
        exact retN X77 hx (t := .boolean) Bd.returns (by simp) (hb hby at_268) hr
      · exact ⟨rfl, N77⟩
    · have pre79 : ∀ t, Steps p.tables e below (T77.setTop (mkF m 259 #[.val (.int p1), .val (.int p2), .val (.int p3), .val (.int p4), .val (.int p5), .val (.int (Int32.ofNat pA)), .val (.int (3 : Int32)), .val (.int c1), .val (.int c2), .val (.int c3), .val (.ref b57), .val (.ref b65), .val (.int (Int32.ofNat (pA + 1 + L0 + 1))), .val (.int (Int32.ofNat (pA + 1 + (own_enc c1).length + (own_enc c2).length + (own_enc c3).length)))] [(.int ((Int32.ofNat pA) - (1 : Int32))), (.ref b65)])) t → Steps p.tables e below _ t := fun t kt => pre78 t (by
        have hc250 : ¬ ((Int32.ofNat pA) = (0 : Int32)) := own_ne (n := 0) hz (by omega) (by decide)
        show Steps p.tables e below (T77.setTop (mkF m 250 #[.val (.int p1), .val (.int p2), .val (.int p3), .val (.int p4), .val (.int p5), .val (.int (Int32.ofNat pA)), .val (.int (3 : Int32)), .val (.int c1), .val (.int c2), .val (.int c3), .val (.ref b57), .val (.ref b65), .val (.int (Int32.ofNat (pA + 1 + L0 + 1))), .val (.int (Int32.ofNat (pA + 1 + (own_enc c1).length + (own_enc c2).length + (own_enc c3).length)))] [(.int (Int32.ofNat pA))])) _
        refine XS.ifNo X77.here hx rfl (hb hby at_250) rfl ((if0 _ _).trans (feq hc250).1) ?_
        show Steps p.tables e below (T77.setTop (mkF m 253 #[.val (.int p1), .val (.int p2), .val (.int p3), .val (.int p4), .val (.int p5), .val (.int (Int32.ofNat pA)), .val (.int (3 : Int32)), .val (.int c1), .val (.int c2), .val (.int c3), .val (.ref b57), .val (.ref b65), .val (.int (Int32.ofNat (pA + 1 + L0 + 1))), .val (.int (Int32.ofNat (pA + 1 + (own_enc c1).length + (own_enc c2).length + (own_enc c3).length)))] [])) _
        refine XS.aload X77.here hx rfl (hb hby at_253) rfl rfl ?_
        show Steps p.tables e below (T77.setTop (mkF m 255 #[.val (.int p1), .val (.int p2), .val (.int p3), .val (.int p4), .val (.int p5), .val (.int (Int32.ofNat pA)), .val (.int (3 : Int32)), .val (.int c1), .val (.int c2), .val (.int c3), .val (.ref b57), .val (.ref b65), .val (.int (Int32.ofNat (pA + 1 + L0 + 1))), .val (.int (Int32.ofNat (pA + 1 + (own_enc c1).length + (own_enc c2).length + (own_enc c3).length)))] [(.ref b65)])) _
        refine XS.iload X77.here hx rfl (hb hby at_255) rfl ?_
        show Steps p.tables e below (T77.setTop (mkF m 257 #[.val (.int p1), .val (.int p2), .val (.int p3), .val (.int p4), .val (.int p5), .val (.int (Int32.ofNat pA)), .val (.int (3 : Int32)), .val (.int c1), .val (.int c2), .val (.int c3), .val (.ref b57), .val (.ref b65), .val (.int (Int32.ofNat (pA + 1 + L0 + 1))), .val (.int (Int32.ofNat (pA + 1 + (own_enc c1).length + (own_enc c2).length + (own_enc c3).length)))] [(.int (Int32.ofNat pA)), (.ref b65)])) _
        refine XS.iconst X77.here hx rfl (hb hby at_257) ?_
        show Steps p.tables e below (T77.setTop (mkF m 258 #[.val (.int p1), .val (.int p2), .val (.int p3), .val (.int p4), .val (.int p5), .val (.int (Int32.ofNat pA)), .val (.int (3 : Int32)), .val (.int c1), .val (.int c2), .val (.int c3), .val (.ref b57), .val (.ref b65), .val (.int (Int32.ofNat (pA + 1 + L0 + 1))), .val (.int (Int32.ofNat (pA + 1 + (own_enc c1).length + (own_enc c2).length + (own_enc c3).length)))] [(.int (1 : Int32)), (.int (Int32.ofNat pA)), (.ref b65)])) _
        refine XS.isub X77.here hx rfl (hb hby at_258) rfl ?_
        exact kt)
      have hv80 : ((Int32.ofNat pA) - (1 : Int32)) = (Int32.ofNat (pA - 1)) := own_sub (b := 1) (by omega) (by omega)
      rw [hv80] at pre79
      obtain ⟨fs, hr, hrun, hended, hW, hsame⟩ := X77.leave (v := some (.int (1 : Int32))) (fun h => by rw [Bd.returns] at h; cases h)
      refine ⟨_, _, pre79 _ ?_, hrun, hended, _, _, rfl, ?_, ⟨_, rfl⟩, hW, hsame.mono (by decide) (by decide)⟩
      · show Steps p.tables e below (T77.setTop (mkF m 259 #[.val (.int p1), .val (.int p2), .val (.int p3), .val (.int p4), .val (.int p5), .val (.int (Int32.ofNat pA)), .val (.int (3 : Int32)), .val (.int c1), .val (.int c2), .val (.int c3), .val (.ref b57), .val (.ref b65), .val (.int (Int32.ofNat (pA + 1 + L0 + 1))), .val (.int (Int32.ofNat (pA + 1 + (own_enc c1).length + (own_enc c2).length + (own_enc c3).length)))] [(.int (Int32.ofNat (pA - 1))), (.ref b65)])) _
        refine X77.baloadBytes hx (j := (Int32.ofNat (pA - 1))) (v := (.int (ff (pA - 1)))) (by rw [e77]; exact ArO.1) (State.isArrayOf_alike hZ.alike ArO.2.1) ArO.2.2 (within (c := (pA - 1)) rfl (by omega) (by omega)) (by rw [clamp_of (c := (pA - 1)) rfl (by omega)]; exact HfO _ (by omega)) (g := (mkF m 259 #[.val (.int p1), .val (.int p2), .val (.int p3), .val (.int p4), .val (.int p5), .val (.int (Int32.ofNat pA)), .val (.int (3 : Int32)), .val (.int c1), .val (.int c2), .val (.int c3), .val (.ref b57), .val (.ref b65), .val (.int (Int32.ofNat (pA + 1 + L0 + 1))), .val (.int (Int32.ofNat (pA + 1 + (own_enc c1).length + (own_enc c2).length + (own_enc c3).length)))] [(.int (Int32.ofNat (pA - 1))), (.ref b65)])) rfl rfl (hb hby at_259) _ ?_
        have hc260 : (ff (pA - 1)) = (0 : Int32) := e3_ _ (by omega)
        show Steps p.tables e below (T77.setTop (mkF m 260 #[.val (.int p1), .val (.int p2), .val (.int p3), .val (.int p4), .val (.int p5), .val (.int (Int32.ofNat pA)), .val (.int (3 : Int32)), .val (.int c1), .val (.int c2), .val (.int c3), .val (.ref b57), .val (.ref b65), .val (.int (Int32.ofNat (pA + 1 + L0 + 1))), .val (.int (Int32.ofNat (pA + 1 + (own_enc c1).length + (own_enc c2).length + (own_enc c3).length)))] [(.int (ff (pA - 1)))])) _
        refine XS.ifNo X77.here hx rfl (hb hby at_260) rfl ((if0 _ _).trans (teq hc260).2) ?_
        show Steps p.tables e below (T77.setTop (mkF m 263 #[.val (.int p1), .val (.int p2), .val (.int p3), .val (.int p4), .val (.int p5), .val (.int (Int32.ofNat pA)), .val (.int (3 : Int32)), .val (.int c1), .val (.int c2), .val (.int c3), .val (.ref b57), .val (.ref b65), .val (.int (Int32.ofNat (pA + 1 + L0 + 1))), .val (.int (Int32.ofNat (pA + 1 + (own_enc c1).length + (own_enc c2).length + (own_enc c3).length)))] [])) _
        refine XS.iconst X77.here hx rfl (hb hby at_263) ?_
        show Steps p.tables e below (T77.setTop (mkF m 264 #[.val (.int p1), .val (.int p2), .val (.int p3), .val (.int p4), .val (.int p5), .val (.int (Int32.ofNat pA)), .val (.int (3 : Int32)), .val (.int c1), .val (.int c2), .val (.int c3), .val (.ref b57), .val (.ref b65), .val (.int (Int32.ofNat (pA + 1 + L0 + 1))), .val (.int (Int32.ofNat (pA + 1 + (own_enc c1).length + (own_enc c2).length + (own_enc c3).length)))] [(.int (1 : Int32))])) _
        refine XS.goto X77.here hx rfl (pc0 := 264) (pc' := 268) rfl (hb hby at_264) (by decide) (by decide) ?_
        show Steps p.tables e below (T77.setTop (mkF m 268 #[.val (.int p1), .val (.int p2), .val (.int p3), .val (.int p4), .val (.int p5), .val (.int (Int32.ofNat pA)), .val (.int (3 : Int32)), .val (.int c1), .val (.int c2), .val (.int c3), .val (.ref b57), .val (.ref b65), .val (.int (Int32.ofNat (pA + 1 + L0 + 1))), .val (.int (Int32.ofNat (pA + 1 + (own_enc c1).length + (own_enc c2).length + (own_enc c3).length)))] [(.int (1 : Int32))])) _
        exact retN X77 hx (t := .boolean) Bd.returns (by simp) (hb hby at_268) hr
      · exact ⟨rfl, N77⟩

theorem own_elem {args : Array Value} {s : State} {t : Term} {a : Addr} {cell : Cell} {j : Nat} {K : Int64} (ev : ∀ idx, t.eval args s none idx s = some (.ref a)) (hc : s.arrayAt? a = some cell) (hj : j < 16)
    (h : (Cond.eq (Term.op1 Jvm.Unary.i2l (Term.elem t (Term.index 0))) (Term.op2 Jvm.Binary.ladd (Term.op1 Jvm.Unary.i2l (Term.index 0)) (Term.long K))).value args s none s [j] = some true) : ∃ x : Int32, cell.slots[j]? = some (.int x) ∧ x.toInt64 = (Int32.ofNat j).toInt64 + K := by
  have e2 : (Term.index 0).eval args s none [j] s = some (.int (Int32.ofNat j)) := rfl
  have h0 : ¬ ((Int32.ofNat j) < (0 : Int32)) := by
    have : ∀ i, i < 16 → ¬ ((Int32.ofNat i) < (0 : Int32)) := by decide
    exact this j hj
  have h1 : (Int32.ofNat j).toNatClampNeg = j := by
    have : ∀ i, i < 16 → (Int32.ofNat i).toNatClampNeg = i := by decide
    exact this j hj
  have e3 : (Term.elem t (Term.index 0)).eval args s none [j] s = cell.slots[j]? := by
    simp only [Term.eval, ev]
    show (if (Int32.ofNat j) < 0 then none else (s.arrayAt? a).bind fun c => c.slots[(Int32.ofNat j).toNatClampNeg]?) = _
    rw [if_neg h0, h1, hc]; rfl
  have e4 : (Term.op2 Jvm.Binary.ladd (Term.op1 Jvm.Unary.i2l (Term.index 0)) (Term.long K)).eval args s none [j] s = some (.long ((Int32.ofNat j).toInt64 + K)) := rfl
  have e5 : (Term.op1 Jvm.Unary.i2l (Term.elem t (Term.index 0))).eval args s none [j] s = (cell.slots[j]?).bind (fun v => Jvm.Unary.i2l.apply v) := by
    show ((Term.elem t (Term.index 0)).eval args s none [j] s).bind _ = _
    rw [e3]
  simp only [Cond.value, e4, e5] at h
  cases hs : cell.slots[j]? with
  | none => rw [hs] at h; simp at h
  | some v =>
    rw [hs] at h
    cases v with
    | int x =>
      refine ⟨x, rfl, ?_⟩
      have h2 : (some (decide (x.toInt64 = (Int32.ofNat j).toInt64 + K))) = some true := h
      simpa using h2
    | _ => simp [Jvm.Unary.apply] at h
theorem own_hx1 : ∀ j, j < 10 → ∀ x : Int32, x.toInt64 = (Int32.ofNat j).toInt64 + (48 : Int64) → x = own_hex j := by
  intro j hj x h
  have h1 : x.toInt64.toInt = ((Int32.ofNat j).toInt64 + (48 : Int64)).toInt := by rw [h]
  have h2 : ∀ i, i < 10 → ((Int32.ofNat i).toInt64 + (48 : Int64)).toInt = (own_hex i).toInt := by decide
  rw [h2 j hj] at h1
  rw [← Int32.toInt_inj, ← h1]; simp
theorem own_hx2 : ∀ j, j < 16 → 10 ≤ j → ∀ x : Int32, x.toInt64 = (Int32.ofNat j).toInt64 + (87 : Int64) → x = own_hex j := by
  intro j hj hk x h
  have h1 : x.toInt64.toInt = ((Int32.ofNat j).toInt64 + (87 : Int64)).toInt := by rw [h]
  have h2 : ∀ i, i < 16 → 10 ≤ i → ((Int32.ofNat i).toInt64 + (87 : Int64)).toInt = (own_hex i).toInt := by decide
  rw [h2 j hj hk] at h1
  rw [← Int32.toInt_inj, ← h1]; simp
theorem own_or {args : Array Value} {s : State} {c d : Cond} {idx : List Nat} {b : Bool} (h : (Cond.or c d).value args s none s idx = some true) (hc : c.value args s none s idx = some false) : d.value args s none s idx = some true := by
  simpa [Cond.value, hc] using h
theorem own_hexes {C n d : String} {args : Array Value} {s : State} (hi : (Cond.initialized C).before args s = true) (hl : (Cond.laysStatic C n d).before args s = true)
    (nA : (Cond.arrayOf (Term.static C n d) .byte).before args s = true) (nL : (Cond.eq (Term.length (Term.static C n d)) (Term.int (16 : Int32))).before args s = true)
    (nD : (Cond.all (Term.static C n d) (Cond.or (Cond.le (Term.int (10 : Int32)) (Term.index 0)) (Cond.eq (Term.op1 Jvm.Unary.i2l (Term.elem (Term.static C n d) (Term.index 0))) (Term.op2 Jvm.Binary.ladd (Term.op1 Jvm.Unary.i2l (Term.index 0)) (Term.long (48 : Int64)))))).before args s = true)
    (nX : (Cond.all (Term.static C n d) (Cond.or (Cond.lt (Term.index 0) (Term.int (10 : Int32))) (Cond.eq (Term.op1 Jvm.Unary.i2l (Term.elem (Term.static C n d) (Term.index 0))) (Term.op2 Jvm.Binary.ladd (Term.op1 Jvm.Unary.i2l (Term.index 0)) (Term.long (87 : Int64)))))).before args s = true) :
    ∃ hxa, Sta s s.heap C n d (.ref hxa) ∧ own_A s s.heap hxa .byte 16 own_hex := by
  have nL' := Cond.before_iff.mp nL
  cases hv : (Term.length (Term.static C n d)).eval args s none [] s with
  | none => simp only [Cond.value, hv] at nL'; simp at nL'
  | some v =>
    obtain ⟨a, cell, ev, hc, hsz, rfl⟩ := length_spec hv
    have hL : cell.slots.size = 16 := by
      simp only [Cond.value, hv, Term.int_eval] at nL'
      have h2 : cell.slots.size.toInt32 = (16 : Int32) := by simpa using nL'
      have h3 : cell.slots.size.toInt32.toInt = (16 : Int32).toInt := by rw [h2]
      have h4 : (16 : Int32).toInt = 16 := by decide
      rw [h4, show cell.slots.size.toInt32 = Int32.ofNat cell.slots.size from rfl, toInt_of rfl (by omega)] at h3
      omega
    have evs : ∀ idx, (Term.static C n d).eval args s none idx s = some (.ref a) := fun _ => ev
    obtain ⟨c', Ar⟩ := Arr.start ev (Cond.before_iff.mp nA)
    have hc' : s.arrayAt? a = some c' := IntBox.arrayAt_of Ar.1 Ar.2.1 Ar.2.2
    cases hc.symm.trans hc'
    refine ⟨a, Sta.start ev (Or.inr ⟨hi, hl⟩), cell, Ar, hL, fun j hj => ?_⟩
    have hD := Cond.all_elim ev hc (Cond.before_iff.mp nD) j (by omega)
    have hX := Cond.all_elim ev hc (Cond.before_iff.mp nX) j (by omega)
    have e0 : (Term.index 0).eval args s none [j] s = some (.int (Int32.ofNat j)) := rfl
    by_cases h10 : j < 10
    · obtain ⟨x, hx, hq⟩ := own_elem evs hc hj (own_or (b := true) hD (by
        have h5 : ∀ i, i < 10 → decide ((10 : Int32) ≤ Int32.ofNat i) = false := by decide
        show (some (decide ((10 : Int32) ≤ Int32.ofNat j))) = _
        rw [h5 j h10]))
      rw [hx, own_hx1 j h10 x hq]
    · obtain ⟨x, hx, hq⟩ := own_elem evs hc hj (own_or (b := true) hX (by
        have h5 : ∀ i, i < 16 → 10 ≤ i → decide (Int32.ofNat i < (10 : Int32)) = false := by decide
        show (some (decide (Int32.ofNat j < (10 : Int32)))) = _
        rw [h5 j hj (by omega)]))
      rw [hx, own_hx2 j hj (by omega) x hq]
set_option maxRecDepth 65536 in
set_option maxHeartbeats 40000000 in
theorem comes_1 {Post : Tables → Env → Array Value → State → Outcome → State → Prop} (hpost : ∀ tb e args s v u, (limb_1_1.after args s (.returned v) u = true ∧ limb_1_2.after args s (.returned v) u = true ∧ True) → FrameEnd s (.returned v) u (Jvm.fieldLocs frame_1_writes args s ++ Jvm.arrayLocs frame_1_arrays args s ++ Jvm.staticLocs frame_1_statics s) 16 128 → Post tb e args s (.returned v) u) :
    ArmFor flags0 classFile x code maxLocals ret World_1 tables_1 room_1 Calls_1 rest_1 Pre_1 Post := by
  intro l hfl _ _ p e ha hc hk s m args below hf hA hF happ hP
  obtain ⟨hcalls, hrest, hpre⟩ := hP
  obtain ⟨-, -, -, hnamed, -, -, -, hat⟩ := (Spec.applies_iff hf).mp happ
  obtain ⟨hg, hn⟩ := and_e (Cond.before_iff.mp (show (Jvm.Cond.and given_1 narrow_1).before args s = true from hpre))
  obtain ⟨gc, gr0⟩ := and_e hg
  obtain ⟨ga0, gr1⟩ := and_e gr0
  obtain ⟨ga1, gr2⟩ := and_e gr1
  obtain ⟨ga2, gr3⟩ := and_e gr2
  obtain ⟨ga3, gr4⟩ := and_e gr3
  obtain ⟨w0, w1, w2, w3, w4, rfl⟩ : ∃ w0 w1 w2 w3 w4 : Value, args = #[w0, w1, w2, w3, w4] := by
    have hs : args.size = 5 := by simpa [Cond.value, given_1] using gc
    obtain ⟨L⟩ := args
    match L, hs with
    | [w0, w1, w2, w3, w4], _ => exact ⟨w0, w1, w2, w3, w4, rfl⟩
  have hw := fun d (hd : d ∈ tables_1) => atoms_spec (ws := Jvm.Cond.code x code maxLocals ret :: tables_1) hat d (List.mem_cons_of_mem _ hd)
  have hfit : Fit s := fun {y c} hc i hi => by
    obtain ⟨ha, rfl⟩ := Array.getElem?_eq_some_iff.mp hc
    have q := List.all_eq_true.mp ((Array.all_eq_true_iff_forall_mem.mp hF) _ (Array.getElem_mem ha)) i (List.mem_range.mpr hi)
    simpa [Array.getElem?_eq_getElem hi] using q
  obtain ⟨i0, ei0⟩ := is_v ga0
  obtain rfl : w0 = (.int i0) := Option.some.inj ei0
  obtain ⟨i1, ei1⟩ := is_v ga1
  obtain rfl : w1 = (.int i1) := Option.some.inj ei1
  obtain ⟨i2, ei2⟩ := is_v ga2
  obtain rfl : w2 = (.int i2) := Option.some.inj ei2
  obtain ⟨i3, ei3⟩ := is_v ga3
  obtain rfl : w3 = (.int i3) := Option.some.inj ei3
  obtain ⟨i4, ei4⟩ := is_v gr4
  obtain rfl : w4 = (.int i4) := Option.some.inj ei4
  obtain ⟨nA, hn1⟩ := and_e hn
  obtain ⟨nL, hn2⟩ := and_e hn1
  obtain ⟨nD, nX⟩ := and_e hn2
  obtain ⟨hxa, SH, AH⟩ := own_hexes (hw _ (List.mem_of_getElem? (i := 4) rfl)) (hw _ (List.mem_of_getElem? (i := 7) rfl)) (Cond.before_iff.mpr nA) (Cond.before_iff.mpr nL) (Cond.before_iff.mpr nD) (Cond.before_iff.mpr nX)
  obtain ⟨n, o, h1, h2, h3, _, L, rfl, ⟨rfl, N⟩, hq⟩ := rm0 l s _ hw tables_1 i0 i1 i2 i3 i4 hxa s.heap s.heap.size (Nat.le_refl _) SH AH p e ha hc hk s m _ below hf ((Spec.applies_iff_loose hf).mp happ).1 ⟨rfl, State.Warmed39.refl s, rfl⟩ trivial
  refine ⟨n, _, h1, h2, h3, hpost _ _ _ _ _ _ ⟨Cond.after_iff.mpr rfl, Cond.after_iff.mpr (eq_i res_at (Term.int_eval (1)) rfl), trivial⟩ ⟨hq.1, hq.2.1, (hq.2.2.sift fun y hy => Or.inr (N y hy)).mono (by decide) (by decide)⟩⟩
theorem main_1_1 : Claimed_1_1 := comes_1 fun _ _ _ _ _ _ h hF => ⟨h.1, hF⟩
theorem main_1_2 : Claimed_1_2 := comes_1 fun _ _ _ _ _ _ h hF => ⟨h.2.1, hF⟩
end Jvm.Pilot.@@N@@
namespace Jvm.Pilot.@@N@@
open Jvm Jvm.ClassFile Sem Op Lib Jvm.Free Jvm.Stand Jvm.Pilot.@@N@@.Jvm.D
/-! MADE BY PROGRAM (witnessworld.py) out of the Statement's table words and the real class files: 9 classes; the members and pool entries that the words name. The judged class is class 1, her method 2. -/
namespace start1
open Jvm.ClassFile
def u (s : String) : CpInfo := .utf8 (stringToUtf16 s)
/-- a pool by its gaps: so many unusable entries, then the entry; so many at the end -/
def gap : Nat → List CpInfo → List CpInfo
  | 0, r => r
  | n + 1, r => .unusable :: gap n r
def poolList (es : List (Nat × CpInfo)) (last : Nat) : List CpInfo := es.foldr (fun e r => gap e.1 (e.2 :: r)) (gap last [])
def pool (es : List (Nat × CpInfo)) (last : Nat) : Array CpInfo := ⟨poolList es last⟩
def fileOf (pool : Array CpInfo) (this : Nat) (attrs : Array Attribute := #[]) (ms : Array MethodInfo := #[]) (fl : Nat := 33) (sup : Nat := 0) (ifs : Array Nat := #[]) (fds : Array FieldInfo := #[]) : ClassFile where
  minorVersion := 0
  majorVersion := 65
  constantPool := pool
  accessFlags := fl
  thisClass := this
  superClass := sup
  interfaces := ifs
  fields := fds
  methods := ms
  attributes := attrs
def plain (name : String) (sup : Option ClassId) : Class where
  name := name
  kind := .ordinary
  loader := none
  accessFlags := 33
  super := sup
  interfaces := #[]
  cf := none
  fields := #[]
  methods := #[]
  instanceTypes := #[]
  staticTypes := #[]
  resolved := #[]
  callSites := []
  init := .initialized
  statics := none
  mirror := none

def pool0 : Array CpInfo := pool [(5, u "<init>"), (0, u "()V"), (1, .class_ 10), (1, u "java/lang/Object")] 113

def k0m0 : Method := { name := "<init>", desc := "()V", sig := { parameters := [], returnType := none }, accessFlags := 1, code := none }
/-- java/lang/Object -/
def k0 : Class := { plain "java/lang/Object" none with
  accessFlags := 33
  interfaces := #[]
  cf := some (fileOf pool0 8 #[] #[{ accessFlags := 1, nameIndex := 5, descriptorIndex := 6, attributes := #[] }] 33 0 #[] #[])
  fields := #[]
  methods := #[k0m0]
  instanceTypes := #[]
  staticTypes := #[]
  resolved := Array.replicate 124 none
  statics := none }

def pool1 : Array CpInfo := pool [(2, .class_ 4), (1, u "java/lang/Object"), (0, u "<init>"), (0, u "()V"), (0, .integer 2147483647), (0, .methodref 9 10), (0, .class_ 11), (0, .nameAndType 12 13), (0, u "com/example/windrow/windrow/cli/Json"), (0, u "write"), (0, u "([B[BI)I"), (0, .methodref 15 16), (0, .class_ 17), (0, .nameAndType 18 19), (0, u "com/example/windrow/windrow/cli/JsonWritePinLaw"), (0, u "enc"), (0, u "([BIB)I"), (3, u "law"), (0, u "(IIIII)Z")] 4

def k1m0 : Method := { name := "<init>", desc := "()V", sig := { parameters := [], returnType := none }, accessFlags := 1, code := none }
def k1c1 : Code := { maxStack := 3, maxLocals := 7, code := method_2_code, exceptionTable := #[], attributes := #[] }
def k1m1 : Method := { name := "enc", desc := "([BIB)I", sig := { parameters := [(.array .byte), .int, .byte], returnType := some .int }, accessFlags := 10, code := some k1c1 }
def k1c2 : Code := { maxStack := 4, maxLocals := 14, code := code, exceptionTable := #[], attributes := #[] }
def k1m2 : Method := { name := "law", desc := "(IIIII)Z", sig := { parameters := [.int, .int, .int, .int, .int], returnType := some .boolean }, accessFlags := 9, code := some k1c2 }
/-- com/example/windrow/windrow/cli/JsonWritePinLaw -/
def k1 : Class := { plain "com/example/windrow/windrow/cli/JsonWritePinLaw" (some 0) with
  accessFlags := 49
  interfaces := #[]
  cf := some (fileOf pool1 15 #[] #[{ accessFlags := 1, nameIndex := 5, descriptorIndex := 6, attributes := #[] }, { accessFlags := 10, nameIndex := 18, descriptorIndex := 19, attributes := #[] }, { accessFlags := 9, nameIndex := 23, descriptorIndex := 24, attributes := #[] }] 49 2 #[] #[])
  fields := #[]
  methods := #[k1m0, k1m1, k1m2]
  instanceTypes := #[]
  staticTypes := #[]
  resolved := Array.replicate 29 none
  statics := none }

def pool2 : Array CpInfo := pool [(2, .class_ 4), (1, u "java/lang/Object"), (3, .class_ 10), (1, u "com/example/windrow/windrow/cli/Json"), (0, u "_open"), (0, u "[Z"), (2, u "_decoded"), (0, u "[B"), (13, u "[Ljava/lang/String;"), (2, u "_names"), (4, u "_tokens"), (0, u "[[[B"), (1, u "[I"), (2, u "_indexes"), (0, u "[[I"), (10, u "_all"), (0, u "I"), (0, .class_ 59), (0, u "com/example/windrow/windrow/cli/Json$Kind"), (2, u "_kinds"), (0, u "[Lcom/example/windrow/windrow/cli/Json$Kind;"), (2, u "_starts"), (2, u "_ends"), (2, u "_escaped"), (55, u "_bytes"), (2, u "_from"), (2, u "_to"), (2, u "_found"), (74, u "TRUE"), (2, u "FALSE"), (2, u "NULL"), (5, u "_stringEscaped"), (0, u "Z"), (18, u "_nameStart"), (5, u "_nameEnd"), (89, .fieldref 8 341), (0, .nameAndType 342 16), (0, u "HEX_DIGITS"), (0, u "INDEX_DIGITS"), (2, u "MALFORMED_NUMBER"), (0, u "Ljava/lang/String;"), (0, u "UNKNOWN_ESCAPE"), (0, u "NOT_AN_OBJECT"), (18, u "write"), (0, u "([B[BI)I")] 28

def k2c0 : Code := { maxStack := 5, maxLocals := 7, code := prog_156_method_36_code, exceptionTable := #[], attributes := #[] }
def k2m0 : Method := { name := "write", desc := "([B[BI)I", sig := { parameters := [(.array .byte), (.array .byte), .int], returnType := some .int }, accessFlags := 8, code := some k2c0 }
/-- com/example/windrow/windrow/cli/Json -/
def k2 : Class := { plain "com/example/windrow/windrow/cli/Json" (some 0) with
  accessFlags := 48
  interfaces := #[]
  cf := some (fileOf pool2 8 #[.nestMembers #[58]] #[{ accessFlags := 8, nameIndex := 368, descriptorIndex := 369, attributes := #[] }] 48 2 #[] #[{ accessFlags := 26, nameIndex := 212, descriptorIndex := 16, attributes := #[] }, { accessFlags := 26, nameIndex := 215, descriptorIndex := 16, attributes := #[] }, { accessFlags := 26, nameIndex := 218, descriptorIndex := 16, attributes := #[] }, { accessFlags := 26, nameIndex := 342, descriptorIndex := 16, attributes := #[] }, { accessFlags := 26, nameIndex := 343, descriptorIndex := 57, attributes := #[] }, { accessFlags := 26, nameIndex := 346, descriptorIndex := 347, attributes := #[] }, { accessFlags := 26, nameIndex := 348, descriptorIndex := 347, attributes := #[] }, { accessFlags := 26, nameIndex := 349, descriptorIndex := 347, attributes := #[] }, { accessFlags := 18, nameIndex := 33, descriptorIndex := 30, attributes := #[] }, { accessFlags := 18, nameIndex := 38, descriptorIndex := 39, attributes := #[] }, { accessFlags := 18, nameIndex := 44, descriptorIndex := 45, attributes := #[] }, { accessFlags := 18, nameIndex := 56, descriptorIndex := 57, attributes := #[] }, { accessFlags := 18, nameIndex := 62, descriptorIndex := 63, attributes := #[] }, { accessFlags := 18, nameIndex := 66, descriptorIndex := 41, attributes := #[] }, { accessFlags := 18, nameIndex := 69, descriptorIndex := 41, attributes := #[] }, { accessFlags := 18, nameIndex := 72, descriptorIndex := 12, attributes := #[] }, { accessFlags := 2, nameIndex := 137, descriptorIndex := 57, attributes := #[] }, { accessFlags := 2, nameIndex := 128, descriptorIndex := 16, attributes := #[] }, { accessFlags := 2, nameIndex := 131, descriptorIndex := 57, attributes := #[] }, { accessFlags := 2, nameIndex := 134, descriptorIndex := 57, attributes := #[] }, { accessFlags := 2, nameIndex := 224, descriptorIndex := 225, attributes := #[] }, { accessFlags := 2, nameIndex := 244, descriptorIndex := 57, attributes := #[] }, { accessFlags := 2, nameIndex := 250, descriptorIndex := 57, attributes := #[] }, { accessFlags := 2, nameIndex := 11, descriptorIndex := 12, attributes := #[] }, { accessFlags := 2, nameIndex := 15, descriptorIndex := 16, attributes := #[] }])
  fields := #[{ name := "TRUE", type := (.array .byte), accessFlags := 26, slot := 0, constantValue := 0 }, { name := "FALSE", type := (.array .byte), accessFlags := 26, slot := 1, constantValue := 0 }, { name := "NULL", type := (.array .byte), accessFlags := 26, slot := 2, constantValue := 0 }, { name := "HEX_DIGITS", type := (.array .byte), accessFlags := 26, slot := 3, constantValue := 0 }, { name := "INDEX_DIGITS", type := .int, accessFlags := 26, slot := 4, constantValue := 0 }, { name := "MALFORMED_NUMBER", type := (.object "java/lang/String"), accessFlags := 26, slot := 5, constantValue := 0 }, { name := "UNKNOWN_ESCAPE", type := (.object "java/lang/String"), accessFlags := 26, slot := 6, constantValue := 0 }, { name := "NOT_AN_OBJECT", type := (.object "java/lang/String"), accessFlags := 26, slot := 7, constantValue := 0 }, { name := "_names", type := (.array (.object "java/lang/String")), accessFlags := 18, slot := 0, constantValue := 0 }, { name := "_tokens", type := (.array (.array (.array .byte))), accessFlags := 18, slot := 1, constantValue := 0 }, { name := "_indexes", type := (.array (.array .int)), accessFlags := 18, slot := 2, constantValue := 0 }, { name := "_all", type := .int, accessFlags := 18, slot := 3, constantValue := 0 }, { name := "_kinds", type := (.array (.object "com/example/windrow/windrow/cli/Json$Kind")), accessFlags := 18, slot := 4, constantValue := 0 }, { name := "_starts", type := (.array .int), accessFlags := 18, slot := 5, constantValue := 0 }, { name := "_ends", type := (.array .int), accessFlags := 18, slot := 6, constantValue := 0 }, { name := "_escaped", type := (.array .boolean), accessFlags := 18, slot := 7, constantValue := 0 }, { name := "_found", type := .int, accessFlags := 2, slot := 8, constantValue := 0 }, { name := "_bytes", type := (.array .byte), accessFlags := 2, slot := 9, constantValue := 0 }, { name := "_from", type := .int, accessFlags := 2, slot := 10, constantValue := 0 }, { name := "_to", type := .int, accessFlags := 2, slot := 11, constantValue := 0 }, { name := "_stringEscaped", type := .boolean, accessFlags := 2, slot := 12, constantValue := 0 }, { name := "_nameStart", type := .int, accessFlags := 2, slot := 13, constantValue := 0 }, { name := "_nameEnd", type := .int, accessFlags := 2, slot := 14, constantValue := 0 }, { name := "_open", type := (.array .boolean), accessFlags := 2, slot := 15, constantValue := 0 }, { name := "_decoded", type := (.array .byte), accessFlags := 2, slot := 16, constantValue := 0 }]
  methods := #[k2m0]
  instanceTypes := #[(.array (.object "java/lang/String")), (.array (.array (.array .byte))), (.array (.array .int)), .int, (.array (.object "com/example/windrow/windrow/cli/Json$Kind")), (.array .int), (.array .int), (.array .boolean), .int, (.array .byte), .int, .int, .boolean, .int, .int, (.array .boolean), (.array .byte)]
  staticTypes := #[(.array .byte), (.array .byte), (.array .byte), (.array .byte), .int, (.object "java/lang/String"), (.object "java/lang/String"), (.object "java/lang/String")]
  resolved := Array.replicate 398 none
  statics := some 0 }

def pool3 : Array CpInfo := pool [(1, u "java/lang/Cloneable"), (0, .class_ 1), (0, u "java/lang/Object"), (0, .class_ 3)] 3

/-- java/lang/Cloneable -/
def k3 : Class := { plain "java/lang/Cloneable" (some 0) with
  accessFlags := 1537
  interfaces := #[]
  cf := some (fileOf pool3 2 #[] #[] 1537 4 #[] #[])
  fields := #[]
  methods := #[]
  instanceTypes := #[]
  staticTypes := #[]
  resolved := Array.replicate 8 none
  statics := none }

def pool4 : Array CpInfo := pool [(1, u "java/io/Serializable"), (0, .class_ 1), (0, u "java/lang/Object"), (0, .class_ 3)] 3

/-- java/io/Serializable -/
def k4 : Class := { plain "java/io/Serializable" (some 0) with
  accessFlags := 1537
  interfaces := #[]
  cf := some (fileOf pool4 2 #[] #[] 1537 4 #[] #[])
  fields := #[]
  methods := #[]
  instanceTypes := #[]
  staticTypes := #[]
  resolved := Array.replicate 8 none
  statics := none }

/-- the primitive byte -/
def k5 : Class := { plain "byte" none with kind := .primitive 'B', accessFlags := 0x411 }
/-- [B -/
def k6 : Class := { plain "[B" (some 0) with kind := .array 5 .byte, interfaces := #[3, 4], accessFlags := 1041 }

/-- the primitive int -/
def k7 : Class := { plain "int" none with kind := .primitive 'I', accessFlags := 0x411 }
/-- [I -/
def k8 : Class := { plain "[I" (some 0) with kind := .array 7 .int, interfaces := #[3, 4], accessFlags := 1041 }

def heap : Heap := #[{ cls := 2, slots := #[.null, .null, .null, .ref 1, .int 0, .null, .null, .null], vm := .statics 2 },
  { cls := 6, slots := #[.int 48, .int 49, .int 50, .int 51, .int 52, .int 53, .int 54, .int 55, .int 56, .int 57, .int 97, .int 98, .int 99, .int 100, .int 101, .int 102], vm := .none }]
def classes : Array Class := #[k0, k1, k2, k3, k4, k5, k6, k7, k8]
def interned : List (Array UInt16 × Addr) := []
def slotsUsed : Nat := 24
def theMethod : MethodId := ⟨1, 2⟩
def args0 : Array Value := #[.int 5, .int 7, .int 3, .int 2, .int 11]
def aboutOver (below : List Frame) : State where
  vm := { classes := classes, interned := interned.toArray }
  heap := heap
  slotsUsed := slotsUsed
  threads := #[{ frames := .invoking theMethod args0 :: below }]
def below0 : List Frame := [.native { method := ⟨0, 0⟩, args := #[] }]
def about1 : State := aboutOver below0
def p0 : Program := .bare "" "" ""
def e0 : Env := launch0.env 0 0 0
theorem w_frames : about1.frames = Frame.invoking theMethod args0 :: below0 := rfl
set_option maxRecDepth 65536 in
theorem w_args : argsFit about1.vm theMethod args0 = true := by decide +kernel
set_option maxRecDepth 65536 in
theorem w_heap : heapFits about1 = true := by decide +kernel
set_option maxRecDepth 65536 in
theorem w_runnable : about1.curStatus? = some .runnable := by decide +kernel
set_option maxRecDepth 65536 in
theorem w_alone : about1.alone = true := by decide +kernel
set_option maxRecDepth 65536 in
theorem w_named : about1.methodNamed? x = some theMethod := by decide +kernel
set_option maxRecDepth 65536 in
theorem w_hears : about1.hears theMethod below0 = true := by decide +kernel
set_option maxRecDepth 65536 in
theorem w_ripe : about1.ripe theMethod args0 below0 = true := by decide +kernel
theorem w_running : about1.status = .running := rfl
set_option maxRecDepth 65536 in
theorem w_room : about1.hasRoom e0.platform room_1 = true :=
  launch0.hasRoom_least _ room_1 (by decide +kernel) (by decide +kernel) (by decide +kernel) (by decide +kernel) (by decide +kernel) (by decide +kernel)
theorem allAtoms_all (ts : List Jvm.Cond) (a : Array Jvm.Value) (st : Jvm.State) : (allAtoms ts).before a st = ts.all (fun c => c.before a st) := by
  induction ts with
  | nil => rfl
  | cons c t ih =>
    show (Jvm.Cond.and c (allAtoms t)).before a st = _
    rw [Jvm.Cond.before_and, ih, List.all_cons]
def words1 : List Jvm.Cond := Jvm.Cond.code x code maxLocals ret :: tables_1
/-- a 'code' word, met by the world's own term for the bytes: nothing is compared byte by byte -/
theorem code_word {y : MethodName} {bytes : ByteArray} {mx : Nat} {rt : Option FieldType} {a : Array Value} {s : State} {m : MethodId} {meth : Method} {c : Code} (h1 : s.methodNamed? y = some m) (h2 : s.vm.method? m = some meth) (h3 : meth.code = some c) (h4 : c.code = bytes)
    (h5 : (c.maxLocals == mx && c.exceptionTable.isEmpty && decide (c.maxStack ≤ mostOperands) && decide (meth.sig.returnType = rt) && !meth.locks && decide (parseMethodDescriptor y.desc = some meth.sig)) = true) : (Jvm.Cond.code y bytes mx rt).before a s = true := by
  simp only [Bool.and_eq_true, beq_iff_eq, Bool.not_eq_true', decide_eq_true_eq] at h5
  obtain ⟨⟨⟨⟨⟨g1, g2⟩, g3⟩, g4⟩, g5⟩, g6⟩ := h5
  simp [Cond.before, Cond.holds, Cond.value, h1, h2, h3, h4, g1, g2, g3, g4, g5, g6]
def isCode : Jvm.Cond → Bool
  | .code _ _ _ _ => true
  | _ => false
theorem all_split {L : List Jvm.Cond} {P : Jvm.Cond → Bool} (h1 : L.all (fun c => isCode c || P c) = true) (h2 : ∀ c ∈ L.filter isCode, P c = true) : L.all P = true := by
  refine List.all_eq_true.mpr fun c hc => ?_
  have h := List.all_eq_true.mp h1 c hc
  rcases Bool.eq_false_or_eq_true (isCode c) with hi | hi
  · exact h2 c (List.mem_filter.mpr ⟨hc, hi⟩)
  · simpa [hi] using h
set_option maxRecDepth 65536 in
theorem w_c0 : (Jvm.Cond.code x code maxLocals ret).before args0 about1 = true := code_word (m := ⟨1, 2⟩) (meth := k1m2) (c := k1c2) (by decide +kernel) rfl rfl rfl (by decide +kernel)
set_option maxRecDepth 65536 in
theorem w_c1 : (Jvm.Cond.code ({ cls := "com/example/windrow/windrow/cli/Json", name := "write", desc := "([B[BI)I" } : Jvm.MethodName) prog_156_method_36_code (7 : Nat) (Option.some Jvm.ClassFile.FieldType.int)).before args0 about1 = true := code_word (m := ⟨2, 0⟩) (meth := k2m0) (c := k2c0) (by decide +kernel) rfl rfl rfl (by decide +kernel)
set_option maxRecDepth 65536 in
theorem w_c2 : (Jvm.Cond.code ({ cls := "com/example/windrow/windrow/cli/JsonWritePinLaw", name := "enc", desc := "([BIB)I" } : Jvm.MethodName) method_2_code (7 : Nat) (Option.some Jvm.ClassFile.FieldType.int)).before args0 about1 = true := code_word (m := ⟨1, 1⟩) (meth := k1m1) (c := k1c1) (by decide +kernel) rfl rfl rfl (by decide +kernel)
def codes1 : List Jvm.Cond := [Jvm.Cond.code x code maxLocals ret, Jvm.Cond.code ({ cls := "com/example/windrow/windrow/cli/Json", name := "write", desc := "([B[BI)I" } : Jvm.MethodName) prog_156_method_36_code (7 : Nat) (Option.some Jvm.ClassFile.FieldType.int), Jvm.Cond.code ({ cls := "com/example/windrow/windrow/cli/JsonWritePinLaw", name := "enc", desc := "([BIB)I" } : Jvm.MethodName) method_2_code (7 : Nat) (Option.some Jvm.ClassFile.FieldType.int)]
set_option maxRecDepth 65536 in
theorem codes_eq : words1.filter isCode = codes1 := rfl
theorem w_codes : ∀ c ∈ words1.filter isCode, c.before args0 about1 = true := by
  rw [codes_eq]
  intro c hc
  simp only [codes1, List.mem_cons, List.not_mem_nil, or_false] at hc
  rcases hc with rfl | rfl | rfl
  · exact w_c0
  · exact w_c1
  · exact w_c2
set_option maxRecDepth 65536 in
theorem w_t1 : words1.all (fun c => isCode c || c.before args0 about1) = true := by decide +kernel
theorem w_tables : (allAtoms (Jvm.Cond.code x code maxLocals ret :: tables_1)).before args0 about1 = true := by
  rw [allAtoms_all]
  show words1.all (fun c => c.before args0 about1) = true
  refine all_split ?_ w_codes
  rw [w_t1]
set_option maxRecDepth 65536 in
theorem w_case : (Jvm.Cond.and given_1 narrow_1).before args0 about1 = true := by decide +kernel
theorem w_applies : (headSpec (Jvm.Cond.code x code maxLocals ret :: tables_1) room_1).applies x e0.platform about1 = true :=
  (Spec.applies_iff w_frames).mpr ⟨w_running, w_runnable, w_alone, w_named, w_hears, w_ripe, w_room, w_tables⟩
theorem atStart : AtStart classFile x code maxLocals ret World_1 tables_1 room_1 Calls_1 rest_1 Pre_1 launch0 p0 e0 about1 theMethod args0 below0 :=
  ⟨lists_1, trivial, launch0.admits_env _ _ _, launch0.least_env, fairChoices_fair.cas, fairChoices_fair.clock, w_frames, w_args, w_heap, w_applies, trivial, trivial, w_case⟩
end start1
theorem witness_1 : WitnessClaimed_1 := ⟨start1.p0, start1.e0, start1.about1, start1.theMethod, start1.args0, start1.below0, start1.atStart⟩
end Jvm.Pilot.@@N@@
