import JvmDerived
import JvmDerived.Pilot.@@N@@Statement
import JvmDerived.Pilot.@@N@@Code
set_option linter.unusedVariables false
set_option linter.unusedSimpArgs false
namespace Jvm.RoadKit
open Sem ClassFile Op Lib Jvm.Stand Jvm.Free Jvm.LawKit
section New
variable {p : Program} {l : Launch} {e : Env} {R : Room} {s : State} {m : MethodId} {args : Array Value} {below : List Frame} {meth : Method} {c : Code} {T : State} {locs : List Loc} {cells slots : Nat}
theorem retI (X : Stand p l e R s m args below meth c T locs cells slots) (hx : p.tables.exec = Jvm.exec) {pc : Nat} {Ls : Array Slot} {z : Int32} {rest : List Value} (hret : meth.sig.returnType = some .int) (hd : decode c.code pc = .ok (.ireturn, 1)) {fs : List Frame}
    (hl : ∀ (f : JFrame) (acts : List Action), f.method = m → f.locked = none → f.entered = [] → (doReturn e (T.setTop f) acts (some (.int z))).1 = T.setFrames fs) : Steps p.tables e below (T.setTop (mkF m pc Ls (.int z :: rest))) (T.setFrames fs) := by
  have hm' : T.vm.method? m = some meth := X.method'
  have hn : narrow .int (.int z) = .int z := rfl
  show Steps p.tables e below (T.setTop { method := m, pc := pc, locals := Ls, stack := _ :: rest, locked := none }) _
  jvm_step X.here [X.here.top, hx, hd, hm', hret, hn]
  first | (intro acts; rw [hl _ acts rfl rfl rfl]) | rw [hl _ _ rfl rfl rfl]
  exact Steps.refl _
end New
end Jvm.RoadKit
namespace Jvm.Pilot.@@N@@
open Jvm Jvm.ClassFile Sem Op Lib Jvm.Free Jvm.Stand Jvm.LawKit Jvm.RoadKit Bundle Jvm.Pilot.@@N@@.Jvm.D
/-- whoever reaches a target from the frame F of T reaches it from the frame F0 of T0 -/
def own_Go (p : Program) (e : Env) (below : List Frame) (T0 : State) (F0 : JFrame) (T : State) (F : JFrame) : Prop := ∀ target, Steps p.tables e below (T.setTop F) target → Steps p.tables e below (T0.setTop F0) target
theorem own_Go.refl {p : Program} {e : Env} {below : List Frame} {T : State} {F : JFrame} : own_Go p e below T F T F := fun _ k => k
theorem own_Go.trans {p : Program} {e : Env} {below : List Frame} {T0 T1 T2 : State} {F0 F1 F2 : JFrame} (a : own_Go p e below T0 F0 T1 F1) (b : own_Go p e below T1 F1 T2 F2) : own_Go p e below T0 F0 T2 F2 := fun t k => a t (b t k)

theorem pd_0 : parseMethodDescriptor "(II)I" = some ⟨[.int, .int], some .int⟩ := by decide +kernel
theorem pd_1 : parseMethodDescriptor "()V" = some ⟨[], none⟩ := by decide +kernel
theorem pd_2 : parseMethodDescriptor "([CI)[C" = some ⟨[(.array .char), .int], some (.array .char)⟩ := by decide +kernel
theorem pd_3 : parseMethodDescriptor "(I)Z" = some ⟨[.int], some .boolean⟩ := by decide +kernel
theorem pd_4 : parseMethodDescriptor "(IIII)I" = some ⟨[.int, .int, .int, .int], some .int⟩ := by decide +kernel
theorem pd_5 : parseMethodDescriptor "(I)V" = some ⟨[.int], none⟩ := by decide +kernel
theorem pd_6 : parseMethodDescriptor "(C)Lcom/example/bitloom/bitloom/Container;" = some ⟨[.char], some (.object "com/example/bitloom/bitloom/Container")⟩ := by decide +kernel
theorem pd_7 : parseMethodDescriptor "(III)I" = some ⟨[.int, .int, .int], some .int⟩ := by decide +kernel
theorem pd_8 : parseMethodDescriptor "(C)V" = some ⟨[.char], none⟩ := by decide +kernel
theorem pd_9 : parseMethodDescriptor "(I)I" = some ⟨[.int], some .int⟩ := by decide +kernel
theorem pd_10 : parseMethodDescriptor "(III)Z" = some ⟨[.int, .int, .int], some .boolean⟩ := by decide +kernel
/-! plain laws: small naturals as ints -/
theorem own_ti {n : Nat} (h : n < 2147483648) : n.toInt32.toInt = n := len_toInt (by omega)
theorem own_tn {n : Nat} (h : n < 2147483648) : n.toInt32.toNatClampNeg = n := by
  rw [Int32.toNatClampNeg, own_ti h]; rfl
theorem own_nn {n : Nat} (h : n < 2147483648) : ¬ n.toInt32 < 0 := by
  rw [Int32.lt_iff_toInt_lt, own_ti h, show (0 : Int32).toInt = 0 from rfl]
  omega
theorem own_lt {i n : Nat} (hi : i < n) (hn : n < 2147483648) : i.toInt32 < n.toInt32 := by
  rw [Int32.lt_iff_toInt_lt, own_ti (by omega), own_ti hn]
  omega
theorem own_ltf {i n : Nat} (hi : n ≤ i) (hn : i < 2147483648) : ¬ i.toInt32 < n.toInt32 := by
  rw [Int32.lt_iff_toInt_lt, own_ti hn, own_ti (by omega)]
  omega
theorem own_padd (a b : Nat) : a.toInt32 + b.toInt32 = (a + b).toInt32 := (Int32.ofNat_add a b).symm
theorem own_one (i : Nat) : i.toInt32 + (1 : Int32) = (i + 1).toInt32 := own_padd i 1
/-! the values of a char -/
def own_C (y : Int32) : Prop := 0 ≤ y.toInt ∧ y.toInt < 65536
def own_ix (y : Int32) : Nat := y.toNatClampNeg / 64
theorem own_Cand (x : Int32) : own_C (x &&& (65535 : Int32)) := by
  have h := c_mask x 65535 16 (by decide) (by decide)
  unfold own_C
  rw [h]
  omega
theorem own_Cshr (x : Int32) : own_C (XT.ushr x (16 : Int32)) := by
  have h : (XT.ushr x (16 : Int32)).toInt = _ := c_iushr x 16 16 (by decide) (by decide)
  unfold own_C
  rw [h]
  omega
theorem own_cnt (x : Int32) : ∃ n : Nat, n ≤ 3 ∧ (x &&& (3 : Int32)) = n.toInt32 := by
  have h := c_mask x 3 2 (by decide) (by decide)
  refine ⟨(x.toInt % ((2 ^ 2 : Nat) : Int)).toNat, by omega, Int32.toInt_inj.mp ?_⟩
  rw [h, own_ti (by omega)]
  omega
theorem own_nat {y : Int32} (hy : own_C y) : (y.toNatClampNeg : Int) = y.toInt := by
  rw [Int32.toNatClampNeg]
  exact Int.toNat_of_nonneg hy.1
theorem own_ixlt {y : Int32} (hy : own_C y) : own_ix y < 1024 := by
  have h := own_nat hy
  have := hy.2
  unfold own_ix
  omega
theorem own_divI {y : Int32} (hy : own_C y) : (y / (64 : Int32)).toInt = y.toInt / 64 := (c_idiv y 64 64 rfl (by decide)).1 hy.1
theorem own_div {y : Int32} (hy : own_C y) : (y / (64 : Int32)).toNatClampNeg = own_ix y := by
  have h := own_nat hy
  have := hy.1
  rw [Int32.toNatClampNeg, own_divI hy]
  unfold own_ix
  omega
theorem own_divn {y : Int32} (hy : own_C y) : ¬ (y / (64 : Int32)) < 0 := by
  have := hy.1
  rw [Int32.lt_iff_toInt_lt, own_divI hy, show (0 : Int32).toInt = 0 from rfl]
  omega
theorem own_shrI {y : Int32} (hy : own_C y) : ((XT.ushr y (6 : Int32)) &&& ((1024 : Int32) - (1 : Int32))).toInt = y.toInt / 64 := by
  have h : (XT.ushr y (6 : Int32)).toInt = _ := c_iushr y 6 6 (by decide) (by decide)
  have h2 := c_mask (XT.ushr y (6 : Int32)) ((1024 : Int32) - (1 : Int32)) 10 (by decide) (by decide)
  obtain ⟨q1, q2⟩ := hy
  rw [h2, h]
  omega
theorem own_shr {y : Int32} (hy : own_C y) : ((XT.ushr y (6 : Int32)) &&& ((1024 : Int32) - (1 : Int32))).toNatClampNeg = own_ix y := by
  have h := own_nat hy
  have := hy.1
  rw [Int32.toNatClampNeg, own_shrI hy]
  unfold own_ix
  omega
theorem own_shrn {y : Int32} (hy : own_C y) : ¬ ((XT.ushr y (6 : Int32)) &&& ((1024 : Int32) - (1 : Int32))) < 0 := by
  have := hy.1
  rw [Int32.lt_iff_toInt_lt, own_shrI hy, show (0 : Int32).toInt = 0 from rfl]
  omega
theorem own_i2c {y : Int32} (hy : own_C y) : y.toUInt32.toUInt16.toUInt32.toInt32 = y := by
  have h := c_i2c y
  obtain ⟨q1, q2⟩ := hy
  apply Int32.toInt_inj.mp
  omega
theorem own_narc {y : Int32} (hy : own_C y) : nar .char y = y := own_i2c hy
/-! an array whose n places hold f 0 .. f (n - 1) -/
def own_Ar (Z : State) (h : Heap) (a : Addr) (ty : FieldType) (n : Nat) (f : Nat → Value) : Prop := ∃ cl : Cell, Arr Z h a cl ty ∧ cl.slots.size = n ∧ ∀ j, j < n → cl.slots[j]? = some (f j)
section OwnArr
variable {Z : State} {h h' : Heap} {a b : Addr} {ty : FieldType} {n i : Nat} {f g : Nat → Value} {v : Value} {cl : Cell}
theorem own_new {k : ClassId} {z : Int32} (A : Arr Z h a (newA k ty z) ty) (hz : z.toNatClampNeg = n) : own_Ar Z h a ty n (fun _ => defaultValue ty) := by
  refine ⟨_, A, by rw [sz_new, hz], fun j hj => ?_⟩
  show (Array.replicate z.toNatClampNeg (defaultValue ty))[j]? = _
  rw [hz, Array.getElem?_replicate, if_pos hj]
theorem own_set (A : Arr Z h a cl ty) (S : cl.slots.size = n) (H : ∀ j, j < n → cl.slots[j]? = some (f j)) (W : Wr h h' a i v) (hi : i < n) : own_Ar Z h' a ty n (fun j => if j = i then v else f j) := by
  refine ⟨_, A.same W, by rw [sz_set, S], fun j hj => ?_⟩
  show (cl.slots.setIfInBounds i v)[j]? = some (if j = i then v else f j)
  rw [Array.getElem?_setIfInBounds]
  by_cases h : j = i
  · subst h
    rw [if_pos rfl, if_pos (by omega), if_pos rfl]
  · rw [if_neg (fun q => h q.symm), if_neg h]
    exact H j hj
theorem own_congr (V : own_Ar Z h a ty n f) (q : ∀ j, j < n → f j = g j) : own_Ar Z h a ty n g := by
  obtain ⟨c, A, S, H⟩ := V
  exact ⟨c, A, S, fun j hj => by rw [H j hj, q j hj]⟩
theorem own_Ar.ext (V : own_Ar Z h a ty n f) (E : Ext h h') : own_Ar Z h' a ty n f := by
  obtain ⟨c, A, r⟩ := V
  exact ⟨c, A.ext E, r⟩
theorem own_Ar.other (V : own_Ar Z h a ty n f) (W : Wr h h' b i v) (q : a ≠ b) : own_Ar Z h' a ty n f := by
  obtain ⟨c, A, r⟩ := V
  exact ⟨c, A.other W q, r⟩
theorem own_Ar.keep {ws : List Addr} (V : own_Ar Z h a ty n f) (K : Keep h h' ws) (q : a ∉ ws) : own_Ar Z h' a ty n f := by
  obtain ⟨c, A, r⟩ := V
  exact ⟨c, ⟨K.2.1 a c A.1 q, A.2⟩, r⟩
theorem own_Ar.lt (V : own_Ar Z h a ty n f) : a < h.size := by
  obtain ⟨c, A, -⟩ := V
  exact A.lt
theorem own_setC {f : Nat → Int32} {y : Int32} (A : Arr Z h a cl ty) (S : cl.slots.size = n) (H : ∀ j, j < n → cl.slots[j]? = some (.int (f j))) (W : Wr h h' a i (.int y)) (hi : i < n) : own_Ar Z h' a ty n (fun j => .int ((fun j => if j = i then y else f j) j)) :=
  own_congr (own_set A S H W hi) (fun j _ => by dsimp only; split <;> rfl)
theorem own_setL {f : Nat → Int64} {y : Int64} (A : Arr Z h a cl .long) (S : cl.slots.size = n) (H : ∀ j, j < n → cl.slots[j]? = some (.long (f j))) (W : Wr h h' a i (.long y)) (hi : i < n) : ∃ g : Nat → Int64, own_Ar Z h' a .long n (fun j => .long (g j)) :=
  ⟨fun j => if j = i then y else f j, own_congr (own_set A S H W hi) (fun j _ => by dsimp only; split <;> rfl)⟩
theorem own_inb {j : Int32} (S : cl.slots.size = n) (hj : j.toNatClampNeg = i) (hn : ¬ j < 0) (hi : i < n) : ¬ (j < 0 ∨ cl.slots.size ≤ j.toNatClampNeg) := fun q => q.elim hn (fun q => by omega)
end OwnArr
/-! a private method is what the class itself selects -/
theorem own_selfsel {Z s : State} {a0 args : Array Value} {y : MethodName} {n : Nat} (hZ : Z.Warmed39 s.vm) (wi : (Jvm.Cond.instantiable y.cls n).before a0 Z = true) (wp : (Jvm.Cond.privateMethod y).before a0 Z = true) (wm : (Jvm.Cond.instanceMethod y).before a0 Z = true) (hy : y.cls ≠ "java/lang/invoke/MethodHandle" ∧ y.cls ≠ "java/lang/invoke/VarHandle") : (Jvm.Cond.selects y.cls y y).before args s = true := by
  have w1 : (Jvm.Cond.instantiable y.cls n).before args s = true := mvT hZ wi
  obtain ⟨c, k, h1, h2, -, h4, -, -⟩ := Cond.instantiable_spec w1
  rw [Bool.or_eq_false_iff] at h4
  exact selects_self_of_private h1 h2 h4.1 (Cond.privateMethod_at (mvP hZ wp (args := #[]))) (mvT hZ wm) hy
/-! gaps, runs -/
def own_D (d : Int32) : Prop := 1 ≤ d.toInt ∧ d.toInt ≤ 4097
theorem own_D1 (x : Int32) : own_D ((2 : Int32) + (x &&& (4095 : Int32))) := by
  have h := c_mask x 4095 12 (by decide) (by decide)
  have e : ((2 : Int32) + (x &&& (4095 : Int32))).toInt = 2 + x.toInt % ((2 ^ 12 : Nat) : Int) := by
    rw [XT.add32 (by rw [h, show (2 : Int32).toInt = 2 from rfl]; constructor <;> omega), h, show (2 : Int32).toInt = 2 from rfl]
  unfold own_D
  rw [e]
  omega
theorem own_D2 (x : Int32) : own_D ((x &&& (3 : Int32)) + (1 : Int32)) := by
  have h := c_mask x 3 2 (by decide) (by decide)
  have e : ((x &&& (3 : Int32)) + (1 : Int32)).toInt = x.toInt % ((2 ^ 2 : Nat) : Int) + 1 := by
    rw [XT.add32 (by rw [h, show (1 : Int32).toInt = 1 from rfl]; constructor <;> omega), h, show (1 : Int32).toInt = 1 from rfl]
  unfold own_D
  rw [e]
  omega
def own_st (d : Int32) : Int32 := if (1 : Int32) < d then (1 : Int32) else (0 : Int32)
/-- does y begin a run behind x? -/
def own_s (x y : Int32) : Nat := if x.toInt + 1 < y.toInt then 1 else 0
/-- the runs of f 0 .. f k -/
def own_rs (f : Nat → Int32) : Nat → Nat
  | 0 => 1
  | k + 1 => own_rs f k + own_s (f k) (f (k + 1))
theorem own_s1 (x y : Int32) : own_s x y ≤ 1 := by
  unfold own_s
  split <;> omega
theorem own_rsle (f : Nat → Int32) : ∀ k, own_rs f k ≤ k + 1
  | 0 => Nat.le_refl 1
  | k + 1 => by
    have h1 := own_rsle f k
    have h2 := own_s1 (f k) (f (k + 1))
    show own_rs f k + own_s (f k) (f (k + 1)) ≤ k + 1 + 1
    omega
theorem own_rspos (f : Nat → Int32) : ∀ k, 1 ≤ own_rs f k
  | 0 => Nat.le_refl 1
  | k + 1 => Nat.le_trans (own_rspos f k) (Nat.le_add_right _ _)
theorem own_rsmono (f : Nat → Int32) {i : Nat} : ∀ {k : Nat}, i ≤ k → own_rs f i ≤ own_rs f k
  | 0, h => by
    have : i = 0 := by omega
    subst this
    exact Nat.le_refl _
  | k + 1, h => by
    by_cases q : i = k + 1
    · subst q
      exact Nat.le_refl _
    · exact Nat.le_trans (own_rsmono f (k := k) (by omega)) (Nat.le_add_right _ _)
theorem own_sgn {x y : Int32} (hx : own_C x) (hy : own_C y) : XT.ushr (((1 : Int32) + x) - y) (31 : Int32) = (own_s x y).toInt32 := by
  obtain ⟨x1, x2⟩ := hx
  obtain ⟨y1, y2⟩ := hy
  have e1 : ((1 : Int32) + x).toInt = 1 + x.toInt := by
    rw [XT.add32 (by rw [show (1 : Int32).toInt = 1 from rfl]; constructor <;> omega), show (1 : Int32).toInt = 1 from rfl]
  have e2 : (((1 : Int32) + x) - y).toInt = 1 + x.toInt - y.toInt := by
    rw [XT.sub32 (by rw [e1]; constructor <;> omega), e1]
  have h : (XT.ushr (((1 : Int32) + x) - y) (31 : Int32)).toInt = _ := c_iushr _ 31 31 (by decide) (by decide)
  rw [e2] at h
  apply Int32.toInt_inj.mp
  unfold own_s
  rw [h]
  split
  · rw [own_ti (by omega)]; omega
  · rw [own_ti (by omega)]; omega
theorem own_rstep (f : Nat → Int32) {j : Nat} (h1 : own_C (f j)) (h2 : own_C (f (j + 1))) : (own_rs f j).toInt32 + XT.ushr (((1 : Int32) + f j) - f (j + 1)) (31 : Int32) = (own_rs f (j + 1)).toInt32 := by
  rw [own_sgn h1 h2]
  exact own_padd _ _
theorem own_pred {j : Nat} (h : j < 1000) : ((j + 1).toInt32 - (1 : Int32)).toNatClampNeg = j ∧ ¬ ((j + 1).toInt32 - (1 : Int32)) < 0 := by
  have e : ((j + 1).toInt32 - (1 : Int32)).toInt = j := by
    rw [XT.sub32 (by rw [own_ti (by omega), show (1 : Int32).toInt = 1 from rfl]; constructor <;> omega), own_ti (by omega), show (1 : Int32).toInt = 1 from rfl]
    omega
  refine ⟨by rw [Int32.toNatClampNeg, e]; rfl, ?_⟩
  rw [Int32.lt_iff_toInt_lt, e, show (0 : Int32).toInt = 0 from rfl]
  omega
theorem own_small {n : Nat} (h : n < 65536) : own_C n.toInt32 := by
  unfold own_C
  rw [own_ti (by omega)]
  omega
theorem own_inj {a b : Nat} (ha : a < 2147483648) (hb : b < 2147483648) (h : a.toInt32 = b.toInt32) : a = b := by
  have := congrArg Int32.toInt h
  rw [own_ti ha, own_ti hb] at this
  omega
/-- what ok asks of an answer -/
def own_okP (res : Int32) (R : Nat) (mo : Int32) : Prop := if mo.toInt < (R : Int) then mo.toInt < res.toInt ∧ res.toInt ≤ (R : Int) else res = R.toInt32
theorem own_okE (R : Nat) (hR : R < 65536) (mo : Int32) : own_okP R.toInt32 R mo := by
  unfold own_okP
  rw [own_ti (by omega)]
  split
  · exact ⟨by assumption, Int.le_refl _⟩
  · rfl
theorem own_okI (r R : Nat) (hr : r ≤ R) (hR : R < 65536) (mo : Int32) (h : mo.toInt < (r : Int)) : own_okP r.toInt32 R mo := by
  unfold own_okP
  rw [own_ti (by omega), if_pos (by omega)]
  omega
/-! the law's numbers -/
theorem own_sum4 {a b c d : Int32} (ha : own_D a) (hb : own_D b) (hc : own_D c) (hd : own_D d) : (((a + b) + c) + d).toInt = a.toInt + b.toInt + c.toInt + d.toInt := by
  obtain ⟨a1, a2⟩ := ha
  obtain ⟨b1, b2⟩ := hb
  obtain ⟨c1, c2⟩ := hc
  obtain ⟨d1, d2⟩ := hd
  have e1 : (a + b).toInt = a.toInt + b.toInt := XT.add32 (by constructor <;> omega)
  have e2 : ((a + b) + c).toInt = a.toInt + b.toInt + c.toInt := by rw [XT.add32 (by rw [e1]; constructor <;> omega), e1]
  rw [XT.add32 (by rw [e2]; constructor <;> omega), e2]
theorem own_base (x t : Int32) (h1 : 4 ≤ t.toInt) (h2 : t.toInt ≤ 16388) : ∃ z : Int32, (if ((65535 : Int32) - t) < (x &&& (65535 : Int32)) then ((65535 : Int32) - t) else (x &&& (65535 : Int32))) = z ∧ 0 ≤ z.toInt ∧ z.toInt + t.toInt ≤ 65535 := by
  have h := own_Cand x
  have e : ((65535 : Int32) - t).toInt = 65535 - t.toInt := by
    rw [XT.sub32 (by rw [show (65535 : Int32).toInt = 65535 from rfl]; constructor <;> omega), show (65535 : Int32).toInt = 65535 from rfl]
  obtain ⟨q1, q2⟩ := h
  refine ⟨_, rfl, ?_⟩
  split
  · rw [e]; omega
  · rename_i hn
    rw [Int32.lt_iff_toInt_lt, e] at hn
    omega
theorem own_next {v d : Int32} {z : Int} (hv : 0 ≤ v.toInt) (hd : 1 ≤ d.toInt) (h : v.toInt + d.toInt ≤ z) (hz : z ≤ 65535) : (v + d).toInt = v.toInt + d.toInt := XT.add32 (by constructor <;> omega)
theorem own_gst {v w d : Int32} (h : w.toInt = v.toInt + d.toInt) : (own_s v w).toInt32 = own_st d := by
  have hc : (1 : Int32) < d ↔ 1 < d.toInt := Int32.lt_iff_toInt_lt
  unfold own_s own_st
  by_cases q : 1 < d.toInt
  · rw [if_pos (hc.mpr q), if_pos (by omega)]; rfl
  · rw [if_neg (fun h => q (hc.mp h)), if_neg (by omega)]; rfl
/-! arrays: between the two ways of saying -/
section OwnArv
variable {Z : State} {h : Heap} {a : Addr}
theorem own_fitc {x : Int32} (hx : own_C x) : fits .char (.int x) = true := by
  have h := fits_nar_char x
  rw [own_narc hx] at h
  exact h
theorem own_arv {n : Nat} {z : Int32} {f : Nat → Int32} (V : own_Ar Z h a .char n (fun j => .int (f j))) (hz : z.toNatClampNeg = n) (hn : ¬ z < 0) (hf : ∀ j, j < n → own_C (f j)) : ∃ k, Arv Z h a k .char z ((List.range n).map fun j => .int (f j)) (.int 0) := by
  obtain ⟨cl, A, S, H⟩ := V
  have e : ∀ j, j < n → ((List.range n).map fun j => Value.int (f j)).getD j (.int 0) = .int (f j) := fun j hj => by simp [List.getD_eq_getElem?_getD, hj]
  exact ⟨cl.cls, cl, A, rfl, by rw [S, hz], hn, fun j hj => by rw [e j (by omega)]; exact H j (by omega), fun j hj => by rw [e j (by omega)]; exact own_fitc (hf j (by omega))⟩
theorem own_ofarv {n : Nat} {z : Int32} {k : ClassId} {vs : List Value} {d : Value} {g : Nat → Value} (V : Arv Z h a k .char z vs d) (hz : z.toNatClampNeg = n) (hg : ∀ j, j < n → vs.getD j d = g j) : own_Ar Z h a .char n g := by
  obtain ⟨cl, A, -, S, -, H, -⟩ := V
  exact ⟨cl, A, by rw [S, hz], fun j hj => by rw [← hg j hj]; exact H j (by omega)⟩
end OwnArv
/-- the array grown from four places to eight -/
def own_g8 (f : Nat → Int32) : Nat → Int32 := fun j => if j < 4 then f j else 0
theorem own_g8C {f : Nat → Int32} (hf : ∀ j, j < 4 → own_C (f j)) (j : Nat) : own_C (own_g8 f j) := by
  unfold own_g8
  split
  · exact hf j (by assumption)
  · exact own_small (n := 0) (by omega)
/-- an ArrayContainer at a: its array (len places, holding f), its two numbers -/
def own_K (Z : State) (h : Heap) (a av : Addr) (n r : Int32) (len : Nat) (f : Nat → Int32) : Prop := Exa Z h a "com/example/bitloom/bitloom/ArrayContainer" ∧ Fld Z h a "com/example/bitloom/bitloom/ArrayContainer" "values" "[C" (.ref av) ∧ Fld Z h a "com/example/bitloom/bitloom/Container" "cardinality" "C" (.int n) ∧ Fld Z h a "com/example/bitloom/bitloom/ArrayContainer" "runCount" "C" (.int r) ∧ own_Ar Z h av .char len (fun j => .int (f j)) ∧ a ≠ av
theorem own_K.keep {Z : State} {h h' : Heap} {a av : Addr} {n r : Int32} {len : Nat} {f : Nat → Int32} {ws : List Addr} (V : own_K Z h a av n r len f) (K : Keep h h' ws) (q1 : a ∉ ws) (q2 : av ∉ ws) : own_K Z h' a av n r len f :=
  ⟨V.1.keep K, V.2.1.keep K q1, V.2.2.1.keep K q1, V.2.2.2.1.keep K q1, V.2.2.2.2.1.keep K q2, V.2.2.2.2.2⟩
theorem d1_0 : decode method_2_code 0 = .ok (.iload_n 0, 1) := by decide +kernel
theorem d1_1 : decode method_2_code 1 = .ok (.iconst 2, 1) := by decide +kernel
theorem d1_2 : decode method_2_code 2 = .ok (.iload_n 2, 1) := by decide +kernel
theorem d1_3 : decode method_2_code 3 = .ok (.imul, 1) := by decide +kernel
theorem d1_4 : decode method_2_code 4 = .ok (.iushr, 1) := by decide +kernel
theorem d1_5 : decode method_2_code 5 = .ok (.iconst 3, 1) := by decide +kernel
theorem d1_6 : decode method_2_code 6 = .ok (.iand, 1) := by decide +kernel
theorem d1_7 : decode method_2_code 7 = .ok (.istore_n 3, 1) := by decide +kernel
theorem d1_8 : decode method_2_code 8 = .ok (.iload_n 3, 1) := by decide +kernel
theorem d1_9 : decode method_2_code 9 = .ok (.iconst 3, 1) := by decide +kernel
theorem d1_10 : decode method_2_code 10 = .ok (.if_icmp .ne 11, 3) := by decide +kernel
theorem d1_13 : decode method_2_code 13 = .ok (.iconst 2, 1) := by decide +kernel
theorem d1_14 : decode method_2_code 14 = .ok (.iload_n 1, 1) := by decide +kernel
theorem d1_15 : decode method_2_code 15 = .ok (.sipush 4095, 3) := by decide +kernel
theorem d1_18 : decode method_2_code 18 = .ok (.iand, 1) := by decide +kernel
theorem d1_19 : decode method_2_code 19 = .ok (.iadd, 1) := by decide +kernel
theorem d1_20 : decode method_2_code 20 = .ok (.ireturn, 1) := by decide +kernel
theorem d1_21 : decode method_2_code 21 = .ok (.iload_n 3, 1) := by decide +kernel
theorem d1_22 : decode method_2_code 22 = .ok (.iconst 1, 1) := by decide +kernel
theorem d1_23 : decode method_2_code 23 = .ok (.iadd, 1) := by decide +kernel
theorem d1_24 : decode method_2_code 24 = .ok (.ireturn, 1) := by decide +kernel
theorem d2_0 : decode jdk_29_method_69_code 0 = .ok (.iload_n 0, 1) := by decide +kernel
theorem d2_1 : decode jdk_29_method_69_code 1 = .ok (.iload_n 1, 1) := by decide +kernel
theorem d2_2 : decode jdk_29_method_69_code 2 = .ok (.if_icmp .gt 7, 3) := by decide +kernel
theorem d2_5 : decode jdk_29_method_69_code 5 = .ok (.iload_n 0, 1) := by decide +kernel
theorem d2_6 : decode jdk_29_method_69_code 6 = .ok (.goto 4, 3) := by decide +kernel
theorem d2_9 : decode jdk_29_method_69_code 9 = .ok (.iload_n 1, 1) := by decide +kernel
theorem d2_10 : decode jdk_29_method_69_code 10 = .ok (.ireturn, 1) := by decide +kernel
theorem d3_0 : decode prog_3_method_2_code 0 = .ok (.aload_n 0, 1) := by decide +kernel
theorem d3_1 : decode prog_3_method_2_code 1 = .ok (.invokespecial 3, 3) := by decide +kernel
theorem d3_4 : decode prog_3_method_2_code 4 = .ok (.aload_n 0, 1) := by decide +kernel
theorem d3_5 : decode prog_3_method_2_code 5 = .ok (.iconst 4, 1) := by decide +kernel
theorem d3_6 : decode prog_3_method_2_code 6 = .ok (.newarray .char, 2) := by decide +kernel
theorem d3_8 : decode prog_3_method_2_code 8 = .ok (.putfield 9, 3) := by decide +kernel
theorem d3_11 : decode prog_3_method_2_code 11 = .ok (.aload_n 0, 1) := by decide +kernel
theorem d3_12 : decode prog_3_method_2_code 12 = .ok (.getfield 9, 3) := by decide +kernel
theorem d3_15 : decode prog_3_method_2_code 15 = .ok (.iconst 0, 1) := by decide +kernel
theorem d3_16 : decode prog_3_method_2_code 16 = .ok (.iload_n 1, 1) := by decide +kernel
theorem d3_17 : decode prog_3_method_2_code 17 = .ok (.castore, 1) := by decide +kernel
theorem d3_18 : decode prog_3_method_2_code 18 = .ok (.aload_n 0, 1) := by decide +kernel
theorem d3_19 : decode prog_3_method_2_code 19 = .ok (.aconst_null, 1) := by decide +kernel
theorem d3_20 : decode prog_3_method_2_code 20 = .ok (.putfield 13, 3) := by decide +kernel
theorem d3_23 : decode prog_3_method_2_code 23 = .ok (.aload_n 0, 1) := by decide +kernel
theorem d3_24 : decode prog_3_method_2_code 24 = .ok (.iconst 1, 1) := by decide +kernel
theorem d3_25 : decode prog_3_method_2_code 25 = .ok (.putfield 17, 3) := by decide +kernel
theorem d3_28 : decode prog_3_method_2_code 28 = .ok (.return_, 1) := by decide +kernel
theorem d4_0 : decode prog_57_method_1_code 0 = .ok (.aload_n 0, 1) := by decide +kernel
theorem d4_1 : decode prog_57_method_1_code 1 = .ok (.invokespecial 1, 3) := by decide +kernel
theorem d4_4 : decode prog_57_method_1_code 4 = .ok (.return_, 1) := by decide +kernel
theorem d6_0 : decode prog_3_method_11_code 0 = .ok (.aload_n 0, 1) := by decide +kernel
theorem d6_1 : decode prog_3_method_11_code 1 = .ok (.getfield 9, 3) := by decide +kernel
theorem d6_4 : decode prog_3_method_11_code 4 = .ok (.astore_n 2, 1) := by decide +kernel
theorem d6_5 : decode prog_3_method_11_code 5 = .ok (.aload_n 0, 1) := by decide +kernel
theorem d6_6 : decode prog_3_method_11_code 6 = .ok (.getfield 17, 3) := by decide +kernel
theorem d6_9 : decode prog_3_method_11_code 9 = .ok (.istore_n 3, 1) := by decide +kernel
theorem d6_10 : decode prog_3_method_11_code 10 = .ok (.iload_n 3, 1) := by decide +kernel
theorem d6_11 : decode prog_3_method_11_code 11 = .ok (.aload_n 2, 1) := by decide +kernel
theorem d6_12 : decode prog_3_method_11_code 12 = .ok (.arraylength, 1) := by decide +kernel
theorem d6_13 : decode prog_3_method_11_code 13 = .ok (.if_icmp .eq 12, 3) := by decide +kernel
theorem d6_16 : decode prog_3_method_11_code 16 = .ok (.iload_n 1, 1) := by decide +kernel
theorem d6_17 : decode prog_3_method_11_code 17 = .ok (.aload_n 2, 1) := by decide +kernel
theorem d6_18 : decode prog_3_method_11_code 18 = .ok (.iload_n 3, 1) := by decide +kernel
theorem d6_19 : decode prog_3_method_11_code 19 = .ok (.iconst 1, 1) := by decide +kernel
theorem d6_20 : decode prog_3_method_11_code 20 = .ok (.isub, 1) := by decide +kernel
theorem d6_21 : decode prog_3_method_11_code 21 = .ok (.caload, 1) := by decide +kernel
theorem d6_22 : decode prog_3_method_11_code 22 = .ok (.if_icmp .gt 9, 3) := by decide +kernel
theorem d6_25 : decode prog_3_method_11_code 25 = .ok (.aload_n 0, 1) := by decide +kernel
theorem d6_26 : decode prog_3_method_11_code 26 = .ok (.iload_n 1, 1) := by decide +kernel
theorem d6_27 : decode prog_3_method_11_code 27 = .ok (.invokevirtual 41, 3) := by decide +kernel
theorem d6_30 : decode prog_3_method_11_code 30 = .ok (.areturn, 1) := by decide +kernel
theorem d6_31 : decode prog_3_method_11_code 31 = .ok (.aload_n 2, 1) := by decide +kernel
theorem d6_32 : decode prog_3_method_11_code 32 = .ok (.iload_n 3, 1) := by decide +kernel
theorem d6_33 : decode prog_3_method_11_code 33 = .ok (.iload_n 1, 1) := by decide +kernel
theorem d6_34 : decode prog_3_method_11_code 34 = .ok (.castore, 1) := by decide +kernel
theorem d6_35 : decode prog_3_method_11_code 35 = .ok (.aload_n 0, 1) := by decide +kernel
theorem d6_36 : decode prog_3_method_11_code 36 = .ok (.iload_n 3, 1) := by decide +kernel
theorem d6_37 : decode prog_3_method_11_code 37 = .ok (.iconst 1, 1) := by decide +kernel
theorem d6_38 : decode prog_3_method_11_code 38 = .ok (.iadd, 1) := by decide +kernel
theorem d6_39 : decode prog_3_method_11_code 39 = .ok (.i2c, 1) := by decide +kernel
theorem d6_40 : decode prog_3_method_11_code 40 = .ok (.putfield 17, 3) := by decide +kernel
theorem d6_43 : decode prog_3_method_11_code 43 = .ok (.aload_n 0, 1) := by decide +kernel
theorem d6_44 : decode prog_3_method_11_code 44 = .ok (.iconst 0, 1) := by decide +kernel
theorem d6_45 : decode prog_3_method_11_code 45 = .ok (.putfield 45, 3) := by decide +kernel
theorem d6_48 : decode prog_3_method_11_code 48 = .ok (.aload_n 0, 1) := by decide +kernel
theorem d6_49 : decode prog_3_method_11_code 49 = .ok (.areturn, 1) := by decide +kernel
theorem d7_0 : decode method_3_code 0 = .ok (.iload_n 0, 1) := by decide +kernel
theorem d7_1 : decode method_3_code 1 = .ok (.iconst 1, 1) := by decide +kernel
theorem d7_2 : decode method_3_code 2 = .ok (.if_icmp .le 7, 3) := by decide +kernel
theorem d7_5 : decode method_3_code 5 = .ok (.iconst 1, 1) := by decide +kernel
theorem d7_6 : decode method_3_code 6 = .ok (.goto 4, 3) := by decide +kernel
theorem d7_9 : decode method_3_code 9 = .ok (.iconst 0, 1) := by decide +kernel
theorem d7_10 : decode method_3_code 10 = .ok (.ireturn, 1) := by decide +kernel
theorem d8_0 : decode prog_3_method_31_code 0 = .ok (.aload_n 0, 1) := by decide +kernel
theorem d8_1 : decode prog_3_method_31_code 1 = .ok (.getfield 45, 3) := by decide +kernel
theorem d8_4 : decode prog_3_method_31_code 4 = .ok (.ifCond .eq 8, 3) := by decide +kernel
theorem d8_7 : decode prog_3_method_31_code 7 = .ok (.aload_n 0, 1) := by decide +kernel
theorem d8_8 : decode prog_3_method_31_code 8 = .ok (.getfield 45, 3) := by decide +kernel
theorem d8_11 : decode prog_3_method_31_code 11 = .ok (.ireturn, 1) := by decide +kernel
theorem d8_12 : decode prog_3_method_31_code 12 = .ok (.iconst 1, 1) := by decide +kernel
theorem d8_13 : decode prog_3_method_31_code 13 = .ok (.istore_n 2, 1) := by decide +kernel
theorem d8_14 : decode prog_3_method_31_code 14 = .ok (.iconst 1, 1) := by decide +kernel
theorem d8_15 : decode prog_3_method_31_code 15 = .ok (.istore_n 3, 1) := by decide +kernel
theorem d8_16 : decode prog_3_method_31_code 16 = .ok (.iload_n 3, 1) := by decide +kernel
theorem d8_17 : decode prog_3_method_31_code 17 = .ok (.aload_n 0, 1) := by decide +kernel
theorem d8_18 : decode prog_3_method_31_code 18 = .ok (.getfield 17, 3) := by decide +kernel
theorem d8_21 : decode prog_3_method_31_code 21 = .ok (.if_icmp .ge 37, 3) := by decide +kernel
theorem d8_24 : decode prog_3_method_31_code 24 = .ok (.iload_n 2, 1) := by decide +kernel
theorem d8_25 : decode prog_3_method_31_code 25 = .ok (.iload_n 1, 1) := by decide +kernel
theorem d8_26 : decode prog_3_method_31_code 26 = .ok (.if_icmp .gt 32, 3) := by decide +kernel
theorem d8_29 : decode prog_3_method_31_code 29 = .ok (.iload_n 2, 1) := by decide +kernel
theorem d8_30 : decode prog_3_method_31_code 30 = .ok (.iconst 1, 1) := by decide +kernel
theorem d8_31 : decode prog_3_method_31_code 31 = .ok (.aload_n 0, 1) := by decide +kernel
theorem d8_32 : decode prog_3_method_31_code 32 = .ok (.getfield 9, 3) := by decide +kernel
theorem d8_35 : decode prog_3_method_31_code 35 = .ok (.iload_n 3, 1) := by decide +kernel
theorem d8_36 : decode prog_3_method_31_code 36 = .ok (.iconst 1, 1) := by decide +kernel
theorem d8_37 : decode prog_3_method_31_code 37 = .ok (.isub, 1) := by decide +kernel
theorem d8_38 : decode prog_3_method_31_code 38 = .ok (.caload, 1) := by decide +kernel
theorem d8_39 : decode prog_3_method_31_code 39 = .ok (.iadd, 1) := by decide +kernel
theorem d8_40 : decode prog_3_method_31_code 40 = .ok (.aload_n 0, 1) := by decide +kernel
theorem d8_41 : decode prog_3_method_31_code 41 = .ok (.getfield 9, 3) := by decide +kernel
theorem d8_44 : decode prog_3_method_31_code 44 = .ok (.iload_n 3, 1) := by decide +kernel
theorem d8_45 : decode prog_3_method_31_code 45 = .ok (.caload, 1) := by decide +kernel
theorem d8_46 : decode prog_3_method_31_code 46 = .ok (.isub, 1) := by decide +kernel
theorem d8_47 : decode prog_3_method_31_code 47 = .ok (.bipush 31, 2) := by decide +kernel
theorem d8_49 : decode prog_3_method_31_code 49 = .ok (.iushr, 1) := by decide +kernel
theorem d8_50 : decode prog_3_method_31_code 50 = .ok (.iadd, 1) := by decide +kernel
theorem d8_51 : decode prog_3_method_31_code 51 = .ok (.istore_n 2, 1) := by decide +kernel
theorem d8_52 : decode prog_3_method_31_code 52 = .ok (.iinc 3 1, 3) := by decide +kernel
theorem d8_55 : decode prog_3_method_31_code 55 = .ok (.goto (-39), 3) := by decide +kernel
theorem d8_58 : decode prog_3_method_31_code 58 = .ok (.iload_n 3, 1) := by decide +kernel
theorem d8_59 : decode prog_3_method_31_code 59 = .ok (.aload_n 0, 1) := by decide +kernel
theorem d8_60 : decode prog_3_method_31_code 60 = .ok (.getfield 17, 3) := by decide +kernel
theorem d8_63 : decode prog_3_method_31_code 63 = .ok (.if_icmp .ne 9, 3) := by decide +kernel
theorem d8_66 : decode prog_3_method_31_code 66 = .ok (.aload_n 0, 1) := by decide +kernel
theorem d8_67 : decode prog_3_method_31_code 67 = .ok (.iload_n 2, 1) := by decide +kernel
theorem d8_68 : decode prog_3_method_31_code 68 = .ok (.i2c, 1) := by decide +kernel
theorem d8_69 : decode prog_3_method_31_code 69 = .ok (.putfield 45, 3) := by decide +kernel
theorem d8_72 : decode prog_3_method_31_code 72 = .ok (.iload_n 2, 1) := by decide +kernel
theorem d8_73 : decode prog_3_method_31_code 73 = .ok (.ireturn, 1) := by decide +kernel
theorem d9_0 : decode prog_3_method_13_code 0 = .ok (.aload_n 0, 1) := by decide +kernel
theorem d9_1 : decode prog_3_method_13_code 1 = .ok (.getfield 17, 3) := by decide +kernel
theorem d9_4 : decode prog_3_method_13_code 4 = .ok (.istore_n 2, 1) := by decide +kernel
theorem d9_5 : decode prog_3_method_13_code 5 = .ok (.iload_n 1, 1) := by decide +kernel
theorem d9_6 : decode prog_3_method_13_code 6 = .ok (.aload_n 0, 1) := by decide +kernel
theorem d9_7 : decode prog_3_method_13_code 7 = .ok (.getfield 9, 3) := by decide +kernel
theorem d9_10 : decode prog_3_method_13_code 10 = .ok (.iload_n 2, 1) := by decide +kernel
theorem d9_11 : decode prog_3_method_13_code 11 = .ok (.iconst 1, 1) := by decide +kernel
theorem d9_12 : decode prog_3_method_13_code 12 = .ok (.isub, 1) := by decide +kernel
theorem d9_13 : decode prog_3_method_13_code 13 = .ok (.caload, 1) := by decide +kernel
theorem d9_14 : decode prog_3_method_13_code 14 = .ok (.if_icmp .le 7, 3) := by decide +kernel
theorem d9_17 : decode prog_3_method_13_code 17 = .ok (.iload_n 2, 1) := by decide +kernel
theorem d9_18 : decode prog_3_method_13_code 18 = .ok (.goto 8, 3) := by decide +kernel
theorem d9_21 : decode prog_3_method_13_code 21 = .ok (.aload_n 0, 1) := by decide +kernel
theorem d9_22 : decode prog_3_method_13_code 22 = .ok (.iload_n 1, 1) := by decide +kernel
theorem d9_23 : decode prog_3_method_13_code 23 = .ok (.invokevirtual 48, 3) := by decide +kernel
theorem d9_26 : decode prog_3_method_13_code 26 = .ok (.istore_n 3, 1) := by decide +kernel
theorem d9_27 : decode prog_3_method_13_code 27 = .ok (.iload_n 3, 1) := by decide +kernel
theorem d9_28 : decode prog_3_method_13_code 28 = .ok (.iload_n 2, 1) := by decide +kernel
theorem d9_29 : decode prog_3_method_13_code 29 = .ok (.if_icmp .ge 15, 3) := by decide +kernel
theorem d9_32 : decode prog_3_method_13_code 32 = .ok (.aload_n 0, 1) := by decide +kernel
theorem d9_33 : decode prog_3_method_13_code 33 = .ok (.getfield 9, 3) := by decide +kernel
theorem d9_36 : decode prog_3_method_13_code 36 = .ok (.iload_n 3, 1) := by decide +kernel
theorem d9_37 : decode prog_3_method_13_code 37 = .ok (.caload, 1) := by decide +kernel
theorem d9_38 : decode prog_3_method_13_code 38 = .ok (.iload_n 1, 1) := by decide +kernel
theorem d9_39 : decode prog_3_method_13_code 39 = .ok (.if_icmp .ne 5, 3) := by decide +kernel
theorem d9_42 : decode prog_3_method_13_code 42 = .ok (.aconst_null, 1) := by decide +kernel
theorem d9_43 : decode prog_3_method_13_code 43 = .ok (.areturn, 1) := by decide +kernel
theorem d9_44 : decode prog_3_method_13_code 44 = .ok (.iload_n 2, 1) := by decide +kernel
theorem d9_45 : decode prog_3_method_13_code 45 = .ok (.iconst 1, 1) := by decide +kernel
theorem d9_46 : decode prog_3_method_13_code 46 = .ok (.iadd, 1) := by decide +kernel
theorem d9_47 : decode prog_3_method_13_code 47 = .ok (.invokestatic 52, 3) := by decide +kernel
theorem d9_50 : decode prog_3_method_13_code 50 = .ok (.ifCond .ne 20, 3) := by decide +kernel
theorem d9_53 : decode prog_3_method_13_code 53 = .ok (.new 56, 3) := by decide +kernel
theorem d9_56 : decode prog_3_method_13_code 56 = .ok (.dup, 1) := by decide +kernel
theorem d9_57 : decode prog_3_method_13_code 57 = .ok (.aload_n 0, 1) := by decide +kernel
theorem d9_58 : decode prog_3_method_13_code 58 = .ok (.getfield 9, 3) := by decide +kernel
theorem d9_61 : decode prog_3_method_13_code 61 = .ok (.iload_n 2, 1) := by decide +kernel
theorem d9_62 : decode prog_3_method_13_code 62 = .ok (.invokespecial 58, 3) := by decide +kernel
theorem d9_65 : decode prog_3_method_13_code 65 = .ok (.iload_n 1, 1) := by decide +kernel
theorem d9_66 : decode prog_3_method_13_code 66 = .ok (.invokevirtual 59, 3) := by decide +kernel
theorem d9_69 : decode prog_3_method_13_code 69 = .ok (.areturn, 1) := by decide +kernel
theorem d9_70 : decode prog_3_method_13_code 70 = .ok (.iload_n 2, 1) := by decide +kernel
theorem d9_71 : decode prog_3_method_13_code 71 = .ok (.aload_n 0, 1) := by decide +kernel
theorem d9_72 : decode prog_3_method_13_code 72 = .ok (.getfield 9, 3) := by decide +kernel
theorem d9_75 : decode prog_3_method_13_code 75 = .ok (.arraylength, 1) := by decide +kernel
theorem d9_76 : decode prog_3_method_13_code 76 = .ok (.if_icmp .ne 18, 3) := by decide +kernel
theorem d9_79 : decode prog_3_method_13_code 79 = .ok (.aload_n 0, 1) := by decide +kernel
theorem d9_80 : decode prog_3_method_13_code 80 = .ok (.iload_n 2, 1) := by decide +kernel
theorem d9_81 : decode prog_3_method_13_code 81 = .ok (.iload_n 2, 1) := by decide +kernel
theorem d9_82 : decode prog_3_method_13_code 82 = .ok (.iconst 1, 1) := by decide +kernel
theorem d9_83 : decode prog_3_method_13_code 83 = .ok (.iadd, 1) := by decide +kernel
theorem d9_84 : decode prog_3_method_13_code 84 = .ok (.iconst 4, 1) := by decide +kernel
theorem d9_85 : decode prog_3_method_13_code 85 = .ok (.sipush 4096, 3) := by decide +kernel
theorem d9_88 : decode prog_3_method_13_code 88 = .ok (.invokestatic 62, 3) := by decide +kernel
theorem d9_91 : decode prog_3_method_13_code 91 = .ok (.invokevirtual 68, 3) := by decide +kernel
theorem d9_94 : decode prog_3_method_13_code 94 = .ok (.aload_n 0, 1) := by decide +kernel
theorem d9_95 : decode prog_3_method_13_code 95 = .ok (.getfield 9, 3) := by decide +kernel
theorem d9_98 : decode prog_3_method_13_code 98 = .ok (.iload_n 3, 1) := by decide +kernel
theorem d9_99 : decode prog_3_method_13_code 99 = .ok (.aload_n 0, 1) := by decide +kernel
theorem d9_100 : decode prog_3_method_13_code 100 = .ok (.getfield 9, 3) := by decide +kernel
theorem d9_103 : decode prog_3_method_13_code 103 = .ok (.iload_n 3, 1) := by decide +kernel
theorem d9_104 : decode prog_3_method_13_code 104 = .ok (.iconst 1, 1) := by decide +kernel
theorem d9_105 : decode prog_3_method_13_code 105 = .ok (.iadd, 1) := by decide +kernel
theorem d9_106 : decode prog_3_method_13_code 106 = .ok (.iload_n 2, 1) := by decide +kernel
theorem d9_107 : decode prog_3_method_13_code 107 = .ok (.iload_n 3, 1) := by decide +kernel
theorem d9_108 : decode prog_3_method_13_code 108 = .ok (.isub, 1) := by decide +kernel
theorem d9_109 : decode prog_3_method_13_code 109 = .ok (.invokestatic 72, 3) := by decide +kernel
theorem d9_112 : decode prog_3_method_13_code 112 = .ok (.aload_n 0, 1) := by decide +kernel
theorem d9_113 : decode prog_3_method_13_code 113 = .ok (.getfield 9, 3) := by decide +kernel
theorem d9_116 : decode prog_3_method_13_code 116 = .ok (.iload_n 3, 1) := by decide +kernel
theorem d9_117 : decode prog_3_method_13_code 117 = .ok (.iload_n 1, 1) := by decide +kernel
theorem d9_118 : decode prog_3_method_13_code 118 = .ok (.castore, 1) := by decide +kernel
theorem d9_119 : decode prog_3_method_13_code 119 = .ok (.aload_n 0, 1) := by decide +kernel
theorem d9_120 : decode prog_3_method_13_code 120 = .ok (.dup, 1) := by decide +kernel
theorem d9_121 : decode prog_3_method_13_code 121 = .ok (.getfield 17, 3) := by decide +kernel
theorem d9_124 : decode prog_3_method_13_code 124 = .ok (.iconst 1, 1) := by decide +kernel
theorem d9_125 : decode prog_3_method_13_code 125 = .ok (.iadd, 1) := by decide +kernel
theorem d9_126 : decode prog_3_method_13_code 126 = .ok (.i2c, 1) := by decide +kernel
theorem d9_127 : decode prog_3_method_13_code 127 = .ok (.putfield 17, 3) := by decide +kernel
theorem d9_130 : decode prog_3_method_13_code 130 = .ok (.aload_n 0, 1) := by decide +kernel
theorem d9_131 : decode prog_3_method_13_code 131 = .ok (.iconst 0, 1) := by decide +kernel
theorem d9_132 : decode prog_3_method_13_code 132 = .ok (.putfield 45, 3) := by decide +kernel
theorem d9_135 : decode prog_3_method_13_code 135 = .ok (.aload_n 0, 1) := by decide +kernel
theorem d9_136 : decode prog_3_method_13_code 136 = .ok (.areturn, 1) := by decide +kernel
theorem d10_0 : decode prog_3_method_1_code 0 = .ok (.iload_n 0, 1) := by decide +kernel
theorem d10_1 : decode prog_3_method_1_code 1 = .ok (.sipush 4096, 3) := by decide +kernel
theorem d10_4 : decode prog_3_method_1_code 4 = .ok (.if_icmp .gt 7, 3) := by decide +kernel
theorem d10_7 : decode prog_3_method_1_code 7 = .ok (.iconst 1, 1) := by decide +kernel
theorem d10_8 : decode prog_3_method_1_code 8 = .ok (.goto 4, 3) := by decide +kernel
theorem d10_11 : decode prog_3_method_1_code 11 = .ok (.iconst 0, 1) := by decide +kernel
theorem d10_12 : decode prog_3_method_1_code 12 = .ok (.ireturn, 1) := by decide +kernel
theorem d11_0 : decode prog_35_method_3_code 0 = .ok (.iload_n 0, 1) := by decide +kernel
theorem d11_1 : decode prog_35_method_3_code 1 = .ok (.bipush 64, 2) := by decide +kernel
theorem d11_3 : decode prog_35_method_3_code 3 = .ok (.if_icmp .ge 7, 3) := by decide +kernel
theorem d11_6 : decode prog_35_method_3_code 6 = .ok (.iload_n 0, 1) := by decide +kernel
theorem d11_7 : decode prog_35_method_3_code 7 = .ok (.goto 6, 3) := by decide +kernel
theorem d11_10 : decode prog_35_method_3_code 10 = .ok (.iload_n 0, 1) := by decide +kernel
theorem d11_11 : decode prog_35_method_3_code 11 = .ok (.iconst 4, 1) := by decide +kernel
theorem d11_12 : decode prog_35_method_3_code 12 = .ok (.idiv, 1) := by decide +kernel
theorem d11_13 : decode prog_35_method_3_code 13 = .ok (.istore 4, 2) := by decide +kernel
theorem d11_15 : decode prog_35_method_3_code 15 = .ok (.iload_n 3, 1) := by decide +kernel
theorem d11_16 : decode prog_35_method_3_code 16 = .ok (.iload_n 0, 1) := by decide +kernel
theorem d11_17 : decode prog_35_method_3_code 17 = .ok (.iload 4, 2) := by decide +kernel
theorem d11_19 : decode prog_35_method_3_code 19 = .ok (.iadd, 1) := by decide +kernel
theorem d11_20 : decode prog_35_method_3_code 20 = .ok (.iload_n 1, 1) := by decide +kernel
theorem d11_21 : decode prog_35_method_3_code 21 = .ok (.iload_n 2, 1) := by decide +kernel
theorem d11_22 : decode prog_35_method_3_code 22 = .ok (.invokestatic 38, 3) := by decide +kernel
theorem d11_25 : decode prog_35_method_3_code 25 = .ok (.invokestatic 38, 3) := by decide +kernel
theorem d11_28 : decode prog_35_method_3_code 28 = .ok (.invokestatic 44, 3) := by decide +kernel
theorem d11_31 : decode prog_35_method_3_code 31 = .ok (.ireturn, 1) := by decide +kernel
theorem d12_0 : decode jdk_29_method_65_code 0 = .ok (.iload_n 0, 1) := by decide +kernel
theorem d12_1 : decode jdk_29_method_65_code 1 = .ok (.iload_n 1, 1) := by decide +kernel
theorem d12_2 : decode jdk_29_method_65_code 2 = .ok (.if_icmp .lt 7, 3) := by decide +kernel
theorem d12_5 : decode jdk_29_method_65_code 5 = .ok (.iload_n 0, 1) := by decide +kernel
theorem d12_6 : decode jdk_29_method_65_code 6 = .ok (.goto 4, 3) := by decide +kernel
theorem d12_9 : decode jdk_29_method_65_code 9 = .ok (.iload_n 1, 1) := by decide +kernel
theorem d12_10 : decode jdk_29_method_65_code 10 = .ok (.ireturn, 1) := by decide +kernel
theorem d13_0 : decode prog_3_method_17_code 0 = .ok (.iload_n 1, 1) := by decide +kernel
theorem d13_1 : decode prog_3_method_17_code 1 = .ok (.aload_n 0, 1) := by decide +kernel
theorem d13_2 : decode prog_3_method_17_code 2 = .ok (.getfield 9, 3) := by decide +kernel
theorem d13_5 : decode prog_3_method_17_code 5 = .ok (.arraylength, 1) := by decide +kernel
theorem d13_6 : decode prog_3_method_17_code 6 = .ok (.if_icmp .eq 15, 3) := by decide +kernel
theorem d13_9 : decode prog_3_method_17_code 9 = .ok (.aload_n 0, 1) := by decide +kernel
theorem d13_10 : decode prog_3_method_17_code 10 = .ok (.aload_n 0, 1) := by decide +kernel
theorem d13_11 : decode prog_3_method_17_code 11 = .ok (.getfield 9, 3) := by decide +kernel
theorem d13_14 : decode prog_3_method_17_code 14 = .ok (.iload_n 1, 1) := by decide +kernel
theorem d13_15 : decode prog_3_method_17_code 15 = .ok (.invokestatic 82, 3) := by decide +kernel
theorem d13_18 : decode prog_3_method_17_code 18 = .ok (.putfield 9, 3) := by decide +kernel
theorem d13_21 : decode prog_3_method_17_code 21 = .ok (.return_, 1) := by decide +kernel
theorem d14_0 : decode jdk_65_method_125_code 0 = .ok (.iload_n 1, 1) := by decide +kernel
theorem d14_1 : decode jdk_65_method_125_code 1 = .ok (.aload_n 0, 1) := by decide +kernel
theorem d14_2 : decode jdk_65_method_125_code 2 = .ok (.arraylength, 1) := by decide +kernel
theorem d14_3 : decode jdk_65_method_125_code 3 = .ok (.if_icmp .ne 11, 3) := by decide +kernel
theorem d14_6 : decode jdk_65_method_125_code 6 = .ok (.aload_n 0, 1) := by decide +kernel
theorem d14_7 : decode jdk_65_method_125_code 7 = .ok (.invokevirtual 322, 3) := by decide +kernel
theorem d14_10 : decode jdk_65_method_125_code 10 = .ok (.checkcast 323, 3) := by decide +kernel
theorem d14_13 : decode jdk_65_method_125_code 13 = .ok (.areturn, 1) := by decide +kernel
theorem d14_14 : decode jdk_65_method_125_code 14 = .ok (.iload_n 1, 1) := by decide +kernel
theorem d14_15 : decode jdk_65_method_125_code 15 = .ok (.newarray .char, 2) := by decide +kernel
theorem d14_17 : decode jdk_65_method_125_code 17 = .ok (.astore_n 2, 1) := by decide +kernel
theorem d14_18 : decode jdk_65_method_125_code 18 = .ok (.aload_n 0, 1) := by decide +kernel
theorem d14_19 : decode jdk_65_method_125_code 19 = .ok (.iconst 0, 1) := by decide +kernel
theorem d14_20 : decode jdk_65_method_125_code 20 = .ok (.aload_n 2, 1) := by decide +kernel
theorem d14_21 : decode jdk_65_method_125_code 21 = .ok (.iconst 0, 1) := by decide +kernel
theorem d14_22 : decode jdk_65_method_125_code 22 = .ok (.aload_n 0, 1) := by decide +kernel
theorem d14_23 : decode jdk_65_method_125_code 23 = .ok (.arraylength, 1) := by decide +kernel
theorem d14_24 : decode jdk_65_method_125_code 24 = .ok (.iload_n 1, 1) := by decide +kernel
theorem d14_25 : decode jdk_65_method_125_code 25 = .ok (.invokestatic 304, 3) := by decide +kernel
theorem d14_28 : decode jdk_65_method_125_code 28 = .ok (.invokestatic 150, 3) := by decide +kernel
theorem d14_31 : decode jdk_65_method_125_code 31 = .ok (.aload_n 2, 1) := by decide +kernel
theorem d14_32 : decode jdk_65_method_125_code 32 = .ok (.areturn, 1) := by decide +kernel
theorem d15_0 : decode method_4_code 0 = .ok (.iload_n 1, 1) := by decide +kernel
theorem d15_1 : decode method_4_code 1 = .ok (.iload_n 2, 1) := by decide +kernel
theorem d15_2 : decode method_4_code 2 = .ok (.if_icmp .gt 14, 3) := by decide +kernel
theorem d15_5 : decode method_4_code 5 = .ok (.iload_n 0, 1) := by decide +kernel
theorem d15_6 : decode method_4_code 6 = .ok (.iload_n 1, 1) := by decide +kernel
theorem d15_7 : decode method_4_code 7 = .ok (.if_icmp .ne 7, 3) := by decide +kernel
theorem d15_10 : decode method_4_code 10 = .ok (.iconst 1, 1) := by decide +kernel
theorem d15_11 : decode method_4_code 11 = .ok (.goto 4, 3) := by decide +kernel
theorem d15_14 : decode method_4_code 14 = .ok (.iconst 0, 1) := by decide +kernel
theorem d15_15 : decode method_4_code 15 = .ok (.ireturn, 1) := by decide +kernel
theorem d15_16 : decode method_4_code 16 = .ok (.iload_n 0, 1) := by decide +kernel
theorem d15_17 : decode method_4_code 17 = .ok (.iload_n 2, 1) := by decide +kernel
theorem d15_18 : decode method_4_code 18 = .ok (.if_icmp .le 12, 3) := by decide +kernel
theorem d15_21 : decode method_4_code 21 = .ok (.iload_n 0, 1) := by decide +kernel
theorem d15_22 : decode method_4_code 22 = .ok (.iload_n 1, 1) := by decide +kernel
theorem d15_23 : decode method_4_code 23 = .ok (.if_icmp .gt 7, 3) := by decide +kernel
theorem d15_26 : decode method_4_code 26 = .ok (.iconst 1, 1) := by decide +kernel
theorem d15_27 : decode method_4_code 27 = .ok (.goto 4, 3) := by decide +kernel
theorem d15_30 : decode method_4_code 30 = .ok (.iconst 0, 1) := by decide +kernel
theorem d15_31 : decode method_4_code 31 = .ok (.ireturn, 1) := by decide +kernel
theorem pn_rmGap : plainName "com/example/bitloom/bitloom/ArrayContainerCountRunsPinLaw" = true := by first | (simp [plainName, overriddenIn]; done) | decide +kernel
theorem ef_rmGap (m : MethodId) (p0 : Int32) (p1 : Int32) (p2 : Int32) : entryFrame m #[(.int p0), (.int p1), (.int p2)] 4 = mkF m 0 #[iv p0, iv p1, iv p2, .unset] [] := by first | (simp [entryFrame, mkF, argsToLocals, Value.category]; done) | rfl
def Q_rmGap (Z : State) (p0 : Int32) (p1 : Int32) (p2 : Int32)  (h0 : Heap) (n0 : Nat) (v : Option Value) (h : Heap) (L : List Loc) : Prop := ∃ d : Int32, v = some (.int d) ∧ own_D d ∧ Fr n0 L ∧ h = h0
set_option maxRecDepth 65536 in
set_option maxHeartbeats 40000000 in
theorem rmGap (l : Launch) (Z : State) (a0 : Array Value) (hw : ∀ d ∈ tables_1, d.before a0 Z = true) (ws : List Jvm.Cond) (p0 : Int32) (p1 : Int32) (p2 : Int32)  (h0 : Heap) (n0 : Nat) (Z0 : n0 ≤ h0.size)  :
    MetFree l (⟨"com/example/bitloom/bitloom/ArrayContainerCountRunsPinLaw", "gap", "(III)I"⟩ : MethodName) (head1 (Jvm.Cond.code (⟨"com/example/bitloom/bitloom/ArrayContainerCountRunsPinLaw", "gap", "(III)I"⟩ : MethodName) method_2_code 4 (some .int) :: ws) ({ frames := 0, cells := 0, slots := 0, locals := 0 } : Room)) (fun a U => a = #[(.int p0), (.int p1), (.int p2)] ∧ Z.Warmed39 U.vm ∧ U.heap = h0) (fun _ _ _ _ _ => True) (fun _ U o U' => ∃ v L, o = .returned v ∧ Q_rmGap Z p0 p1 p2  h0 n0 v U'.heap L ∧ FrameEnd U o U' L ({ frames := 0, cells := 0, slots := 0, locals := 0 } : Room).cells ({ frames := 0, cells := 0, slots := 0, locals := 0 } : Room).slots) := by
  refine MetFree.of_bodySF (plainFor_of_name pn_rmGap) hisR ?_
  intro p e s m args below meth c s₁ Bd hml0 hP hK
  obtain ⟨rfl, hZ, hh⟩ := hP
  have hx := Bd.exec
  have hby := Bd.bytes
  have hml : c.maxLocals = 4 := hml0
  have hown : s.vm.findClass "com/example/bitloom/bitloom/ArrayContainerCountRunsPinLaw" = some m.cls := findClass_of_methodNamed Bd.named
  have hnm := (name_of_methodNamed Bd.named Bd.method).1
  have X0 : Stand p l e ({ frames := 0, cells := 0, slots := 0, locals := 0 } : Room) s m #[(.int p0), (.int p1), (.int p2)] below meth c s₁ [] 0 0 := Stand.of_body Bd
  have e0 : s₁.heap = h0 := by rw [← hh, Bd.state]; rfl
  have N0 := Fr.nil n0
  have g0 : own_Go p e below s₁ (entryFrame m #[(.int p0), (.int p1), (.int p2)] 4) s₁ (mkF m 0 #[iv p0, iv p1, iv p2, .unset] []) := fun t k => castTop (ef_rmGap m p0 p1 p2) k
  have g1 : own_Go p e below s₁ (entryFrame m #[(.int p0), (.int p1), (.int p2)] 4) s₁ (mkF m 8 #[iv p0, iv p1, iv p2, iv ((XT.ushr p0 ((2 : Int32) * p2)) &&& (3 : Int32))] []) := by
    intro target kt
    refine g0 target ?_
    refine XS.iloadN X0.here hx rfl (hb hby d1_0) rfl ?_
    show Steps p.tables e below (s₁.setTop (mkF m 1 #[iv p0, iv p1, iv p2, .unset] [(.int p0)])) target
    refine XT.iconstV X0.here hx rfl (2 : Int32) (hb hby d1_1) rfl ?_
    show Steps p.tables e below (s₁.setTop (mkF m 2 #[iv p0, iv p1, iv p2, .unset] [(.int (2 : Int32)), (.int p0)])) target
    refine XS.iloadN X0.here hx rfl (hb hby d1_2) rfl ?_
    show Steps p.tables e below (s₁.setTop (mkF m 3 #[iv p0, iv p1, iv p2, .unset] [(.int p2), (.int (2 : Int32)), (.int p0)])) target
    refine XS.imul X0.here hx rfl (hb hby d1_3) rfl ?_
    show Steps p.tables e below (s₁.setTop (mkF m 4 #[iv p0, iv p1, iv p2, .unset] [(.int ((2 : Int32) * p2)), (.int p0)])) target
    refine XT.iushr X0.here hx rfl (hb hby d1_4) rfl ?_
    show Steps p.tables e below (s₁.setTop (mkF m 5 #[iv p0, iv p1, iv p2, .unset] [(.int (XT.ushr p0 ((2 : Int32) * p2)))])) target
    refine XT.iconstV X0.here hx rfl (3 : Int32) (hb hby d1_5) rfl ?_
    show Steps p.tables e below (s₁.setTop (mkF m 6 #[iv p0, iv p1, iv p2, .unset] [(.int (3 : Int32)), (.int (XT.ushr p0 ((2 : Int32) * p2)))])) target
    refine XS.iand X0.here hx rfl (hb hby d1_6) rfl ?_
    show Steps p.tables e below (s₁.setTop (mkF m 7 #[iv p0, iv p1, iv p2, .unset] [(.int ((XT.ushr p0 ((2 : Int32) * p2)) &&& (3 : Int32)))])) target
    refine XS.istoreN X0.here hx rfl (hb hby d1_7) rfl (l' := #[iv p0, iv p1, iv p2, iv ((XT.ushr p0 ((2 : Int32) * p2)) &&& (3 : Int32))]) rfl ?_
    show Steps p.tables e below (s₁.setTop (mkF m 8 #[iv p0, iv p1, iv p2, iv ((XT.ushr p0 ((2 : Int32) * p2)) &&& (3 : Int32))] [])) target
    exact kt
  obtain ⟨kk, e_kk⟩ : ∃ z : Int32, z = ((XT.ushr p0 ((2 : Int32) * p2)) &&& (3 : Int32)) := ⟨_, rfl⟩
  rw [← e_kk] at g1
  have g2 : own_Go p e below s₁ (entryFrame m #[(.int p0), (.int p1), (.int p2)] 4) s₁ (mkF m 10 #[iv p0, iv p1, iv p2, iv kk] [(.int (3 : Int32)), (.int kk)]) := by
    intro target kt
    refine g1 target ?_
    refine XS.iloadN X0.here hx rfl (hb hby d1_8) rfl ?_
    show Steps p.tables e below (s₁.setTop (mkF m 9 #[iv p0, iv p1, iv p2, iv kk] [(.int kk)])) target
    refine XT.iconstV X0.here hx rfl (3 : Int32) (hb hby d1_9) rfl ?_
    show Steps p.tables e below (s₁.setTop (mkF m 10 #[iv p0, iv p1, iv p2, iv kk] [(.int (3 : Int32)), (.int kk)])) target
    exact kt
  by_cases hc3 : kk = (3 : Int32)
  · have g4 : own_Go p e below s₁ (entryFrame m #[(.int p0), (.int p1), (.int p2)] 4) s₁ (mkF m 20 #[iv p0, iv p1, iv p2, iv kk] [(.int ((2 : Int32) + (p1 &&& (4095 : Int32))))]) := by
      intro target kt
      refine g2 target ?_
      refine XS.icmpNo X0.here hx rfl (hb hby d1_10) rfl (XT.ii_ne_f hc3) ?_
      show Steps p.tables e below (s₁.setTop (mkF m 13 #[iv p0, iv p1, iv p2, iv kk] [])) target
      refine XT.iconstV X0.here hx rfl (2 : Int32) (hb hby d1_13) rfl ?_
      show Steps p.tables e below (s₁.setTop (mkF m 14 #[iv p0, iv p1, iv p2, iv kk] [(.int (2 : Int32))])) target
      refine XS.iloadN X0.here hx rfl (hb hby d1_14) rfl ?_
      show Steps p.tables e below (s₁.setTop (mkF m 15 #[iv p0, iv p1, iv p2, iv kk] [(.int p1), (.int (2 : Int32))])) target
      refine XT.sipushV X0.here hx rfl (4095 : Int32) (hb hby d1_15) rfl ?_
      show Steps p.tables e below (s₁.setTop (mkF m 18 #[iv p0, iv p1, iv p2, iv kk] [(.int (4095 : Int32)), (.int p1), (.int (2 : Int32))])) target
      refine XS.iand X0.here hx rfl (hb hby d1_18) rfl ?_
      show Steps p.tables e below (s₁.setTop (mkF m 19 #[iv p0, iv p1, iv p2, iv kk] [(.int (p1 &&& (4095 : Int32))), (.int (2 : Int32))])) target
      refine XS.iadd X0.here hx rfl (hb hby d1_19) rfl ?_
      show Steps p.tables e below (s₁.setTop (mkF m 20 #[iv p0, iv p1, iv p2, iv kk] [(.int ((2 : Int32) + (p1 &&& (4095 : Int32))))])) target
      exact kt
    obtain ⟨fs, hr, hrun, hended, hW, hsame⟩ := X0.leave (v := some (.int ((2 : Int32) + (p1 &&& (4095 : Int32))))) (fun h => by rw [Bd.returns] at h; cases h)
    refine ⟨_, _, g4 _ ?_, hrun, hended, _, _, rfl, ?_, ⟨_, rfl⟩, hW, hsame.mono (by decide) (by decide)⟩
    · exact retI X0 hx Bd.returns (hb hby d1_20) hr
    · show Q_rmGap Z p0 p1 p2  h0 n0 _ s₁.heap _
      rw [e0]
      exact ⟨_, rfl, own_D1 p1, N0, rfl⟩
  · have g5 : own_Go p e below s₁ (entryFrame m #[(.int p0), (.int p1), (.int p2)] 4) s₁ (mkF m 24 #[iv p0, iv p1, iv p2, iv kk] [(.int (kk + (1 : Int32)))]) := by
      intro target kt
      refine g2 target ?_
      refine XS.icmpYes X0.here hx rfl (pc0 := 10) (pc' := 21) rfl (hb hby d1_10) rfl (XT.ii_ne_t hc3) (by decide) (by decide) ?_
      show Steps p.tables e below (s₁.setTop (mkF m 21 #[iv p0, iv p1, iv p2, iv kk] [])) target
      refine XS.iloadN X0.here hx rfl (hb hby d1_21) rfl ?_
      show Steps p.tables e below (s₁.setTop (mkF m 22 #[iv p0, iv p1, iv p2, iv kk] [(.int kk)])) target
      refine XT.iconstV X0.here hx rfl (1 : Int32) (hb hby d1_22) rfl ?_
      show Steps p.tables e below (s₁.setTop (mkF m 23 #[iv p0, iv p1, iv p2, iv kk] [(.int (1 : Int32)), (.int kk)])) target
      refine XS.iadd X0.here hx rfl (hb hby d1_23) rfl ?_
      show Steps p.tables e below (s₁.setTop (mkF m 24 #[iv p0, iv p1, iv p2, iv kk] [(.int (kk + (1 : Int32)))])) target
      exact kt
    obtain ⟨fs, hr, hrun, hended, hW, hsame⟩ := X0.leave (v := some (.int (kk + (1 : Int32)))) (fun h => by rw [Bd.returns] at h; cases h)
    refine ⟨_, _, g5 _ ?_, hrun, hended, _, _, rfl, ?_, ⟨_, rfl⟩, hW, hsame.mono (by decide) (by decide)⟩
    · exact retI X0 hx Bd.returns (hb hby d1_24) hr
    · show Q_rmGap Z p0 p1 p2  h0 n0 _ s₁.heap _
      rw [e0]
      exact ⟨_, rfl, (by rw [e_kk]; exact own_D2 _), N0, rfl⟩
theorem ef_rmMin (m : MethodId) (p0 : Int32) (p1 : Int32) : entryFrame m #[(.int p0), (.int p1)] 2 = mkF m 0 #[iv p0, iv p1] [] := by first | (simp [entryFrame, mkF, argsToLocals, Value.category]; done) | rfl
def Q_rmMin (Z : State) (p0 : Int32) (p1 : Int32)  (h0 : Heap) (n0 : Nat) (v : Option Value) (h : Heap) (L : List Loc) : Prop := v = some (.int (if p1 < p0 then p1 else p0)) ∧ Fr n0 L ∧ h = h0
set_option maxRecDepth 65536 in
set_option maxHeartbeats 40000000 in
theorem rmMin (l : Launch) (Z : State) (a0 : Array Value) (hw : ∀ d ∈ tables_1, d.before a0 Z = true) (ws : List Jvm.Cond) (p0 : Int32) (p1 : Int32)  (h0 : Heap) (n0 : Nat) (Z0 : n0 ≤ h0.size)  :
    MetFree l (⟨"java/lang/Math", "min", "(II)I"⟩ : MethodName) (head1 (Jvm.Cond.code (⟨"java/lang/Math", "min", "(II)I"⟩ : MethodName) jdk_29_method_69_code 2 (some .int) :: ws) ({ frames := 0, cells := 0, slots := 0, locals := 0 } : Room)) (fun a U => a = #[(.int p0), (.int p1)] ∧ Z.Warmed39 U.vm ∧ U.heap = h0) (fun _ _ _ _ _ => True) (fun _ U o U' => ∃ v L, o = .returned v ∧ Q_rmMin Z p0 p1  h0 n0 v U'.heap L ∧ FrameEnd U o U' L ({ frames := 0, cells := 0, slots := 0, locals := 0 } : Room).cells ({ frames := 0, cells := 0, slots := 0, locals := 0 } : Room).slots) := by
  refine MetFree.of_bodySF (Jvm.Free.JP.mathPlain rfl (by decide +kernel)) hisR ?_
  intro p e s m args below meth c s₁ Bd hml0 hP hK
  obtain ⟨rfl, hZ, hh⟩ := hP
  have hx := Bd.exec
  have hby := Bd.bytes
  have hml : c.maxLocals = 2 := hml0
  have hown : s.vm.findClass "java/lang/Math" = some m.cls := findClass_of_methodNamed Bd.named
  have hnm := (name_of_methodNamed Bd.named Bd.method).1
  have X0 : Stand p l e ({ frames := 0, cells := 0, slots := 0, locals := 0 } : Room) s m #[(.int p0), (.int p1)] below meth c s₁ [] 0 0 := Stand.of_body Bd
  have e0 : s₁.heap = h0 := by rw [← hh, Bd.state]; rfl
  have N0 := Fr.nil n0
  have g0 : own_Go p e below s₁ (entryFrame m #[(.int p0), (.int p1)] 2) s₁ (mkF m 0 #[iv p0, iv p1] []) := fun t k => castTop (ef_rmMin m p0 p1) k
  obtain ⟨rr, hm10, g10⟩ : ∃ (rr : Int32), (rr = (if p1 < p0 then p1 else p0)) ∧ own_Go p e below s₁ (entryFrame m #[(.int p0), (.int p1)] 2) s₁ (mkF m 10 #[iv p0, iv p1] [(.int rr)]) := by
    have g6 : own_Go p e below s₁ (entryFrame m #[(.int p0), (.int p1)] 2) s₁ (mkF m 2 #[iv p0, iv p1] [(.int p1), (.int p0)]) := by
      intro target kt
      refine g0 target ?_
      refine XS.iloadN X0.here hx rfl (hb hby d2_0) rfl ?_
      show Steps p.tables e below (s₁.setTop (mkF m 1 #[iv p0, iv p1] [(.int p0)])) target
      refine XS.iloadN X0.here hx rfl (hb hby d2_1) rfl ?_
      show Steps p.tables e below (s₁.setTop (mkF m 2 #[iv p0, iv p1] [(.int p1), (.int p0)])) target
      exact kt
    by_cases hc7 : p1 < p0
    · have g8 : own_Go p e below s₁ (entryFrame m #[(.int p0), (.int p1)] 2) s₁ (mkF m 10 #[iv p0, iv p1] [(.int p1)]) := by
        intro target kt
        refine g6 target ?_
        refine XS.icmpYes X0.here hx rfl (pc0 := 2) (pc' := 9) rfl (hb hby d2_2) rfl (XT.ii_gt_t hc7) (by decide) (by decide) ?_
        show Steps p.tables e below (s₁.setTop (mkF m 9 #[iv p0, iv p1] [])) target
        refine XS.iloadN X0.here hx rfl (hb hby d2_9) rfl ?_
        show Steps p.tables e below (s₁.setTop (mkF m 10 #[iv p0, iv p1] [(.int p1)])) target
        exact kt
      exact ⟨p1, (by simp only [if_pos hc7]), g8⟩
    · have g9 : own_Go p e below s₁ (entryFrame m #[(.int p0), (.int p1)] 2) s₁ (mkF m 10 #[iv p0, iv p1] [(.int p0)]) := by
        intro target kt
        refine g6 target ?_
        refine XS.icmpNo X0.here hx rfl (hb hby d2_2) rfl (XT.ii_gt_f hc7) ?_
        show Steps p.tables e below (s₁.setTop (mkF m 5 #[iv p0, iv p1] [])) target
        refine XS.iloadN X0.here hx rfl (hb hby d2_5) rfl ?_
        show Steps p.tables e below (s₁.setTop (mkF m 6 #[iv p0, iv p1] [(.int p0)])) target
        refine XS.goto X0.here hx rfl (pc0 := 6) (pc' := 10) rfl (hb hby d2_6) (by decide) (by decide) ?_
        show Steps p.tables e below (s₁.setTop (mkF m 10 #[iv p0, iv p1] [(.int p0)])) target
        exact kt
      exact ⟨p0, (by simp only [if_neg hc7]), g9⟩
  obtain ⟨fs, hr, hrun, hended, hW, hsame⟩ := X0.leave (v := some (.int rr)) (fun h => by rw [Bd.returns] at h; cases h)
  refine ⟨_, _, g10 _ ?_, hrun, hended, _, _, rfl, ?_, ⟨_, rfl⟩, hW, hsame.mono (by decide) (by decide)⟩
  · exact retI X0 hx Bd.returns (hb hby d2_10) hr
  · show Q_rmMin Z p0 p1  h0 n0 _ s₁.heap _
    rw [e0]
    exact ⟨by rw [hm10], N0, rfl⟩
theorem ef_rmMax (m : MethodId) (p0 : Int32) (p1 : Int32) : entryFrame m #[(.int p0), (.int p1)] 2 = mkF m 0 #[iv p0, iv p1] [] := by first | (simp [entryFrame, mkF, argsToLocals, Value.category]; done) | rfl
def Q_rmMax (Z : State) (p0 : Int32) (p1 : Int32)  (h0 : Heap) (n0 : Nat) (v : Option Value) (h : Heap) (L : List Loc) : Prop := v = some (.int (if p0 < p1 then p1 else p0)) ∧ Fr n0 L ∧ h = h0
set_option maxRecDepth 65536 in
set_option maxHeartbeats 40000000 in
theorem rmMax (l : Launch) (Z : State) (a0 : Array Value) (hw : ∀ d ∈ tables_1, d.before a0 Z = true) (ws : List Jvm.Cond) (p0 : Int32) (p1 : Int32)  (h0 : Heap) (n0 : Nat) (Z0 : n0 ≤ h0.size)  :
    MetFree l (⟨"java/lang/Math", "max", "(II)I"⟩ : MethodName) (head1 (Jvm.Cond.code (⟨"java/lang/Math", "max", "(II)I"⟩ : MethodName) jdk_29_method_65_code 2 (some .int) :: ws) ({ frames := 0, cells := 0, slots := 0, locals := 0 } : Room)) (fun a U => a = #[(.int p0), (.int p1)] ∧ Z.Warmed39 U.vm ∧ U.heap = h0) (fun _ _ _ _ _ => True) (fun _ U o U' => ∃ v L, o = .returned v ∧ Q_rmMax Z p0 p1  h0 n0 v U'.heap L ∧ FrameEnd U o U' L ({ frames := 0, cells := 0, slots := 0, locals := 0 } : Room).cells ({ frames := 0, cells := 0, slots := 0, locals := 0 } : Room).slots) := by
  refine MetFree.of_bodySF (Jvm.Free.JP.mathPlain rfl (by decide +kernel)) hisR ?_
  intro p e s m args below meth c s₁ Bd hml0 hP hK
  obtain ⟨rfl, hZ, hh⟩ := hP
  have hx := Bd.exec
  have hby := Bd.bytes
  have hml : c.maxLocals = 2 := hml0
  have hown : s.vm.findClass "java/lang/Math" = some m.cls := findClass_of_methodNamed Bd.named
  have hnm := (name_of_methodNamed Bd.named Bd.method).1
  have X0 : Stand p l e ({ frames := 0, cells := 0, slots := 0, locals := 0 } : Room) s m #[(.int p0), (.int p1)] below meth c s₁ [] 0 0 := Stand.of_body Bd
  have e0 : s₁.heap = h0 := by rw [← hh, Bd.state]; rfl
  have N0 := Fr.nil n0
  have g0 : own_Go p e below s₁ (entryFrame m #[(.int p0), (.int p1)] 2) s₁ (mkF m 0 #[iv p0, iv p1] []) := fun t k => castTop (ef_rmMax m p0 p1) k
  obtain ⟨rr, hm15, g15⟩ : ∃ (rr : Int32), (rr = (if p0 < p1 then p1 else p0)) ∧ own_Go p e below s₁ (entryFrame m #[(.int p0), (.int p1)] 2) s₁ (mkF m 10 #[iv p0, iv p1] [(.int rr)]) := by
    have g11 : own_Go p e below s₁ (entryFrame m #[(.int p0), (.int p1)] 2) s₁ (mkF m 2 #[iv p0, iv p1] [(.int p1), (.int p0)]) := by
      intro target kt
      refine g0 target ?_
      refine XS.iloadN X0.here hx rfl (hb hby d12_0) rfl ?_
      show Steps p.tables e below (s₁.setTop (mkF m 1 #[iv p0, iv p1] [(.int p0)])) target
      refine XS.iloadN X0.here hx rfl (hb hby d12_1) rfl ?_
      show Steps p.tables e below (s₁.setTop (mkF m 2 #[iv p0, iv p1] [(.int p1), (.int p0)])) target
      exact kt
    by_cases hc12 : p0 < p1
    · have g13 : own_Go p e below s₁ (entryFrame m #[(.int p0), (.int p1)] 2) s₁ (mkF m 10 #[iv p0, iv p1] [(.int p1)]) := by
        intro target kt
        refine g11 target ?_
        refine XS.icmpYes X0.here hx rfl (pc0 := 2) (pc' := 9) rfl (hb hby d12_2) rfl (XT.ii_lt_t hc12) (by decide) (by decide) ?_
        show Steps p.tables e below (s₁.setTop (mkF m 9 #[iv p0, iv p1] [])) target
        refine XS.iloadN X0.here hx rfl (hb hby d12_9) rfl ?_
        show Steps p.tables e below (s₁.setTop (mkF m 10 #[iv p0, iv p1] [(.int p1)])) target
        exact kt
      exact ⟨p1, (by simp only [if_pos hc12]), g13⟩
    · have g14 : own_Go p e below s₁ (entryFrame m #[(.int p0), (.int p1)] 2) s₁ (mkF m 10 #[iv p0, iv p1] [(.int p0)]) := by
        intro target kt
        refine g11 target ?_
        refine XS.icmpNo X0.here hx rfl (hb hby d12_2) rfl (XT.ii_lt_f hc12) ?_
        show Steps p.tables e below (s₁.setTop (mkF m 5 #[iv p0, iv p1] [])) target
        refine XS.iloadN X0.here hx rfl (hb hby d12_5) rfl ?_
        show Steps p.tables e below (s₁.setTop (mkF m 6 #[iv p0, iv p1] [(.int p0)])) target
        refine XS.goto X0.here hx rfl (pc0 := 6) (pc' := 10) rfl (hb hby d12_6) (by decide) (by decide) ?_
        show Steps p.tables e below (s₁.setTop (mkF m 10 #[iv p0, iv p1] [(.int p0)])) target
        exact kt
      exact ⟨p0, (by simp only [if_neg hc12]), g14⟩
  obtain ⟨fs, hr, hrun, hended, hW, hsame⟩ := X0.leave (v := some (.int rr)) (fun h => by rw [Bd.returns] at h; cases h)
  refine ⟨_, _, g15 _ ?_, hrun, hended, _, _, rfl, ?_, ⟨_, rfl⟩, hW, hsame.mono (by decide) (by decide)⟩
  · exact retI X0 hx Bd.returns (hb hby d12_10) hr
  · show Q_rmMax Z p0 p1  h0 n0 _ s₁.heap _
    rw [e0]
    exact ⟨by rw [hm15], N0, rfl⟩
theorem pn_rmSt : plainName "com/example/bitloom/bitloom/ArrayContainerCountRunsPinLaw" = true := by first | (simp [plainName, overriddenIn]; done) | decide +kernel
theorem ef_rmSt (m : MethodId) (p0 : Int32) : entryFrame m #[(.int p0)] 1 = mkF m 0 #[iv p0] [] := by first | (simp [entryFrame, mkF, argsToLocals, Value.category]; done) | rfl
def Q_rmSt (Z : State) (p0 : Int32)  (h0 : Heap) (n0 : Nat) (v : Option Value) (h : Heap) (L : List Loc) : Prop := v = some (.int (own_st p0)) ∧ Fr n0 L ∧ h = h0
set_option maxRecDepth 65536 in
set_option maxHeartbeats 40000000 in
theorem rmSt (l : Launch) (Z : State) (a0 : Array Value) (hw : ∀ d ∈ tables_1, d.before a0 Z = true) (ws : List Jvm.Cond) (p0 : Int32)  (h0 : Heap) (n0 : Nat) (Z0 : n0 ≤ h0.size)  :
    MetFree l (⟨"com/example/bitloom/bitloom/ArrayContainerCountRunsPinLaw", "starts", "(I)I"⟩ : MethodName) (head1 (Jvm.Cond.code (⟨"com/example/bitloom/bitloom/ArrayContainerCountRunsPinLaw", "starts", "(I)I"⟩ : MethodName) method_3_code 1 (some .int) :: ws) ({ frames := 0, cells := 0, slots := 0, locals := 0 } : Room)) (fun a U => a = #[(.int p0)] ∧ Z.Warmed39 U.vm ∧ U.heap = h0) (fun _ _ _ _ _ => True) (fun _ U o U' => ∃ v L, o = .returned v ∧ Q_rmSt Z p0  h0 n0 v U'.heap L ∧ FrameEnd U o U' L ({ frames := 0, cells := 0, slots := 0, locals := 0 } : Room).cells ({ frames := 0, cells := 0, slots := 0, locals := 0 } : Room).slots) := by
  refine MetFree.of_bodySF (plainFor_of_name pn_rmSt) hisR ?_
  intro p e s m args below meth c s₁ Bd hml0 hP hK
  obtain ⟨rfl, hZ, hh⟩ := hP
  have hx := Bd.exec
  have hby := Bd.bytes
  have hml : c.maxLocals = 1 := hml0
  have hown : s.vm.findClass "com/example/bitloom/bitloom/ArrayContainerCountRunsPinLaw" = some m.cls := findClass_of_methodNamed Bd.named
  have hnm := (name_of_methodNamed Bd.named Bd.method).1
  have X0 : Stand p l e ({ frames := 0, cells := 0, slots := 0, locals := 0 } : Room) s m #[(.int p0)] below meth c s₁ [] 0 0 := Stand.of_body Bd
  have e0 : s₁.heap = h0 := by rw [← hh, Bd.state]; rfl
  have N0 := Fr.nil n0
  have g0 : own_Go p e below s₁ (entryFrame m #[(.int p0)] 1) s₁ (mkF m 0 #[iv p0] []) := fun t k => castTop (ef_rmSt m p0) k
  obtain ⟨rr, hm20, g20⟩ : ∃ (rr : Int32), (rr = (if (1 : Int32) < p0 then (1 : Int32) else (0 : Int32))) ∧ own_Go p e below s₁ (entryFrame m #[(.int p0)] 1) s₁ (mkF m 10 #[iv p0] [(.int rr)]) := by
    have g16 : own_Go p e below s₁ (entryFrame m #[(.int p0)] 1) s₁ (mkF m 2 #[iv p0] [(.int (1 : Int32)), (.int p0)]) := by
      intro target kt
      refine g0 target ?_
      refine XS.iloadN X0.here hx rfl (hb hby d7_0) rfl ?_
      show Steps p.tables e below (s₁.setTop (mkF m 1 #[iv p0] [(.int p0)])) target
      refine XT.iconstV X0.here hx rfl (1 : Int32) (hb hby d7_1) rfl ?_
      show Steps p.tables e below (s₁.setTop (mkF m 2 #[iv p0] [(.int (1 : Int32)), (.int p0)])) target
      exact kt
    by_cases hc17 : (1 : Int32) < p0
    · have g18 : own_Go p e below s₁ (entryFrame m #[(.int p0)] 1) s₁ (mkF m 10 #[iv p0] [(.int (1 : Int32))]) := by
        intro target kt
        refine g16 target ?_
        refine XS.icmpNo X0.here hx rfl (hb hby d7_2) rfl (XT.ii_le_f hc17) ?_
        show Steps p.tables e below (s₁.setTop (mkF m 5 #[iv p0] [])) target
        refine XT.iconstV X0.here hx rfl (1 : Int32) (hb hby d7_5) rfl ?_
        show Steps p.tables e below (s₁.setTop (mkF m 6 #[iv p0] [(.int (1 : Int32))])) target
        refine XS.goto X0.here hx rfl (pc0 := 6) (pc' := 10) rfl (hb hby d7_6) (by decide) (by decide) ?_
        show Steps p.tables e below (s₁.setTop (mkF m 10 #[iv p0] [(.int (1 : Int32))])) target
        exact kt
      exact ⟨(1 : Int32), (by simp only [if_pos hc17]), g18⟩
    · have g19 : own_Go p e below s₁ (entryFrame m #[(.int p0)] 1) s₁ (mkF m 10 #[iv p0] [(.int (0 : Int32))]) := by
        intro target kt
        refine g16 target ?_
        refine XS.icmpYes X0.here hx rfl (pc0 := 2) (pc' := 9) rfl (hb hby d7_2) rfl (XT.ii_le_t hc17) (by decide) (by decide) ?_
        show Steps p.tables e below (s₁.setTop (mkF m 9 #[iv p0] [])) target
        refine XT.iconstV X0.here hx rfl (0 : Int32) (hb hby d7_9) rfl ?_
        show Steps p.tables e below (s₁.setTop (mkF m 10 #[iv p0] [(.int (0 : Int32))])) target
        exact kt
      exact ⟨(0 : Int32), (by simp only [if_neg hc17]), g19⟩
  obtain ⟨fs, hr, hrun, hended, hW, hsame⟩ := X0.leave (v := some (.int rr)) (fun h => by rw [Bd.returns] at h; cases h)
  refine ⟨_, _, g20 _ ?_, hrun, hended, _, _, rfl, ?_, ⟨_, rfl⟩, hW, hsame.mono (by decide) (by decide)⟩
  · exact retI X0 hx Bd.returns (hb hby d7_10) hr
  · show Q_rmSt Z p0  h0 n0 _ s₁.heap _
    rw [e0]
    exact ⟨by rw [hm20]; rfl, N0, rfl⟩
theorem pn_rmFits : plainName "com/example/bitloom/bitloom/ArrayContainer" = true := by first | (simp [plainName, overriddenIn]; done) | decide +kernel
theorem ef_rmFits (m : MethodId) (p0 : Int32) : entryFrame m #[(.int p0)] 1 = mkF m 0 #[iv p0] [] := by first | (simp [entryFrame, mkF, argsToLocals, Value.category]; done) | rfl
def Q_rmFits (Z : State) (p0 : Int32)  (h0 : Heap) (n0 : Nat) (v : Option Value) (h : Heap) (L : List Loc) : Prop := v = some (.int (1 : Int32)) ∧ Fr n0 L ∧ h = h0
set_option maxRecDepth 65536 in
set_option maxHeartbeats 40000000 in
theorem rmFits (l : Launch) (Z : State) (a0 : Array Value) (hw : ∀ d ∈ tables_1, d.before a0 Z = true) (ws : List Jvm.Cond) (p0 : Int32)  (h0 : Heap) (n0 : Nat) (Z0 : n0 ≤ h0.size) (hp : ¬ (4096 : Int32) < p0) :
    MetFree l (⟨"com/example/bitloom/bitloom/ArrayContainer", "fits", "(I)Z"⟩ : MethodName) (head1 (Jvm.Cond.code (⟨"com/example/bitloom/bitloom/ArrayContainer", "fits", "(I)Z"⟩ : MethodName) prog_3_method_1_code 1 (some .boolean) :: ws) ({ frames := 0, cells := 0, slots := 0, locals := 0 } : Room)) (fun a U => a = #[(.int p0)] ∧ Z.Warmed39 U.vm ∧ U.heap = h0) (fun _ _ _ _ _ => True) (fun _ U o U' => ∃ v L, o = .returned v ∧ Q_rmFits Z p0  h0 n0 v U'.heap L ∧ FrameEnd U o U' L ({ frames := 0, cells := 0, slots := 0, locals := 0 } : Room).cells ({ frames := 0, cells := 0, slots := 0, locals := 0 } : Room).slots) := by
  refine MetFree.of_bodySF (plainFor_of_name pn_rmFits) hisR ?_
  intro p e s m args below meth c s₁ Bd hml0 hP hK
  obtain ⟨rfl, hZ, hh⟩ := hP
  have hx := Bd.exec
  have hby := Bd.bytes
  have hml : c.maxLocals = 1 := hml0
  have hown : s.vm.findClass "com/example/bitloom/bitloom/ArrayContainer" = some m.cls := findClass_of_methodNamed Bd.named
  have hnm := (name_of_methodNamed Bd.named Bd.method).1
  have X0 : Stand p l e ({ frames := 0, cells := 0, slots := 0, locals := 0 } : Room) s m #[(.int p0)] below meth c s₁ [] 0 0 := Stand.of_body Bd
  have e0 : s₁.heap = h0 := by rw [← hh, Bd.state]; rfl
  have N0 := Fr.nil n0
  have g0 : own_Go p e below s₁ (entryFrame m #[(.int p0)] 1) s₁ (mkF m 0 #[iv p0] []) := fun t k => castTop (ef_rmFits m p0) k
  have g21 : own_Go p e below s₁ (entryFrame m #[(.int p0)] 1) s₁ (mkF m 12 #[iv p0] [(.int (1 : Int32))]) := by
    intro target kt
    refine g0 target ?_
    refine XS.iloadN X0.here hx rfl (hb hby d10_0) rfl ?_
    show Steps p.tables e below (s₁.setTop (mkF m 1 #[iv p0] [(.int p0)])) target
    refine XT.sipushV X0.here hx rfl (4096 : Int32) (hb hby d10_1) rfl ?_
    show Steps p.tables e below (s₁.setTop (mkF m 4 #[iv p0] [(.int (4096 : Int32)), (.int p0)])) target
    refine XS.icmpNo X0.here hx rfl (hb hby d10_4) rfl (XT.ii_gt_f hp) ?_
    show Steps p.tables e below (s₁.setTop (mkF m 7 #[iv p0] [])) target
    refine XT.iconstV X0.here hx rfl (1 : Int32) (hb hby d10_7) rfl ?_
    show Steps p.tables e below (s₁.setTop (mkF m 8 #[iv p0] [(.int (1 : Int32))])) target
    refine XS.goto X0.here hx rfl (pc0 := 8) (pc' := 12) rfl (hb hby d10_8) (by decide) (by decide) ?_
    show Steps p.tables e below (s₁.setTop (mkF m 12 #[iv p0] [(.int (1 : Int32))])) target
    exact kt
  obtain ⟨fs, hr, hrun, hended, hW, hsame⟩ := X0.leave (v := some (.int (nar .boolean (1 : Int32)))) (fun h => by rw [Bd.returns] at h; cases h)
  refine ⟨_, _, g21 _ ?_, hrun, hended, _, _, rfl, ?_, ⟨_, rfl⟩, hW, hsame.mono (by decide) (by decide)⟩
  · exact retN X0 hx (t := .boolean) Bd.returns (by simp) (hb hby d10_12) hr
  · show Q_rmFits Z p0  h0 n0 _ s₁.heap _
    rw [e0]
    exact ⟨rfl, N0, rfl⟩
theorem pn_rmOk : plainName "com/example/bitloom/bitloom/ArrayContainerCountRunsPinLaw" = true := by first | (simp [plainName, overriddenIn]; done) | decide +kernel
theorem ef_rmOk (m : MethodId) (p0 : Int32) (p1 : Int32) (p2 : Int32) : entryFrame m #[(.int p0), (.int p1), (.int p2)] 3 = mkF m 0 #[iv p0, iv p1, iv p2] [] := by first | (simp [entryFrame, mkF, argsToLocals, Value.category]; done) | rfl
def Q_rmOk (Z : State) (p0 : Int32) (p1 : Int32) (p2 : Int32) (Rn : Nat) (h0 : Heap) (n0 : Nat) (v : Option Value) (h : Heap) (L : List Loc) : Prop := v = some (.int (1 : Int32)) ∧ Fr n0 L ∧ h = h0
set_option maxRecDepth 65536 in
set_option maxHeartbeats 40000000 in
theorem rmOk (l : Launch) (Z : State) (a0 : Array Value) (hw : ∀ d ∈ tables_1, d.before a0 Z = true) (ws : List Jvm.Cond) (p0 : Int32) (p1 : Int32) (p2 : Int32) (Rn : Nat) (h0 : Heap) (n0 : Nat) (Z0 : n0 ≤ h0.size) (hR : Rn < 65536) (e1 : p1 = Rn.toInt32) (hok : own_okP p0 Rn p2) :
    MetFree l (⟨"com/example/bitloom/bitloom/ArrayContainerCountRunsPinLaw", "ok", "(III)Z"⟩ : MethodName) (head1 (Jvm.Cond.code (⟨"com/example/bitloom/bitloom/ArrayContainerCountRunsPinLaw", "ok", "(III)Z"⟩ : MethodName) method_4_code 3 (some .boolean) :: ws) ({ frames := 0, cells := 0, slots := 0, locals := 0 } : Room)) (fun a U => a = #[(.int p0), (.int p1), (.int p2)] ∧ Z.Warmed39 U.vm ∧ U.heap = h0) (fun _ _ _ _ _ => True) (fun _ U o U' => ∃ v L, o = .returned v ∧ Q_rmOk Z p0 p1 p2 Rn h0 n0 v U'.heap L ∧ FrameEnd U o U' L ({ frames := 0, cells := 0, slots := 0, locals := 0 } : Room).cells ({ frames := 0, cells := 0, slots := 0, locals := 0 } : Room).slots) := by
  refine MetFree.of_bodySF (plainFor_of_name pn_rmOk) hisR ?_
  intro p e s m args below meth c s₁ Bd hml0 hP hK
  obtain ⟨rfl, hZ, hh⟩ := hP
  have hx := Bd.exec
  have hby := Bd.bytes
  have hml : c.maxLocals = 3 := hml0
  have hown : s.vm.findClass "com/example/bitloom/bitloom/ArrayContainerCountRunsPinLaw" = some m.cls := findClass_of_methodNamed Bd.named
  have hnm := (name_of_methodNamed Bd.named Bd.method).1
  have X0 : Stand p l e ({ frames := 0, cells := 0, slots := 0, locals := 0 } : Room) s m #[(.int p0), (.int p1), (.int p2)] below meth c s₁ [] 0 0 := Stand.of_body Bd
  have e0 : s₁.heap = h0 := by rw [← hh, Bd.state]; rfl
  have N0 := Fr.nil n0
  have g0 : own_Go p e below s₁ (entryFrame m #[(.int p0), (.int p1), (.int p2)] 3) s₁ (mkF m 0 #[iv p0, iv p1, iv p2] []) := fun t k => castTop (ef_rmOk m p0 p1 p2) k
  have ti : p1.toInt = (Rn : Int) := by rw [e1]; exact own_ti (by omega)
  unfold own_okP at hok
  rw [← ti, ← e1] at hok
  have g22 : own_Go p e below s₁ (entryFrame m #[(.int p0), (.int p1), (.int p2)] 3) s₁ (mkF m 2 #[iv p0, iv p1, iv p2] [(.int p2), (.int p1)]) := by
    intro target kt
    refine g0 target ?_
    refine XS.iloadN X0.here hx rfl (hb hby d15_0) rfl ?_
    show Steps p.tables e below (s₁.setTop (mkF m 1 #[iv p0, iv p1, iv p2] [(.int p1)])) target
    refine XS.iloadN X0.here hx rfl (hb hby d15_1) rfl ?_
    show Steps p.tables e below (s₁.setTop (mkF m 2 #[iv p0, iv p1, iv p2] [(.int p2), (.int p1)])) target
    exact kt
  by_cases hc23 : p2 < p1
  · rw [if_pos (Int32.lt_iff_toInt_lt.mp hc23)] at hok
    have g24 : own_Go p e below s₁ (entryFrame m #[(.int p0), (.int p1), (.int p2)] 3) s₁ (mkF m 31 #[iv p0, iv p1, iv p2] [(.int (1 : Int32))]) := by
      intro target kt
      refine g22 target ?_
      refine XS.icmpYes X0.here hx rfl (pc0 := 2) (pc' := 16) rfl (hb hby d15_2) rfl (XT.ii_gt_t hc23) (by decide) (by decide) ?_
      show Steps p.tables e below (s₁.setTop (mkF m 16 #[iv p0, iv p1, iv p2] [])) target
      refine XS.iloadN X0.here hx rfl (hb hby d15_16) rfl ?_
      show Steps p.tables e below (s₁.setTop (mkF m 17 #[iv p0, iv p1, iv p2] [(.int p0)])) target
      refine XS.iloadN X0.here hx rfl (hb hby d15_17) rfl ?_
      show Steps p.tables e below (s₁.setTop (mkF m 18 #[iv p0, iv p1, iv p2] [(.int p2), (.int p0)])) target
      refine XS.icmpNo X0.here hx rfl (hb hby d15_18) rfl (XT.ii_le_f (Int32.lt_iff_toInt_lt.mpr hok.1)) ?_
      show Steps p.tables e below (s₁.setTop (mkF m 21 #[iv p0, iv p1, iv p2] [])) target
      refine XS.iloadN X0.here hx rfl (hb hby d15_21) rfl ?_
      show Steps p.tables e below (s₁.setTop (mkF m 22 #[iv p0, iv p1, iv p2] [(.int p0)])) target
      refine XS.iloadN X0.here hx rfl (hb hby d15_22) rfl ?_
      show Steps p.tables e below (s₁.setTop (mkF m 23 #[iv p0, iv p1, iv p2] [(.int p1), (.int p0)])) target
      refine XS.icmpNo X0.here hx rfl (hb hby d15_23) rfl (XT.ii_gt_f (fun q => by rw [Int32.lt_iff_toInt_lt] at q; omega)) ?_
      show Steps p.tables e below (s₁.setTop (mkF m 26 #[iv p0, iv p1, iv p2] [])) target
      refine XT.iconstV X0.here hx rfl (1 : Int32) (hb hby d15_26) rfl ?_
      show Steps p.tables e below (s₁.setTop (mkF m 27 #[iv p0, iv p1, iv p2] [(.int (1 : Int32))])) target
      refine XS.goto X0.here hx rfl (pc0 := 27) (pc' := 31) rfl (hb hby d15_27) (by decide) (by decide) ?_
      show Steps p.tables e below (s₁.setTop (mkF m 31 #[iv p0, iv p1, iv p2] [(.int (1 : Int32))])) target
      exact kt
    obtain ⟨fs, hr, hrun, hended, hW, hsame⟩ := X0.leave (v := some (.int (nar .boolean (1 : Int32)))) (fun h => by rw [Bd.returns] at h; cases h)
    refine ⟨_, _, g24 _ ?_, hrun, hended, _, _, rfl, ?_, ⟨_, rfl⟩, hW, hsame.mono (by decide) (by decide)⟩
    · exact retN X0 hx (t := .boolean) Bd.returns (by simp) (hb hby d15_31) hr
    · show Q_rmOk Z p0 p1 p2 Rn h0 n0 _ s₁.heap _
      rw [e0]
      exact ⟨rfl, N0, rfl⟩
  · rw [if_neg (fun q => hc23 (Int32.lt_iff_toInt_lt.mpr q))] at hok
    have g25 : own_Go p e below s₁ (entryFrame m #[(.int p0), (.int p1), (.int p2)] 3) s₁ (mkF m 15 #[iv p0, iv p1, iv p2] [(.int (1 : Int32))]) := by
      intro target kt
      refine g22 target ?_
      refine XS.icmpNo X0.here hx rfl (hb hby d15_2) rfl (XT.ii_gt_f hc23) ?_
      show Steps p.tables e below (s₁.setTop (mkF m 5 #[iv p0, iv p1, iv p2] [])) target
      refine XS.iloadN X0.here hx rfl (hb hby d15_5) rfl ?_
      show Steps p.tables e below (s₁.setTop (mkF m 6 #[iv p0, iv p1, iv p2] [(.int p0)])) target
      refine XS.iloadN X0.here hx rfl (hb hby d15_6) rfl ?_
      show Steps p.tables e below (s₁.setTop (mkF m 7 #[iv p0, iv p1, iv p2] [(.int p1), (.int p0)])) target
      refine XS.icmpNo X0.here hx rfl (hb hby d15_7) rfl (XT.ii_ne_f hok) ?_
      show Steps p.tables e below (s₁.setTop (mkF m 10 #[iv p0, iv p1, iv p2] [])) target
      refine XT.iconstV X0.here hx rfl (1 : Int32) (hb hby d15_10) rfl ?_
      show Steps p.tables e below (s₁.setTop (mkF m 11 #[iv p0, iv p1, iv p2] [(.int (1 : Int32))])) target
      refine XS.goto X0.here hx rfl (pc0 := 11) (pc' := 15) rfl (hb hby d15_11) (by decide) (by decide) ?_
      show Steps p.tables e below (s₁.setTop (mkF m 15 #[iv p0, iv p1, iv p2] [(.int (1 : Int32))])) target
      exact kt
    obtain ⟨fs, hr, hrun, hended, hW, hsame⟩ := X0.leave (v := some (.int (nar .boolean (1 : Int32)))) (fun h => by rw [Bd.returns] at h; cases h)
    refine ⟨_, _, g25 _ ?_, hrun, hended, _, _, rfl, ?_, ⟨_, rfl⟩, hW, hsame.mono (by decide) (by decide)⟩
    · exact retN X0 hx (t := .boolean) Bd.returns (by simp) (hb hby d15_15) hr
    · show Q_rmOk Z p0 p1 p2 Rn h0 n0 _ s₁.heap _
      rw [e0]
      exact ⟨rfl, N0, rfl⟩
theorem pn_rmGrown : plainName "com/example/bitloom/bitloom/Capacity" = true := by first | (simp [plainName, overriddenIn]; done) | decide +kernel
theorem ef_rmGrown (m : MethodId) (p0 : Int32) (p1 : Int32) (p2 : Int32) (p3 : Int32) : entryFrame m #[(.int p0), (.int p1), (.int p2), (.int p3)] 5 = mkF m 0 #[iv p0, iv p1, iv p2, iv p3, .unset] [] := by first | (simp [entryFrame, mkF, argsToLocals, Value.category]; done) | rfl
def Q_rmGrown (Z : State) (p0 : Int32) (p1 : Int32) (p2 : Int32) (p3 : Int32)  (h0 : Heap) (n0 : Nat) (v : Option Value) (h : Heap) (L : List Loc) : Prop := v = some (.int (8 : Int32)) ∧ Fr n0 L ∧ h = h0
set_option maxRecDepth 65536 in
set_option maxHeartbeats 40000000 in
theorem rmGrown (l : Launch) (Z : State) (a0 : Array Value) (hw : ∀ d ∈ tables_1, d.before a0 Z = true) (ws : List Jvm.Cond) (p0 : Int32) (p1 : Int32) (p2 : Int32) (p3 : Int32)  (h0 : Heap) (n0 : Nat) (Z0 : n0 ≤ h0.size) (e0p : p0 = (4 : Int32)) (e1p : p1 = (5 : Int32)) (e2p : p2 = (4 : Int32)) (e3p : p3 = (4096 : Int32)) :
    MetFree l (⟨"com/example/bitloom/bitloom/Capacity", "grown", "(IIII)I"⟩ : MethodName) (head1 (Jvm.Cond.code (⟨"com/example/bitloom/bitloom/Capacity", "grown", "(IIII)I"⟩ : MethodName) prog_35_method_3_code 5 (some .int) :: ws) ({ frames := 1, cells := 0, slots := 0, locals := 16 } : Room)) (fun a U => a = #[(.int p0), (.int p1), (.int p2), (.int p3)] ∧ Z.Warmed39 U.vm ∧ U.heap = h0) (fun _ _ _ _ _ => True) (fun _ U o U' => ∃ v L, o = .returned v ∧ Q_rmGrown Z p0 p1 p2 p3  h0 n0 v U'.heap L ∧ FrameEnd U o U' L ({ frames := 1, cells := 0, slots := 0, locals := 16 } : Room).cells ({ frames := 1, cells := 0, slots := 0, locals := 16 } : Room).slots) := by
  refine MetFree.of_bodySF (plainFor_of_name pn_rmGrown) hisR ?_
  intro p e s m args below meth c s₁ Bd hml0 hP hK
  obtain ⟨rfl, hZ, hh⟩ := hP
  have hx := Bd.exec
  have hby := Bd.bytes
  have hml : c.maxLocals = 5 := hml0
  have hown : s.vm.findClass "com/example/bitloom/bitloom/Capacity" = some m.cls := findClass_of_methodNamed Bd.named
  have hnm := (name_of_methodNamed Bd.named Bd.method).1
  have X0 : Stand p l e ({ frames := 1, cells := 0, slots := 0, locals := 16 } : Room) s m #[(.int p0), (.int p1), (.int p2), (.int p3)] below meth c s₁ [] 0 0 := Stand.of_body Bd
  have e0 : s₁.heap = h0 := by rw [← hh, Bd.state]; rfl
  have N0 := Fr.nil n0
  have g0 : own_Go p e below s₁ (entryFrame m #[(.int p0), (.int p1), (.int p2), (.int p3)] 5) s₁ (mkF m 0 #[iv p0, iv p1, iv p2, iv p3, .unset] []) := fun t k => castTop (ef_rmGrown m p0 p1 p2 p3) k
  have g26 : own_Go p e below s₁ (entryFrame m #[(.int p0), (.int p1), (.int p2), (.int p3)] 5) s₁ (mkF m 22 #[iv p0, iv p1, iv p2, iv p3, iv p0] [(.int p2), (.int p1), (.int (p0 + p0)), (.int p3)]) := by
    intro target kt
    refine g0 target ?_
    refine XS.iloadN X0.here hx rfl (hb hby d11_0) rfl ?_
    show Steps p.tables e below (s₁.setTop (mkF m 1 #[iv p0, iv p1, iv p2, iv p3, .unset] [(.int p0)])) target
    refine XT.bipushV X0.here hx rfl (64 : Int32) (hb hby d11_1) rfl ?_
    show Steps p.tables e below (s₁.setTop (mkF m 3 #[iv p0, iv p1, iv p2, iv p3, .unset] [(.int (64 : Int32)), (.int p0)])) target
    refine XS.icmpNo X0.here hx rfl (hb hby d11_3) rfl (XT.ii_ge_f (by rw [e0p]; decide)) ?_
    show Steps p.tables e below (s₁.setTop (mkF m 6 #[iv p0, iv p1, iv p2, iv p3, .unset] [])) target
    refine XS.iloadN X0.here hx rfl (hb hby d11_6) rfl ?_
    show Steps p.tables e below (s₁.setTop (mkF m 7 #[iv p0, iv p1, iv p2, iv p3, .unset] [(.int p0)])) target
    refine XS.goto X0.here hx rfl (pc0 := 7) (pc' := 13) rfl (hb hby d11_7) (by decide) (by decide) ?_
    show Steps p.tables e below (s₁.setTop (mkF m 13 #[iv p0, iv p1, iv p2, iv p3, .unset] [(.int p0)])) target
    refine XS.istore X0.here hx rfl (hb hby d11_13) rfl (l' := #[iv p0, iv p1, iv p2, iv p3, iv p0]) rfl ?_
    show Steps p.tables e below (s₁.setTop (mkF m 15 #[iv p0, iv p1, iv p2, iv p3, iv p0] [])) target
    refine XS.iloadN X0.here hx rfl (hb hby d11_15) rfl ?_
    show Steps p.tables e below (s₁.setTop (mkF m 16 #[iv p0, iv p1, iv p2, iv p3, iv p0] [(.int p3)])) target
    refine XS.iloadN X0.here hx rfl (hb hby d11_16) rfl ?_
    show Steps p.tables e below (s₁.setTop (mkF m 17 #[iv p0, iv p1, iv p2, iv p3, iv p0] [(.int p0), (.int p3)])) target
    refine XS.iload X0.here hx rfl (hb hby d11_17) rfl ?_
    show Steps p.tables e below (s₁.setTop (mkF m 19 #[iv p0, iv p1, iv p2, iv p3, iv p0] [(.int p0), (.int p0), (.int p3)])) target
    refine XS.iadd X0.here hx rfl (hb hby d11_19) rfl ?_
    show Steps p.tables e below (s₁.setTop (mkF m 20 #[iv p0, iv p1, iv p2, iv p3, iv p0] [(.int (p0 + p0)), (.int p3)])) target
    refine XS.iloadN X0.here hx rfl (hb hby d11_20) rfl ?_
    show Steps p.tables e below (s₁.setTop (mkF m 21 #[iv p0, iv p1, iv p2, iv p3, iv p0] [(.int p1), (.int (p0 + p0)), (.int p3)])) target
    refine XS.iloadN X0.here hx rfl (hb hby d11_21) rfl ?_
    show Steps p.tables e below (s₁.setTop (mkF m 22 #[iv p0, iv p1, iv p2, iv p3, iv p0] [(.int p2), (.int p1), (.int (p0 + p0)), (.int p3)])) target
    exact kt
  obtain ⟨_, _, ⟨T27, L27, k27, n27⟩, -, X27, ⟨Lc27, hQ27, l27, y27, z27⟩, st27⟩ := Jvm.LawKit.callS X0 hx (y := (⟨"java/lang/Math", "max", "(II)I"⟩ : MethodName)) hown (mvT hZ (hw _ (List.mem_of_getElem? (i := 57) rfl))) (mvT hZ (hw _ (List.mem_of_getElem? (i := 58) rfl))) (mvT hZ (hw _ (List.mem_of_getElem? (i := 7) rfl))) (mvT hZ (hw _ (List.mem_of_getElem? (i := 59) rfl))) (by decide) (backOf (W := 2) (rmMax l Z a0 hw [] p1 p2 h0 n0 Z0) hZ (hw _ (List.mem_of_getElem? (i := 59) rfl)) (hw _ (List.mem_of_getElem? (i := 7) rfl)) (by decide) (by decide)) (g := (mkF m 22 #[iv p0, iv p1, iv p2, iv p3, iv p0] [(.int p2), (.int p1), (.int (p0 + p0)), (.int p3)])) rfl (by rw [hml]; rfl) (argsL := [(.int p1), (.int p2)]) (rest := [(.int (p0 + p0)), (.int p3)]) (lenOf pd_0 rfl) rfl (by show 2 * 0 + _ ≤ _; exact Nat.le_of_eq rfl) (hb hby d11_22) (fun _ _ => ⟨rfl, e0, (by decide : 0 + 0 ≤ _), (by decide : 0 + 0 ≤ _)⟩)
  dsimp only [Pt.U, Pt.locs, Pt.cells, Pt.slots] at X27 l27 y27 z27 st27 hQ27
  subst l27 y27 z27
  obtain ⟨rfl, Nq27, eq27⟩ := hQ27
  have N27 := Fr.app N0 Nq27
  have g28 : own_Go p e below s₁ (entryFrame m #[(.int p0), (.int p1), (.int p2), (.int p3)] 5) T27 (mkF m 25 #[iv p0, iv p1, iv p2, iv p3, iv p0] [(.int (if p1 < p2 then p2 else p1)), (.int (p0 + p0)), (.int p3)]) := fun target kt => g26 target (st27 target kt)
  obtain ⟨_, _, ⟨T29, L29, k29, n29⟩, -, X29, ⟨Lc29, hQ29, l29, y29, z29⟩, st29⟩ := Jvm.LawKit.callS X27 hx (y := (⟨"java/lang/Math", "max", "(II)I"⟩ : MethodName)) hown (mvT hZ (hw _ (List.mem_of_getElem? (i := 57) rfl))) (mvT hZ (hw _ (List.mem_of_getElem? (i := 58) rfl))) (mvT hZ (hw _ (List.mem_of_getElem? (i := 7) rfl))) (mvT hZ (hw _ (List.mem_of_getElem? (i := 59) rfl))) (by decide) (backOf (W := 1) (rmMax l Z a0 hw [] (p0 + p0) (if p1 < p2 then p2 else p1) h0 n0 Z0) hZ (hw _ (List.mem_of_getElem? (i := 59) rfl)) (hw _ (List.mem_of_getElem? (i := 7) rfl)) (by decide) (by decide)) (g := (mkF m 25 #[iv p0, iv p1, iv p2, iv p3, iv p0] [(.int (if p1 < p2 then p2 else p1)), (.int (p0 + p0)), (.int p3)])) rfl (by rw [hml]; rfl) (argsL := [(.int (p0 + p0)), (.int (if p1 < p2 then p2 else p1))]) (rest := [(.int p3)]) (lenOf pd_0 rfl) rfl (by show 2 * 0 + _ ≤ _; exact Nat.le_of_eq rfl) (hb hby d11_25) (fun _ _ => ⟨rfl, eq27, (by decide : 0 + 0 ≤ _), (by decide : 0 + 0 ≤ _)⟩)
  dsimp only [Pt.U, Pt.locs, Pt.cells, Pt.slots] at X29 l29 y29 z29 st29 hQ29
  subst l29 y29 z29
  obtain ⟨rfl, Nq29, eq29⟩ := hQ29
  have N29 := Fr.app N27 Nq29
  have g30 : own_Go p e below s₁ (entryFrame m #[(.int p0), (.int p1), (.int p2), (.int p3)] 5) T29 (mkF m 28 #[iv p0, iv p1, iv p2, iv p3, iv p0] [(.int (if (p0 + p0) < (if p1 < p2 then p2 else p1) then (if p1 < p2 then p2 else p1) else (p0 + p0))), (.int p3)]) := fun target kt => g28 target (st29 target kt)
  obtain ⟨_, _, ⟨T31, L31, k31, n31⟩, -, X31, ⟨Lc31, hQ31, l31, y31, z31⟩, st31⟩ := Jvm.LawKit.callS X29 hx (y := (⟨"java/lang/Math", "min", "(II)I"⟩ : MethodName)) hown (mvT hZ (hw _ (List.mem_of_getElem? (i := 60) rfl))) (mvT hZ (hw _ (List.mem_of_getElem? (i := 6) rfl))) (mvT hZ (hw _ (List.mem_of_getElem? (i := 7) rfl))) (mvT hZ (hw _ (List.mem_of_getElem? (i := 8) rfl))) (by decide) (backOf (W := 0) (rmMin l Z a0 hw [] p3 (if (p0 + p0) < (if p1 < p2 then p2 else p1) then (if p1 < p2 then p2 else p1) else (p0 + p0)) h0 n0 Z0) hZ (hw _ (List.mem_of_getElem? (i := 8) rfl)) (hw _ (List.mem_of_getElem? (i := 7) rfl)) (by decide) (by decide)) (g := (mkF m 28 #[iv p0, iv p1, iv p2, iv p3, iv p0] [(.int (if (p0 + p0) < (if p1 < p2 then p2 else p1) then (if p1 < p2 then p2 else p1) else (p0 + p0))), (.int p3)])) rfl (by rw [hml]; rfl) (argsL := [(.int p3), (.int (if (p0 + p0) < (if p1 < p2 then p2 else p1) then (if p1 < p2 then p2 else p1) else (p0 + p0)))]) (rest := []) (lenOf pd_0 rfl) rfl (by show 2 * 0 + _ ≤ _; exact Nat.le_of_eq rfl) (hb hby d11_28) (fun _ _ => ⟨rfl, eq29, (by decide : 0 + 0 ≤ _), (by decide : 0 + 0 ≤ _)⟩)
  dsimp only [Pt.U, Pt.locs, Pt.cells, Pt.slots] at X31 l31 y31 z31 st31 hQ31
  subst l31 y31 z31
  obtain ⟨rfl, Nq31, eq31⟩ := hQ31
  have N31 := Fr.app N29 Nq31
  have g32 : own_Go p e below s₁ (entryFrame m #[(.int p0), (.int p1), (.int p2), (.int p3)] 5) T31 (mkF m 31 #[iv p0, iv p1, iv p2, iv p3, iv p0] [(.int (if (if (p0 + p0) < (if p1 < p2 then p2 else p1) then (if p1 < p2 then p2 else p1) else (p0 + p0)) < p3 then (if (p0 + p0) < (if p1 < p2 then p2 else p1) then (if p1 < p2 then p2 else p1) else (p0 + p0)) else p3))]) := fun target kt => g30 target (st31 target kt)
  have hv : (if (if (p0 + p0) < (if p1 < p2 then p2 else p1) then (if p1 < p2 then p2 else p1) else (p0 + p0)) < p3 then (if (p0 + p0) < (if p1 < p2 then p2 else p1) then (if p1 < p2 then p2 else p1) else (p0 + p0)) else p3) = (8 : Int32) := by rw [e0p, e1p, e2p, e3p]; decide
  obtain ⟨fs, hr, hrun, hended, hW, hsame⟩ := X31.leave (v := some (.int (if (if (p0 + p0) < (if p1 < p2 then p2 else p1) then (if p1 < p2 then p2 else p1) else (p0 + p0)) < p3 then (if (p0 + p0) < (if p1 < p2 then p2 else p1) then (if p1 < p2 then p2 else p1) else (p0 + p0)) else p3))) (fun h => by rw [Bd.returns] at h; cases h)
  refine ⟨_, _, g32 _ ?_, hrun, hended, _, _, rfl, ?_, ⟨_, rfl⟩, hW, hsame.mono (by decide) (by decide)⟩
  · exact retI X31 hx Bd.returns (hb hby d11_31) hr
  · show Q_rmGrown Z p0 p1 p2 p3  h0 n0 _ T31.heap _
    rw [eq31]
    exact ⟨by rw [hv], N31, rfl⟩
theorem pn_rmCon : plainName "com/example/bitloom/bitloom/Container" = true := by first | (simp [plainName, overriddenIn]; done) | decide +kernel
theorem ef_rmCon (m : MethodId) (a1 : Addr) : entryFrame m #[(.ref a1)] 1 = mkF m 0 #[rv a1] [] := by first | (simp [entryFrame, mkF, argsToLocals, Value.category]; done) | rfl
def Q_rmCon (Z : State) (a1 : Addr)  (h0 : Heap) (n0 : Nat) (v : Option Value) (h : Heap) (L : List Loc) : Prop := v = none ∧ Fr n0 L ∧ h = h0
set_option maxRecDepth 65536 in
set_option maxHeartbeats 40000000 in
theorem rmCon (l : Launch) (Z : State) (a0 : Array Value) (hw : ∀ d ∈ tables_1, d.before a0 Z = true) (ws : List Jvm.Cond) (a1 : Addr)  (h0 : Heap) (n0 : Nat) (Z0 : n0 ≤ h0.size)  :
    MetFree l (⟨"com/example/bitloom/bitloom/Container", "<init>", "()V"⟩ : MethodName) (head1 (Jvm.Cond.code (⟨"com/example/bitloom/bitloom/Container", "<init>", "()V"⟩ : MethodName) prog_57_method_1_code 1 none :: ws) ({ frames := 1, cells := 0, slots := 0, locals := 12 } : Room)) (fun a U => a = #[(.ref a1)] ∧ Z.Warmed39 U.vm ∧ U.heap = h0) (fun _ _ _ _ _ => True) (fun _ U o U' => ∃ v L, o = .returned v ∧ Q_rmCon Z a1  h0 n0 v U'.heap L ∧ FrameEnd U o U' L ({ frames := 1, cells := 0, slots := 0, locals := 12 } : Room).cells ({ frames := 1, cells := 0, slots := 0, locals := 12 } : Room).slots) := by
  refine MetFree.of_bodySF (plainFor_of_name pn_rmCon) hisR ?_
  intro p e s m args below meth c s₁ Bd hml0 hP hK
  obtain ⟨rfl, hZ, hh⟩ := hP
  have hx := Bd.exec
  have hby := Bd.bytes
  have hml : c.maxLocals = 1 := hml0
  have hown : s.vm.findClass "com/example/bitloom/bitloom/Container" = some m.cls := findClass_of_methodNamed Bd.named
  have hnm := (name_of_methodNamed Bd.named Bd.method).1
  have X0 : Stand p l e ({ frames := 1, cells := 0, slots := 0, locals := 12 } : Room) s m #[(.ref a1)] below meth c s₁ [] 0 0 := Stand.of_body Bd
  have e0 : s₁.heap = h0 := by rw [← hh, Bd.state]; rfl
  have N0 := Fr.nil n0
  have g0 : own_Go p e below s₁ (entryFrame m #[(.ref a1)] 1) s₁ (mkF m 0 #[rv a1] []) := fun t k => castTop (ef_rmCon m a1) k
  have g33 : own_Go p e below s₁ (entryFrame m #[(.ref a1)] 1) s₁ (mkF m 1 #[rv a1] [(.ref a1)]) := by
    intro target kt
    refine g0 target ?_
    refine XS.aloadN X0.here hx rfl (hb hby d4_0) rfl rfl ?_
    show Steps p.tables e below (s₁.setTop (mkF m 1 #[rv a1] [(.ref a1)])) target
    exact kt
  obtain ⟨T34, X34, e34, st34⟩ := initO X0 hx hZ hown (hw _ (List.mem_of_getElem? (i := 20) rfl)) (hw _ (List.mem_of_getElem? (i := 21) rfl)) (hw _ (List.mem_of_getElem? (i := 22) rfl)) e0 (g := (mkF m 1 #[rv a1] [(.ref a1)])) rfl (by rw [hml]; rfl) rfl (hb hby d4_1) (by decide) (W := 0) (by show 2 * 0 + _ ≤ _; exact Nat.le_of_eq rfl) (by decide)
  have g35 : own_Go p e below s₁ (entryFrame m #[(.ref a1)] 1) T34 (mkF m 4 #[rv a1] []) := fun target kt => g33 target (st34 target kt)
  obtain ⟨fs, hr, hrun, hended, hW, hsame⟩ := X34.leave (v := none) (fun _ => rfl)
  refine ⟨_, _, g35 _ ?_, hrun, hended, _, _, rfl, ?_, ⟨_, rfl⟩, hW, hsame.mono (by decide) (by decide)⟩
  · exact X34.returnOut hx Bd.returns (hb hby d4_4) hr
  · show Q_rmCon Z a1  h0 n0 _ T34.heap _
    rw [e34]
    exact ⟨rfl, N0, rfl⟩
theorem pn_rmIni : plainName "com/example/bitloom/bitloom/ArrayContainer" = true := by first | (simp [plainName, overriddenIn]; done) | decide +kernel
theorem ef_rmIni (m : MethodId) (a1 : Addr) (p1 : Int32) : entryFrame m #[(.ref a1), (.int p1)] 2 = mkF m 0 #[rv a1, iv p1] [] := by first | (simp [entryFrame, mkF, argsToLocals, Value.category]; done) | rfl
def Q_rmIni (Z : State) (a1 : Addr) (p1 : Int32)  (h0 : Heap) (n0 : Nat) (v : Option Value) (h : Heap) (L : List Loc) : Prop := v = none ∧ Fr n0 L ∧ Keep h0 h [a1] ∧ ∃ av : Addr, n0 ≤ av ∧ own_K Z h a1 av (1 : Int32) (0 : Int32) 4 (fun j => if j = 0 then p1 else 0)
set_option maxRecDepth 65536 in
set_option maxHeartbeats 40000000 in
theorem rmIni (l : Launch) (Z : State) (a0 : Array Value) (hw : ∀ d ∈ tables_1, d.before a0 Z = true) (ws : List Jvm.Cond) (a1 : Addr) (p1 : Int32)  (h0 : Heap) (n0 : Nat) (Z0 : n0 ≤ h0.size) (E1 : Exa Z h0 a1 "com/example/bitloom/bitloom/ArrayContainer") (F1 : Fld Z h0 a1 "com/example/bitloom/bitloom/ArrayContainer" "values" "[C" .null) (F2 : Fld Z h0 a1 "com/example/bitloom/bitloom/ArrayContainer" "stored" "Ljava/nio/CharBuffer;" .null) (F3 : Fld Z h0 a1 "com/example/bitloom/bitloom/Container" "cardinality" "C" (.int (0 : Int32))) (F4 : Fld Z h0 a1 "com/example/bitloom/bitloom/ArrayContainer" "runCount" "C" (.int (0 : Int32))) (hp : own_C p1) (ga : n0 ≤ a1) :
    MetFree l (⟨"com/example/bitloom/bitloom/ArrayContainer", "<init>", "(C)V"⟩ : MethodName) (head1 (Jvm.Cond.code (⟨"com/example/bitloom/bitloom/ArrayContainer", "<init>", "(C)V"⟩ : MethodName) prog_3_method_2_code 2 none :: ws) ({ frames := 2, cells := 1, slots := 4, locals := 24 } : Room)) (fun a U => a = #[(.ref a1), (.int p1)] ∧ Z.Warmed39 U.vm ∧ U.heap = h0) (fun _ _ _ _ _ => True) (fun _ U o U' => ∃ v L, o = .returned v ∧ Q_rmIni Z a1 p1  h0 n0 v U'.heap L ∧ FrameEnd U o U' L ({ frames := 2, cells := 1, slots := 4, locals := 24 } : Room).cells ({ frames := 2, cells := 1, slots := 4, locals := 24 } : Room).slots) := by
  refine MetFree.of_bodySF (plainFor_of_name pn_rmIni) hisR ?_
  intro p e s m args below meth c s₁ Bd hml0 hP hK
  obtain ⟨rfl, hZ, hh⟩ := hP
  have hx := Bd.exec
  have hby := Bd.bytes
  have hml : c.maxLocals = 2 := hml0
  have hown : s.vm.findClass "com/example/bitloom/bitloom/ArrayContainer" = some m.cls := findClass_of_methodNamed Bd.named
  have hnm := (name_of_methodNamed Bd.named Bd.method).1
  have X0 : Stand p l e ({ frames := 2, cells := 1, slots := 4, locals := 24 } : Room) s m #[(.ref a1), (.int p1)] below meth c s₁ [] 0 0 := Stand.of_body Bd
  have e0 : s₁.heap = h0 := by rw [← hh, Bd.state]; rfl
  have N0 := Fr.nil n0
  have g0 : own_Go p e below s₁ (entryFrame m #[(.ref a1), (.int p1)] 2) s₁ (mkF m 0 #[rv a1, iv p1] []) := fun t k => castTop (ef_rmIni m a1 p1) k
  have g36 : own_Go p e below s₁ (entryFrame m #[(.ref a1), (.int p1)] 2) s₁ (mkF m 1 #[rv a1, iv p1] [(.ref a1)]) := by
    intro target kt
    refine g0 target ?_
    refine XS.aloadN X0.here hx rfl (hb hby d3_0) rfl rfl ?_
    show Steps p.tables e below (s₁.setTop (mkF m 1 #[rv a1, iv p1] [(.ref a1)])) target
    exact kt
  obtain ⟨_, _, ⟨T37, L37, k37, n37⟩, -, X37, ⟨Lc37, hQ37, l37, y37, z37⟩, st37⟩ := X0.specialBack hx (y := (⟨"com/example/bitloom/bitloom/Container", "<init>", "()V"⟩ : MethodName)) rfl hown (mvT hZ (hw _ (List.mem_of_getElem? (i := 15) rfl))) (mvT hZ (hw _ (List.mem_of_getElem? (i := 16) rfl))) (mvT hZ (hw _ (List.mem_of_getElem? (i := 19) rfl))) (by decide) (backOf (W := 0) (rmCon l Z a0 hw [] a1 h0 n0 Z0) hZ (hw _ (List.mem_of_getElem? (i := 19) rfl)) (hw _ (List.mem_of_getElem? (i := 18) rfl)) (by decide) (by decide)) (g := (mkF m 1 #[rv a1, iv p1] [(.ref a1)])) rfl (by rw [hml]; rfl) (Steps.refl _) (a := a1) (argsL := []) (rest := []) (lenOf pd_1 rfl) rfl (by show 2 * 0 + _ ≤ _; exact Nat.le_of_eq rfl) (hb hby d3_1) (fun _ _ => ⟨rfl, e0, (by decide : 0 + 0 ≤ _), (by decide : 0 + 0 ≤ _)⟩)
  dsimp only [Pt.U, Pt.locs, Pt.cells, Pt.slots] at X37 l37 y37 z37 st37 hQ37
  subst l37 y37 z37
  obtain ⟨rfl, Nq37, eq37⟩ := hQ37
  have N37 := Fr.app N0 Nq37
  have g38 : own_Go p e below s₁ (entryFrame m #[(.ref a1), (.int p1)] 2) T37 (mkF m 4 #[rv a1, iv p1] []) := fun target kt => g36 target (st37.trans kt)
  have g39 : own_Go p e below s₁ (entryFrame m #[(.ref a1), (.int p1)] 2) T37 (mkF m 6 #[rv a1, iv p1] [(.int (4 : Int32)), (.ref a1)]) := by
    intro target kt
    refine g38 target ?_
    refine XS.aloadN X37.here hx rfl (hb hby d3_4) rfl rfl ?_
    show Steps p.tables e below (T37.setTop (mkF m 5 #[rv a1, iv p1] [(.ref a1)])) target
    refine XT.iconstV X37.here hx rfl (4 : Int32) (hb hby d3_5) rfl ?_
    show Steps p.tables e below (T37.setTop (mkF m 6 #[rv a1, iv p1] [(.int (4 : Int32)), (.ref a1)])) target
    exact kt
  obtain ⟨T40, h40, k40, X40, e40, E40, A40, st40⟩ := newP X37 hx hZ (hw _ (List.mem_of_getElem? (i := 23) rfl)) eq37 (g := (mkF m 6 #[rv a1, iv p1] [(.int (4 : Int32)), (.ref a1)])) rfl (hb hby d3_6) rfl (by decide) (cap := 4) (by decide) (by decide) (by decide) (by decide)
  obtain ⟨b1, ga40⟩ : ∃ z, z = h0.size := ⟨_, rfl⟩
  rw [← ga40] at A40 st40
  have Z40 : n0 ≤ h40.size := Nat.le_trans Z0 E40.1
  have g_b1 : n0 ≤ b1 := Nat.le_trans Z0 (Nat.le_of_eq ga40.symm)
  have g41 : own_Go p e below s₁ (entryFrame m #[(.ref a1), (.int p1)] 2) T40 (mkF m 8 #[rv a1, iv p1] [(.ref b1), (.ref a1)]) := fun target kt => g39 target (st40 target kt)
  have nab : a1 ≠ b1 := Nat.ne_of_lt (Nat.lt_of_lt_of_le E1.lt (Nat.le_of_eq ga40.symm))
  have U0 : own_Ar Z h40 b1 .char 4 (fun j => .int ((fun _ => (0 : Int32)) j)) := own_new A40 (by decide)
  have K0 : Keep h0 h40 [a1] := (Keep.refl h0 [a1]).ext E40
  have sb : h0.size ≤ b1 := Nat.le_of_eq ga40.symm
  have Ea := E1.ext E40
  have G1 := F1.ext E40
  have G2 := F2.ext E40
  have G3 := F3.ext E40
  have G4 := F4.ext E40
  obtain ⟨T42, h42, X42, e42, W42, st42⟩ := putF X40 hx hZ hown (host := "") (Or.inl (hw _ (List.mem_of_getElem? (i := 24) rfl))) Via.refl e40 G1 Ea (Or.inl (hw _ (List.mem_of_getElem? (i := 25) rfl))) (hw _ (List.mem_of_getElem? (i := 10) rfl)) (ty := (.array .char)) (by decide) rfl rfl (g := (mkF m 8 #[rv a1, iv p1] [(.ref b1), (.ref a1)])) rfl rfl (hb hby d3_8)
  have g43 : own_Go p e below s₁ (entryFrame m #[(.ref a1), (.int p1)] 2) T42 (mkF m 11 #[rv a1, iv p1] []) := fun target kt => g41 target (st42 target kt)
  have N42 := Fr.snoc X42 N37 ga
  have Eb := Ea.wr W42
  have H1 := G1.same W42
  have H2 := (G2.other W42 (Or.inr (slot_ne (a0 := a0) (Or.inl (hw _ (List.mem_of_getElem? (i := 27) rfl))) (Or.inl (hw _ (List.mem_of_getElem? (i := 25) rfl))) (by decide) (t := (.object "java/nio/CharBuffer")) (t' := (.array .char)) (by decide) (by decide))))
  have H3 := (G3.other W42 (Or.inr (slot_ne (a0 := a0) (Or.inl (hw _ (List.mem_of_getElem? (i := 30) rfl))) (Or.inl (hw _ (List.mem_of_getElem? (i := 25) rfl))) (by decide) (t := .char) (t' := (.array .char)) (by decide) (by decide))))
  have H4 := (G4.other W42 (Or.inr (slot_ne (a0 := a0) (Or.inl (hw _ (List.mem_of_getElem? (i := 37) rfl))) (Or.inl (hw _ (List.mem_of_getElem? (i := 25) rfl))) (by decide) (t := .char) (t' := (.array .char)) (by decide) (by decide))))
  have U1 := U0.other W42 nab.symm
  have K1 := K0.wr W42 (Or.inl (List.mem_of_getElem? (i := 0) rfl))
  have Z42 : n0 ≤ h42.size := Nat.le_trans Z40 (Keep.of_wr W42).1
  have g44 : own_Go p e below s₁ (entryFrame m #[(.ref a1), (.int p1)] 2) T42 (mkF m 12 #[rv a1, iv p1] [(.ref a1)]) := by
    intro target kt
    refine g43 target ?_
    refine XS.aloadN X42.here hx rfl (hb hby d3_11) rfl rfl ?_
    show Steps p.tables e below (T42.setTop (mkF m 12 #[rv a1, iv p1] [(.ref a1)])) target
    exact kt
  obtain ⟨T45, X45, e45, st45⟩ := getF X42 hx hZ hown (host := "") (Or.inl (hw _ (List.mem_of_getElem? (i := 24) rfl))) Via.refl e42 H1 (g := (mkF m 12 #[rv a1, iv p1] [(.ref a1)])) rfl rfl (hb hby d3_12)
  have g46 : own_Go p e below s₁ (entryFrame m #[(.ref a1), (.int p1)] 2) T45 (mkF m 15 #[rv a1, iv p1] [(.ref b1)]) := fun target kt => g44 target (st45 target kt)
  obtain ⟨cl1, Ar1, S1, V1⟩ := U1
  have g47 : own_Go p e below s₁ (entryFrame m #[(.ref a1), (.int p1)] 2) T45 (mkF m 17 #[rv a1, iv p1] [(.int p1), (.int (0 : Int32)), (.ref b1)]) := by
    intro target kt
    refine g46 target ?_
    refine XT.iconstV X45.here hx rfl (0 : Int32) (hb hby d3_15) rfl ?_
    show Steps p.tables e below (T45.setTop (mkF m 16 #[rv a1, iv p1] [(.int (0 : Int32)), (.ref b1)])) target
    refine XS.iloadN X45.here hx rfl (hb hby d3_16) rfl ?_
    show Steps p.tables e below (T45.setTop (mkF m 17 #[rv a1, iv p1] [(.int p1), (.int (0 : Int32)), (.ref b1)])) target
    exact kt
  obtain ⟨T48, h48, X48, e48, W48, st48⟩ := stC X45 hx hZ e45 Ar1 (j := (0 : Int32)) (by rw [S1]; decide) (g := (mkF m 17 #[rv a1, iv p1] [(.int p1), (.int (0 : Int32)), (.ref b1)])) rfl rfl (hb hby d3_17)
  have g49 : own_Go p e below s₁ (entryFrame m #[(.ref a1), (.int p1)] 2) T48 (mkF m 18 #[rv a1, iv p1] []) := fun target kt => g47 target (st48 target kt)
  have N48 := Fr.snoc X48 N42 g_b1
  have Z48 : n0 ≤ h48.size := Nat.le_trans Z42 (Keep.of_wr W48).1
  rw [own_narc hp] at W48
  have U2 := own_setC Ar1 S1 V1 W48 (by decide)
  have Ec := Eb.wr W48
  have I1 := H1.other W48 (Or.inl nab)
  have I2 := H2.other W48 (Or.inl nab)
  have I3 := H3.other W48 (Or.inl nab)
  have I4 := H4.other W48 (Or.inl nab)
  have K2 := K1.wr W48 (Or.inr sb)
  have g50 : own_Go p e below s₁ (entryFrame m #[(.ref a1), (.int p1)] 2) T48 (mkF m 20 #[rv a1, iv p1] [.null, (.ref a1)]) := by
    intro target kt
    refine g49 target ?_
    refine XS.aloadN X48.here hx rfl (hb hby d3_18) rfl rfl ?_
    show Steps p.tables e below (T48.setTop (mkF m 19 #[rv a1, iv p1] [(.ref a1)])) target
    refine XS.aconstNull X48.here hx rfl (hb hby d3_19) ?_
    show Steps p.tables e below (T48.setTop (mkF m 20 #[rv a1, iv p1] [.null, (.ref a1)])) target
    exact kt
  obtain ⟨T51, h51, X51, e51, W51, st51⟩ := putF X48 hx hZ hown (host := "") (Or.inl (hw _ (List.mem_of_getElem? (i := 26) rfl))) Via.refl e48 I2 Ec (Or.inl (hw _ (List.mem_of_getElem? (i := 27) rfl))) (hw _ (List.mem_of_getElem? (i := 10) rfl)) (ty := (.object "java/nio/CharBuffer")) (by decide) rfl rfl (g := (mkF m 20 #[rv a1, iv p1] [.null, (.ref a1)])) rfl rfl (hb hby d3_20)
  have g52 : own_Go p e below s₁ (entryFrame m #[(.ref a1), (.int p1)] 2) T51 (mkF m 23 #[rv a1, iv p1] []) := fun target kt => g50 target (st51 target kt)
  have N51 := Fr.snoc X51 N48 ga
  have Ed := Ec.wr W51
  have J1 := (I1.other W51 (Or.inr (slot_ne (a0 := a0) (Or.inl (hw _ (List.mem_of_getElem? (i := 25) rfl))) (Or.inl (hw _ (List.mem_of_getElem? (i := 27) rfl))) (by decide) (t := (.array .char)) (t' := (.object "java/nio/CharBuffer")) (by decide) (by decide))))
  have J3 := (I3.other W51 (Or.inr (slot_ne (a0 := a0) (Or.inl (hw _ (List.mem_of_getElem? (i := 30) rfl))) (Or.inl (hw _ (List.mem_of_getElem? (i := 27) rfl))) (by decide) (t := .char) (t' := (.object "java/nio/CharBuffer")) (by decide) (by decide))))
  have J4 := (I4.other W51 (Or.inr (slot_ne (a0 := a0) (Or.inl (hw _ (List.mem_of_getElem? (i := 37) rfl))) (Or.inl (hw _ (List.mem_of_getElem? (i := 27) rfl))) (by decide) (t := .char) (t' := (.object "java/nio/CharBuffer")) (by decide) (by decide))))
  have U3 := U2.other W51 nab.symm
  have K3 := K2.wr W51 (Or.inl (List.mem_of_getElem? (i := 0) rfl))
  have g53 : own_Go p e below s₁ (entryFrame m #[(.ref a1), (.int p1)] 2) T51 (mkF m 25 #[rv a1, iv p1] [(.int (1 : Int32)), (.ref a1)]) := by
    intro target kt
    refine g52 target ?_
    refine XS.aloadN X51.here hx rfl (hb hby d3_23) rfl rfl ?_
    show Steps p.tables e below (T51.setTop (mkF m 24 #[rv a1, iv p1] [(.ref a1)])) target
    refine XT.iconstV X51.here hx rfl (1 : Int32) (hb hby d3_24) rfl ?_
    show Steps p.tables e below (T51.setTop (mkF m 25 #[rv a1, iv p1] [(.int (1 : Int32)), (.ref a1)])) target
    exact kt
  obtain ⟨T54, h54, X54, e54, W54, st54⟩ := putFN X51 hx hZ hown (hw _ (List.mem_of_getElem? (i := 28) rfl)) (Via.of (hw _ (List.mem_of_getElem? (i := 29) rfl))) e51 J3 Ed (Or.inl (hw _ (List.mem_of_getElem? (i := 30) rfl))) (hw _ (List.mem_of_getElem? (i := 10) rfl)) (ty := .char) (v := (.int (1 : Int32))) (v' := (.int (nar .char (1 : Int32)))) (by decide) rfl (fits_nar_char _) (g := (mkF m 25 #[rv a1, iv p1] [(.int (1 : Int32)), (.ref a1)])) rfl rfl (hb hby d3_25)
  have g55 : own_Go p e below s₁ (entryFrame m #[(.ref a1), (.int p1)] 2) T54 (mkF m 28 #[rv a1, iv p1] []) := fun target kt => g53 target (st54 target kt)
  have N54 := Fr.snoc X54 N51 ga
  have Ee := Ed.wr W54
  have M1 := (J1.other W54 (Or.inr (slot_ne (a0 := a0) (Or.inl (hw _ (List.mem_of_getElem? (i := 25) rfl))) (Or.inl (hw _ (List.mem_of_getElem? (i := 30) rfl))) (by decide) (t := (.array .char)) (t' := .char) (by decide) (by decide))))
  have M3 := J3.same W54
  have M4 := (J4.other W54 (Or.inr (slot_ne (a0 := a0) (Or.inl (hw _ (List.mem_of_getElem? (i := 37) rfl))) (Or.inl (hw _ (List.mem_of_getElem? (i := 30) rfl))) (by decide) (t := .char) (t' := .char) (by decide) (by decide))))
  have U4 := U3.other W54 nab.symm
  have K4 := K3.wr W54 (Or.inl (List.mem_of_getElem? (i := 0) rfl))
  obtain ⟨fs, hr, hrun, hended, hW, hsame⟩ := X54.leave (v := none) (fun _ => rfl)
  refine ⟨_, _, g55 _ ?_, hrun, hended, _, _, rfl, ?_, ⟨_, rfl⟩, hW, hsame.mono (by decide) (by decide)⟩
  · exact X54.returnOut hx Bd.returns (hb hby d3_28) hr
  · show Q_rmIni Z a1 p1  h0 n0 _ T54.heap _
    rw [e54]
    exact ⟨rfl, N54, K4, b1, g_b1, Ee, M1, M3, M4, own_congr U4 (fun j _ => rfl), nab⟩
theorem pn_rmAdd : plainName "com/example/bitloom/bitloom/ArrayContainer" = true := by first | (simp [plainName, overriddenIn]; done) | decide +kernel
theorem ef_rmAdd (m : MethodId) (a1 : Addr) (p1 : Int32) : entryFrame m #[(.ref a1), (.int p1)] 4 = mkF m 0 #[rv a1, iv p1, .unset, .unset] [] := by first | (simp [entryFrame, mkF, argsToLocals, Value.category]; done) | rfl
def Q_rmAdd (Z : State) (a1 : Addr) (p1 : Int32) (av : Addr) (n : Nat) (r : Int32) (f : Nat → Int32) (h0 : Heap) (n0 : Nat) (v : Option Value) (h : Heap) (L : List Loc) : Prop := v = some (.ref a1) ∧ Fr n0 L ∧ Keep h0 h [a1, av] ∧ own_K Z h a1 av (n + 2).toInt32 (0 : Int32) 4 (fun j => if j = n + 1 then p1 else f j)
set_option maxRecDepth 65536 in
set_option maxHeartbeats 40000000 in
theorem rmAdd (l : Launch) (Z : State) (a0 : Array Value) (hw : ∀ d ∈ tables_1, d.before a0 Z = true) (ws : List Jvm.Cond) (a1 : Addr) (p1 : Int32) (av : Addr) (n : Nat) (r : Int32) (f : Nat → Int32) (h0 : Heap) (n0 : Nat) (Z0 : n0 ≤ h0.size) (K1 : own_K Z h0 a1 av (n + 1).toInt32 r 4 f) (hn : n < 3) (hp : own_C p1) (hl : f n < p1) (ga : n0 ≤ a1) (gv : n0 ≤ av) :
    MetFree l (⟨"com/example/bitloom/bitloom/ArrayContainer", "add", "(C)Lcom/example/bitloom/bitloom/Container;"⟩ : MethodName) (head1 (Jvm.Cond.code (⟨"com/example/bitloom/bitloom/ArrayContainer", "add", "(C)Lcom/example/bitloom/bitloom/Container;"⟩ : MethodName) prog_3_method_11_code 4 (some (.object "com/example/bitloom/bitloom/Container")) :: ws) ({ frames := 0, cells := 0, slots := 0, locals := 0 } : Room)) (fun a U => a = #[(.ref a1), (.int p1)] ∧ Z.Warmed39 U.vm ∧ U.heap = h0) (fun _ _ _ _ _ => True) (fun _ U o U' => ∃ v L, o = .returned v ∧ Q_rmAdd Z a1 p1 av n r f h0 n0 v U'.heap L ∧ FrameEnd U o U' L ({ frames := 0, cells := 0, slots := 0, locals := 0 } : Room).cells ({ frames := 0, cells := 0, slots := 0, locals := 0 } : Room).slots) := by
  refine MetFree.of_bodySF (plainFor_of_name pn_rmAdd) hisR ?_
  intro p e s m args below meth c s₁ Bd hml0 hP hK
  obtain ⟨rfl, hZ, hh⟩ := hP
  have hx := Bd.exec
  have hby := Bd.bytes
  have hml : c.maxLocals = 4 := hml0
  have hown : s.vm.findClass "com/example/bitloom/bitloom/ArrayContainer" = some m.cls := findClass_of_methodNamed Bd.named
  have hnm := (name_of_methodNamed Bd.named Bd.method).1
  have X0 : Stand p l e ({ frames := 0, cells := 0, slots := 0, locals := 0 } : Room) s m #[(.ref a1), (.int p1)] below meth c s₁ [] 0 0 := Stand.of_body Bd
  have e0 : s₁.heap = h0 := by rw [← hh, Bd.state]; rfl
  have N0 := Fr.nil n0
  have g0 : own_Go p e below s₁ (entryFrame m #[(.ref a1), (.int p1)] 4) s₁ (mkF m 0 #[rv a1, iv p1, .unset, .unset] []) := fun t k => castTop (ef_rmAdd m a1 p1) k
  obtain ⟨E1, F1, F3, F4, U1, nab⟩ := K1
  obtain ⟨cl1, Ar1, S1, V1⟩ := U1
  have hsz : cl1.slots.size.toInt32 = (4 : Int32) := by rw [S1]; rfl
  have hpr := own_pred (j := n) (by omega)
  have g56 : own_Go p e below s₁ (entryFrame m #[(.ref a1), (.int p1)] 4) s₁ (mkF m 1 #[rv a1, iv p1, .unset, .unset] [(.ref a1)]) := by
    intro target kt
    refine g0 target ?_
    refine XS.aloadN X0.here hx rfl (hb hby d6_0) rfl rfl ?_
    show Steps p.tables e below (s₁.setTop (mkF m 1 #[rv a1, iv p1, .unset, .unset] [(.ref a1)])) target
    exact kt
  obtain ⟨T57, X57, e57, st57⟩ := getF X0 hx hZ hown (host := "") (Or.inl (hw _ (List.mem_of_getElem? (i := 24) rfl))) Via.refl e0 F1 (g := (mkF m 1 #[rv a1, iv p1, .unset, .unset] [(.ref a1)])) rfl rfl (hb hby d6_1)
  have g58 : own_Go p e below s₁ (entryFrame m #[(.ref a1), (.int p1)] 4) T57 (mkF m 4 #[rv a1, iv p1, .unset, .unset] [(.ref av)]) := fun target kt => g56 target (st57 target kt)
  have g59 : own_Go p e below s₁ (entryFrame m #[(.ref a1), (.int p1)] 4) T57 (mkF m 6 #[rv a1, iv p1, rv av, .unset] [(.ref a1)]) := by
    intro target kt
    refine g58 target ?_
    refine XS.astoreN X57.here hx rfl (hb hby d6_4) rfl rfl (l' := #[rv a1, iv p1, rv av, .unset]) rfl ?_
    show Steps p.tables e below (T57.setTop (mkF m 5 #[rv a1, iv p1, rv av, .unset] [])) target
    refine XS.aloadN X57.here hx rfl (hb hby d6_5) rfl rfl ?_
    show Steps p.tables e below (T57.setTop (mkF m 6 #[rv a1, iv p1, rv av, .unset] [(.ref a1)])) target
    exact kt
  obtain ⟨T60, X60, e60, st60⟩ := getF X57 hx hZ hown (host := "") (Or.inl (hw _ (List.mem_of_getElem? (i := 28) rfl))) (Via.of (hw _ (List.mem_of_getElem? (i := 29) rfl))) e57 F3 (g := (mkF m 6 #[rv a1, iv p1, rv av, .unset] [(.ref a1)])) rfl rfl (hb hby d6_6)
  have g61 : own_Go p e below s₁ (entryFrame m #[(.ref a1), (.int p1)] 4) T60 (mkF m 9 #[rv a1, iv p1, rv av, .unset] [(.int (n + 1).toInt32)]) := fun target kt => g59 target (st60 target kt)
  have hnt : (n + 1).toInt32.toNatClampNeg = n + 1 := own_tn (by omega)
  have g62 : own_Go p e below s₁ (entryFrame m #[(.ref a1), (.int p1)] 4) T60 (mkF m 34 #[rv a1, iv p1, rv av, iv (n + 1).toInt32] [(.int p1), (.int (n + 1).toInt32), (.ref av)]) := by
    intro target kt
    refine g61 target ?_
    refine XS.istoreN X60.here hx rfl (hb hby d6_9) rfl (l' := #[rv a1, iv p1, rv av, iv (n + 1).toInt32]) rfl ?_
    show Steps p.tables e below (T60.setTop (mkF m 10 #[rv a1, iv p1, rv av, iv (n + 1).toInt32] [])) target
    refine XS.iloadN X60.here hx rfl (hb hby d6_10) rfl ?_
    show Steps p.tables e below (T60.setTop (mkF m 11 #[rv a1, iv p1, rv av, iv (n + 1).toInt32] [(.int (n + 1).toInt32)])) target
    refine XS.aloadN X60.here hx rfl (hb hby d6_11) rfl rfl ?_
    show Steps p.tables e below (T60.setTop (mkF m 12 #[rv a1, iv p1, rv av, iv (n + 1).toInt32] [(.ref av), (.int (n + 1).toInt32)])) target
    refine X60.arraylength hx (cell := cl1) (by rw [e60]; exact Ar1.1) (State.isArrayOf_alike hZ.alike Ar1.2.1) (g := (mkF m 12 #[rv a1, iv p1, rv av, iv (n + 1).toInt32] [(.ref av), (.int (n + 1).toInt32)])) rfl (rest := [(.int (n + 1).toInt32)]) rfl (hb hby d6_12) _ ?_
    rw [hsz]
    show Steps p.tables e below (T60.setTop (mkF m 13 #[rv a1, iv p1, rv av, iv (n + 1).toInt32] [(.int (4 : Int32)), (.int (n + 1).toInt32)])) target
    refine XS.icmpNo X60.here hx rfl (hb hby d6_13) rfl (XT.ii_eq_f (fun q => by have := own_inj (a := n + 1) (b := 4) (by omega) (by omega) q; omega)) ?_
    show Steps p.tables e below (T60.setTop (mkF m 16 #[rv a1, iv p1, rv av, iv (n + 1).toInt32] [])) target
    refine XS.iloadN X60.here hx rfl (hb hby d6_16) rfl ?_
    show Steps p.tables e below (T60.setTop (mkF m 17 #[rv a1, iv p1, rv av, iv (n + 1).toInt32] [(.int p1)])) target
    refine XS.aloadN X60.here hx rfl (hb hby d6_17) rfl rfl ?_
    show Steps p.tables e below (T60.setTop (mkF m 18 #[rv a1, iv p1, rv av, iv (n + 1).toInt32] [(.ref av), (.int p1)])) target
    refine XS.iloadN X60.here hx rfl (hb hby d6_18) rfl ?_
    show Steps p.tables e below (T60.setTop (mkF m 19 #[rv a1, iv p1, rv av, iv (n + 1).toInt32] [(.int (n + 1).toInt32), (.ref av), (.int p1)])) target
    refine XT.iconstV X60.here hx rfl (1 : Int32) (hb hby d6_19) rfl ?_
    show Steps p.tables e below (T60.setTop (mkF m 20 #[rv a1, iv p1, rv av, iv (n + 1).toInt32] [(.int (1 : Int32)), (.int (n + 1).toInt32), (.ref av), (.int p1)])) target
    refine XS.isub X60.here hx rfl (hb hby d6_20) rfl ?_
    show Steps p.tables e below (T60.setTop (mkF m 21 #[rv a1, iv p1, rv av, iv (n + 1).toInt32] [(.int ((n + 1).toInt32 - (1 : Int32))), (.ref av), (.int p1)])) target
    refine X60.caload hx (j := ((n + 1).toInt32 - (1 : Int32))) (v := (.int (f n))) (by rw [e60]; exact Ar1.1) (State.isArrayOf_alike hZ.alike Ar1.2.1) Ar1.2.2 (own_inb S1 hpr.1 hpr.2 (by omega)) (by rw [hpr.1]; exact V1 n (by omega)) (g := (mkF m 21 #[rv a1, iv p1, rv av, iv (n + 1).toInt32] [(.int ((n + 1).toInt32 - (1 : Int32))), (.ref av), (.int p1)])) rfl rfl (hb hby d6_21) _ ?_
    show Steps p.tables e below (T60.setTop (mkF m 22 #[rv a1, iv p1, rv av, iv (n + 1).toInt32] [(.int (f n)), (.int p1)])) target
    refine XS.icmpYes X60.here hx rfl (pc0 := 22) (pc' := 31) rfl (hb hby d6_22) rfl (XT.ii_gt_t hl) (by decide) (by decide) ?_
    show Steps p.tables e below (T60.setTop (mkF m 31 #[rv a1, iv p1, rv av, iv (n + 1).toInt32] [])) target
    refine XS.aloadN X60.here hx rfl (hb hby d6_31) rfl rfl ?_
    show Steps p.tables e below (T60.setTop (mkF m 32 #[rv a1, iv p1, rv av, iv (n + 1).toInt32] [(.ref av)])) target
    refine XS.iloadN X60.here hx rfl (hb hby d6_32) rfl ?_
    show Steps p.tables e below (T60.setTop (mkF m 33 #[rv a1, iv p1, rv av, iv (n + 1).toInt32] [(.int (n + 1).toInt32), (.ref av)])) target
    refine XS.iloadN X60.here hx rfl (hb hby d6_33) rfl ?_
    show Steps p.tables e below (T60.setTop (mkF m 34 #[rv a1, iv p1, rv av, iv (n + 1).toInt32] [(.int p1), (.int (n + 1).toInt32), (.ref av)])) target
    exact kt
  obtain ⟨T63, h63, X63, e63, W63, st63⟩ := stC X60 hx hZ e60 Ar1 (j := (n + 1).toInt32) (own_inb S1 hnt (own_nn (by omega)) (by omega)) (g := (mkF m 34 #[rv a1, iv p1, rv av, iv (n + 1).toInt32] [(.int p1), (.int (n + 1).toInt32), (.ref av)])) rfl rfl (hb hby d6_34)
  have g64 : own_Go p e below s₁ (entryFrame m #[(.ref a1), (.int p1)] 4) T63 (mkF m 35 #[rv a1, iv p1, rv av, iv (n + 1).toInt32] []) := fun target kt => g62 target (st63 target kt)
  have N63 := Fr.snoc X63 N0 gv
  have Z63 : n0 ≤ h63.size := Nat.le_trans Z0 (Keep.of_wr W63).1
  rw [own_narc hp, hnt] at W63
  have U2 := own_setC Ar1 S1 V1 W63 (by omega)
  have E2 := E1.wr W63
  have G1 := F1.other W63 (Or.inl nab)
  have G3 := F3.other W63 (Or.inl nab)
  have G4 := F4.other W63 (Or.inl nab)
  have K2 : Keep h0 h63 [a1, av] := (Keep.refl h0 _).wr W63 (Or.inl (List.mem_of_getElem? (i := 1) rfl))
  have g65 : own_Go p e below s₁ (entryFrame m #[(.ref a1), (.int p1)] 4) T63 (mkF m 40 #[rv a1, iv p1, rv av, iv (n + 1).toInt32] [(.int (((n + 1).toInt32 + (1 : Int32)).toUInt32.toUInt16.toUInt32.toInt32)), (.ref a1)]) := by
    intro target kt
    refine g64 target ?_
    refine XS.aloadN X63.here hx rfl (hb hby d6_35) rfl rfl ?_
    show Steps p.tables e below (T63.setTop (mkF m 36 #[rv a1, iv p1, rv av, iv (n + 1).toInt32] [(.ref a1)])) target
    refine XS.iloadN X63.here hx rfl (hb hby d6_36) rfl ?_
    show Steps p.tables e below (T63.setTop (mkF m 37 #[rv a1, iv p1, rv av, iv (n + 1).toInt32] [(.int (n + 1).toInt32), (.ref a1)])) target
    refine XT.iconstV X63.here hx rfl (1 : Int32) (hb hby d6_37) rfl ?_
    show Steps p.tables e below (T63.setTop (mkF m 38 #[rv a1, iv p1, rv av, iv (n + 1).toInt32] [(.int (1 : Int32)), (.int (n + 1).toInt32), (.ref a1)])) target
    refine XS.iadd X63.here hx rfl (hb hby d6_38) rfl ?_
    show Steps p.tables e below (T63.setTop (mkF m 39 #[rv a1, iv p1, rv av, iv (n + 1).toInt32] [(.int ((n + 1).toInt32 + (1 : Int32))), (.ref a1)])) target
    refine XT.i2c X63.here hx rfl (hb hby d6_39) rfl ?_
    show Steps p.tables e below (T63.setTop (mkF m 40 #[rv a1, iv p1, rv av, iv (n + 1).toInt32] [(.int (((n + 1).toInt32 + (1 : Int32)).toUInt32.toUInt16.toUInt32.toInt32)), (.ref a1)])) target
    exact kt
  have hc2 : ((n + 1).toInt32 + (1 : Int32)).toUInt32.toUInt16.toUInt32.toInt32 = (n + 2).toInt32 := by rw [own_one]; exact own_i2c (own_small (by omega))
  rw [hc2] at g65
  obtain ⟨T66, h66, X66, e66, W66, st66⟩ := putFN X63 hx hZ hown (hw _ (List.mem_of_getElem? (i := 28) rfl)) (Via.of (hw _ (List.mem_of_getElem? (i := 29) rfl))) e63 G3 E2 (Or.inl (hw _ (List.mem_of_getElem? (i := 30) rfl))) (hw _ (List.mem_of_getElem? (i := 10) rfl)) (ty := .char) (v := (.int (n + 2).toInt32)) (v' := (.int (n + 2).toInt32)) (by decide) (congrArg Value.int (own_narc (own_small (n := n + 2) (by omega)))) (own_fitc (own_small (n := n + 2) (by omega))) (g := (mkF m 40 #[rv a1, iv p1, rv av, iv (n + 1).toInt32] [(.int (n + 2).toInt32), (.ref a1)])) rfl rfl (hb hby d6_40)
  have g67 : own_Go p e below s₁ (entryFrame m #[(.ref a1), (.int p1)] 4) T66 (mkF m 43 #[rv a1, iv p1, rv av, iv (n + 1).toInt32] []) := fun target kt => g65 target (st66 target kt)
  have N66 := Fr.snoc X66 N63 ga
  have E3 := E2.wr W66
  have H1 := (G1.other W66 (Or.inr (slot_ne (a0 := a0) (Or.inl (hw _ (List.mem_of_getElem? (i := 25) rfl))) (Or.inl (hw _ (List.mem_of_getElem? (i := 30) rfl))) (by decide) (t := (.array .char)) (t' := .char) (by decide) (by decide))))
  have H3 := G3.same W66
  have H4 := (G4.other W66 (Or.inr (slot_ne (a0 := a0) (Or.inl (hw _ (List.mem_of_getElem? (i := 37) rfl))) (Or.inl (hw _ (List.mem_of_getElem? (i := 30) rfl))) (by decide) (t := .char) (t' := .char) (by decide) (by decide))))
  have U3 := U2.other W66 nab.symm
  have K3 := K2.wr W66 (Or.inl (List.mem_of_getElem? (i := 0) rfl))
  have g68 : own_Go p e below s₁ (entryFrame m #[(.ref a1), (.int p1)] 4) T66 (mkF m 45 #[rv a1, iv p1, rv av, iv (n + 1).toInt32] [(.int (0 : Int32)), (.ref a1)]) := by
    intro target kt
    refine g67 target ?_
    refine XS.aloadN X66.here hx rfl (hb hby d6_43) rfl rfl ?_
    show Steps p.tables e below (T66.setTop (mkF m 44 #[rv a1, iv p1, rv av, iv (n + 1).toInt32] [(.ref a1)])) target
    refine XT.iconstV X66.here hx rfl (0 : Int32) (hb hby d6_44) rfl ?_
    show Steps p.tables e below (T66.setTop (mkF m 45 #[rv a1, iv p1, rv av, iv (n + 1).toInt32] [(.int (0 : Int32)), (.ref a1)])) target
    exact kt
  obtain ⟨T69, h69, X69, e69, W69, st69⟩ := putFN X66 hx hZ hown (hw _ (List.mem_of_getElem? (i := 36) rfl)) Via.refl e66 H4 E3 (Or.inl (hw _ (List.mem_of_getElem? (i := 37) rfl))) (hw _ (List.mem_of_getElem? (i := 10) rfl)) (ty := .char) (v := (.int (0 : Int32))) (v' := (.int (nar .char (0 : Int32)))) (by decide) rfl (fits_nar_char _) (g := (mkF m 45 #[rv a1, iv p1, rv av, iv (n + 1).toInt32] [(.int (0 : Int32)), (.ref a1)])) rfl rfl (hb hby d6_45)
  have g70 : own_Go p e below s₁ (entryFrame m #[(.ref a1), (.int p1)] 4) T69 (mkF m 48 #[rv a1, iv p1, rv av, iv (n + 1).toInt32] []) := fun target kt => g68 target (st69 target kt)
  have N69 := Fr.snoc X69 N66 ga
  have E4 := E3.wr W69
  have J1 := (H1.other W69 (Or.inr (slot_ne (a0 := a0) (Or.inl (hw _ (List.mem_of_getElem? (i := 25) rfl))) (Or.inl (hw _ (List.mem_of_getElem? (i := 37) rfl))) (by decide) (t := (.array .char)) (t' := .char) (by decide) (by decide))))
  have J3 := (H3.other W69 (Or.inr (slot_ne (a0 := a0) (Or.inl (hw _ (List.mem_of_getElem? (i := 30) rfl))) (Or.inl (hw _ (List.mem_of_getElem? (i := 37) rfl))) (by decide) (t := .char) (t' := .char) (by decide) (by decide))))
  have J4 := H4.same W69
  have U4 := U3.other W69 nab.symm
  have K4 := K3.wr W69 (Or.inl (List.mem_of_getElem? (i := 0) rfl))
  have g71 : own_Go p e below s₁ (entryFrame m #[(.ref a1), (.int p1)] 4) T69 (mkF m 49 #[rv a1, iv p1, rv av, iv (n + 1).toInt32] [(.ref a1)]) := by
    intro target kt
    refine g70 target ?_
    refine XS.aloadN X69.here hx rfl (hb hby d6_48) rfl rfl ?_
    show Steps p.tables e below (T69.setTop (mkF m 49 #[rv a1, iv p1, rv av, iv (n + 1).toInt32] [(.ref a1)])) target
    exact kt
  obtain ⟨fs, hr, hrun, hended, hW, hsame⟩ := X69.leave (v := some (.ref a1)) (fun h => by rw [Bd.returns] at h; cases h)
  refine ⟨_, _, g71 _ ?_, hrun, hended, _, _, rfl, ?_, ⟨_, rfl⟩, hW, hsame.mono (by decide) (by decide)⟩
  · exact retOut X69 hx Bd.returns rfl (Or.inr (Or.inr (Or.inr (Or.inr ⟨rfl, rfl, rfl⟩)))) (hb hby d6_49) hr
  · show Q_rmAdd Z a1 p1 av n r f h0 n0 _ T69.heap _
    rw [e69]
    exact ⟨rfl, N69, K4, E4, J1, J3, J4, U4, nab⟩
theorem pn_rmCopy : plainName "java/util/Arrays" = true := by first | (simp [plainName, overriddenIn]; done) | decide +kernel
theorem ef_rmCopy (m : MethodId) (a1 : Addr) (p1 : Int32) : entryFrame m #[(.ref a1), (.int p1)] 3 = mkF m 0 #[rv a1, iv p1, .unset] [] := by first | (simp [entryFrame, mkF, argsToLocals, Value.category]; done) | rfl
def Q_rmCopy (Z : State) (a1 : Addr) (p1 : Int32) (f : Nat → Int32) (h0 : Heap) (n0 : Nat) (v : Option Value) (h : Heap) (L : List Loc) : Prop := ∃ b : Addr, v = some (.ref b) ∧ Fr n0 L ∧ Keep h0 h [] ∧ h0.size ≤ b ∧ n0 ≤ b ∧ own_Ar Z h b .char 8 (fun j => .int (own_g8 f j))
set_option maxRecDepth 65536 in
set_option maxHeartbeats 40000000 in
theorem rmCopy (l : Launch) (Z : State) (a0 : Array Value) (hw : ∀ d ∈ tables_1, d.before a0 Z = true) (ws : List Jvm.Cond) (a1 : Addr) (p1 : Int32) (f : Nat → Int32) (h0 : Heap) (n0 : Nat) (Z0 : n0 ≤ h0.size) (V1 : own_Ar Z h0 a1 .char 4 (fun j => .int (f j))) (hf : ∀ j, j < 4 → own_C (f j)) (hp : p1 = (8 : Int32)) :
    MetFree l (⟨"java/util/Arrays", "copyOf", "([CI)[C"⟩ : MethodName) (head1 (Jvm.Cond.code (⟨"java/util/Arrays", "copyOf", "([CI)[C"⟩ : MethodName) jdk_65_method_125_code 3 (some (.array .char)) :: ws) ({ frames := 1, cells := 1, slots := 8, locals := 40 } : Room)) (fun a U => a = #[(.ref a1), (.int p1)] ∧ Z.Warmed39 U.vm ∧ U.heap = h0) (fun _ _ _ _ _ => True) (fun _ U o U' => ∃ v L, o = .returned v ∧ Q_rmCopy Z a1 p1 f h0 n0 v U'.heap L ∧ FrameEnd U o U' L ({ frames := 1, cells := 1, slots := 8, locals := 40 } : Room).cells ({ frames := 1, cells := 1, slots := 8, locals := 40 } : Room).slots) := by
  refine MetFree.of_bodySF (plainFor_of_name pn_rmCopy) hisR ?_
  intro p e s m args below meth c s₁ Bd hml0 hP hK
  obtain ⟨rfl, hZ, hh⟩ := hP
  have hx := Bd.exec
  have hby := Bd.bytes
  have hml : c.maxLocals = 3 := hml0
  have hown : s.vm.findClass "java/util/Arrays" = some m.cls := findClass_of_methodNamed Bd.named
  have hnm := (name_of_methodNamed Bd.named Bd.method).1
  have X0 : Stand p l e ({ frames := 1, cells := 1, slots := 8, locals := 40 } : Room) s m #[(.ref a1), (.int p1)] below meth c s₁ [] 0 0 := Stand.of_body Bd
  have e0 : s₁.heap = h0 := by rw [← hh, Bd.state]; rfl
  have N0 := Fr.nil n0
  have g0 : own_Go p e below s₁ (entryFrame m #[(.ref a1), (.int p1)] 3) s₁ (mkF m 0 #[rv a1, iv p1, .unset] []) := fun t k => castTop (ef_rmCopy m a1 p1) k
  obtain ⟨cl1, Ar1, S1, H1⟩ := id V1
  have hsz : cl1.slots.size.toInt32 = (4 : Int32) := by rw [S1]; rfl
  have g72 : own_Go p e below s₁ (entryFrame m #[(.ref a1), (.int p1)] 3) s₁ (mkF m 15 #[rv a1, iv p1, .unset] [(.int p1)]) := by
    intro target kt
    refine g0 target ?_
    refine XS.iloadN X0.here hx rfl (hb hby d14_0) rfl ?_
    show Steps p.tables e below (s₁.setTop (mkF m 1 #[rv a1, iv p1, .unset] [(.int p1)])) target
    refine XS.aloadN X0.here hx rfl (hb hby d14_1) rfl rfl ?_
    show Steps p.tables e below (s₁.setTop (mkF m 2 #[rv a1, iv p1, .unset] [(.ref a1), (.int p1)])) target
    refine X0.arraylength hx (cell := cl1) (by rw [e0]; exact Ar1.1) (State.isArrayOf_alike hZ.alike Ar1.2.1) (g := (mkF m 2 #[rv a1, iv p1, .unset] [(.ref a1), (.int p1)])) rfl (rest := [(.int p1)]) rfl (hb hby d14_2) _ ?_
    rw [hsz]
    show Steps p.tables e below (s₁.setTop (mkF m 3 #[rv a1, iv p1, .unset] [(.int (4 : Int32)), (.int p1)])) target
    refine XS.icmpYes X0.here hx rfl (pc0 := 3) (pc' := 14) rfl (hb hby d14_3) rfl (XT.ii_ne_t (by rw [hp]; decide)) (by decide) (by decide) ?_
    show Steps p.tables e below (s₁.setTop (mkF m 14 #[rv a1, iv p1, .unset] [])) target
    refine XS.iloadN X0.here hx rfl (hb hby d14_14) rfl ?_
    show Steps p.tables e below (s₁.setTop (mkF m 15 #[rv a1, iv p1, .unset] [(.int p1)])) target
    exact kt
  obtain ⟨T73, h73, k73, X73, e73, E73, A73, st73⟩ := newP X0 hx hZ (hw _ (List.mem_of_getElem? (i := 23) rfl)) e0 (g := (mkF m 15 #[rv a1, iv p1, .unset] [(.int p1)])) rfl (hb hby d14_15) rfl (by rw [hp]; decide) (cap := 8) (by rw [hp]; decide) (by decide) (by decide) (by decide)
  obtain ⟨b1, ga73⟩ : ∃ z, z = h0.size := ⟨_, rfl⟩
  rw [← ga73] at A73 st73
  have Z73 : n0 ≤ h73.size := Nat.le_trans Z0 E73.1
  have g_b1 : n0 ≤ b1 := Nat.le_trans Z0 (Nat.le_of_eq ga73.symm)
  have g74 : own_Go p e below s₁ (entryFrame m #[(.ref a1), (.int p1)] 3) T73 (mkF m 17 #[rv a1, iv p1, .unset] [(.ref b1)]) := fun target kt => g72 target (st73 target kt)
  have Ar2 := Ar1.ext E73
  obtain ⟨ka, VA⟩ := own_arv (z := (4 : Int32)) (V1.ext E73) (by decide) (by decide) hf
  have VB : Arv Z h73 b1 k73 .char p1 (List.replicate 8 (.int (0 : Int32))) (.int (0 : Int32)) := (Arv.new A73 (by rw [hp]; decide)).pad (pad_rep [] (.int (0 : Int32)) 8)
  have sb : h0.size ≤ b1 := Nat.le_of_eq ga73.symm
  have g75 : own_Go p e below s₁ (entryFrame m #[(.ref a1), (.int p1)] 3) T73 (mkF m 25 #[rv a1, iv p1, rv b1] [(.int p1), (.int (4 : Int32)), (.int (0 : Int32)), (.ref b1), (.int (0 : Int32)), (.ref a1)]) := by
    intro target kt
    refine g74 target ?_
    refine XS.astoreN X73.here hx rfl (hb hby d14_17) rfl rfl (l' := #[rv a1, iv p1, rv b1]) rfl ?_
    show Steps p.tables e below (T73.setTop (mkF m 18 #[rv a1, iv p1, rv b1] [])) target
    refine XS.aloadN X73.here hx rfl (hb hby d14_18) rfl rfl ?_
    show Steps p.tables e below (T73.setTop (mkF m 19 #[rv a1, iv p1, rv b1] [(.ref a1)])) target
    refine XT.iconstV X73.here hx rfl (0 : Int32) (hb hby d14_19) rfl ?_
    show Steps p.tables e below (T73.setTop (mkF m 20 #[rv a1, iv p1, rv b1] [(.int (0 : Int32)), (.ref a1)])) target
    refine XS.aloadN X73.here hx rfl (hb hby d14_20) rfl rfl ?_
    show Steps p.tables e below (T73.setTop (mkF m 21 #[rv a1, iv p1, rv b1] [(.ref b1), (.int (0 : Int32)), (.ref a1)])) target
    refine XT.iconstV X73.here hx rfl (0 : Int32) (hb hby d14_21) rfl ?_
    show Steps p.tables e below (T73.setTop (mkF m 22 #[rv a1, iv p1, rv b1] [(.int (0 : Int32)), (.ref b1), (.int (0 : Int32)), (.ref a1)])) target
    refine XS.aloadN X73.here hx rfl (hb hby d14_22) rfl rfl ?_
    show Steps p.tables e below (T73.setTop (mkF m 23 #[rv a1, iv p1, rv b1] [(.ref a1), (.int (0 : Int32)), (.ref b1), (.int (0 : Int32)), (.ref a1)])) target
    refine X73.arraylength hx (cell := cl1) (by rw [e73]; exact Ar2.1) (State.isArrayOf_alike hZ.alike Ar2.2.1) (g := (mkF m 23 #[rv a1, iv p1, rv b1] [(.ref a1), (.int (0 : Int32)), (.ref b1), (.int (0 : Int32)), (.ref a1)])) rfl (rest := [(.int (0 : Int32)), (.ref b1), (.int (0 : Int32)), (.ref a1)]) rfl (hb hby d14_23) _ ?_
    rw [hsz]
    show Steps p.tables e below (T73.setTop (mkF m 24 #[rv a1, iv p1, rv b1] [(.int (4 : Int32)), (.int (0 : Int32)), (.ref b1), (.int (0 : Int32)), (.ref a1)])) target
    refine XS.iloadN X73.here hx rfl (hb hby d14_24) rfl ?_
    show Steps p.tables e below (T73.setTop (mkF m 25 #[rv a1, iv p1, rv b1] [(.int p1), (.int (4 : Int32)), (.int (0 : Int32)), (.ref b1), (.int (0 : Int32)), (.ref a1)])) target
    exact kt
  obtain ⟨_, _, ⟨T76, L76, k76, n76⟩, -, X76, ⟨Lc76, hQ76, l76, y76, z76⟩, st76⟩ := Jvm.LawKit.callS X73 hx (y := (⟨"java/lang/Math", "min", "(II)I"⟩ : MethodName)) hown (mvT hZ (hw _ (List.mem_of_getElem? (i := 69) rfl))) (mvT hZ (hw _ (List.mem_of_getElem? (i := 6) rfl))) (mvT hZ (hw _ (List.mem_of_getElem? (i := 7) rfl))) (mvT hZ (hw _ (List.mem_of_getElem? (i := 8) rfl))) (by decide) (backOf (W := 4) (rmMin l Z a0 hw [] (4 : Int32) p1 h73 n0 Z73) hZ (hw _ (List.mem_of_getElem? (i := 8) rfl)) (hw _ (List.mem_of_getElem? (i := 7) rfl)) (by decide) (by decide)) (g := (mkF m 25 #[rv a1, iv p1, rv b1] [(.int p1), (.int (4 : Int32)), (.int (0 : Int32)), (.ref b1), (.int (0 : Int32)), (.ref a1)])) rfl (by rw [hml]; rfl) (argsL := [(.int (4 : Int32)), (.int p1)]) (rest := [(.int (0 : Int32)), (.ref b1), (.int (0 : Int32)), (.ref a1)]) (lenOf pd_0 rfl) rfl (by show 2 * 0 + _ ≤ _; exact Nat.le_of_eq rfl) (hb hby d14_25) (fun _ _ => ⟨rfl, e73, (by decide : 1 + 0 ≤ _), (by decide : 8 + 0 ≤ _)⟩)
  dsimp only [Pt.U, Pt.locs, Pt.cells, Pt.slots] at X76 l76 y76 z76 st76 hQ76
  subst l76 y76 z76
  obtain ⟨rfl, Nq76, eq76⟩ := hQ76
  have N76 := Fr.app N0 Nq76
  have g77 : own_Go p e below s₁ (entryFrame m #[(.ref a1), (.int p1)] 3) T76 (mkF m 28 #[rv a1, iv p1, rv b1] [(.int (if p1 < (4 : Int32) then p1 else (4 : Int32))), (.int (0 : Int32)), (.ref b1), (.int (0 : Int32)), (.ref a1)]) := fun target kt => g75 target (st76 target kt)
  have h4 : (if p1 < (4 : Int32) then p1 else (4 : Int32)) = (4 : Int32) := by rw [hp]; decide
  rw [h4] at g77
  obtain ⟨T78, h78, L78, X78, e78, N78, K78, V78, st78⟩ := cpA X76 hx hZ hown (hw _ (List.mem_of_getElem? (i := 70) rfl)) (hw _ (List.mem_of_getElem? (i := 73) rfl)) (hw _ (List.mem_of_getElem? (i := 71) rfl)) (hw _ (List.mem_of_getElem? (i := 72) rfl)) eq76 VA VB (Or.inl ⟨rfl, rfl⟩) (by decide) (by decide) (by decide) (by decide) (by rw [hp]; decide) rfl (by decide) N76 g_b1 (g := (mkF m 28 #[rv a1, iv p1, rv b1] [(.int (4 : Int32)), (.int (0 : Int32)), (.ref b1), (.int (0 : Int32)), (.ref a1)])) rfl (by rw [hml]; rfl) rfl (hb hby d14_28) (by decide) (W := 0) (by show 2 * 0 + _ ≤ _; exact Nat.le_of_eq rfl) (by decide)
  have g79 : own_Go p e below s₁ (entryFrame m #[(.ref a1), (.int p1)] 3) T78 (mkF m 31 #[rv a1, iv p1, rv b1] []) := fun target kt => g77 target (st78 target kt)
  have VC : own_Ar Z h78 b1 .char 8 (fun j => .int (own_g8 f j)) := own_ofarv V78 (by rw [hp]; decide) (by
    intro j hj
    obtain h | h | h | h | h | h | h | h : j = 0 ∨ j = 1 ∨ j = 2 ∨ j = 3 ∨ j = 4 ∨ j = 5 ∨ j = 6 ∨ j = 7 := by omega
    all_goals (subst h; rfl))
  have g80 : own_Go p e below s₁ (entryFrame m #[(.ref a1), (.int p1)] 3) T78 (mkF m 32 #[rv a1, iv p1, rv b1] [(.ref b1)]) := by
    intro target kt
    refine g79 target ?_
    refine XS.aloadN X78.here hx rfl (hb hby d14_31) rfl rfl ?_
    show Steps p.tables e below (T78.setTop (mkF m 32 #[rv a1, iv p1, rv b1] [(.ref b1)])) target
    exact kt
  obtain ⟨fs, hr, hrun, hended, hW, hsame⟩ := X78.leave (v := some (.ref b1)) (fun h => by rw [Bd.returns] at h; cases h)
  refine ⟨_, _, g80 _ ?_, hrun, hended, _, _, rfl, ?_, ⟨_, rfl⟩, hW, hsame.mono (by decide) (by decide)⟩
  · exact retOut X78 hx Bd.returns rfl (Or.inr (Or.inr (Or.inr (Or.inr ⟨rfl, rfl, rfl⟩)))) (hb hby d14_32) hr
  · show Q_rmCopy Z a1 p1 f h0 n0 _ T78.heap _
    rw [e78]
    exact ⟨b1, rfl, N78, (((Keep.refl h0 []).ext E73).trans K78 (allS (Or.inr sb) all0)), sb, g_b1, VC⟩
theorem pn_rmRes : plainName "com/example/bitloom/bitloom/ArrayContainer" = true := by first | (simp [plainName, overriddenIn]; done) | decide +kernel
theorem ef_rmRes (m : MethodId) (a1 : Addr) (p1 : Int32) : entryFrame m #[(.ref a1), (.int p1)] 2 = mkF m 0 #[rv a1, iv p1] [] := by first | (simp [entryFrame, mkF, argsToLocals, Value.category]; done) | rfl
def Q_rmRes (Z : State) (a1 : Addr) (p1 : Int32) (av : Addr) (n r : Int32) (f : Nat → Int32) (h0 : Heap) (n0 : Nat) (v : Option Value) (h : Heap) (L : List Loc) : Prop := v = none ∧ Fr n0 L ∧ Keep h0 h [a1] ∧ ∃ av' : Addr, n0 ≤ av' ∧ h0.size ≤ av' ∧ own_K Z h a1 av' n r 8 (own_g8 f)
set_option maxRecDepth 65536 in
set_option maxHeartbeats 40000000 in
theorem rmRes (l : Launch) (Z : State) (a0 : Array Value) (hw : ∀ d ∈ tables_1, d.before a0 Z = true) (ws : List Jvm.Cond) (a1 : Addr) (p1 : Int32) (av : Addr) (n r : Int32) (f : Nat → Int32) (h0 : Heap) (n0 : Nat) (Z0 : n0 ≤ h0.size) (K1 : own_K Z h0 a1 av n r 4 f) (hf : ∀ j, j < 4 → own_C (f j)) (hp : p1 = (8 : Int32)) (ga : n0 ≤ a1) :
    MetFree l (⟨"com/example/bitloom/bitloom/ArrayContainer", "resize", "(I)V"⟩ : MethodName) (head1 (Jvm.Cond.code (⟨"com/example/bitloom/bitloom/ArrayContainer", "resize", "(I)V"⟩ : MethodName) prog_3_method_17_code 2 none :: ws) ({ frames := 2, cells := 1, slots := 8, locals := 56 } : Room)) (fun a U => a = #[(.ref a1), (.int p1)] ∧ Z.Warmed39 U.vm ∧ U.heap = h0) (fun _ _ _ _ _ => True) (fun _ U o U' => ∃ v L, o = .returned v ∧ Q_rmRes Z a1 p1 av n r f h0 n0 v U'.heap L ∧ FrameEnd U o U' L ({ frames := 2, cells := 1, slots := 8, locals := 56 } : Room).cells ({ frames := 2, cells := 1, slots := 8, locals := 56 } : Room).slots) := by
  refine MetFree.of_bodySF (plainFor_of_name pn_rmRes) hisR ?_
  intro p e s m args below meth c s₁ Bd hml0 hP hK
  obtain ⟨rfl, hZ, hh⟩ := hP
  have hx := Bd.exec
  have hby := Bd.bytes
  have hml : c.maxLocals = 2 := hml0
  have hown : s.vm.findClass "com/example/bitloom/bitloom/ArrayContainer" = some m.cls := findClass_of_methodNamed Bd.named
  have hnm := (name_of_methodNamed Bd.named Bd.method).1
  have X0 : Stand p l e ({ frames := 2, cells := 1, slots := 8, locals := 56 } : Room) s m #[(.ref a1), (.int p1)] below meth c s₁ [] 0 0 := Stand.of_body Bd
  have e0 : s₁.heap = h0 := by rw [← hh, Bd.state]; rfl
  have N0 := Fr.nil n0
  have g0 : own_Go p e below s₁ (entryFrame m #[(.ref a1), (.int p1)] 2) s₁ (mkF m 0 #[rv a1, iv p1] []) := fun t k => castTop (ef_rmRes m a1 p1) k
  obtain ⟨E1, F1, F3, F4, U1, nab⟩ := K1
  obtain ⟨cl1, Ar1, S1, V1⟩ := id U1
  have hsz : cl1.slots.size.toInt32 = (4 : Int32) := by rw [S1]; rfl
  have g81 : own_Go p e below s₁ (entryFrame m #[(.ref a1), (.int p1)] 2) s₁ (mkF m 2 #[rv a1, iv p1] [(.ref a1), (.int p1)]) := by
    intro target kt
    refine g0 target ?_
    refine XS.iloadN X0.here hx rfl (hb hby d13_0) rfl ?_
    show Steps p.tables e below (s₁.setTop (mkF m 1 #[rv a1, iv p1] [(.int p1)])) target
    refine XS.aloadN X0.here hx rfl (hb hby d13_1) rfl rfl ?_
    show Steps p.tables e below (s₁.setTop (mkF m 2 #[rv a1, iv p1] [(.ref a1), (.int p1)])) target
    exact kt
  obtain ⟨T82, X82, e82, st82⟩ := getF X0 hx hZ hown (host := "") (Or.inl (hw _ (List.mem_of_getElem? (i := 24) rfl))) Via.refl e0 F1 (g := (mkF m 2 #[rv a1, iv p1] [(.ref a1), (.int p1)])) rfl rfl (hb hby d13_2)
  have g83 : own_Go p e below s₁ (entryFrame m #[(.ref a1), (.int p1)] 2) T82 (mkF m 5 #[rv a1, iv p1] [(.ref av), (.int p1)]) := fun target kt => g81 target (st82 target kt)
  have g84 : own_Go p e below s₁ (entryFrame m #[(.ref a1), (.int p1)] 2) T82 (mkF m 11 #[rv a1, iv p1] [(.ref a1), (.ref a1)]) := by
    intro target kt
    refine g83 target ?_
    refine X82.arraylength hx (cell := cl1) (by rw [e82]; exact Ar1.1) (State.isArrayOf_alike hZ.alike Ar1.2.1) (g := (mkF m 5 #[rv a1, iv p1] [(.ref av), (.int p1)])) rfl (rest := [(.int p1)]) rfl (hb hby d13_5) _ ?_
    rw [hsz]
    show Steps p.tables e below (T82.setTop (mkF m 6 #[rv a1, iv p1] [(.int (4 : Int32)), (.int p1)])) target
    refine XS.icmpNo X82.here hx rfl (hb hby d13_6) rfl (XT.ii_eq_f (by rw [hp]; decide)) ?_
    show Steps p.tables e below (T82.setTop (mkF m 9 #[rv a1, iv p1] [])) target
    refine XS.aloadN X82.here hx rfl (hb hby d13_9) rfl rfl ?_
    show Steps p.tables e below (T82.setTop (mkF m 10 #[rv a1, iv p1] [(.ref a1)])) target
    refine XS.aloadN X82.here hx rfl (hb hby d13_10) rfl rfl ?_
    show Steps p.tables e below (T82.setTop (mkF m 11 #[rv a1, iv p1] [(.ref a1), (.ref a1)])) target
    exact kt
  obtain ⟨T85, X85, e85, st85⟩ := getF X82 hx hZ hown (host := "") (Or.inl (hw _ (List.mem_of_getElem? (i := 24) rfl))) Via.refl e82 F1 (g := (mkF m 11 #[rv a1, iv p1] [(.ref a1), (.ref a1)])) rfl rfl (hb hby d13_11)
  have g86 : own_Go p e below s₁ (entryFrame m #[(.ref a1), (.int p1)] 2) T85 (mkF m 14 #[rv a1, iv p1] [(.ref av), (.ref a1)]) := fun target kt => g84 target (st85 target kt)
  have g87 : own_Go p e below s₁ (entryFrame m #[(.ref a1), (.int p1)] 2) T85 (mkF m 15 #[rv a1, iv p1] [(.int p1), (.ref av), (.ref a1)]) := by
    intro target kt
    refine g86 target ?_
    refine XS.iloadN X85.here hx rfl (hb hby d13_14) rfl ?_
    show Steps p.tables e below (T85.setTop (mkF m 15 #[rv a1, iv p1] [(.int p1), (.ref av), (.ref a1)])) target
    exact kt
  obtain ⟨_, _, ⟨T88, L88, k88, n88⟩, -, X88, ⟨Lc88, hQ88, l88, y88, z88⟩, st88⟩ := Jvm.LawKit.callS X85 hx (y := (⟨"java/util/Arrays", "copyOf", "([CI)[C"⟩ : MethodName)) hown (mvT hZ (hw _ (List.mem_of_getElem? (i := 65) rfl))) (mvT hZ (hw _ (List.mem_of_getElem? (i := 66) rfl))) (mvT hZ (hw _ (List.mem_of_getElem? (i := 67) rfl))) (mvT hZ (hw _ (List.mem_of_getElem? (i := 68) rfl))) (by decide) (backOf (W := 1) (rmCopy l Z a0 hw [] av p1 f h0 n0 Z0 U1 hf hp) hZ (hw _ (List.mem_of_getElem? (i := 68) rfl)) (hw _ (List.mem_of_getElem? (i := 67) rfl)) (by decide) (by decide)) (g := (mkF m 15 #[rv a1, iv p1] [(.int p1), (.ref av), (.ref a1)])) rfl (by rw [hml]; rfl) (argsL := [(.ref av), (.int p1)]) (rest := [(.ref a1)]) (lenOf pd_2 rfl) rfl (by show 2 * 0 + _ ≤ _; exact Nat.le_of_eq rfl) (hb hby d13_15) (fun _ _ => ⟨rfl, e85, (by decide : 0 + 1 ≤ _), (by decide : 0 + 8 ≤ _)⟩)
  dsimp only [Pt.U, Pt.locs, Pt.cells, Pt.slots] at X88 l88 y88 z88 st88 hQ88
  subst l88 y88 z88
  obtain ⟨bb, rfl, Nq88, K88, sb, gb, VC⟩ := hQ88
  have N88 := Fr.app N0 Nq88
  have g89 : own_Go p e below s₁ (entryFrame m #[(.ref a1), (.int p1)] 2) T88 (mkF m 18 #[rv a1, iv p1] [(.ref bb), (.ref a1)]) := fun target kt => g87 target (st88 target kt)
  have nbb : a1 ≠ bb := Nat.ne_of_lt (Nat.lt_of_lt_of_le E1.lt sb)
  have E2 := E1.keep K88
  have G1 := F1.keep K88 nin0
  have G3 := F3.keep K88 nin0
  have G4 := F4.keep K88 nin0
  obtain ⟨T90, h90, X90, e90, W90, st90⟩ := putF X88 hx hZ hown (host := "") (Or.inl (hw _ (List.mem_of_getElem? (i := 24) rfl))) Via.refl rfl G1 E2 (Or.inl (hw _ (List.mem_of_getElem? (i := 25) rfl))) (hw _ (List.mem_of_getElem? (i := 10) rfl)) (ty := (.array .char)) (by decide) rfl rfl (g := (mkF m 18 #[rv a1, iv p1] [(.ref bb), (.ref a1)])) rfl rfl (hb hby d13_18)
  have g91 : own_Go p e below s₁ (entryFrame m #[(.ref a1), (.int p1)] 2) T90 (mkF m 21 #[rv a1, iv p1] []) := fun target kt => g89 target (st90 target kt)
  have N90 := Fr.snoc X90 N88 ga
  have E3 := E2.wr W90
  have H1 := G1.same W90
  have H3 := (G3.other W90 (Or.inr (slot_ne (a0 := a0) (Or.inl (hw _ (List.mem_of_getElem? (i := 30) rfl))) (Or.inl (hw _ (List.mem_of_getElem? (i := 25) rfl))) (by decide) (t := .char) (t' := (.array .char)) (by decide) (by decide))))
  have H4 := (G4.other W90 (Or.inr (slot_ne (a0 := a0) (Or.inl (hw _ (List.mem_of_getElem? (i := 37) rfl))) (Or.inl (hw _ (List.mem_of_getElem? (i := 25) rfl))) (by decide) (t := .char) (t' := (.array .char)) (by decide) (by decide))))
  have VD := VC.other W90 nbb.symm
  have K3 : Keep h0 h90 [a1] := ((Keep.refl h0 [a1]).trans K88 all0).wr W90 (Or.inl (List.mem_of_getElem? (i := 0) rfl))
  obtain ⟨fs, hr, hrun, hended, hW, hsame⟩ := X90.leave (v := none) (fun _ => rfl)
  refine ⟨_, _, g91 _ ?_, hrun, hended, _, _, rfl, ?_, ⟨_, rfl⟩, hW, hsame.mono (by decide) (by decide)⟩
  · exact X90.returnOut hx Bd.returns (hb hby d13_21) hr
  · show Q_rmRes Z a1 p1 av n r f h0 n0 _ T90.heap _
    rw [e90]
    exact ⟨rfl, N90, K3, bb, gb, sb, E3, H1, H3, H4, VD, nbb⟩
theorem pn_rmIns : plainName "com/example/bitloom/bitloom/ArrayContainer" = true := by first | (simp [plainName, overriddenIn]; done) | decide +kernel
theorem ef_rmIns (m : MethodId) (a1 : Addr) (p1 : Int32) : entryFrame m #[(.ref a1), (.int p1)] 4 = mkF m 0 #[rv a1, iv p1, .unset, .unset] [] := by first | (simp [entryFrame, mkF, argsToLocals, Value.category]; done) | rfl
def Q_rmIns (Z : State) (a1 : Addr) (p1 : Int32) (av : Addr) (r : Int32) (f : Nat → Int32) (h0 : Heap) (n0 : Nat) (v : Option Value) (h : Heap) (L : List Loc) : Prop := v = some (.ref a1) ∧ Fr n0 L ∧ Keep h0 h [a1] ∧ ∃ av' : Addr, n0 ≤ av' ∧ own_K Z h a1 av' (5 : Int32) (0 : Int32) 8 (fun j => if j = 4 then p1 else own_g8 f j)
set_option maxRecDepth 65536 in
set_option maxHeartbeats 40000000 in
theorem rmIns (l : Launch) (Z : State) (a0 : Array Value) (hw : ∀ d ∈ tables_1, d.before a0 Z = true) (ws : List Jvm.Cond) (a1 : Addr) (p1 : Int32) (av : Addr) (r : Int32) (f : Nat → Int32) (h0 : Heap) (n0 : Nat) (Z0 : n0 ≤ h0.size) (K1 : own_K Z h0 a1 av (4 : Int32) r 4 f) (hf : ∀ j, j < 4 → own_C (f j)) (hp : own_C p1) (hl : f 3 < p1) (ga : n0 ≤ a1) :
    MetFree l (⟨"com/example/bitloom/bitloom/ArrayContainer", "insert", "(C)Lcom/example/bitloom/bitloom/Container;"⟩ : MethodName) (head1 (Jvm.Cond.code (⟨"com/example/bitloom/bitloom/ArrayContainer", "insert", "(C)Lcom/example/bitloom/bitloom/Container;"⟩ : MethodName) prog_3_method_13_code 4 (some (.object "com/example/bitloom/bitloom/Container")) :: ws) ({ frames := 3, cells := 1, slots := 8, locals := 70 } : Room)) (fun a U => a = #[(.ref a1), (.int p1)] ∧ Z.Warmed39 U.vm ∧ U.heap = h0) (fun _ _ _ _ _ => True) (fun _ U o U' => ∃ v L, o = .returned v ∧ Q_rmIns Z a1 p1 av r f h0 n0 v U'.heap L ∧ FrameEnd U o U' L ({ frames := 3, cells := 1, slots := 8, locals := 70 } : Room).cells ({ frames := 3, cells := 1, slots := 8, locals := 70 } : Room).slots) := by
  refine MetFree.of_bodySF (plainFor_of_name pn_rmIns) hisR ?_
  intro p e s m args below meth c s₁ Bd hml0 hP hK
  obtain ⟨rfl, hZ, hh⟩ := hP
  have hx := Bd.exec
  have hby := Bd.bytes
  have hml : c.maxLocals = 4 := hml0
  have hown : s.vm.findClass "com/example/bitloom/bitloom/ArrayContainer" = some m.cls := findClass_of_methodNamed Bd.named
  have hnm := (name_of_methodNamed Bd.named Bd.method).1
  have X0 : Stand p l e ({ frames := 3, cells := 1, slots := 8, locals := 70 } : Room) s m #[(.ref a1), (.int p1)] below meth c s₁ [] 0 0 := Stand.of_body Bd
  have e0 : s₁.heap = h0 := by rw [← hh, Bd.state]; rfl
  have N0 := Fr.nil n0
  have g0 : own_Go p e below s₁ (entryFrame m #[(.ref a1), (.int p1)] 4) s₁ (mkF m 0 #[rv a1, iv p1, .unset, .unset] []) := fun t k => castTop (ef_rmIns m a1 p1) k
  obtain ⟨E1, F1, F3, F4, U1, nab⟩ := id K1
  obtain ⟨cl1, Ar1, S1, V1⟩ := id U1
  have hsz : cl1.slots.size.toInt32 = (4 : Int32) := by rw [S1]; rfl
  have g92 : own_Go p e below s₁ (entryFrame m #[(.ref a1), (.int p1)] 4) s₁ (mkF m 1 #[rv a1, iv p1, .unset, .unset] [(.ref a1)]) := by
    intro target kt
    refine g0 target ?_
    refine XS.aloadN X0.here hx rfl (hb hby d9_0) rfl rfl ?_
    show Steps p.tables e below (s₁.setTop (mkF m 1 #[rv a1, iv p1, .unset, .unset] [(.ref a1)])) target
    exact kt
  obtain ⟨T93, X93, e93, st93⟩ := getF X0 hx hZ hown (host := "") (Or.inl (hw _ (List.mem_of_getElem? (i := 28) rfl))) (Via.of (hw _ (List.mem_of_getElem? (i := 29) rfl))) e0 F3 (g := (mkF m 1 #[rv a1, iv p1, .unset, .unset] [(.ref a1)])) rfl rfl (hb hby d9_1)
  have g94 : own_Go p e below s₁ (entryFrame m #[(.ref a1), (.int p1)] 4) T93 (mkF m 4 #[rv a1, iv p1, .unset, .unset] [(.int (4 : Int32))]) := fun target kt => g92 target (st93 target kt)
  have g95 : own_Go p e below s₁ (entryFrame m #[(.ref a1), (.int p1)] 4) T93 (mkF m 7 #[rv a1, iv p1, iv (4 : Int32), .unset] [(.ref a1), (.int p1)]) := by
    intro target kt
    refine g94 target ?_
    refine XS.istoreN X93.here hx rfl (hb hby d9_4) rfl (l' := #[rv a1, iv p1, iv (4 : Int32), .unset]) rfl ?_
    show Steps p.tables e below (T93.setTop (mkF m 5 #[rv a1, iv p1, iv (4 : Int32), .unset] [])) target
    refine XS.iloadN X93.here hx rfl (hb hby d9_5) rfl ?_
    show Steps p.tables e below (T93.setTop (mkF m 6 #[rv a1, iv p1, iv (4 : Int32), .unset] [(.int p1)])) target
    refine XS.aloadN X93.here hx rfl (hb hby d9_6) rfl rfl ?_
    show Steps p.tables e below (T93.setTop (mkF m 7 #[rv a1, iv p1, iv (4 : Int32), .unset] [(.ref a1), (.int p1)])) target
    exact kt
  obtain ⟨T96, X96, e96, st96⟩ := getF X93 hx hZ hown (host := "") (Or.inl (hw _ (List.mem_of_getElem? (i := 24) rfl))) Via.refl e93 F1 (g := (mkF m 7 #[rv a1, iv p1, iv (4 : Int32), .unset] [(.ref a1), (.int p1)])) rfl rfl (hb hby d9_7)
  have g97 : own_Go p e below s₁ (entryFrame m #[(.ref a1), (.int p1)] 4) T96 (mkF m 10 #[rv a1, iv p1, iv (4 : Int32), .unset] [(.ref av), (.int p1)]) := fun target kt => g95 target (st96 target kt)
  have g98 : own_Go p e below s₁ (entryFrame m #[(.ref a1), (.int p1)] 4) T96 (mkF m 47 #[rv a1, iv p1, iv (4 : Int32), iv (4 : Int32)] [(.int ((4 : Int32) + (1 : Int32)))]) := by
    intro target kt
    refine g97 target ?_
    refine XS.iloadN X96.here hx rfl (hb hby d9_10) rfl ?_
    show Steps p.tables e below (T96.setTop (mkF m 11 #[rv a1, iv p1, iv (4 : Int32), .unset] [(.int (4 : Int32)), (.ref av), (.int p1)])) target
    refine XT.iconstV X96.here hx rfl (1 : Int32) (hb hby d9_11) rfl ?_
    show Steps p.tables e below (T96.setTop (mkF m 12 #[rv a1, iv p1, iv (4 : Int32), .unset] [(.int (1 : Int32)), (.int (4 : Int32)), (.ref av), (.int p1)])) target
    refine XS.isub X96.here hx rfl (hb hby d9_12) rfl ?_
    show Steps p.tables e below (T96.setTop (mkF m 13 #[rv a1, iv p1, iv (4 : Int32), .unset] [(.int ((4 : Int32) - (1 : Int32))), (.ref av), (.int p1)])) target
    refine X96.caload hx (j := ((4 : Int32) - (1 : Int32))) (v := (.int (f 3))) (by rw [e96]; exact Ar1.1) (State.isArrayOf_alike hZ.alike Ar1.2.1) Ar1.2.2 (by rw [S1]; decide) (V1 3 (by decide)) (g := (mkF m 13 #[rv a1, iv p1, iv (4 : Int32), .unset] [(.int ((4 : Int32) - (1 : Int32))), (.ref av), (.int p1)])) rfl rfl (hb hby d9_13) _ ?_
    show Steps p.tables e below (T96.setTop (mkF m 14 #[rv a1, iv p1, iv (4 : Int32), .unset] [(.int (f 3)), (.int p1)])) target
    refine XS.icmpNo X96.here hx rfl (hb hby d9_14) rfl (XT.ii_le_f hl) ?_
    show Steps p.tables e below (T96.setTop (mkF m 17 #[rv a1, iv p1, iv (4 : Int32), .unset] [])) target
    refine XS.iloadN X96.here hx rfl (hb hby d9_17) rfl ?_
    show Steps p.tables e below (T96.setTop (mkF m 18 #[rv a1, iv p1, iv (4 : Int32), .unset] [(.int (4 : Int32))])) target
    refine XS.goto X96.here hx rfl (pc0 := 18) (pc' := 26) rfl (hb hby d9_18) (by decide) (by decide) ?_
    show Steps p.tables e below (T96.setTop (mkF m 26 #[rv a1, iv p1, iv (4 : Int32), .unset] [(.int (4 : Int32))])) target
    refine XS.istoreN X96.here hx rfl (hb hby d9_26) rfl (l' := #[rv a1, iv p1, iv (4 : Int32), iv (4 : Int32)]) rfl ?_
    show Steps p.tables e below (T96.setTop (mkF m 27 #[rv a1, iv p1, iv (4 : Int32), iv (4 : Int32)] [])) target
    refine XS.iloadN X96.here hx rfl (hb hby d9_27) rfl ?_
    show Steps p.tables e below (T96.setTop (mkF m 28 #[rv a1, iv p1, iv (4 : Int32), iv (4 : Int32)] [(.int (4 : Int32))])) target
    refine XS.iloadN X96.here hx rfl (hb hby d9_28) rfl ?_
    show Steps p.tables e below (T96.setTop (mkF m 29 #[rv a1, iv p1, iv (4 : Int32), iv (4 : Int32)] [(.int (4 : Int32)), (.int (4 : Int32))])) target
    refine XS.icmpYes X96.here hx rfl (pc0 := 29) (pc' := 44) rfl (hb hby d9_29) rfl (XT.ii_ge_t (by decide)) (by decide) (by decide) ?_
    show Steps p.tables e below (T96.setTop (mkF m 44 #[rv a1, iv p1, iv (4 : Int32), iv (4 : Int32)] [])) target
    refine XS.iloadN X96.here hx rfl (hb hby d9_44) rfl ?_
    show Steps p.tables e below (T96.setTop (mkF m 45 #[rv a1, iv p1, iv (4 : Int32), iv (4 : Int32)] [(.int (4 : Int32))])) target
    refine XT.iconstV X96.here hx rfl (1 : Int32) (hb hby d9_45) rfl ?_
    show Steps p.tables e below (T96.setTop (mkF m 46 #[rv a1, iv p1, iv (4 : Int32), iv (4 : Int32)] [(.int (1 : Int32)), (.int (4 : Int32))])) target
    refine XS.iadd X96.here hx rfl (hb hby d9_46) rfl ?_
    show Steps p.tables e below (T96.setTop (mkF m 47 #[rv a1, iv p1, iv (4 : Int32), iv (4 : Int32)] [(.int ((4 : Int32) + (1 : Int32)))])) target
    exact kt
  obtain ⟨_, _, ⟨T99, L99, k99, n99⟩, -, X99, ⟨Lc99, hQ99, l99, y99, z99⟩, st99⟩ := Jvm.LawKit.callS X96 hx (y := (⟨"com/example/bitloom/bitloom/ArrayContainer", "fits", "(I)Z"⟩ : MethodName)) hown (mvT hZ (hw _ (List.mem_of_getElem? (i := 50) rfl))) (mvT hZ (hw _ (List.mem_of_getElem? (i := 51) rfl))) (mvT hZ (hw _ (List.mem_of_getElem? (i := 11) rfl))) (mvT hZ (hw _ (List.mem_of_getElem? (i := 52) rfl))) (by decide) (backOf (W := 0) (rmFits l Z a0 hw [] ((4 : Int32) + (1 : Int32)) h0 n0 Z0 (by decide)) hZ (hw _ (List.mem_of_getElem? (i := 52) rfl)) (hw _ (List.mem_of_getElem? (i := 11) rfl)) (by decide) (by decide)) (g := (mkF m 47 #[rv a1, iv p1, iv (4 : Int32), iv (4 : Int32)] [(.int ((4 : Int32) + (1 : Int32)))])) rfl (by rw [hml]; rfl) (argsL := [(.int ((4 : Int32) + (1 : Int32)))]) (rest := []) (lenOf pd_3 rfl) rfl (by show 2 * 0 + _ ≤ _; exact Nat.le_of_eq rfl) (hb hby d9_47) (fun _ _ => ⟨rfl, e96, (by decide : 0 + 0 ≤ _), (by decide : 0 + 0 ≤ _)⟩)
  dsimp only [Pt.U, Pt.locs, Pt.cells, Pt.slots] at X99 l99 y99 z99 st99 hQ99
  subst l99 y99 z99
  obtain ⟨rfl, Nq99, eq99⟩ := hQ99
  have N99 := Fr.app N0 Nq99
  have g100 : own_Go p e below s₁ (entryFrame m #[(.ref a1), (.int p1)] 4) T99 (mkF m 50 #[rv a1, iv p1, iv (4 : Int32), iv (4 : Int32)] [(.int (1 : Int32))]) := fun target kt => g98 target (st99 target kt)
  have g101 : own_Go p e below s₁ (entryFrame m #[(.ref a1), (.int p1)] 4) T99 (mkF m 72 #[rv a1, iv p1, iv (4 : Int32), iv (4 : Int32)] [(.ref a1), (.int (4 : Int32))]) := by
    intro target kt
    refine g100 target ?_
    refine XS.ifYes X99.here hx rfl (pc0 := 50) (pc' := 70) rfl (hb hby d9_50) rfl (XT.i0_ne_t (by decide)) (by decide) (by decide) ?_
    show Steps p.tables e below (T99.setTop (mkF m 70 #[rv a1, iv p1, iv (4 : Int32), iv (4 : Int32)] [])) target
    refine XS.iloadN X99.here hx rfl (hb hby d9_70) rfl ?_
    show Steps p.tables e below (T99.setTop (mkF m 71 #[rv a1, iv p1, iv (4 : Int32), iv (4 : Int32)] [(.int (4 : Int32))])) target
    refine XS.aloadN X99.here hx rfl (hb hby d9_71) rfl rfl ?_
    show Steps p.tables e below (T99.setTop (mkF m 72 #[rv a1, iv p1, iv (4 : Int32), iv (4 : Int32)] [(.ref a1), (.int (4 : Int32))])) target
    exact kt
  obtain ⟨T102, X102, e102, st102⟩ := getF X99 hx hZ hown (host := "") (Or.inl (hw _ (List.mem_of_getElem? (i := 24) rfl))) Via.refl eq99 F1 (g := (mkF m 72 #[rv a1, iv p1, iv (4 : Int32), iv (4 : Int32)] [(.ref a1), (.int (4 : Int32))])) rfl rfl (hb hby d9_72)
  have g103 : own_Go p e below s₁ (entryFrame m #[(.ref a1), (.int p1)] 4) T102 (mkF m 75 #[rv a1, iv p1, iv (4 : Int32), iv (4 : Int32)] [(.ref av), (.int (4 : Int32))]) := fun target kt => g101 target (st102 target kt)
  have g104 : own_Go p e below s₁ (entryFrame m #[(.ref a1), (.int p1)] 4) T102 (mkF m 88 #[rv a1, iv p1, iv (4 : Int32), iv (4 : Int32)] [(.int (4096 : Int32)), (.int (4 : Int32)), (.int ((4 : Int32) + (1 : Int32))), (.int (4 : Int32)), (.ref a1)]) := by
    intro target kt
    refine g103 target ?_
    refine X102.arraylength hx (cell := cl1) (by rw [e102]; exact Ar1.1) (State.isArrayOf_alike hZ.alike Ar1.2.1) (g := (mkF m 75 #[rv a1, iv p1, iv (4 : Int32), iv (4 : Int32)] [(.ref av), (.int (4 : Int32))])) rfl (rest := [(.int (4 : Int32))]) rfl (hb hby d9_75) _ ?_
    rw [hsz]
    show Steps p.tables e below (T102.setTop (mkF m 76 #[rv a1, iv p1, iv (4 : Int32), iv (4 : Int32)] [(.int (4 : Int32)), (.int (4 : Int32))])) target
    refine XS.icmpNo X102.here hx rfl (hb hby d9_76) rfl (XT.ii_ne_f rfl) ?_
    show Steps p.tables e below (T102.setTop (mkF m 79 #[rv a1, iv p1, iv (4 : Int32), iv (4 : Int32)] [])) target
    refine XS.aloadN X102.here hx rfl (hb hby d9_79) rfl rfl ?_
    show Steps p.tables e below (T102.setTop (mkF m 80 #[rv a1, iv p1, iv (4 : Int32), iv (4 : Int32)] [(.ref a1)])) target
    refine XS.iloadN X102.here hx rfl (hb hby d9_80) rfl ?_
    show Steps p.tables e below (T102.setTop (mkF m 81 #[rv a1, iv p1, iv (4 : Int32), iv (4 : Int32)] [(.int (4 : Int32)), (.ref a1)])) target
    refine XS.iloadN X102.here hx rfl (hb hby d9_81) rfl ?_
    show Steps p.tables e below (T102.setTop (mkF m 82 #[rv a1, iv p1, iv (4 : Int32), iv (4 : Int32)] [(.int (4 : Int32)), (.int (4 : Int32)), (.ref a1)])) target
    refine XT.iconstV X102.here hx rfl (1 : Int32) (hb hby d9_82) rfl ?_
    show Steps p.tables e below (T102.setTop (mkF m 83 #[rv a1, iv p1, iv (4 : Int32), iv (4 : Int32)] [(.int (1 : Int32)), (.int (4 : Int32)), (.int (4 : Int32)), (.ref a1)])) target
    refine XS.iadd X102.here hx rfl (hb hby d9_83) rfl ?_
    show Steps p.tables e below (T102.setTop (mkF m 84 #[rv a1, iv p1, iv (4 : Int32), iv (4 : Int32)] [(.int ((4 : Int32) + (1 : Int32))), (.int (4 : Int32)), (.ref a1)])) target
    refine XT.iconstV X102.here hx rfl (4 : Int32) (hb hby d9_84) rfl ?_
    show Steps p.tables e below (T102.setTop (mkF m 85 #[rv a1, iv p1, iv (4 : Int32), iv (4 : Int32)] [(.int (4 : Int32)), (.int ((4 : Int32) + (1 : Int32))), (.int (4 : Int32)), (.ref a1)])) target
    refine XT.sipushV X102.here hx rfl (4096 : Int32) (hb hby d9_85) rfl ?_
    show Steps p.tables e below (T102.setTop (mkF m 88 #[rv a1, iv p1, iv (4 : Int32), iv (4 : Int32)] [(.int (4096 : Int32)), (.int (4 : Int32)), (.int ((4 : Int32) + (1 : Int32))), (.int (4 : Int32)), (.ref a1)])) target
    exact kt
  obtain ⟨_, _, ⟨T105, L105, k105, n105⟩, -, X105, ⟨Lc105, hQ105, l105, y105, z105⟩, st105⟩ := Jvm.LawKit.callS X102 hx (y := (⟨"com/example/bitloom/bitloom/Capacity", "grown", "(IIII)I"⟩ : MethodName)) hown (mvT hZ (hw _ (List.mem_of_getElem? (i := 53) rfl))) (mvT hZ (hw _ (List.mem_of_getElem? (i := 54) rfl))) (mvT hZ (hw _ (List.mem_of_getElem? (i := 55) rfl))) (mvT hZ (hw _ (List.mem_of_getElem? (i := 56) rfl))) (by decide) (backOf (W := 1) (rmGrown l Z a0 hw [] (4 : Int32) ((4 : Int32) + (1 : Int32)) (4 : Int32) (4096 : Int32) h0 n0 Z0 rfl rfl rfl rfl) hZ (hw _ (List.mem_of_getElem? (i := 56) rfl)) (hw _ (List.mem_of_getElem? (i := 55) rfl)) (by decide) (by decide)) (g := (mkF m 88 #[rv a1, iv p1, iv (4 : Int32), iv (4 : Int32)] [(.int (4096 : Int32)), (.int (4 : Int32)), (.int ((4 : Int32) + (1 : Int32))), (.int (4 : Int32)), (.ref a1)])) rfl (by rw [hml]; rfl) (argsL := [(.int (4 : Int32)), (.int ((4 : Int32) + (1 : Int32))), (.int (4 : Int32)), (.int (4096 : Int32))]) (rest := [(.ref a1)]) (lenOf pd_4 rfl) rfl (by show 2 * 0 + _ ≤ _; exact Nat.le_of_eq rfl) (hb hby d9_88) (fun _ _ => ⟨rfl, e102, (by decide : 0 + 0 ≤ _), (by decide : 0 + 0 ≤ _)⟩)
  dsimp only [Pt.U, Pt.locs, Pt.cells, Pt.slots] at X105 l105 y105 z105 st105 hQ105
  subst l105 y105 z105
  obtain ⟨rfl, Nq105, eq105⟩ := hQ105
  have N105 := Fr.app N99 Nq105
  have g106 : own_Go p e below s₁ (entryFrame m #[(.ref a1), (.int p1)] 4) T105 (mkF m 91 #[rv a1, iv p1, iv (4 : Int32), iv (4 : Int32)] [(.int (8 : Int32)), (.ref a1)]) := fun target kt => g104 target (st105 target kt)
  obtain ⟨cq107, q107, q107'⟩ := E1.cell
  obtain ⟨_, _, ⟨T107, L107, k107, n107⟩, -, X107, ⟨Lc107, hQ107, l107, y107, z107⟩, st107⟩ := X105.privateBack hx (y := (⟨"com/example/bitloom/bitloom/ArrayContainer", "resize", "(I)V"⟩ : MethodName)) hown (mvT hZ (hw _ (List.mem_of_getElem? (i := 61) rfl))) (mvT hZ (hw _ (List.mem_of_getElem? (i := 62) rfl))) (own_selfsel (y := (⟨"com/example/bitloom/bitloom/ArrayContainer", "resize", "(I)V"⟩ : MethodName)) hZ (hw _ (List.mem_of_getElem? (i := 10) rfl)) (hw _ (List.mem_of_getElem? (i := 63) rfl)) (hw _ (List.mem_of_getElem? (i := 62) rfl)) (by decide)) (Cond.privateMethod_at (mvP hZ (hw _ (List.mem_of_getElem? (i := 63) rfl)) (args := #[]))) (mvT hZ (hw _ (List.mem_of_getElem? (i := 64) rfl))) (by decide) (backOf (W := 0) (rmRes l Z a0 hw [] a1 (8 : Int32) av (4 : Int32) r f h0 n0 Z0 K1 hf rfl ga) hZ (hw _ (List.mem_of_getElem? (i := 64) rfl)) (hw _ (List.mem_of_getElem? (i := 11) rfl)) (by decide) (by decide)) (g := (mkF m 91 #[rv a1, iv p1, iv (4 : Int32), iv (4 : Int32)] [(.int (8 : Int32)), (.ref a1)])) rfl (by rw [hml]; rfl) (Steps.refl _) (a := a1) (by rw [eq105]; exact q107) q107' (argsL := [(.int (8 : Int32))]) (rest := []) (lenOf pd_5 rfl) rfl (by show 2 * 0 + _ ≤ _; exact Nat.le_of_eq rfl) (hb hby d9_91) (fun _ _ => ⟨rfl, eq105, (by decide : 0 + 1 ≤ _), (by decide : 0 + 8 ≤ _)⟩)
  dsimp only [Pt.U, Pt.locs, Pt.cells, Pt.slots] at X107 l107 y107 z107 st107 hQ107
  subst l107 y107 z107
  obtain ⟨rfl, Nq107, K107, aw, gw, sw, K2⟩ := hQ107
  have N107 := Fr.app N105 Nq107
  have g108 : own_Go p e below s₁ (entryFrame m #[(.ref a1), (.int p1)] 4) T107 (mkF m 94 #[rv a1, iv p1, iv (4 : Int32), iv (4 : Int32)] []) := fun target kt => g106 target (st107.trans kt)
  obtain ⟨E2, G1, G3, G4, U2, naw⟩ := K2
  obtain ⟨ka, VA⟩ := own_arv (z := (8 : Int32)) U2 (by decide) (by decide) (fun j _ => own_g8C hf j)
  have g109 : own_Go p e below s₁ (entryFrame m #[(.ref a1), (.int p1)] 4) T107 (mkF m 95 #[rv a1, iv p1, iv (4 : Int32), iv (4 : Int32)] [(.ref a1)]) := by
    intro target kt
    refine g108 target ?_
    refine XS.aloadN X107.here hx rfl (hb hby d9_94) rfl rfl ?_
    show Steps p.tables e below (T107.setTop (mkF m 95 #[rv a1, iv p1, iv (4 : Int32), iv (4 : Int32)] [(.ref a1)])) target
    exact kt
  obtain ⟨T110, X110, e110, st110⟩ := getF X107 hx hZ hown (host := "") (Or.inl (hw _ (List.mem_of_getElem? (i := 24) rfl))) Via.refl rfl G1 (g := (mkF m 95 #[rv a1, iv p1, iv (4 : Int32), iv (4 : Int32)] [(.ref a1)])) rfl rfl (hb hby d9_95)
  have g111 : own_Go p e below s₁ (entryFrame m #[(.ref a1), (.int p1)] 4) T110 (mkF m 98 #[rv a1, iv p1, iv (4 : Int32), iv (4 : Int32)] [(.ref aw)]) := fun target kt => g109 target (st110 target kt)
  have g112 : own_Go p e below s₁ (entryFrame m #[(.ref a1), (.int p1)] 4) T110 (mkF m 100 #[rv a1, iv p1, iv (4 : Int32), iv (4 : Int32)] [(.ref a1), (.int (4 : Int32)), (.ref aw)]) := by
    intro target kt
    refine g111 target ?_
    refine XS.iloadN X110.here hx rfl (hb hby d9_98) rfl ?_
    show Steps p.tables e below (T110.setTop (mkF m 99 #[rv a1, iv p1, iv (4 : Int32), iv (4 : Int32)] [(.int (4 : Int32)), (.ref aw)])) target
    refine XS.aloadN X110.here hx rfl (hb hby d9_99) rfl rfl ?_
    show Steps p.tables e below (T110.setTop (mkF m 100 #[rv a1, iv p1, iv (4 : Int32), iv (4 : Int32)] [(.ref a1), (.int (4 : Int32)), (.ref aw)])) target
    exact kt
  obtain ⟨T113, X113, e113, st113⟩ := getF X110 hx hZ hown (host := "") (Or.inl (hw _ (List.mem_of_getElem? (i := 24) rfl))) Via.refl e110 G1 (g := (mkF m 100 #[rv a1, iv p1, iv (4 : Int32), iv (4 : Int32)] [(.ref a1), (.int (4 : Int32)), (.ref aw)])) rfl rfl (hb hby d9_100)
  have g114 : own_Go p e below s₁ (entryFrame m #[(.ref a1), (.int p1)] 4) T113 (mkF m 103 #[rv a1, iv p1, iv (4 : Int32), iv (4 : Int32)] [(.ref aw), (.int (4 : Int32)), (.ref aw)]) := fun target kt => g112 target (st113 target kt)
  have g115 : own_Go p e below s₁ (entryFrame m #[(.ref a1), (.int p1)] 4) T113 (mkF m 109 #[rv a1, iv p1, iv (4 : Int32), iv (4 : Int32)] [(.int ((4 : Int32) - (4 : Int32))), (.int ((4 : Int32) + (1 : Int32))), (.ref aw), (.int (4 : Int32)), (.ref aw)]) := by
    intro target kt
    refine g114 target ?_
    refine XS.iloadN X113.here hx rfl (hb hby d9_103) rfl ?_
    show Steps p.tables e below (T113.setTop (mkF m 104 #[rv a1, iv p1, iv (4 : Int32), iv (4 : Int32)] [(.int (4 : Int32)), (.ref aw), (.int (4 : Int32)), (.ref aw)])) target
    refine XT.iconstV X113.here hx rfl (1 : Int32) (hb hby d9_104) rfl ?_
    show Steps p.tables e below (T113.setTop (mkF m 105 #[rv a1, iv p1, iv (4 : Int32), iv (4 : Int32)] [(.int (1 : Int32)), (.int (4 : Int32)), (.ref aw), (.int (4 : Int32)), (.ref aw)])) target
    refine XS.iadd X113.here hx rfl (hb hby d9_105) rfl ?_
    show Steps p.tables e below (T113.setTop (mkF m 106 #[rv a1, iv p1, iv (4 : Int32), iv (4 : Int32)] [(.int ((4 : Int32) + (1 : Int32))), (.ref aw), (.int (4 : Int32)), (.ref aw)])) target
    refine XS.iloadN X113.here hx rfl (hb hby d9_106) rfl ?_
    show Steps p.tables e below (T113.setTop (mkF m 107 #[rv a1, iv p1, iv (4 : Int32), iv (4 : Int32)] [(.int (4 : Int32)), (.int ((4 : Int32) + (1 : Int32))), (.ref aw), (.int (4 : Int32)), (.ref aw)])) target
    refine XS.iloadN X113.here hx rfl (hb hby d9_107) rfl ?_
    show Steps p.tables e below (T113.setTop (mkF m 108 #[rv a1, iv p1, iv (4 : Int32), iv (4 : Int32)] [(.int (4 : Int32)), (.int (4 : Int32)), (.int ((4 : Int32) + (1 : Int32))), (.ref aw), (.int (4 : Int32)), (.ref aw)])) target
    refine XS.isub X113.here hx rfl (hb hby d9_108) rfl ?_
    show Steps p.tables e below (T113.setTop (mkF m 109 #[rv a1, iv p1, iv (4 : Int32), iv (4 : Int32)] [(.int ((4 : Int32) - (4 : Int32))), (.int ((4 : Int32) + (1 : Int32))), (.ref aw), (.int (4 : Int32)), (.ref aw)])) target
    exact kt
  obtain ⟨T116, h116, L116, X116, e116, N116, K116, V116, st116⟩ := cpA X113 hx hZ hown (hw _ (List.mem_of_getElem? (i := 74) rfl)) (hw _ (List.mem_of_getElem? (i := 73) rfl)) (hw _ (List.mem_of_getElem? (i := 71) rfl)) (hw _ (List.mem_of_getElem? (i := 72) rfl)) e113 VA VA (Or.inl ⟨rfl, rfl⟩) (by decide) (by decide) (by decide) (by decide) (by decide) rfl (by rw [List.length_map, List.length_range]; decide) N107 gw (g := (mkF m 109 #[rv a1, iv p1, iv (4 : Int32), iv (4 : Int32)] [(.int ((4 : Int32) - (4 : Int32))), (.int ((4 : Int32) + (1 : Int32))), (.ref aw), (.int (4 : Int32)), (.ref aw)])) rfl (by rw [hml]; rfl) rfl (hb hby d9_109) (by decide) (W := 0) (by show 2 * 0 + _ ≤ _; exact Nat.le_of_eq rfl) (by decide)
  have g117 : own_Go p e below s₁ (entryFrame m #[(.ref a1), (.int p1)] 4) T116 (mkF m 112 #[rv a1, iv p1, iv (4 : Int32), iv (4 : Int32)] []) := fun target kt => g115 target (st116 target kt)
  have U3 : own_Ar Z h116 aw .char 8 (fun j => .int (own_g8 f j)) := own_ofarv V116 (by decide) (by
    intro j hj
    obtain h | h | h | h | h | h | h | h : j = 0 ∨ j = 1 ∨ j = 2 ∨ j = 3 ∨ j = 4 ∨ j = 5 ∨ j = 6 ∨ j = 7 := by omega
    all_goals (subst h; rfl))
  have nw : a1 ∉ [aw] := ninS naw nin0
  have E3 := E2.keep K116
  have H1 := G1.keep K116 nw
  have H3 := G3.keep K116 nw
  have H4 := G4.keep K116 nw
  have K3 : Keep h0 h116 [a1] := K107.trans K116 (allS (Or.inr sw) all0)
  have Z116 : n0 ≤ h116.size := Nat.le_trans Z0 K3.1
  have g118 : own_Go p e below s₁ (entryFrame m #[(.ref a1), (.int p1)] 4) T116 (mkF m 113 #[rv a1, iv p1, iv (4 : Int32), iv (4 : Int32)] [(.ref a1)]) := by
    intro target kt
    refine g117 target ?_
    refine XS.aloadN X116.here hx rfl (hb hby d9_112) rfl rfl ?_
    show Steps p.tables e below (T116.setTop (mkF m 113 #[rv a1, iv p1, iv (4 : Int32), iv (4 : Int32)] [(.ref a1)])) target
    exact kt
  obtain ⟨T119, X119, e119, st119⟩ := getF X116 hx hZ hown (host := "") (Or.inl (hw _ (List.mem_of_getElem? (i := 24) rfl))) Via.refl e116 H1 (g := (mkF m 113 #[rv a1, iv p1, iv (4 : Int32), iv (4 : Int32)] [(.ref a1)])) rfl rfl (hb hby d9_113)
  have g120 : own_Go p e below s₁ (entryFrame m #[(.ref a1), (.int p1)] 4) T119 (mkF m 116 #[rv a1, iv p1, iv (4 : Int32), iv (4 : Int32)] [(.ref aw)]) := fun target kt => g118 target (st119 target kt)
  obtain ⟨cl2, Ar2, S2, V2⟩ := U3
  have g121 : own_Go p e below s₁ (entryFrame m #[(.ref a1), (.int p1)] 4) T119 (mkF m 118 #[rv a1, iv p1, iv (4 : Int32), iv (4 : Int32)] [(.int p1), (.int (4 : Int32)), (.ref aw)]) := by
    intro target kt
    refine g120 target ?_
    refine XS.iloadN X119.here hx rfl (hb hby d9_116) rfl ?_
    show Steps p.tables e below (T119.setTop (mkF m 117 #[rv a1, iv p1, iv (4 : Int32), iv (4 : Int32)] [(.int (4 : Int32)), (.ref aw)])) target
    refine XS.iloadN X119.here hx rfl (hb hby d9_117) rfl ?_
    show Steps p.tables e below (T119.setTop (mkF m 118 #[rv a1, iv p1, iv (4 : Int32), iv (4 : Int32)] [(.int p1), (.int (4 : Int32)), (.ref aw)])) target
    exact kt
  obtain ⟨T122, h122, X122, e122, W122, st122⟩ := stC X119 hx hZ e119 Ar2 (j := (4 : Int32)) (by rw [S2]; decide) (g := (mkF m 118 #[rv a1, iv p1, iv (4 : Int32), iv (4 : Int32)] [(.int p1), (.int (4 : Int32)), (.ref aw)])) rfl rfl (hb hby d9_118)
  have g123 : own_Go p e below s₁ (entryFrame m #[(.ref a1), (.int p1)] 4) T122 (mkF m 119 #[rv a1, iv p1, iv (4 : Int32), iv (4 : Int32)] []) := fun target kt => g121 target (st122 target kt)
  have N122 := Fr.snoc X122 N116 gw
  have Z122 : n0 ≤ h122.size := Nat.le_trans Z116 (Keep.of_wr W122).1
  rw [own_narc hp] at W122
  have U4 := own_setC Ar2 S2 V2 W122 (by decide)
  have E4 := E3.wr W122
  have I1 := H1.other W122 (Or.inl naw)
  have I3 := H3.other W122 (Or.inl naw)
  have I4 := H4.other W122 (Or.inl naw)
  have K4 := K3.wr W122 (Or.inr sw)
  have g124 : own_Go p e below s₁ (entryFrame m #[(.ref a1), (.int p1)] 4) T122 (mkF m 121 #[rv a1, iv p1, iv (4 : Int32), iv (4 : Int32)] [(.ref a1), (.ref a1)]) := by
    intro target kt
    refine g123 target ?_
    refine XS.aloadN X122.here hx rfl (hb hby d9_119) rfl rfl ?_
    show Steps p.tables e below (T122.setTop (mkF m 120 #[rv a1, iv p1, iv (4 : Int32), iv (4 : Int32)] [(.ref a1)])) target
    refine XS.dup X122.here hx rfl (hb hby d9_120) rfl rfl ?_
    show Steps p.tables e below (T122.setTop (mkF m 121 #[rv a1, iv p1, iv (4 : Int32), iv (4 : Int32)] [(.ref a1), (.ref a1)])) target
    exact kt
  obtain ⟨T125, X125, e125, st125⟩ := getF X122 hx hZ hown (host := "") (Or.inl (hw _ (List.mem_of_getElem? (i := 28) rfl))) (Via.of (hw _ (List.mem_of_getElem? (i := 29) rfl))) e122 I3 (g := (mkF m 121 #[rv a1, iv p1, iv (4 : Int32), iv (4 : Int32)] [(.ref a1), (.ref a1)])) rfl rfl (hb hby d9_121)
  have g126 : own_Go p e below s₁ (entryFrame m #[(.ref a1), (.int p1)] 4) T125 (mkF m 124 #[rv a1, iv p1, iv (4 : Int32), iv (4 : Int32)] [(.int (4 : Int32)), (.ref a1)]) := fun target kt => g124 target (st125 target kt)
  have g127 : own_Go p e below s₁ (entryFrame m #[(.ref a1), (.int p1)] 4) T125 (mkF m 127 #[rv a1, iv p1, iv (4 : Int32), iv (4 : Int32)] [(.int (((4 : Int32) + (1 : Int32)).toUInt32.toUInt16.toUInt32.toInt32)), (.ref a1)]) := by
    intro target kt
    refine g126 target ?_
    refine XT.iconstV X125.here hx rfl (1 : Int32) (hb hby d9_124) rfl ?_
    show Steps p.tables e below (T125.setTop (mkF m 125 #[rv a1, iv p1, iv (4 : Int32), iv (4 : Int32)] [(.int (1 : Int32)), (.int (4 : Int32)), (.ref a1)])) target
    refine XS.iadd X125.here hx rfl (hb hby d9_125) rfl ?_
    show Steps p.tables e below (T125.setTop (mkF m 126 #[rv a1, iv p1, iv (4 : Int32), iv (4 : Int32)] [(.int ((4 : Int32) + (1 : Int32))), (.ref a1)])) target
    refine XT.i2c X125.here hx rfl (hb hby d9_126) rfl ?_
    show Steps p.tables e below (T125.setTop (mkF m 127 #[rv a1, iv p1, iv (4 : Int32), iv (4 : Int32)] [(.int (((4 : Int32) + (1 : Int32)).toUInt32.toUInt16.toUInt32.toInt32)), (.ref a1)])) target
    exact kt
  obtain ⟨T128, h128, X128, e128, W128, st128⟩ := putFN X125 hx hZ hown (hw _ (List.mem_of_getElem? (i := 28) rfl)) (Via.of (hw _ (List.mem_of_getElem? (i := 29) rfl))) e125 I3 E4 (Or.inl (hw _ (List.mem_of_getElem? (i := 30) rfl))) (hw _ (List.mem_of_getElem? (i := 10) rfl)) (ty := .char) (v := (.int (((4 : Int32) + (1 : Int32)).toUInt32.toUInt16.toUInt32.toInt32))) (v' := (.int (5 : Int32))) (by decide) rfl rfl (g := (mkF m 127 #[rv a1, iv p1, iv (4 : Int32), iv (4 : Int32)] [(.int (((4 : Int32) + (1 : Int32)).toUInt32.toUInt16.toUInt32.toInt32)), (.ref a1)])) rfl rfl (hb hby d9_127)
  have g129 : own_Go p e below s₁ (entryFrame m #[(.ref a1), (.int p1)] 4) T128 (mkF m 130 #[rv a1, iv p1, iv (4 : Int32), iv (4 : Int32)] []) := fun target kt => g127 target (st128 target kt)
  have N128 := Fr.snoc X128 N122 ga
  have E5 := E4.wr W128
  have J1 := (I1.other W128 (Or.inr (slot_ne (a0 := a0) (Or.inl (hw _ (List.mem_of_getElem? (i := 25) rfl))) (Or.inl (hw _ (List.mem_of_getElem? (i := 30) rfl))) (by decide) (t := (.array .char)) (t' := .char) (by decide) (by decide))))
  have J3 := I3.same W128
  have J4 := (I4.other W128 (Or.inr (slot_ne (a0 := a0) (Or.inl (hw _ (List.mem_of_getElem? (i := 37) rfl))) (Or.inl (hw _ (List.mem_of_getElem? (i := 30) rfl))) (by decide) (t := .char) (t' := .char) (by decide) (by decide))))
  have U5 := U4.other W128 naw.symm
  have K5 := K4.wr W128 (Or.inl (List.mem_of_getElem? (i := 0) rfl))
  have g130 : own_Go p e below s₁ (entryFrame m #[(.ref a1), (.int p1)] 4) T128 (mkF m 132 #[rv a1, iv p1, iv (4 : Int32), iv (4 : Int32)] [(.int (0 : Int32)), (.ref a1)]) := by
    intro target kt
    refine g129 target ?_
    refine XS.aloadN X128.here hx rfl (hb hby d9_130) rfl rfl ?_
    show Steps p.tables e below (T128.setTop (mkF m 131 #[rv a1, iv p1, iv (4 : Int32), iv (4 : Int32)] [(.ref a1)])) target
    refine XT.iconstV X128.here hx rfl (0 : Int32) (hb hby d9_131) rfl ?_
    show Steps p.tables e below (T128.setTop (mkF m 132 #[rv a1, iv p1, iv (4 : Int32), iv (4 : Int32)] [(.int (0 : Int32)), (.ref a1)])) target
    exact kt
  obtain ⟨T131, h131, X131, e131, W131, st131⟩ := putFN X128 hx hZ hown (hw _ (List.mem_of_getElem? (i := 36) rfl)) Via.refl e128 J4 E5 (Or.inl (hw _ (List.mem_of_getElem? (i := 37) rfl))) (hw _ (List.mem_of_getElem? (i := 10) rfl)) (ty := .char) (v := (.int (0 : Int32))) (v' := (.int (0 : Int32))) (by decide) rfl rfl (g := (mkF m 132 #[rv a1, iv p1, iv (4 : Int32), iv (4 : Int32)] [(.int (0 : Int32)), (.ref a1)])) rfl rfl (hb hby d9_132)
  have g132 : own_Go p e below s₁ (entryFrame m #[(.ref a1), (.int p1)] 4) T131 (mkF m 135 #[rv a1, iv p1, iv (4 : Int32), iv (4 : Int32)] []) := fun target kt => g130 target (st131 target kt)
  have N131 := Fr.snoc X131 N128 ga
  have E6 := E5.wr W131
  have M1 := (J1.other W131 (Or.inr (slot_ne (a0 := a0) (Or.inl (hw _ (List.mem_of_getElem? (i := 25) rfl))) (Or.inl (hw _ (List.mem_of_getElem? (i := 37) rfl))) (by decide) (t := (.array .char)) (t' := .char) (by decide) (by decide))))
  have M3 := (J3.other W131 (Or.inr (slot_ne (a0 := a0) (Or.inl (hw _ (List.mem_of_getElem? (i := 30) rfl))) (Or.inl (hw _ (List.mem_of_getElem? (i := 37) rfl))) (by decide) (t := .char) (t' := .char) (by decide) (by decide))))
  have M4 := J4.same W131
  have U6 := U5.other W131 naw.symm
  have K6 := K5.wr W131 (Or.inl (List.mem_of_getElem? (i := 0) rfl))
  have g133 : own_Go p e below s₁ (entryFrame m #[(.ref a1), (.int p1)] 4) T131 (mkF m 136 #[rv a1, iv p1, iv (4 : Int32), iv (4 : Int32)] [(.ref a1)]) := by
    intro target kt
    refine g132 target ?_
    refine XS.aloadN X131.here hx rfl (hb hby d9_135) rfl rfl ?_
    show Steps p.tables e below (T131.setTop (mkF m 136 #[rv a1, iv p1, iv (4 : Int32), iv (4 : Int32)] [(.ref a1)])) target
    exact kt
  obtain ⟨fs, hr, hrun, hended, hW, hsame⟩ := X131.leave (v := some (.ref a1)) (fun h => by rw [Bd.returns] at h; cases h)
  refine ⟨_, _, g133 _ ?_, hrun, hended, _, _, rfl, ?_, ⟨_, rfl⟩, hW, hsame.mono (by decide) (by decide)⟩
  · exact retOut X131 hx Bd.returns rfl (Or.inr (Or.inr (Or.inr (Or.inr ⟨rfl, rfl, rfl⟩)))) (hb hby d9_136) hr
  · show Q_rmIns Z a1 p1 av r f h0 n0 _ T131.heap _
    rw [e131]
    exact ⟨rfl, N131, K6, aw, gw, E6, M1, M3, M4, own_congr U6 (fun j _ => rfl), naw⟩
theorem pn_rmAdd4 : plainName "com/example/bitloom/bitloom/ArrayContainer" = true := by first | (simp [plainName, overriddenIn]; done) | decide +kernel
theorem ef_rmAdd4 (m : MethodId) (a1 : Addr) (p1 : Int32) : entryFrame m #[(.ref a1), (.int p1)] 4 = mkF m 0 #[rv a1, iv p1, .unset, .unset] [] := by first | (simp [entryFrame, mkF, argsToLocals, Value.category]; done) | rfl
def Q_rmAdd4 (Z : State) (a1 : Addr) (p1 : Int32) (av : Addr) (r : Int32) (f : Nat → Int32) (h0 : Heap) (n0 : Nat) (v : Option Value) (h : Heap) (L : List Loc) : Prop := v = some (.ref a1) ∧ Fr n0 L ∧ Keep h0 h [a1] ∧ ∃ av' : Addr, n0 ≤ av' ∧ own_K Z h a1 av' (5 : Int32) (0 : Int32) 8 (fun j => if j = 4 then p1 else own_g8 f j)
set_option maxRecDepth 65536 in
set_option maxHeartbeats 40000000 in
theorem rmAdd4 (l : Launch) (Z : State) (a0 : Array Value) (hw : ∀ d ∈ tables_1, d.before a0 Z = true) (ws : List Jvm.Cond) (a1 : Addr) (p1 : Int32) (av : Addr) (r : Int32) (f : Nat → Int32) (h0 : Heap) (n0 : Nat) (Z0 : n0 ≤ h0.size) (K1 : own_K Z h0 a1 av (4 : Int32) r 4 f) (hf : ∀ j, j < 4 → own_C (f j)) (hp : own_C p1) (hl : f 3 < p1) (ga : n0 ≤ a1) :
    MetFree l (⟨"com/example/bitloom/bitloom/ArrayContainer", "add", "(C)Lcom/example/bitloom/bitloom/Container;"⟩ : MethodName) (head1 (Jvm.Cond.code (⟨"com/example/bitloom/bitloom/ArrayContainer", "add", "(C)Lcom/example/bitloom/bitloom/Container;"⟩ : MethodName) prog_3_method_11_code 4 (some (.object "com/example/bitloom/bitloom/Container")) :: ws) ({ frames := 4, cells := 1, slots := 8, locals := 86 } : Room)) (fun a U => a = #[(.ref a1), (.int p1)] ∧ Z.Warmed39 U.vm ∧ U.heap = h0) (fun _ _ _ _ _ => True) (fun _ U o U' => ∃ v L, o = .returned v ∧ Q_rmAdd4 Z a1 p1 av r f h0 n0 v U'.heap L ∧ FrameEnd U o U' L ({ frames := 4, cells := 1, slots := 8, locals := 86 } : Room).cells ({ frames := 4, cells := 1, slots := 8, locals := 86 } : Room).slots) := by
  refine MetFree.of_bodySF (plainFor_of_name pn_rmAdd4) hisR ?_
  intro p e s m args below meth c s₁ Bd hml0 hP hK
  obtain ⟨rfl, hZ, hh⟩ := hP
  have hx := Bd.exec
  have hby := Bd.bytes
  have hml : c.maxLocals = 4 := hml0
  have hown : s.vm.findClass "com/example/bitloom/bitloom/ArrayContainer" = some m.cls := findClass_of_methodNamed Bd.named
  have hnm := (name_of_methodNamed Bd.named Bd.method).1
  have X0 : Stand p l e ({ frames := 4, cells := 1, slots := 8, locals := 86 } : Room) s m #[(.ref a1), (.int p1)] below meth c s₁ [] 0 0 := Stand.of_body Bd
  have e0 : s₁.heap = h0 := by rw [← hh, Bd.state]; rfl
  have N0 := Fr.nil n0
  have g0 : own_Go p e below s₁ (entryFrame m #[(.ref a1), (.int p1)] 4) s₁ (mkF m 0 #[rv a1, iv p1, .unset, .unset] []) := fun t k => castTop (ef_rmAdd4 m a1 p1) k
  obtain ⟨E1, F1, F3, F4, U1, nab⟩ := id K1
  obtain ⟨cl1, Ar1, S1, V1⟩ := id U1
  have hsz : cl1.slots.size.toInt32 = (4 : Int32) := by rw [S1]; rfl
  have g134 : own_Go p e below s₁ (entryFrame m #[(.ref a1), (.int p1)] 4) s₁ (mkF m 1 #[rv a1, iv p1, .unset, .unset] [(.ref a1)]) := by
    intro target kt
    refine g0 target ?_
    refine XS.aloadN X0.here hx rfl (hb hby d6_0) rfl rfl ?_
    show Steps p.tables e below (s₁.setTop (mkF m 1 #[rv a1, iv p1, .unset, .unset] [(.ref a1)])) target
    exact kt
  obtain ⟨T135, X135, e135, st135⟩ := getF X0 hx hZ hown (host := "") (Or.inl (hw _ (List.mem_of_getElem? (i := 24) rfl))) Via.refl e0 F1 (g := (mkF m 1 #[rv a1, iv p1, .unset, .unset] [(.ref a1)])) rfl rfl (hb hby d6_1)
  have g136 : own_Go p e below s₁ (entryFrame m #[(.ref a1), (.int p1)] 4) T135 (mkF m 4 #[rv a1, iv p1, .unset, .unset] [(.ref av)]) := fun target kt => g134 target (st135 target kt)
  have g137 : own_Go p e below s₁ (entryFrame m #[(.ref a1), (.int p1)] 4) T135 (mkF m 6 #[rv a1, iv p1, rv av, .unset] [(.ref a1)]) := by
    intro target kt
    refine g136 target ?_
    refine XS.astoreN X135.here hx rfl (hb hby d6_4) rfl rfl (l' := #[rv a1, iv p1, rv av, .unset]) rfl ?_
    show Steps p.tables e below (T135.setTop (mkF m 5 #[rv a1, iv p1, rv av, .unset] [])) target
    refine XS.aloadN X135.here hx rfl (hb hby d6_5) rfl rfl ?_
    show Steps p.tables e below (T135.setTop (mkF m 6 #[rv a1, iv p1, rv av, .unset] [(.ref a1)])) target
    exact kt
  obtain ⟨T138, X138, e138, st138⟩ := getF X135 hx hZ hown (host := "") (Or.inl (hw _ (List.mem_of_getElem? (i := 28) rfl))) (Via.of (hw _ (List.mem_of_getElem? (i := 29) rfl))) e135 F3 (g := (mkF m 6 #[rv a1, iv p1, rv av, .unset] [(.ref a1)])) rfl rfl (hb hby d6_6)
  have g139 : own_Go p e below s₁ (entryFrame m #[(.ref a1), (.int p1)] 4) T138 (mkF m 9 #[rv a1, iv p1, rv av, .unset] [(.int (4 : Int32))]) := fun target kt => g137 target (st138 target kt)
  have g140 : own_Go p e below s₁ (entryFrame m #[(.ref a1), (.int p1)] 4) T138 (mkF m 27 #[rv a1, iv p1, rv av, iv (4 : Int32)] [(.int p1), (.ref a1)]) := by
    intro target kt
    refine g139 target ?_
    refine XS.istoreN X138.here hx rfl (hb hby d6_9) rfl (l' := #[rv a1, iv p1, rv av, iv (4 : Int32)]) rfl ?_
    show Steps p.tables e below (T138.setTop (mkF m 10 #[rv a1, iv p1, rv av, iv (4 : Int32)] [])) target
    refine XS.iloadN X138.here hx rfl (hb hby d6_10) rfl ?_
    show Steps p.tables e below (T138.setTop (mkF m 11 #[rv a1, iv p1, rv av, iv (4 : Int32)] [(.int (4 : Int32))])) target
    refine XS.aloadN X138.here hx rfl (hb hby d6_11) rfl rfl ?_
    show Steps p.tables e below (T138.setTop (mkF m 12 #[rv a1, iv p1, rv av, iv (4 : Int32)] [(.ref av), (.int (4 : Int32))])) target
    refine X138.arraylength hx (cell := cl1) (by rw [e138]; exact Ar1.1) (State.isArrayOf_alike hZ.alike Ar1.2.1) (g := (mkF m 12 #[rv a1, iv p1, rv av, iv (4 : Int32)] [(.ref av), (.int (4 : Int32))])) rfl (rest := [(.int (4 : Int32))]) rfl (hb hby d6_12) _ ?_
    rw [hsz]
    show Steps p.tables e below (T138.setTop (mkF m 13 #[rv a1, iv p1, rv av, iv (4 : Int32)] [(.int (4 : Int32)), (.int (4 : Int32))])) target
    refine XS.icmpYes X138.here hx rfl (pc0 := 13) (pc' := 25) rfl (hb hby d6_13) rfl (XT.ii_eq_t rfl) (by decide) (by decide) ?_
    show Steps p.tables e below (T138.setTop (mkF m 25 #[rv a1, iv p1, rv av, iv (4 : Int32)] [])) target
    refine XS.aloadN X138.here hx rfl (hb hby d6_25) rfl rfl ?_
    show Steps p.tables e below (T138.setTop (mkF m 26 #[rv a1, iv p1, rv av, iv (4 : Int32)] [(.ref a1)])) target
    refine XS.iloadN X138.here hx rfl (hb hby d6_26) rfl ?_
    show Steps p.tables e below (T138.setTop (mkF m 27 #[rv a1, iv p1, rv av, iv (4 : Int32)] [(.int p1), (.ref a1)])) target
    exact kt
  obtain ⟨cq141, q141, q141'⟩ := E1.cell
  obtain ⟨_, _, ⟨T141, L141, k141, n141⟩, -, X141, ⟨Lc141, hQ141, l141, y141, z141⟩, st141⟩ := X138.privateBack hx (y := (⟨"com/example/bitloom/bitloom/ArrayContainer", "insert", "(C)Lcom/example/bitloom/bitloom/Container;"⟩ : MethodName)) hown (mvT hZ (hw _ (List.mem_of_getElem? (i := 46) rfl))) (mvT hZ (hw _ (List.mem_of_getElem? (i := 47) rfl))) (own_selfsel (y := (⟨"com/example/bitloom/bitloom/ArrayContainer", "insert", "(C)Lcom/example/bitloom/bitloom/Container;"⟩ : MethodName)) hZ (hw _ (List.mem_of_getElem? (i := 10) rfl)) (hw _ (List.mem_of_getElem? (i := 48) rfl)) (hw _ (List.mem_of_getElem? (i := 47) rfl)) (by decide)) (Cond.privateMethod_at (mvP hZ (hw _ (List.mem_of_getElem? (i := 48) rfl)) (args := #[]))) (mvT hZ (hw _ (List.mem_of_getElem? (i := 49) rfl))) (by decide) (backOf (W := 0) (rmIns l Z a0 hw [] a1 p1 av r f h0 n0 Z0 K1 hf hp hl ga) hZ (hw _ (List.mem_of_getElem? (i := 49) rfl)) (hw _ (List.mem_of_getElem? (i := 11) rfl)) (by decide) (by decide)) (g := (mkF m 27 #[rv a1, iv p1, rv av, iv (4 : Int32)] [(.int p1), (.ref a1)])) rfl (by rw [hml]; rfl) (Steps.refl _) (a := a1) (by rw [e138]; exact q141) q141' (argsL := [(.int p1)]) (rest := []) (lenOf pd_6 rfl) rfl (by show 2 * 0 + _ ≤ _; exact Nat.le_of_eq rfl) (hb hby d6_27) (fun _ _ => ⟨rfl, e138, (by decide : 0 + 1 ≤ _), (by decide : 0 + 8 ≤ _)⟩)
  dsimp only [Pt.U, Pt.locs, Pt.cells, Pt.slots] at X141 l141 y141 z141 st141 hQ141
  subst l141 y141 z141
  obtain ⟨rfl, Nq141, K141, aw, gw, K2⟩ := hQ141
  have N141 := Fr.app N0 Nq141
  have g142 : own_Go p e below s₁ (entryFrame m #[(.ref a1), (.int p1)] 4) T141 (mkF m 30 #[rv a1, iv p1, rv av, iv (4 : Int32)] [(.ref a1)]) := fun target kt => g140 target (st141.trans kt)
  obtain ⟨fs, hr, hrun, hended, hW, hsame⟩ := X141.leave (v := some (.ref a1)) (fun h => by rw [Bd.returns] at h; cases h)
  refine ⟨_, _, g142 _ ?_, hrun, hended, _, _, rfl, ?_, ⟨_, rfl⟩, hW, hsame.mono (by decide) (by decide)⟩
  · exact retOut X141 hx Bd.returns rfl (Or.inr (Or.inr (Or.inr (Or.inr ⟨rfl, rfl, rfl⟩)))) (hb hby d6_30) hr
  · show Q_rmAdd4 Z a1 p1 av r f h0 n0 _ T141.heap _
    exact ⟨rfl, N141, K141, aw, gw, K2⟩
theorem pn_rmRuns : plainName "com/example/bitloom/bitloom/ArrayContainer" = true := by first | (simp [plainName, overriddenIn]; done) | decide +kernel
theorem ef_rmRuns (m : MethodId) (a1 : Addr) (mo : Int32) : entryFrame m #[(.ref a1), (.int mo)] 4 = mkF m 0 #[rv a1, iv mo, .unset, .unset] [] := by first | (simp [entryFrame, mkF, argsToLocals, Value.category]; done) | rfl
def Q_rmRuns (Z : State) (a1 : Addr) (mo : Int32) (av : Addr) (k : Nat) (r : Int32) (len : Nat) (f : Nat → Int32) (h0 : Heap) (n0 : Nat) (v : Option Value) (h : Heap) (L : List Loc) : Prop := ∃ res r' : Int32, v = some (.int res) ∧ own_okP res (own_rs f k) mo ∧ (r' = 0 ∨ r' = (own_rs f k).toInt32) ∧ Fr n0 L ∧ Keep h0 h [a1] ∧ own_K Z h a1 av (k + 1).toInt32 r' len f
set_option maxRecDepth 65536 in
set_option maxHeartbeats 40000000 in
theorem rmRuns (l : Launch) (Z : State) (a0 : Array Value) (hw : ∀ d ∈ tables_1, d.before a0 Z = true) (ws : List Jvm.Cond) (a1 : Addr) (mo : Int32) (av : Addr) (k : Nat) (r : Int32) (len : Nat) (f : Nat → Int32) (h0 : Heap) (n0 : Nat) (Z0 : n0 ≤ h0.size) (K1 : own_K Z h0 a1 av (k + 1).toInt32 r len f) (hk : k < len) (hlen : len ≤ 8) (hf : ∀ j, j ≤ k → own_C (f j)) (hrc : r = 0 ∨ r = (own_rs f k).toInt32) (ga : n0 ≤ a1) :
    MetFree l (⟨"com/example/bitloom/bitloom/ArrayContainer", "countRuns", "(I)I"⟩ : MethodName) (head1 (Jvm.Cond.code (⟨"com/example/bitloom/bitloom/ArrayContainer", "countRuns", "(I)I"⟩ : MethodName) prog_3_method_31_code 4 (some .int) :: ws) ({ frames := 0, cells := 0, slots := 0, locals := 0 } : Room)) (fun a U => a = #[(.ref a1), (.int mo)] ∧ Z.Warmed39 U.vm ∧ U.heap = h0) (fun _ _ _ _ _ => True) (fun _ U o U' => ∃ v L, o = .returned v ∧ Q_rmRuns Z a1 mo av k r len f h0 n0 v U'.heap L ∧ FrameEnd U o U' L ({ frames := 0, cells := 0, slots := 0, locals := 0 } : Room).cells ({ frames := 0, cells := 0, slots := 0, locals := 0 } : Room).slots) := by
  refine MetFree.of_bodySF (plainFor_of_name pn_rmRuns) hisR ?_
  intro p e s m args below meth c s₁ Bd hml0 hP hK
  obtain ⟨rfl, hZ, hh⟩ := hP
  have hx := Bd.exec
  have hby := Bd.bytes
  have hml : c.maxLocals = 4 := hml0
  have hown : s.vm.findClass "com/example/bitloom/bitloom/ArrayContainer" = some m.cls := findClass_of_methodNamed Bd.named
  have hnm := (name_of_methodNamed Bd.named Bd.method).1
  have X0 : Stand p l e ({ frames := 0, cells := 0, slots := 0, locals := 0 } : Room) s m #[(.ref a1), (.int mo)] below meth c s₁ [] 0 0 := Stand.of_body Bd
  have e0 : s₁.heap = h0 := by rw [← hh, Bd.state]; rfl
  have N0 := Fr.nil n0
  have g0 : own_Go p e below s₁ (entryFrame m #[(.ref a1), (.int mo)] 4) s₁ (mkF m 0 #[rv a1, iv mo, .unset, .unset] []) := fun t k => castTop (ef_rmRuns m a1 mo) k
  have hrk := own_rsle f k
  obtain ⟨E1, F1, F3, F4, U1, nab⟩ := id K1
  obtain ⟨cl1, Ar1, S1, V1⟩ := id U1
  have loop : ∀ (t j : Nat) (T0 : State), j + t = k → Stand p l e ({ frames := 0, cells := 0, slots := 0, locals := 0 } : Room) s m #[(.ref a1), (.int mo)] below meth c T0 [] 0 0 → T0.heap = h0 →
      ∃ (T' : State) (j' : Nat), Stand p l e ({ frames := 0, cells := 0, slots := 0, locals := 0 } : Room) s m #[(.ref a1), (.int mo)] below meth c T' [] 0 0 ∧ T'.heap = h0 ∧ j' ≤ k ∧ (j' = k ∨ mo.toInt < (own_rs f j' : Int)) ∧ own_Go p e below T0 (mkF m 16 #[rv a1, iv mo, iv (own_rs f j).toInt32, iv (j + 1).toInt32] []) T' (mkF m 58 #[rv a1, iv mo, iv (own_rs f j').toInt32, iv (j' + 1).toInt32] []) := by
    intro t
    induction t with
    | zero =>
      intro j T0 hj X0 e0
      have g143 : own_Go p e below T0 (mkF m 16 #[rv a1, iv mo, iv (own_rs f j).toInt32, iv (j + 1).toInt32] []) T0 (mkF m 18 #[rv a1, iv mo, iv (own_rs f j).toInt32, iv (j + 1).toInt32] [(.ref a1), (.int (j + 1).toInt32)]) := by
        intro target kt
        refine XS.iloadN X0.here hx rfl (hb hby d8_16) rfl ?_
        show Steps p.tables e below (T0.setTop (mkF m 17 #[rv a1, iv mo, iv (own_rs f j).toInt32, iv (j + 1).toInt32] [(.int (j + 1).toInt32)])) target
        refine XS.aloadN X0.here hx rfl (hb hby d8_17) rfl rfl ?_
        show Steps p.tables e below (T0.setTop (mkF m 18 #[rv a1, iv mo, iv (own_rs f j).toInt32, iv (j + 1).toInt32] [(.ref a1), (.int (j + 1).toInt32)])) target
        exact kt
      obtain ⟨T144, X144, e144, st144⟩ := getF X0 hx hZ hown (host := "") (Or.inl (hw _ (List.mem_of_getElem? (i := 28) rfl))) (Via.of (hw _ (List.mem_of_getElem? (i := 29) rfl))) e0 F3 (g := (mkF m 18 #[rv a1, iv mo, iv (own_rs f j).toInt32, iv (j + 1).toInt32] [(.ref a1), (.int (j + 1).toInt32)])) rfl rfl (hb hby d8_18)
      have g145 : own_Go p e below T0 (mkF m 16 #[rv a1, iv mo, iv (own_rs f j).toInt32, iv (j + 1).toInt32] []) T144 (mkF m 21 #[rv a1, iv mo, iv (own_rs f j).toInt32, iv (j + 1).toInt32] [(.int (k + 1).toInt32), (.int (j + 1).toInt32)]) := fun target kt => g143 target (st144 target kt)
      have hjk : j = k := by omega
      have g146 : own_Go p e below T0 (mkF m 16 #[rv a1, iv mo, iv (own_rs f j).toInt32, iv (j + 1).toInt32] []) T144 (mkF m 58 #[rv a1, iv mo, iv (own_rs f j).toInt32, iv (j + 1).toInt32] []) := by
        intro target kt
        refine g145 target ?_
        refine XS.icmpYes X144.here hx rfl (pc0 := 21) (pc' := 58) rfl (hb hby d8_21) rfl (XT.ii_ge_t (by rw [hjk]; exact Int32.lt_irrefl)) (by decide) (by decide) ?_
        show Steps p.tables e below (T144.setTop (mkF m 58 #[rv a1, iv mo, iv (own_rs f j).toInt32, iv (j + 1).toInt32] [])) target
        exact kt
      exact ⟨T144, j, X144, e144, by omega, Or.inl hjk, g146⟩
    | succ t ih =>
      intro j T0 hj X0 e0
      have g147 : own_Go p e below T0 (mkF m 16 #[rv a1, iv mo, iv (own_rs f j).toInt32, iv (j + 1).toInt32] []) T0 (mkF m 18 #[rv a1, iv mo, iv (own_rs f j).toInt32, iv (j + 1).toInt32] [(.ref a1), (.int (j + 1).toInt32)]) := by
        intro target kt
        refine XS.iloadN X0.here hx rfl (hb hby d8_16) rfl ?_
        show Steps p.tables e below (T0.setTop (mkF m 17 #[rv a1, iv mo, iv (own_rs f j).toInt32, iv (j + 1).toInt32] [(.int (j + 1).toInt32)])) target
        refine XS.aloadN X0.here hx rfl (hb hby d8_17) rfl rfl ?_
        show Steps p.tables e below (T0.setTop (mkF m 18 #[rv a1, iv mo, iv (own_rs f j).toInt32, iv (j + 1).toInt32] [(.ref a1), (.int (j + 1).toInt32)])) target
        exact kt
      obtain ⟨T148, X148, e148, st148⟩ := getF X0 hx hZ hown (host := "") (Or.inl (hw _ (List.mem_of_getElem? (i := 28) rfl))) (Via.of (hw _ (List.mem_of_getElem? (i := 29) rfl))) e0 F3 (g := (mkF m 18 #[rv a1, iv mo, iv (own_rs f j).toInt32, iv (j + 1).toInt32] [(.ref a1), (.int (j + 1).toInt32)])) rfl rfl (hb hby d8_18)
      have g149 : own_Go p e below T0 (mkF m 16 #[rv a1, iv mo, iv (own_rs f j).toInt32, iv (j + 1).toInt32] []) T148 (mkF m 21 #[rv a1, iv mo, iv (own_rs f j).toInt32, iv (j + 1).toInt32] [(.int (k + 1).toInt32), (.int (j + 1).toInt32)]) := fun target kt => g147 target (st148 target kt)
      have hrj := own_rsle f j
      have g150 : own_Go p e below T0 (mkF m 16 #[rv a1, iv mo, iv (own_rs f j).toInt32, iv (j + 1).toInt32] []) T148 (mkF m 26 #[rv a1, iv mo, iv (own_rs f j).toInt32, iv (j + 1).toInt32] [(.int mo), (.int (own_rs f j).toInt32)]) := by
        intro target kt
        refine g149 target ?_
        refine XS.icmpNo X148.here hx rfl (hb hby d8_21) rfl (XT.ii_ge_f (own_lt (by omega) (by omega))) ?_
        show Steps p.tables e below (T148.setTop (mkF m 24 #[rv a1, iv mo, iv (own_rs f j).toInt32, iv (j + 1).toInt32] [])) target
        refine XS.iloadN X148.here hx rfl (hb hby d8_24) rfl ?_
        show Steps p.tables e below (T148.setTop (mkF m 25 #[rv a1, iv mo, iv (own_rs f j).toInt32, iv (j + 1).toInt32] [(.int (own_rs f j).toInt32)])) target
        refine XS.iloadN X148.here hx rfl (hb hby d8_25) rfl ?_
        show Steps p.tables e below (T148.setTop (mkF m 26 #[rv a1, iv mo, iv (own_rs f j).toInt32, iv (j + 1).toInt32] [(.int mo), (.int (own_rs f j).toInt32)])) target
        exact kt
      by_cases hc151 : mo < (own_rs f j).toInt32
      · have g152 : own_Go p e below T0 (mkF m 16 #[rv a1, iv mo, iv (own_rs f j).toInt32, iv (j + 1).toInt32] []) T148 (mkF m 58 #[rv a1, iv mo, iv (own_rs f j).toInt32, iv (j + 1).toInt32] []) := by
          intro target kt
          refine g150 target ?_
          refine XS.icmpYes X148.here hx rfl (pc0 := 26) (pc' := 58) rfl (hb hby d8_26) rfl (XT.ii_gt_t hc151) (by decide) (by decide) ?_
          show Steps p.tables e below (T148.setTop (mkF m 58 #[rv a1, iv mo, iv (own_rs f j).toInt32, iv (j + 1).toInt32] [])) target
          exact kt
        exact ⟨T148, j, X148, e148, by omega, Or.inr (by have q := hc151; rw [Int32.lt_iff_toInt_lt, own_ti (by omega)] at q; exact q), g152⟩
      · have hpr := own_pred (j := j) (by omega)
        have hjt : (j + 1).toInt32.toNatClampNeg = j + 1 := own_tn (by omega)
        have g153 : own_Go p e below T0 (mkF m 16 #[rv a1, iv mo, iv (own_rs f j).toInt32, iv (j + 1).toInt32] []) T148 (mkF m 32 #[rv a1, iv mo, iv (own_rs f j).toInt32, iv (j + 1).toInt32] [(.ref a1), (.int (1 : Int32)), (.int (own_rs f j).toInt32)]) := by
          intro target kt
          refine g150 target ?_
          refine XS.icmpNo X148.here hx rfl (hb hby d8_26) rfl (XT.ii_gt_f hc151) ?_
          show Steps p.tables e below (T148.setTop (mkF m 29 #[rv a1, iv mo, iv (own_rs f j).toInt32, iv (j + 1).toInt32] [])) target
          refine XS.iloadN X148.here hx rfl (hb hby d8_29) rfl ?_
          show Steps p.tables e below (T148.setTop (mkF m 30 #[rv a1, iv mo, iv (own_rs f j).toInt32, iv (j + 1).toInt32] [(.int (own_rs f j).toInt32)])) target
          refine XT.iconstV X148.here hx rfl (1 : Int32) (hb hby d8_30) rfl ?_
          show Steps p.tables e below (T148.setTop (mkF m 31 #[rv a1, iv mo, iv (own_rs f j).toInt32, iv (j + 1).toInt32] [(.int (1 : Int32)), (.int (own_rs f j).toInt32)])) target
          refine XS.aloadN X148.here hx rfl (hb hby d8_31) rfl rfl ?_
          show Steps p.tables e below (T148.setTop (mkF m 32 #[rv a1, iv mo, iv (own_rs f j).toInt32, iv (j + 1).toInt32] [(.ref a1), (.int (1 : Int32)), (.int (own_rs f j).toInt32)])) target
          exact kt
        obtain ⟨T154, X154, e154, st154⟩ := getF X148 hx hZ hown (host := "") (Or.inl (hw _ (List.mem_of_getElem? (i := 24) rfl))) Via.refl e148 F1 (g := (mkF m 32 #[rv a1, iv mo, iv (own_rs f j).toInt32, iv (j + 1).toInt32] [(.ref a1), (.int (1 : Int32)), (.int (own_rs f j).toInt32)])) rfl rfl (hb hby d8_32)
        have g155 : own_Go p e below T0 (mkF m 16 #[rv a1, iv mo, iv (own_rs f j).toInt32, iv (j + 1).toInt32] []) T154 (mkF m 35 #[rv a1, iv mo, iv (own_rs f j).toInt32, iv (j + 1).toInt32] [(.ref av), (.int (1 : Int32)), (.int (own_rs f j).toInt32)]) := fun target kt => g153 target (st154 target kt)
        have g156 : own_Go p e below T0 (mkF m 16 #[rv a1, iv mo, iv (own_rs f j).toInt32, iv (j + 1).toInt32] []) T154 (mkF m 41 #[rv a1, iv mo, iv (own_rs f j).toInt32, iv (j + 1).toInt32] [(.ref a1), (.int ((1 : Int32) + (f j))), (.int (own_rs f j).toInt32)]) := by
          intro target kt
          refine g155 target ?_
          refine XS.iloadN X154.here hx rfl (hb hby d8_35) rfl ?_
          show Steps p.tables e below (T154.setTop (mkF m 36 #[rv a1, iv mo, iv (own_rs f j).toInt32, iv (j + 1).toInt32] [(.int (j + 1).toInt32), (.ref av), (.int (1 : Int32)), (.int (own_rs f j).toInt32)])) target
          refine XT.iconstV X154.here hx rfl (1 : Int32) (hb hby d8_36) rfl ?_
          show Steps p.tables e below (T154.setTop (mkF m 37 #[rv a1, iv mo, iv (own_rs f j).toInt32, iv (j + 1).toInt32] [(.int (1 : Int32)), (.int (j + 1).toInt32), (.ref av), (.int (1 : Int32)), (.int (own_rs f j).toInt32)])) target
          refine XS.isub X154.here hx rfl (hb hby d8_37) rfl ?_
          show Steps p.tables e below (T154.setTop (mkF m 38 #[rv a1, iv mo, iv (own_rs f j).toInt32, iv (j + 1).toInt32] [(.int ((j + 1).toInt32 - (1 : Int32))), (.ref av), (.int (1 : Int32)), (.int (own_rs f j).toInt32)])) target
          refine X154.caload hx (j := ((j + 1).toInt32 - (1 : Int32))) (v := (.int (f j))) (by rw [e154]; exact Ar1.1) (State.isArrayOf_alike hZ.alike Ar1.2.1) Ar1.2.2 (own_inb S1 hpr.1 hpr.2 (by omega)) (by rw [hpr.1]; exact V1 j (by omega)) (g := (mkF m 38 #[rv a1, iv mo, iv (own_rs f j).toInt32, iv (j + 1).toInt32] [(.int ((j + 1).toInt32 - (1 : Int32))), (.ref av), (.int (1 : Int32)), (.int (own_rs f j).toInt32)])) rfl rfl (hb hby d8_38) _ ?_
          show Steps p.tables e below (T154.setTop (mkF m 39 #[rv a1, iv mo, iv (own_rs f j).toInt32, iv (j + 1).toInt32] [(.int (f j)), (.int (1 : Int32)), (.int (own_rs f j).toInt32)])) target
          refine XS.iadd X154.here hx rfl (hb hby d8_39) rfl ?_
          show Steps p.tables e below (T154.setTop (mkF m 40 #[rv a1, iv mo, iv (own_rs f j).toInt32, iv (j + 1).toInt32] [(.int ((1 : Int32) + (f j))), (.int (own_rs f j).toInt32)])) target
          refine XS.aloadN X154.here hx rfl (hb hby d8_40) rfl rfl ?_
          show Steps p.tables e below (T154.setTop (mkF m 41 #[rv a1, iv mo, iv (own_rs f j).toInt32, iv (j + 1).toInt32] [(.ref a1), (.int ((1 : Int32) + (f j))), (.int (own_rs f j).toInt32)])) target
          exact kt
        obtain ⟨T157, X157, e157, st157⟩ := getF X154 hx hZ hown (host := "") (Or.inl (hw _ (List.mem_of_getElem? (i := 24) rfl))) Via.refl e154 F1 (g := (mkF m 41 #[rv a1, iv mo, iv (own_rs f j).toInt32, iv (j + 1).toInt32] [(.ref a1), (.int ((1 : Int32) + (f j))), (.int (own_rs f j).toInt32)])) rfl rfl (hb hby d8_41)
        have g158 : own_Go p e below T0 (mkF m 16 #[rv a1, iv mo, iv (own_rs f j).toInt32, iv (j + 1).toInt32] []) T157 (mkF m 44 #[rv a1, iv mo, iv (own_rs f j).toInt32, iv (j + 1).toInt32] [(.ref av), (.int ((1 : Int32) + (f j))), (.int (own_rs f j).toInt32)]) := fun target kt => g156 target (st157 target kt)
        have g159 : own_Go p e below T0 (mkF m 16 #[rv a1, iv mo, iv (own_rs f j).toInt32, iv (j + 1).toInt32] []) T157 (mkF m 16 #[rv a1, iv mo, iv ((own_rs f j).toInt32 + (XT.ushr (((1 : Int32) + (f j)) - (f (j + 1))) (31 : Int32))), iv ((j + 1).toInt32 + (1 : Int32))] []) := by
          intro target kt
          refine g158 target ?_
          refine XS.iloadN X157.here hx rfl (hb hby d8_44) rfl ?_
          show Steps p.tables e below (T157.setTop (mkF m 45 #[rv a1, iv mo, iv (own_rs f j).toInt32, iv (j + 1).toInt32] [(.int (j + 1).toInt32), (.ref av), (.int ((1 : Int32) + (f j))), (.int (own_rs f j).toInt32)])) target
          refine X157.caload hx (j := (j + 1).toInt32) (v := (.int (f (j + 1)))) (by rw [e157]; exact Ar1.1) (State.isArrayOf_alike hZ.alike Ar1.2.1) Ar1.2.2 (own_inb S1 hjt (own_nn (by omega)) (by omega)) (by rw [hjt]; exact V1 (j + 1) (by omega)) (g := (mkF m 45 #[rv a1, iv mo, iv (own_rs f j).toInt32, iv (j + 1).toInt32] [(.int (j + 1).toInt32), (.ref av), (.int ((1 : Int32) + (f j))), (.int (own_rs f j).toInt32)])) rfl rfl (hb hby d8_45) _ ?_
          show Steps p.tables e below (T157.setTop (mkF m 46 #[rv a1, iv mo, iv (own_rs f j).toInt32, iv (j + 1).toInt32] [(.int (f (j + 1))), (.int ((1 : Int32) + (f j))), (.int (own_rs f j).toInt32)])) target
          refine XS.isub X157.here hx rfl (hb hby d8_46) rfl ?_
          show Steps p.tables e below (T157.setTop (mkF m 47 #[rv a1, iv mo, iv (own_rs f j).toInt32, iv (j + 1).toInt32] [(.int (((1 : Int32) + (f j)) - (f (j + 1)))), (.int (own_rs f j).toInt32)])) target
          refine XT.bipushV X157.here hx rfl (31 : Int32) (hb hby d8_47) rfl ?_
          show Steps p.tables e below (T157.setTop (mkF m 49 #[rv a1, iv mo, iv (own_rs f j).toInt32, iv (j + 1).toInt32] [(.int (31 : Int32)), (.int (((1 : Int32) + (f j)) - (f (j + 1)))), (.int (own_rs f j).toInt32)])) target
          refine XT.iushr X157.here hx rfl (hb hby d8_49) rfl ?_
          show Steps p.tables e below (T157.setTop (mkF m 50 #[rv a1, iv mo, iv (own_rs f j).toInt32, iv (j + 1).toInt32] [(.int (XT.ushr (((1 : Int32) + (f j)) - (f (j + 1))) (31 : Int32))), (.int (own_rs f j).toInt32)])) target
          refine XS.iadd X157.here hx rfl (hb hby d8_50) rfl ?_
          show Steps p.tables e below (T157.setTop (mkF m 51 #[rv a1, iv mo, iv (own_rs f j).toInt32, iv (j + 1).toInt32] [(.int ((own_rs f j).toInt32 + (XT.ushr (((1 : Int32) + (f j)) - (f (j + 1))) (31 : Int32))))])) target
          refine XS.istoreN X157.here hx rfl (hb hby d8_51) rfl (l' := #[rv a1, iv mo, iv ((own_rs f j).toInt32 + (XT.ushr (((1 : Int32) + (f j)) - (f (j + 1))) (31 : Int32))), iv (j + 1).toInt32]) rfl ?_
          show Steps p.tables e below (T157.setTop (mkF m 52 #[rv a1, iv mo, iv ((own_rs f j).toInt32 + (XT.ushr (((1 : Int32) + (f j)) - (f (j + 1))) (31 : Int32))), iv (j + 1).toInt32] [])) target
          refine XT.iincV X157.here hx rfl (1 : Int32) (hb hby d8_52) rfl rfl (l' := #[rv a1, iv mo, iv ((own_rs f j).toInt32 + (XT.ushr (((1 : Int32) + (f j)) - (f (j + 1))) (31 : Int32))), iv ((j + 1).toInt32 + (1 : Int32))]) rfl ?_
          show Steps p.tables e below (T157.setTop (mkF m 55 #[rv a1, iv mo, iv ((own_rs f j).toInt32 + (XT.ushr (((1 : Int32) + (f j)) - (f (j + 1))) (31 : Int32))), iv ((j + 1).toInt32 + (1 : Int32))] [])) target
          refine XS.goto X157.here hx rfl (pc0 := 55) (pc' := 16) rfl (hb hby d8_55) (by decide) (by decide) ?_
          show Steps p.tables e below (T157.setTop (mkF m 16 #[rv a1, iv mo, iv ((own_rs f j).toInt32 + (XT.ushr (((1 : Int32) + (f j)) - (f (j + 1))) (31 : Int32))), iv ((j + 1).toInt32 + (1 : Int32))] [])) target
          exact kt
        rw [own_rstep f (hf j (by omega)) (hf (j + 1) (by omega)), own_one] at g159
        obtain ⟨T', j', X', e', q1, q2, gl⟩ := ih (j + 1) T157 (by omega) X157 e157
        exact ⟨T', j', X', e', q1, q2, own_Go.trans g159 gl⟩
  have g160 : own_Go p e below s₁ (entryFrame m #[(.ref a1), (.int mo)] 4) s₁ (mkF m 1 #[rv a1, iv mo, .unset, .unset] [(.ref a1)]) := by
    intro target kt
    refine g0 target ?_
    refine XS.aloadN X0.here hx rfl (hb hby d8_0) rfl rfl ?_
    show Steps p.tables e below (s₁.setTop (mkF m 1 #[rv a1, iv mo, .unset, .unset] [(.ref a1)])) target
    exact kt
  obtain ⟨T161, X161, e161, st161⟩ := getF X0 hx hZ hown (host := "") (Or.inl (hw _ (List.mem_of_getElem? (i := 36) rfl))) Via.refl e0 F4 (g := (mkF m 1 #[rv a1, iv mo, .unset, .unset] [(.ref a1)])) rfl rfl (hb hby d8_1)
  have g162 : own_Go p e below s₁ (entryFrame m #[(.ref a1), (.int mo)] 4) T161 (mkF m 4 #[rv a1, iv mo, .unset, .unset] [(.int r)]) := fun target kt => g160 target (st161 target kt)
  by_cases hc163 : r = 0
  · have g164 : own_Go p e below s₁ (entryFrame m #[(.ref a1), (.int mo)] 4) T161 (mkF m 16 #[rv a1, iv mo, iv (1 : Int32), iv (1 : Int32)] []) := by
      intro target kt
      refine g162 target ?_
      refine XS.ifYes X161.here hx rfl (pc0 := 4) (pc' := 12) rfl (hb hby d8_4) rfl (XT.i0_eq_t hc163) (by decide) (by decide) ?_
      show Steps p.tables e below (T161.setTop (mkF m 12 #[rv a1, iv mo, .unset, .unset] [])) target
      refine XT.iconstV X161.here hx rfl (1 : Int32) (hb hby d8_12) rfl ?_
      show Steps p.tables e below (T161.setTop (mkF m 13 #[rv a1, iv mo, .unset, .unset] [(.int (1 : Int32))])) target
      refine XS.istoreN X161.here hx rfl (hb hby d8_13) rfl (l' := #[rv a1, iv mo, iv (1 : Int32), .unset]) rfl ?_
      show Steps p.tables e below (T161.setTop (mkF m 14 #[rv a1, iv mo, iv (1 : Int32), .unset] [])) target
      refine XT.iconstV X161.here hx rfl (1 : Int32) (hb hby d8_14) rfl ?_
      show Steps p.tables e below (T161.setTop (mkF m 15 #[rv a1, iv mo, iv (1 : Int32), .unset] [(.int (1 : Int32))])) target
      refine XS.istoreN X161.here hx rfl (hb hby d8_15) rfl (l' := #[rv a1, iv mo, iv (1 : Int32), iv (1 : Int32)]) rfl ?_
      show Steps p.tables e below (T161.setTop (mkF m 16 #[rv a1, iv mo, iv (1 : Int32), iv (1 : Int32)] [])) target
      exact kt
    obtain ⟨T', j', X', e', q1, q2, gl⟩ := loop k 0 T161 (by omega) X161 e161
    have gL := own_Go.trans g164 gl
    have hrj := own_rsle f j'
    have hmono := own_rsmono f q1
    have g165 : own_Go p e below s₁ (entryFrame m #[(.ref a1), (.int mo)] 4) T' (mkF m 60 #[rv a1, iv mo, iv (own_rs f j').toInt32, iv (j' + 1).toInt32] [(.ref a1), (.int (j' + 1).toInt32)]) := by
      intro target kt
      refine gL target ?_
      refine XS.iloadN X'.here hx rfl (hb hby d8_58) rfl ?_
      show Steps p.tables e below (T'.setTop (mkF m 59 #[rv a1, iv mo, iv (own_rs f j').toInt32, iv (j' + 1).toInt32] [(.int (j' + 1).toInt32)])) target
      refine XS.aloadN X'.here hx rfl (hb hby d8_59) rfl rfl ?_
      show Steps p.tables e below (T'.setTop (mkF m 60 #[rv a1, iv mo, iv (own_rs f j').toInt32, iv (j' + 1).toInt32] [(.ref a1), (.int (j' + 1).toInt32)])) target
      exact kt
    obtain ⟨T166, X166, e166, st166⟩ := getF X' hx hZ hown (host := "") (Or.inl (hw _ (List.mem_of_getElem? (i := 28) rfl))) (Via.of (hw _ (List.mem_of_getElem? (i := 29) rfl))) e' F3 (g := (mkF m 60 #[rv a1, iv mo, iv (own_rs f j').toInt32, iv (j' + 1).toInt32] [(.ref a1), (.int (j' + 1).toInt32)])) rfl rfl (hb hby d8_60)
    have g167 : own_Go p e below s₁ (entryFrame m #[(.ref a1), (.int mo)] 4) T166 (mkF m 63 #[rv a1, iv mo, iv (own_rs f j').toInt32, iv (j' + 1).toInt32] [(.int (k + 1).toInt32), (.int (j' + 1).toInt32)]) := fun target kt => g165 target (st166 target kt)
    by_cases hc168 : (j' + 1).toInt32 = (k + 1).toInt32
    · have g169 : own_Go p e below s₁ (entryFrame m #[(.ref a1), (.int mo)] 4) T166 (mkF m 66 #[rv a1, iv mo, iv (own_rs f j').toInt32, iv (j' + 1).toInt32] []) := by
        intro target kt
        refine g167 target ?_
        refine XS.icmpNo X166.here hx rfl (hb hby d8_63) rfl (XT.ii_ne_f hc168) ?_
        show Steps p.tables e below (T166.setTop (mkF m 66 #[rv a1, iv mo, iv (own_rs f j').toInt32, iv (j' + 1).toInt32] [])) target
        exact kt
      have hjk : j' = k := by have := own_inj (by omega) (by omega) hc168; omega
      rw [hjk] at g169
      have g170 : own_Go p e below s₁ (entryFrame m #[(.ref a1), (.int mo)] 4) T166 (mkF m 69 #[rv a1, iv mo, iv (own_rs f k).toInt32, iv (k + 1).toInt32] [(.int ((own_rs f k).toInt32.toUInt32.toUInt16.toUInt32.toInt32)), (.ref a1)]) := by
        intro target kt
        refine g169 target ?_
        refine XS.aloadN X166.here hx rfl (hb hby d8_66) rfl rfl ?_
        show Steps p.tables e below (T166.setTop (mkF m 67 #[rv a1, iv mo, iv (own_rs f k).toInt32, iv (k + 1).toInt32] [(.ref a1)])) target
        refine XS.iloadN X166.here hx rfl (hb hby d8_67) rfl ?_
        show Steps p.tables e below (T166.setTop (mkF m 68 #[rv a1, iv mo, iv (own_rs f k).toInt32, iv (k + 1).toInt32] [(.int (own_rs f k).toInt32), (.ref a1)])) target
        refine XT.i2c X166.here hx rfl (hb hby d8_68) rfl ?_
        show Steps p.tables e below (T166.setTop (mkF m 69 #[rv a1, iv mo, iv (own_rs f k).toInt32, iv (k + 1).toInt32] [(.int ((own_rs f k).toInt32.toUInt32.toUInt16.toUInt32.toInt32)), (.ref a1)])) target
        exact kt
      rw [own_i2c (own_small (n := own_rs f k) (by omega))] at g170
      obtain ⟨T171, h171, X171, e171, W171, st171⟩ := putFN X166 hx hZ hown (hw _ (List.mem_of_getElem? (i := 36) rfl)) Via.refl e166 F4 E1 (Or.inl (hw _ (List.mem_of_getElem? (i := 37) rfl))) (hw _ (List.mem_of_getElem? (i := 10) rfl)) (ty := .char) (v := (.int (own_rs f k).toInt32)) (v' := (.int (own_rs f k).toInt32)) (by decide) (congrArg Value.int (own_narc (own_small (n := own_rs f k) (by omega)))) (own_fitc (own_small (n := own_rs f k) (by omega))) (g := (mkF m 69 #[rv a1, iv mo, iv (own_rs f k).toInt32, iv (k + 1).toInt32] [(.int (own_rs f k).toInt32), (.ref a1)])) rfl rfl (hb hby d8_69)
      have g172 : own_Go p e below s₁ (entryFrame m #[(.ref a1), (.int mo)] 4) T171 (mkF m 72 #[rv a1, iv mo, iv (own_rs f k).toInt32, iv (k + 1).toInt32] []) := fun target kt => g170 target (st171 target kt)
      have N171 := Fr.snoc X171 N0 ga
      have E2 := E1.wr W171
      have G1 := (F1.other W171 (Or.inr (slot_ne (a0 := a0) (Or.inl (hw _ (List.mem_of_getElem? (i := 25) rfl))) (Or.inl (hw _ (List.mem_of_getElem? (i := 37) rfl))) (by decide) (t := (.array .char)) (t' := .char) (by decide) (by decide))))
      have G3 := (F3.other W171 (Or.inr (slot_ne (a0 := a0) (Or.inl (hw _ (List.mem_of_getElem? (i := 30) rfl))) (Or.inl (hw _ (List.mem_of_getElem? (i := 37) rfl))) (by decide) (t := .char) (t' := .char) (by decide) (by decide))))
      have G4 := F4.same W171
      have U2 := U1.other W171 nab.symm
      have g173 : own_Go p e below s₁ (entryFrame m #[(.ref a1), (.int mo)] 4) T171 (mkF m 73 #[rv a1, iv mo, iv (own_rs f k).toInt32, iv (k + 1).toInt32] [(.int (own_rs f k).toInt32)]) := by
        intro target kt
        refine g172 target ?_
        refine XS.iloadN X171.here hx rfl (hb hby d8_72) rfl ?_
        show Steps p.tables e below (T171.setTop (mkF m 73 #[rv a1, iv mo, iv (own_rs f k).toInt32, iv (k + 1).toInt32] [(.int (own_rs f k).toInt32)])) target
        exact kt
      obtain ⟨fs, hr, hrun, hended, hW, hsame⟩ := X171.leave (v := some (.int (own_rs f k).toInt32)) (fun h => by rw [Bd.returns] at h; cases h)
      refine ⟨_, _, g173 _ ?_, hrun, hended, _, _, rfl, ?_, ⟨_, rfl⟩, hW, hsame.mono (by decide) (by decide)⟩
      · exact retI X171 hx Bd.returns (hb hby d8_73) hr
      · show Q_rmRuns Z a1 mo av k r len f h0 n0 _ T171.heap _
        rw [e171]
        exact ⟨_, _, rfl, own_okE _ (by omega) mo, Or.inr rfl, N171, (Keep.refl h0 _).wr W171 (Or.inl (List.mem_of_getElem? (i := 0) rfl)), E2, G1, G3, G4, U2, nab⟩
    · have q3 : mo.toInt < (own_rs f j' : Int) := q2.resolve_left (fun q => hc168 (by rw [q]))
      have g174 : own_Go p e below s₁ (entryFrame m #[(.ref a1), (.int mo)] 4) T166 (mkF m 73 #[rv a1, iv mo, iv (own_rs f j').toInt32, iv (j' + 1).toInt32] [(.int (own_rs f j').toInt32)]) := by
        intro target kt
        refine g167 target ?_
        refine XS.icmpYes X166.here hx rfl (pc0 := 63) (pc' := 72) rfl (hb hby d8_63) rfl (XT.ii_ne_t hc168) (by decide) (by decide) ?_
        show Steps p.tables e below (T166.setTop (mkF m 72 #[rv a1, iv mo, iv (own_rs f j').toInt32, iv (j' + 1).toInt32] [])) target
        refine XS.iloadN X166.here hx rfl (hb hby d8_72) rfl ?_
        show Steps p.tables e below (T166.setTop (mkF m 73 #[rv a1, iv mo, iv (own_rs f j').toInt32, iv (j' + 1).toInt32] [(.int (own_rs f j').toInt32)])) target
        exact kt
      obtain ⟨fs, hr, hrun, hended, hW, hsame⟩ := X166.leave (v := some (.int (own_rs f j').toInt32)) (fun h => by rw [Bd.returns] at h; cases h)
      refine ⟨_, _, g174 _ ?_, hrun, hended, _, _, rfl, ?_, ⟨_, rfl⟩, hW, hsame.mono (by decide) (by decide)⟩
      · exact retI X166 hx Bd.returns (hb hby d8_73) hr
      · show Q_rmRuns Z a1 mo av k r len f h0 n0 _ T166.heap _
        rw [e166]
        exact ⟨_, r, rfl, own_okI _ _ hmono (by omega) mo q3, hrc, N0, Keep.refl _ _, K1⟩
  · have g175 : own_Go p e below s₁ (entryFrame m #[(.ref a1), (.int mo)] 4) T161 (mkF m 8 #[rv a1, iv mo, .unset, .unset] [(.ref a1)]) := by
      intro target kt
      refine g162 target ?_
      refine XS.ifNo X161.here hx rfl (hb hby d8_4) rfl (XT.i0_eq_f hc163) ?_
      show Steps p.tables e below (T161.setTop (mkF m 7 #[rv a1, iv mo, .unset, .unset] [])) target
      refine XS.aloadN X161.here hx rfl (hb hby d8_7) rfl rfl ?_
      show Steps p.tables e below (T161.setTop (mkF m 8 #[rv a1, iv mo, .unset, .unset] [(.ref a1)])) target
      exact kt
    obtain ⟨T176, X176, e176, st176⟩ := getF X161 hx hZ hown (host := "") (Or.inl (hw _ (List.mem_of_getElem? (i := 36) rfl))) Via.refl e161 F4 (g := (mkF m 8 #[rv a1, iv mo, .unset, .unset] [(.ref a1)])) rfl rfl (hb hby d8_8)
    have g177 : own_Go p e below s₁ (entryFrame m #[(.ref a1), (.int mo)] 4) T176 (mkF m 11 #[rv a1, iv mo, .unset, .unset] [(.int r)]) := fun target kt => g175 target (st176 target kt)
    have hr2 : r = (own_rs f k).toInt32 := hrc.resolve_left hc163
    obtain ⟨fs, hr, hrun, hended, hW, hsame⟩ := X176.leave (v := some (.int r)) (fun h => by rw [Bd.returns] at h; cases h)
    refine ⟨_, _, g177 _ ?_, hrun, hended, _, _, rfl, ?_, ⟨_, rfl⟩, hW, hsame.mono (by decide) (by decide)⟩
    · exact retI X176 hx Bd.returns (hb hby d8_11) hr
    · show Q_rmRuns Z a1 mo av k r len f h0 n0 _ T176.heap _
      rw [e176]
      exact ⟨r, r, rfl, by rw [hr2]; exact own_okE _ (by omega) mo, hrc, N0, Keep.refl _ _, K1⟩
theorem pn_rm0 : plainName "com/example/bitloom/bitloom/ArrayContainerCountRunsPinLaw" = true := by first | (simp [plainName, overriddenIn]; done) | decide +kernel
theorem ef_rm0 (m : MethodId) (p0 : Int32) (p1 : Int32) (p2 : Int32) (p3 : Int32) (p4 : Int32) (p5 : Int32) : entryFrame m #[(.int p0), (.int p1), (.int p2), (.int p3), (.int p4), (.int p5)] maxLocals = mkF m 0 #[iv p0, iv p1, iv p2, iv p3, iv p4, iv p5, .unset, .unset, .unset, .unset, .unset, .unset, .unset, .unset, .unset, .unset, .unset, .unset, .unset, .unset, .unset, .unset] [] := by first | (simp [entryFrame, mkF, argsToLocals, Value.category, maxLocals]; done) | rfl
def Q_rm0 (Z : State) (p0 : Int32) (p1 : Int32) (p2 : Int32) (p3 : Int32) (p4 : Int32) (p5 : Int32)  (h0 : Heap) (n0 : Nat) (v : Option Value) (h : Heap) (L : List Loc) : Prop := v = some (.int (1 : Int32)) ∧ Fr n0 L
set_option maxRecDepth 65536 in
set_option maxHeartbeats 40000000 in
theorem rm0 (l : Launch) (Z : State) (a0 : Array Value) (hw : ∀ d ∈ tables_1, d.before a0 Z = true) (ws : List Jvm.Cond) (p0 : Int32) (p1 : Int32) (p2 : Int32) (p3 : Int32) (p4 : Int32) (p5 : Int32)  (h0 : Heap) (n0 : Nat) (Z0 : n0 ≤ h0.size)  :
    MetFree l x (head1 (Jvm.Cond.code x code maxLocals ret :: ws) room_1) (fun a U => a = #[(.int p0), (.int p1), (.int p2), (.int p3), (.int p4), (.int p5)] ∧ Z.Warmed39 U.vm ∧ U.heap = h0) (fun _ _ _ _ _ => True) (fun _ U o U' => ∃ v L, o = .returned v ∧ Q_rm0 Z p0 p1 p2 p3 p4 p5  h0 n0 v U'.heap L ∧ FrameEnd U o U' L room_1.cells room_1.slots) := by
  refine MetFree.of_bodySF (plainFor_of_name pn_rm0) hisR ?_
  intro p e s m args below meth c s₁ Bd hml0 hP hK
  obtain ⟨rfl, hZ, hh⟩ := hP
  have hx := Bd.exec
  have hby := Bd.bytes
  have hml : c.maxLocals = 22 := hml0
  have hown : s.vm.findClass "com/example/bitloom/bitloom/ArrayContainerCountRunsPinLaw" = some m.cls := findClass_of_methodNamed Bd.named
  have hnm := (name_of_methodNamed Bd.named Bd.method).1
  have X0 : Stand p l e room_1 s m #[(.int p0), (.int p1), (.int p2), (.int p3), (.int p4), (.int p5)] below meth c s₁ [] 0 0 := Stand.of_body Bd
  have e0 : s₁.heap = h0 := by rw [← hh, Bd.state]; rfl
  have N0 := Fr.nil n0
  have g0 : own_Go p e below s₁ (entryFrame m #[(.int p0), (.int p1), (.int p2), (.int p3), (.int p4), (.int p5)] maxLocals) s₁ (mkF m 0 #[iv p0, iv p1, iv p2, iv p3, iv p4, iv p5, .unset, .unset, .unset, .unset, .unset, .unset, .unset, .unset, .unset, .unset, .unset, .unset, .unset, .unset, .unset, .unset] []) := fun t k => castTop (ef_rm0 m p0 p1 p2 p3 p4 p5) k
  have g178 : own_Go p e below s₁ (entryFrame m #[(.int p0), (.int p1), (.int p2), (.int p3), (.int p4), (.int p5)] maxLocals) s₁ (mkF m 3 #[iv p0, iv p1, iv p2, iv p3, iv p4, iv p5, .unset, .unset, .unset, .unset, .unset, .unset, .unset, .unset, .unset, .unset, .unset, .unset, .unset, .unset, .unset, .unset] [(.int (0 : Int32)), (.int p2), (.int p1)]) := by
    intro target kt
    refine g0 target ?_
    refine XS.iloadN X0.here hx rfl (hb hby at_0) rfl ?_
    show Steps p.tables e below (s₁.setTop (mkF m 1 #[iv p0, iv p1, iv p2, iv p3, iv p4, iv p5, .unset, .unset, .unset, .unset, .unset, .unset, .unset, .unset, .unset, .unset, .unset, .unset, .unset, .unset, .unset, .unset] [(.int p1)])) target
    refine XS.iloadN X0.here hx rfl (hb hby at_1) rfl ?_
    show Steps p.tables e below (s₁.setTop (mkF m 2 #[iv p0, iv p1, iv p2, iv p3, iv p4, iv p5, .unset, .unset, .unset, .unset, .unset, .unset, .unset, .unset, .unset, .unset, .unset, .unset, .unset, .unset, .unset, .unset] [(.int p2), (.int p1)])) target
    refine XT.iconstV X0.here hx rfl (0 : Int32) (hb hby at_2) rfl ?_
    show Steps p.tables e below (s₁.setTop (mkF m 3 #[iv p0, iv p1, iv p2, iv p3, iv p4, iv p5, .unset, .unset, .unset, .unset, .unset, .unset, .unset, .unset, .unset, .unset, .unset, .unset, .unset, .unset, .unset, .unset] [(.int (0 : Int32)), (.int p2), (.int p1)])) target
    exact kt
  obtain ⟨_, _, ⟨T179, L179, k179, n179⟩, -, X179, ⟨Lc179, hQ179, l179, y179, z179⟩, st179⟩ := Jvm.LawKit.callS X0 hx (y := (⟨"com/example/bitloom/bitloom/ArrayContainerCountRunsPinLaw", "gap", "(III)I"⟩ : MethodName)) hown (mvT hZ (hw _ (List.mem_of_getElem? (i := 0) rfl))) (mvT hZ (hw _ (List.mem_of_getElem? (i := 1) rfl))) (mvT hZ (hw _ (List.mem_of_getElem? (i := 2) rfl))) (mvT hZ (hw _ (List.mem_of_getElem? (i := 3) rfl))) (by decide) (backOf (W := 0) (rmGap l Z a0 hw [] p1 p2 (0 : Int32) h0 n0 Z0) hZ (hw _ (List.mem_of_getElem? (i := 3) rfl)) (hw _ (List.mem_of_getElem? (i := 2) rfl)) (by decide) (by decide)) (g := (mkF m 3 #[iv p0, iv p1, iv p2, iv p3, iv p4, iv p5, .unset, .unset, .unset, .unset, .unset, .unset, .unset, .unset, .unset, .unset, .unset, .unset, .unset, .unset, .unset, .unset] [(.int (0 : Int32)), (.int p2), (.int p1)])) rfl (by rw [hml]; rfl) (argsL := [(.int p1), (.int p2), (.int (0 : Int32))]) (rest := []) (lenOf pd_7 rfl) rfl (by show 2 * 0 + _ ≤ _; exact Nat.le_of_eq rfl) (hb hby at_3) (fun _ _ => ⟨rfl, e0, (by decide : 0 + 0 ≤ _), (by decide : 0 + 0 ≤ _)⟩)
  dsimp only [Pt.U, Pt.locs, Pt.cells, Pt.slots] at X179 l179 y179 z179 st179 hQ179
  subst l179 y179 z179
  obtain ⟨d1, rfl, hd1, Nq179, eq179⟩ := hQ179
  have N179 := Fr.app N0 Nq179
  have g180 : own_Go p e below s₁ (entryFrame m #[(.int p0), (.int p1), (.int p2), (.int p3), (.int p4), (.int p5)] maxLocals) T179 (mkF m 6 #[iv p0, iv p1, iv p2, iv p3, iv p4, iv p5, .unset, .unset, .unset, .unset, .unset, .unset, .unset, .unset, .unset, .unset, .unset, .unset, .unset, .unset, .unset, .unset] [(.int d1)]) := fun target kt => g178 target (st179 target kt)
  have g181 : own_Go p e below s₁ (entryFrame m #[(.int p0), (.int p1), (.int p2), (.int p3), (.int p4), (.int p5)] maxLocals) T179 (mkF m 11 #[iv p0, iv p1, iv p2, iv p3, iv p4, iv p5, iv d1, .unset, .unset, .unset, .unset, .unset, .unset, .unset, .unset, .unset, .unset, .unset, .unset, .unset, .unset, .unset] [(.int (1 : Int32)), (.int p2), (.int p1)]) := by
    intro target kt
    refine g180 target ?_
    refine XS.istore X179.here hx rfl (hb hby at_6) rfl (l' := #[iv p0, iv p1, iv p2, iv p3, iv p4, iv p5, iv d1, .unset, .unset, .unset, .unset, .unset, .unset, .unset, .unset, .unset, .unset, .unset, .unset, .unset, .unset, .unset]) rfl ?_
    show Steps p.tables e below (T179.setTop (mkF m 8 #[iv p0, iv p1, iv p2, iv p3, iv p4, iv p5, iv d1, .unset, .unset, .unset, .unset, .unset, .unset, .unset, .unset, .unset, .unset, .unset, .unset, .unset, .unset, .unset] [])) target
    refine XS.iloadN X179.here hx rfl (hb hby at_8) rfl ?_
    show Steps p.tables e below (T179.setTop (mkF m 9 #[iv p0, iv p1, iv p2, iv p3, iv p4, iv p5, iv d1, .unset, .unset, .unset, .unset, .unset, .unset, .unset, .unset, .unset, .unset, .unset, .unset, .unset, .unset, .unset] [(.int p1)])) target
    refine XS.iloadN X179.here hx rfl (hb hby at_9) rfl ?_
    show Steps p.tables e below (T179.setTop (mkF m 10 #[iv p0, iv p1, iv p2, iv p3, iv p4, iv p5, iv d1, .unset, .unset, .unset, .unset, .unset, .unset, .unset, .unset, .unset, .unset, .unset, .unset, .unset, .unset, .unset] [(.int p2), (.int p1)])) target
    refine XT.iconstV X179.here hx rfl (1 : Int32) (hb hby at_10) rfl ?_
    show Steps p.tables e below (T179.setTop (mkF m 11 #[iv p0, iv p1, iv p2, iv p3, iv p4, iv p5, iv d1, .unset, .unset, .unset, .unset, .unset, .unset, .unset, .unset, .unset, .unset, .unset, .unset, .unset, .unset, .unset] [(.int (1 : Int32)), (.int p2), (.int p1)])) target
    exact kt
  obtain ⟨_, _, ⟨T182, L182, k182, n182⟩, -, X182, ⟨Lc182, hQ182, l182, y182, z182⟩, st182⟩ := Jvm.LawKit.callS X179 hx (y := (⟨"com/example/bitloom/bitloom/ArrayContainerCountRunsPinLaw", "gap", "(III)I"⟩ : MethodName)) hown (mvT hZ (hw _ (List.mem_of_getElem? (i := 0) rfl))) (mvT hZ (hw _ (List.mem_of_getElem? (i := 1) rfl))) (mvT hZ (hw _ (List.mem_of_getElem? (i := 2) rfl))) (mvT hZ (hw _ (List.mem_of_getElem? (i := 3) rfl))) (by decide) (backOf (W := 0) (rmGap l Z a0 hw [] p1 p2 (1 : Int32) h0 n0 Z0) hZ (hw _ (List.mem_of_getElem? (i := 3) rfl)) (hw _ (List.mem_of_getElem? (i := 2) rfl)) (by decide) (by decide)) (g := (mkF m 11 #[iv p0, iv p1, iv p2, iv p3, iv p4, iv p5, iv d1, .unset, .unset, .unset, .unset, .unset, .unset, .unset, .unset, .unset, .unset, .unset, .unset, .unset, .unset, .unset] [(.int (1 : Int32)), (.int p2), (.int p1)])) rfl (by rw [hml]; rfl) (argsL := [(.int p1), (.int p2), (.int (1 : Int32))]) (rest := []) (lenOf pd_7 rfl) rfl (by show 2 * 0 + _ ≤ _; exact Nat.le_of_eq rfl) (hb hby at_11) (fun _ _ => ⟨rfl, eq179, (by decide : 0 + 0 ≤ _), (by decide : 0 + 0 ≤ _)⟩)
  dsimp only [Pt.U, Pt.locs, Pt.cells, Pt.slots] at X182 l182 y182 z182 st182 hQ182
  subst l182 y182 z182
  obtain ⟨d2, rfl, hd2, Nq182, eq182⟩ := hQ182
  have N182 := Fr.app N179 Nq182
  have g183 : own_Go p e below s₁ (entryFrame m #[(.int p0), (.int p1), (.int p2), (.int p3), (.int p4), (.int p5)] maxLocals) T182 (mkF m 14 #[iv p0, iv p1, iv p2, iv p3, iv p4, iv p5, iv d1, .unset, .unset, .unset, .unset, .unset, .unset, .unset, .unset, .unset, .unset, .unset, .unset, .unset, .unset, .unset] [(.int d2)]) := fun target kt => g181 target (st182 target kt)
  have g184 : own_Go p e below s₁ (entryFrame m #[(.int p0), (.int p1), (.int p2), (.int p3), (.int p4), (.int p5)] maxLocals) T182 (mkF m 19 #[iv p0, iv p1, iv p2, iv p3, iv p4, iv p5, iv d1, iv d2, .unset, .unset, .unset, .unset, .unset, .unset, .unset, .unset, .unset, .unset, .unset, .unset, .unset, .unset] [(.int (2 : Int32)), (.int p2), (.int p1)]) := by
    intro target kt
    refine g183 target ?_
    refine XS.istore X182.here hx rfl (hb hby at_14) rfl (l' := #[iv p0, iv p1, iv p2, iv p3, iv p4, iv p5, iv d1, iv d2, .unset, .unset, .unset, .unset, .unset, .unset, .unset, .unset, .unset, .unset, .unset, .unset, .unset, .unset]) rfl ?_
    show Steps p.tables e below (T182.setTop (mkF m 16 #[iv p0, iv p1, iv p2, iv p3, iv p4, iv p5, iv d1, iv d2, .unset, .unset, .unset, .unset, .unset, .unset, .unset, .unset, .unset, .unset, .unset, .unset, .unset, .unset] [])) target
    refine XS.iloadN X182.here hx rfl (hb hby at_16) rfl ?_
    show Steps p.tables e below (T182.setTop (mkF m 17 #[iv p0, iv p1, iv p2, iv p3, iv p4, iv p5, iv d1, iv d2, .unset, .unset, .unset, .unset, .unset, .unset, .unset, .unset, .unset, .unset, .unset, .unset, .unset, .unset] [(.int p1)])) target
    refine XS.iloadN X182.here hx rfl (hb hby at_17) rfl ?_
    show Steps p.tables e below (T182.setTop (mkF m 18 #[iv p0, iv p1, iv p2, iv p3, iv p4, iv p5, iv d1, iv d2, .unset, .unset, .unset, .unset, .unset, .unset, .unset, .unset, .unset, .unset, .unset, .unset, .unset, .unset] [(.int p2), (.int p1)])) target
    refine XT.iconstV X182.here hx rfl (2 : Int32) (hb hby at_18) rfl ?_
    show Steps p.tables e below (T182.setTop (mkF m 19 #[iv p0, iv p1, iv p2, iv p3, iv p4, iv p5, iv d1, iv d2, .unset, .unset, .unset, .unset, .unset, .unset, .unset, .unset, .unset, .unset, .unset, .unset, .unset, .unset] [(.int (2 : Int32)), (.int p2), (.int p1)])) target
    exact kt
  obtain ⟨_, _, ⟨T185, L185, k185, n185⟩, -, X185, ⟨Lc185, hQ185, l185, y185, z185⟩, st185⟩ := Jvm.LawKit.callS X182 hx (y := (⟨"com/example/bitloom/bitloom/ArrayContainerCountRunsPinLaw", "gap", "(III)I"⟩ : MethodName)) hown (mvT hZ (hw _ (List.mem_of_getElem? (i := 0) rfl))) (mvT hZ (hw _ (List.mem_of_getElem? (i := 1) rfl))) (mvT hZ (hw _ (List.mem_of_getElem? (i := 2) rfl))) (mvT hZ (hw _ (List.mem_of_getElem? (i := 3) rfl))) (by decide) (backOf (W := 0) (rmGap l Z a0 hw [] p1 p2 (2 : Int32) h0 n0 Z0) hZ (hw _ (List.mem_of_getElem? (i := 3) rfl)) (hw _ (List.mem_of_getElem? (i := 2) rfl)) (by decide) (by decide)) (g := (mkF m 19 #[iv p0, iv p1, iv p2, iv p3, iv p4, iv p5, iv d1, iv d2, .unset, .unset, .unset, .unset, .unset, .unset, .unset, .unset, .unset, .unset, .unset, .unset, .unset, .unset] [(.int (2 : Int32)), (.int p2), (.int p1)])) rfl (by rw [hml]; rfl) (argsL := [(.int p1), (.int p2), (.int (2 : Int32))]) (rest := []) (lenOf pd_7 rfl) rfl (by show 2 * 0 + _ ≤ _; exact Nat.le_of_eq rfl) (hb hby at_19) (fun _ _ => ⟨rfl, eq182, (by decide : 0 + 0 ≤ _), (by decide : 0 + 0 ≤ _)⟩)
  dsimp only [Pt.U, Pt.locs, Pt.cells, Pt.slots] at X185 l185 y185 z185 st185 hQ185
  subst l185 y185 z185
  obtain ⟨d3, rfl, hd3, Nq185, eq185⟩ := hQ185
  have N185 := Fr.app N182 Nq185
  have g186 : own_Go p e below s₁ (entryFrame m #[(.int p0), (.int p1), (.int p2), (.int p3), (.int p4), (.int p5)] maxLocals) T185 (mkF m 22 #[iv p0, iv p1, iv p2, iv p3, iv p4, iv p5, iv d1, iv d2, .unset, .unset, .unset, .unset, .unset, .unset, .unset, .unset, .unset, .unset, .unset, .unset, .unset, .unset] [(.int d3)]) := fun target kt => g184 target (st185 target kt)
  have g187 : own_Go p e below s₁ (entryFrame m #[(.int p0), (.int p1), (.int p2), (.int p3), (.int p4), (.int p5)] maxLocals) T185 (mkF m 27 #[iv p0, iv p1, iv p2, iv p3, iv p4, iv p5, iv d1, iv d2, iv d3, .unset, .unset, .unset, .unset, .unset, .unset, .unset, .unset, .unset, .unset, .unset, .unset, .unset] [(.int (3 : Int32)), (.int p2), (.int p1)]) := by
    intro target kt
    refine g186 target ?_
    refine XS.istore X185.here hx rfl (hb hby at_22) rfl (l' := #[iv p0, iv p1, iv p2, iv p3, iv p4, iv p5, iv d1, iv d2, iv d3, .unset, .unset, .unset, .unset, .unset, .unset, .unset, .unset, .unset, .unset, .unset, .unset, .unset]) rfl ?_
    show Steps p.tables e below (T185.setTop (mkF m 24 #[iv p0, iv p1, iv p2, iv p3, iv p4, iv p5, iv d1, iv d2, iv d3, .unset, .unset, .unset, .unset, .unset, .unset, .unset, .unset, .unset, .unset, .unset, .unset, .unset] [])) target
    refine XS.iloadN X185.here hx rfl (hb hby at_24) rfl ?_
    show Steps p.tables e below (T185.setTop (mkF m 25 #[iv p0, iv p1, iv p2, iv p3, iv p4, iv p5, iv d1, iv d2, iv d3, .unset, .unset, .unset, .unset, .unset, .unset, .unset, .unset, .unset, .unset, .unset, .unset, .unset] [(.int p1)])) target
    refine XS.iloadN X185.here hx rfl (hb hby at_25) rfl ?_
    show Steps p.tables e below (T185.setTop (mkF m 26 #[iv p0, iv p1, iv p2, iv p3, iv p4, iv p5, iv d1, iv d2, iv d3, .unset, .unset, .unset, .unset, .unset, .unset, .unset, .unset, .unset, .unset, .unset, .unset, .unset] [(.int p2), (.int p1)])) target
    refine XT.iconstV X185.here hx rfl (3 : Int32) (hb hby at_26) rfl ?_
    show Steps p.tables e below (T185.setTop (mkF m 27 #[iv p0, iv p1, iv p2, iv p3, iv p4, iv p5, iv d1, iv d2, iv d3, .unset, .unset, .unset, .unset, .unset, .unset, .unset, .unset, .unset, .unset, .unset, .unset, .unset] [(.int (3 : Int32)), (.int p2), (.int p1)])) target
    exact kt
  obtain ⟨_, _, ⟨T188, L188, k188, n188⟩, -, X188, ⟨Lc188, hQ188, l188, y188, z188⟩, st188⟩ := Jvm.LawKit.callS X185 hx (y := (⟨"com/example/bitloom/bitloom/ArrayContainerCountRunsPinLaw", "gap", "(III)I"⟩ : MethodName)) hown (mvT hZ (hw _ (List.mem_of_getElem? (i := 0) rfl))) (mvT hZ (hw _ (List.mem_of_getElem? (i := 1) rfl))) (mvT hZ (hw _ (List.mem_of_getElem? (i := 2) rfl))) (mvT hZ (hw _ (List.mem_of_getElem? (i := 3) rfl))) (by decide) (backOf (W := 0) (rmGap l Z a0 hw [] p1 p2 (3 : Int32) h0 n0 Z0) hZ (hw _ (List.mem_of_getElem? (i := 3) rfl)) (hw _ (List.mem_of_getElem? (i := 2) rfl)) (by decide) (by decide)) (g := (mkF m 27 #[iv p0, iv p1, iv p2, iv p3, iv p4, iv p5, iv d1, iv d2, iv d3, .unset, .unset, .unset, .unset, .unset, .unset, .unset, .unset, .unset, .unset, .unset, .unset, .unset] [(.int (3 : Int32)), (.int p2), (.int p1)])) rfl (by rw [hml]; rfl) (argsL := [(.int p1), (.int p2), (.int (3 : Int32))]) (rest := []) (lenOf pd_7 rfl) rfl (by show 2 * 0 + _ ≤ _; exact Nat.le_of_eq rfl) (hb hby at_27) (fun _ _ => ⟨rfl, eq185, (by decide : 0 + 0 ≤ _), (by decide : 0 + 0 ≤ _)⟩)
  dsimp only [Pt.U, Pt.locs, Pt.cells, Pt.slots] at X188 l188 y188 z188 st188 hQ188
  subst l188 y188 z188
  obtain ⟨d4, rfl, hd4, Nq188, eq188⟩ := hQ188
  have N188 := Fr.app N185 Nq188
  have g189 : own_Go p e below s₁ (entryFrame m #[(.int p0), (.int p1), (.int p2), (.int p3), (.int p4), (.int p5)] maxLocals) T188 (mkF m 30 #[iv p0, iv p1, iv p2, iv p3, iv p4, iv p5, iv d1, iv d2, iv d3, .unset, .unset, .unset, .unset, .unset, .unset, .unset, .unset, .unset, .unset, .unset, .unset, .unset] [(.int d4)]) := fun target kt => g187 target (st188 target kt)
  have g190 : own_Go p e below s₁ (entryFrame m #[(.int p0), (.int p1), (.int p2), (.int p3), (.int p4), (.int p5)] maxLocals) T188 (mkF m 45 #[iv p0, iv p1, iv p2, iv p3, iv p4, iv p5, iv d1, iv d2, iv d3, iv d4, iv (((d1 + d2) + d3) + d4), .unset, .unset, .unset, .unset, .unset, .unset, .unset, .unset, .unset, .unset, .unset] []) := by
    intro target kt
    refine g189 target ?_
    refine XS.istore X188.here hx rfl (hb hby at_30) rfl (l' := #[iv p0, iv p1, iv p2, iv p3, iv p4, iv p5, iv d1, iv d2, iv d3, iv d4, .unset, .unset, .unset, .unset, .unset, .unset, .unset, .unset, .unset, .unset, .unset, .unset]) rfl ?_
    show Steps p.tables e below (T188.setTop (mkF m 32 #[iv p0, iv p1, iv p2, iv p3, iv p4, iv p5, iv d1, iv d2, iv d3, iv d4, .unset, .unset, .unset, .unset, .unset, .unset, .unset, .unset, .unset, .unset, .unset, .unset] [])) target
    refine XS.iload X188.here hx rfl (hb hby at_32) rfl ?_
    show Steps p.tables e below (T188.setTop (mkF m 34 #[iv p0, iv p1, iv p2, iv p3, iv p4, iv p5, iv d1, iv d2, iv d3, iv d4, .unset, .unset, .unset, .unset, .unset, .unset, .unset, .unset, .unset, .unset, .unset, .unset] [(.int d1)])) target
    refine XS.iload X188.here hx rfl (hb hby at_34) rfl ?_
    show Steps p.tables e below (T188.setTop (mkF m 36 #[iv p0, iv p1, iv p2, iv p3, iv p4, iv p5, iv d1, iv d2, iv d3, iv d4, .unset, .unset, .unset, .unset, .unset, .unset, .unset, .unset, .unset, .unset, .unset, .unset] [(.int d2), (.int d1)])) target
    refine XS.iadd X188.here hx rfl (hb hby at_36) rfl ?_
    show Steps p.tables e below (T188.setTop (mkF m 37 #[iv p0, iv p1, iv p2, iv p3, iv p4, iv p5, iv d1, iv d2, iv d3, iv d4, .unset, .unset, .unset, .unset, .unset, .unset, .unset, .unset, .unset, .unset, .unset, .unset] [(.int (d1 + d2))])) target
    refine XS.iload X188.here hx rfl (hb hby at_37) rfl ?_
    show Steps p.tables e below (T188.setTop (mkF m 39 #[iv p0, iv p1, iv p2, iv p3, iv p4, iv p5, iv d1, iv d2, iv d3, iv d4, .unset, .unset, .unset, .unset, .unset, .unset, .unset, .unset, .unset, .unset, .unset, .unset] [(.int d3), (.int (d1 + d2))])) target
    refine XS.iadd X188.here hx rfl (hb hby at_39) rfl ?_
    show Steps p.tables e below (T188.setTop (mkF m 40 #[iv p0, iv p1, iv p2, iv p3, iv p4, iv p5, iv d1, iv d2, iv d3, iv d4, .unset, .unset, .unset, .unset, .unset, .unset, .unset, .unset, .unset, .unset, .unset, .unset] [(.int ((d1 + d2) + d3))])) target
    refine XS.iload X188.here hx rfl (hb hby at_40) rfl ?_
    show Steps p.tables e below (T188.setTop (mkF m 42 #[iv p0, iv p1, iv p2, iv p3, iv p4, iv p5, iv d1, iv d2, iv d3, iv d4, .unset, .unset, .unset, .unset, .unset, .unset, .unset, .unset, .unset, .unset, .unset, .unset] [(.int d4), (.int ((d1 + d2) + d3))])) target
    refine XS.iadd X188.here hx rfl (hb hby at_42) rfl ?_
    show Steps p.tables e below (T188.setTop (mkF m 43 #[iv p0, iv p1, iv p2, iv p3, iv p4, iv p5, iv d1, iv d2, iv d3, iv d4, .unset, .unset, .unset, .unset, .unset, .unset, .unset, .unset, .unset, .unset, .unset, .unset] [(.int (((d1 + d2) + d3) + d4))])) target
    refine XS.istore X188.here hx rfl (hb hby at_43) rfl (l' := #[iv p0, iv p1, iv p2, iv p3, iv p4, iv p5, iv d1, iv d2, iv d3, iv d4, iv (((d1 + d2) + d3) + d4), .unset, .unset, .unset, .unset, .unset, .unset, .unset, .unset, .unset, .unset, .unset]) rfl ?_
    show Steps p.tables e below (T188.setTop (mkF m 45 #[iv p0, iv p1, iv p2, iv p3, iv p4, iv p5, iv d1, iv d2, iv d3, iv d4, iv (((d1 + d2) + d3) + d4), .unset, .unset, .unset, .unset, .unset, .unset, .unset, .unset, .unset, .unset, .unset] [])) target
    exact kt
  obtain ⟨tt, e_tt⟩ : ∃ z : Int32, z = (((d1 + d2) + d3) + d4) := ⟨_, rfl⟩
  rw [← e_tt] at g190
  have ht : tt.toInt = d1.toInt + d2.toInt + d3.toInt + d4.toInt := by rw [e_tt]; exact own_sum4 hd1 hd2 hd3 hd4
  obtain ⟨d1a, d1b⟩ := id hd1
  obtain ⟨d2a, d2b⟩ := id hd2
  obtain ⟨d3a, d3b⟩ := id hd3
  obtain ⟨d4a, d4b⟩ := id hd4
  have g191 : own_Go p e below s₁ (entryFrame m #[(.int p0), (.int p1), (.int p2), (.int p3), (.int p4), (.int p5)] maxLocals) T188 (mkF m 54 #[iv p0, iv p1, iv p2, iv p3, iv p4, iv p5, iv d1, iv d2, iv d3, iv d4, iv tt, .unset, .unset, .unset, .unset, .unset, .unset, .unset, .unset, .unset, .unset, .unset] [(.int ((65535 : Int32) - tt)), (.int (p0 &&& (65535 : Int32)))]) := by
    intro target kt
    refine g190 target ?_
    refine XS.iloadN X188.here hx rfl (hb hby at_45) rfl ?_
    show Steps p.tables e below (T188.setTop (mkF m 46 #[iv p0, iv p1, iv p2, iv p3, iv p4, iv p5, iv d1, iv d2, iv d3, iv d4, iv tt, .unset, .unset, .unset, .unset, .unset, .unset, .unset, .unset, .unset, .unset, .unset] [(.int p0)])) target
    refine X188.ldcI hx hown (mvT hZ (hw _ (List.mem_of_getElem? (i := 4) rfl))) rfl (hb hby at_46) ?_
    show Steps p.tables e below (T188.setTop (mkF m 48 #[iv p0, iv p1, iv p2, iv p3, iv p4, iv p5, iv d1, iv d2, iv d3, iv d4, iv tt, .unset, .unset, .unset, .unset, .unset, .unset, .unset, .unset, .unset, .unset, .unset] [(.int (65535 : Int32)), (.int p0)])) target
    refine XS.iand X188.here hx rfl (hb hby at_48) rfl ?_
    show Steps p.tables e below (T188.setTop (mkF m 49 #[iv p0, iv p1, iv p2, iv p3, iv p4, iv p5, iv d1, iv d2, iv d3, iv d4, iv tt, .unset, .unset, .unset, .unset, .unset, .unset, .unset, .unset, .unset, .unset, .unset] [(.int (p0 &&& (65535 : Int32)))])) target
    refine X188.ldcI hx hown (mvT hZ (hw _ (List.mem_of_getElem? (i := 4) rfl))) rfl (hb hby at_49) ?_
    show Steps p.tables e below (T188.setTop (mkF m 51 #[iv p0, iv p1, iv p2, iv p3, iv p4, iv p5, iv d1, iv d2, iv d3, iv d4, iv tt, .unset, .unset, .unset, .unset, .unset, .unset, .unset, .unset, .unset, .unset, .unset] [(.int (65535 : Int32)), (.int (p0 &&& (65535 : Int32)))])) target
    refine XS.iload X188.here hx rfl (hb hby at_51) rfl ?_
    show Steps p.tables e below (T188.setTop (mkF m 53 #[iv p0, iv p1, iv p2, iv p3, iv p4, iv p5, iv d1, iv d2, iv d3, iv d4, iv tt, .unset, .unset, .unset, .unset, .unset, .unset, .unset, .unset, .unset, .unset, .unset] [(.int tt), (.int (65535 : Int32)), (.int (p0 &&& (65535 : Int32)))])) target
    refine XS.isub X188.here hx rfl (hb hby at_53) rfl ?_
    show Steps p.tables e below (T188.setTop (mkF m 54 #[iv p0, iv p1, iv p2, iv p3, iv p4, iv p5, iv d1, iv d2, iv d3, iv d4, iv tt, .unset, .unset, .unset, .unset, .unset, .unset, .unset, .unset, .unset, .unset, .unset] [(.int ((65535 : Int32) - tt)), (.int (p0 &&& (65535 : Int32)))])) target
    exact kt
  obtain ⟨_, _, ⟨T192, L192, k192, n192⟩, -, X192, ⟨Lc192, hQ192, l192, y192, z192⟩, st192⟩ := Jvm.LawKit.callS X188 hx (y := (⟨"java/lang/Math", "min", "(II)I"⟩ : MethodName)) hown (mvT hZ (hw _ (List.mem_of_getElem? (i := 5) rfl))) (mvT hZ (hw _ (List.mem_of_getElem? (i := 6) rfl))) (mvT hZ (hw _ (List.mem_of_getElem? (i := 7) rfl))) (mvT hZ (hw _ (List.mem_of_getElem? (i := 8) rfl))) (by decide) (backOf (W := 0) (rmMin l Z a0 hw [] (p0 &&& (65535 : Int32)) ((65535 : Int32) - tt) h0 n0 Z0) hZ (hw _ (List.mem_of_getElem? (i := 8) rfl)) (hw _ (List.mem_of_getElem? (i := 7) rfl)) (by decide) (by decide)) (g := (mkF m 54 #[iv p0, iv p1, iv p2, iv p3, iv p4, iv p5, iv d1, iv d2, iv d3, iv d4, iv tt, .unset, .unset, .unset, .unset, .unset, .unset, .unset, .unset, .unset, .unset, .unset] [(.int ((65535 : Int32) - tt)), (.int (p0 &&& (65535 : Int32)))])) rfl (by rw [hml]; rfl) (argsL := [(.int (p0 &&& (65535 : Int32))), (.int ((65535 : Int32) - tt))]) (rest := []) (lenOf pd_0 rfl) rfl (by show 2 * 0 + _ ≤ _; exact Nat.le_of_eq rfl) (hb hby at_54) (fun _ _ => ⟨rfl, eq188, (by decide : 0 + 0 ≤ _), (by decide : 0 + 0 ≤ _)⟩)
  dsimp only [Pt.U, Pt.locs, Pt.cells, Pt.slots] at X192 l192 y192 z192 st192 hQ192
  subst l192 y192 z192
  obtain ⟨rfl, Nq192, eq192⟩ := hQ192
  have N192 := Fr.app N188 Nq192
  have g193 : own_Go p e below s₁ (entryFrame m #[(.int p0), (.int p1), (.int p2), (.int p3), (.int p4), (.int p5)] maxLocals) T192 (mkF m 57 #[iv p0, iv p1, iv p2, iv p3, iv p4, iv p5, iv d1, iv d2, iv d3, iv d4, iv tt, .unset, .unset, .unset, .unset, .unset, .unset, .unset, .unset, .unset, .unset, .unset] [(.int (if ((65535 : Int32) - tt) < (p0 &&& (65535 : Int32)) then ((65535 : Int32) - tt) else (p0 &&& (65535 : Int32))))]) := fun target kt => g191 target (st192 target kt)
  obtain ⟨v0, ev0, v0a, v0b⟩ := own_base p0 tt (by omega) (by omega)
  rw [ev0] at g193
  have g194 : own_Go p e below s₁ (entryFrame m #[(.int p0), (.int p1), (.int p2), (.int p3), (.int p4), (.int p5)] maxLocals) T192 (mkF m 66 #[iv p0, iv p1, iv p2, iv p3, iv p4, iv p5, iv d1, iv d2, iv d3, iv d4, iv tt, iv v0, iv (v0 + d1), .unset, .unset, .unset, .unset, .unset, .unset, .unset, .unset, .unset] []) := by
    intro target kt
    refine g193 target ?_
    refine XS.istore X192.here hx rfl (hb hby at_57) rfl (l' := #[iv p0, iv p1, iv p2, iv p3, iv p4, iv p5, iv d1, iv d2, iv d3, iv d4, iv tt, iv v0, .unset, .unset, .unset, .unset, .unset, .unset, .unset, .unset, .unset, .unset]) rfl ?_
    show Steps p.tables e below (T192.setTop (mkF m 59 #[iv p0, iv p1, iv p2, iv p3, iv p4, iv p5, iv d1, iv d2, iv d3, iv d4, iv tt, iv v0, .unset, .unset, .unset, .unset, .unset, .unset, .unset, .unset, .unset, .unset] [])) target
    refine XS.iload X192.here hx rfl (hb hby at_59) rfl ?_
    show Steps p.tables e below (T192.setTop (mkF m 61 #[iv p0, iv p1, iv p2, iv p3, iv p4, iv p5, iv d1, iv d2, iv d3, iv d4, iv tt, iv v0, .unset, .unset, .unset, .unset, .unset, .unset, .unset, .unset, .unset, .unset] [(.int v0)])) target
    refine XS.iload X192.here hx rfl (hb hby at_61) rfl ?_
    show Steps p.tables e below (T192.setTop (mkF m 63 #[iv p0, iv p1, iv p2, iv p3, iv p4, iv p5, iv d1, iv d2, iv d3, iv d4, iv tt, iv v0, .unset, .unset, .unset, .unset, .unset, .unset, .unset, .unset, .unset, .unset] [(.int d1), (.int v0)])) target
    refine XS.iadd X192.here hx rfl (hb hby at_63) rfl ?_
    show Steps p.tables e below (T192.setTop (mkF m 64 #[iv p0, iv p1, iv p2, iv p3, iv p4, iv p5, iv d1, iv d2, iv d3, iv d4, iv tt, iv v0, .unset, .unset, .unset, .unset, .unset, .unset, .unset, .unset, .unset, .unset] [(.int (v0 + d1))])) target
    refine XS.istore X192.here hx rfl (hb hby at_64) rfl (l' := #[iv p0, iv p1, iv p2, iv p3, iv p4, iv p5, iv d1, iv d2, iv d3, iv d4, iv tt, iv v0, iv (v0 + d1), .unset, .unset, .unset, .unset, .unset, .unset, .unset, .unset, .unset]) rfl ?_
    show Steps p.tables e below (T192.setTop (mkF m 66 #[iv p0, iv p1, iv p2, iv p3, iv p4, iv p5, iv d1, iv d2, iv d3, iv d4, iv tt, iv v0, iv (v0 + d1), .unset, .unset, .unset, .unset, .unset, .unset, .unset, .unset, .unset] [])) target
    exact kt
  obtain ⟨v1, e_v1⟩ : ∃ z : Int32, z = (v0 + d1) := ⟨_, rfl⟩
  rw [← e_v1] at g194
  have hv1 : v1.toInt = v0.toInt + d1.toInt := by rw [e_v1]; exact own_next (z := 65535) (by omega) (by omega) (by omega) (by omega)
  have g195 : own_Go p e below s₁ (entryFrame m #[(.int p0), (.int p1), (.int p2), (.int p3), (.int p4), (.int p5)] maxLocals) T192 (mkF m 73 #[iv p0, iv p1, iv p2, iv p3, iv p4, iv p5, iv d1, iv d2, iv d3, iv d4, iv tt, iv v0, iv v1, iv (v1 + d2), .unset, .unset, .unset, .unset, .unset, .unset, .unset, .unset] []) := by
    intro target kt
    refine g194 target ?_
    refine XS.iload X192.here hx rfl (hb hby at_66) rfl ?_
    show Steps p.tables e below (T192.setTop (mkF m 68 #[iv p0, iv p1, iv p2, iv p3, iv p4, iv p5, iv d1, iv d2, iv d3, iv d4, iv tt, iv v0, iv v1, .unset, .unset, .unset, .unset, .unset, .unset, .unset, .unset, .unset] [(.int v1)])) target
    refine XS.iload X192.here hx rfl (hb hby at_68) rfl ?_
    show Steps p.tables e below (T192.setTop (mkF m 70 #[iv p0, iv p1, iv p2, iv p3, iv p4, iv p5, iv d1, iv d2, iv d3, iv d4, iv tt, iv v0, iv v1, .unset, .unset, .unset, .unset, .unset, .unset, .unset, .unset, .unset] [(.int d2), (.int v1)])) target
    refine XS.iadd X192.here hx rfl (hb hby at_70) rfl ?_
    show Steps p.tables e below (T192.setTop (mkF m 71 #[iv p0, iv p1, iv p2, iv p3, iv p4, iv p5, iv d1, iv d2, iv d3, iv d4, iv tt, iv v0, iv v1, .unset, .unset, .unset, .unset, .unset, .unset, .unset, .unset, .unset] [(.int (v1 + d2))])) target
    refine XS.istore X192.here hx rfl (hb hby at_71) rfl (l' := #[iv p0, iv p1, iv p2, iv p3, iv p4, iv p5, iv d1, iv d2, iv d3, iv d4, iv tt, iv v0, iv v1, iv (v1 + d2), .unset, .unset, .unset, .unset, .unset, .unset, .unset, .unset]) rfl ?_
    show Steps p.tables e below (T192.setTop (mkF m 73 #[iv p0, iv p1, iv p2, iv p3, iv p4, iv p5, iv d1, iv d2, iv d3, iv d4, iv tt, iv v0, iv v1, iv (v1 + d2), .unset, .unset, .unset, .unset, .unset, .unset, .unset, .unset] [])) target
    exact kt
  obtain ⟨v2, e_v2⟩ : ∃ z : Int32, z = (v1 + d2) := ⟨_, rfl⟩
  rw [← e_v2] at g195
  have hv2 : v2.toInt = v1.toInt + d2.toInt := by rw [e_v2]; exact own_next (z := 65535) (by omega) (by omega) (by omega) (by omega)
  have g196 : own_Go p e below s₁ (entryFrame m #[(.int p0), (.int p1), (.int p2), (.int p3), (.int p4), (.int p5)] maxLocals) T192 (mkF m 80 #[iv p0, iv p1, iv p2, iv p3, iv p4, iv p5, iv d1, iv d2, iv d3, iv d4, iv tt, iv v0, iv v1, iv v2, iv (v2 + d3), .unset, .unset, .unset, .unset, .unset, .unset, .unset] []) := by
    intro target kt
    refine g195 target ?_
    refine XS.iload X192.here hx rfl (hb hby at_73) rfl ?_
    show Steps p.tables e below (T192.setTop (mkF m 75 #[iv p0, iv p1, iv p2, iv p3, iv p4, iv p5, iv d1, iv d2, iv d3, iv d4, iv tt, iv v0, iv v1, iv v2, .unset, .unset, .unset, .unset, .unset, .unset, .unset, .unset] [(.int v2)])) target
    refine XS.iload X192.here hx rfl (hb hby at_75) rfl ?_
    show Steps p.tables e below (T192.setTop (mkF m 77 #[iv p0, iv p1, iv p2, iv p3, iv p4, iv p5, iv d1, iv d2, iv d3, iv d4, iv tt, iv v0, iv v1, iv v2, .unset, .unset, .unset, .unset, .unset, .unset, .unset, .unset] [(.int d3), (.int v2)])) target
    refine XS.iadd X192.here hx rfl (hb hby at_77) rfl ?_
    show Steps p.tables e below (T192.setTop (mkF m 78 #[iv p0, iv p1, iv p2, iv p3, iv p4, iv p5, iv d1, iv d2, iv d3, iv d4, iv tt, iv v0, iv v1, iv v2, .unset, .unset, .unset, .unset, .unset, .unset, .unset, .unset] [(.int (v2 + d3))])) target
    refine XS.istore X192.here hx rfl (hb hby at_78) rfl (l' := #[iv p0, iv p1, iv p2, iv p3, iv p4, iv p5, iv d1, iv d2, iv d3, iv d4, iv tt, iv v0, iv v1, iv v2, iv (v2 + d3), .unset, .unset, .unset, .unset, .unset, .unset, .unset]) rfl ?_
    show Steps p.tables e below (T192.setTop (mkF m 80 #[iv p0, iv p1, iv p2, iv p3, iv p4, iv p5, iv d1, iv d2, iv d3, iv d4, iv tt, iv v0, iv v1, iv v2, iv (v2 + d3), .unset, .unset, .unset, .unset, .unset, .unset, .unset] [])) target
    exact kt
  obtain ⟨v3, e_v3⟩ : ∃ z : Int32, z = (v2 + d3) := ⟨_, rfl⟩
  rw [← e_v3] at g196
  have hv3 : v3.toInt = v2.toInt + d3.toInt := by rw [e_v3]; exact own_next (z := 65535) (by omega) (by omega) (by omega) (by omega)
  have g197 : own_Go p e below s₁ (entryFrame m #[(.int p0), (.int p1), (.int p2), (.int p3), (.int p4), (.int p5)] maxLocals) T192 (mkF m 87 #[iv p0, iv p1, iv p2, iv p3, iv p4, iv p5, iv d1, iv d2, iv d3, iv d4, iv tt, iv v0, iv v1, iv v2, iv v3, iv (v3 + d4), .unset, .unset, .unset, .unset, .unset, .unset] []) := by
    intro target kt
    refine g196 target ?_
    refine XS.iload X192.here hx rfl (hb hby at_80) rfl ?_
    show Steps p.tables e below (T192.setTop (mkF m 82 #[iv p0, iv p1, iv p2, iv p3, iv p4, iv p5, iv d1, iv d2, iv d3, iv d4, iv tt, iv v0, iv v1, iv v2, iv v3, .unset, .unset, .unset, .unset, .unset, .unset, .unset] [(.int v3)])) target
    refine XS.iload X192.here hx rfl (hb hby at_82) rfl ?_
    show Steps p.tables e below (T192.setTop (mkF m 84 #[iv p0, iv p1, iv p2, iv p3, iv p4, iv p5, iv d1, iv d2, iv d3, iv d4, iv tt, iv v0, iv v1, iv v2, iv v3, .unset, .unset, .unset, .unset, .unset, .unset, .unset] [(.int d4), (.int v3)])) target
    refine XS.iadd X192.here hx rfl (hb hby at_84) rfl ?_
    show Steps p.tables e below (T192.setTop (mkF m 85 #[iv p0, iv p1, iv p2, iv p3, iv p4, iv p5, iv d1, iv d2, iv d3, iv d4, iv tt, iv v0, iv v1, iv v2, iv v3, .unset, .unset, .unset, .unset, .unset, .unset, .unset] [(.int (v3 + d4))])) target
    refine XS.istore X192.here hx rfl (hb hby at_85) rfl (l' := #[iv p0, iv p1, iv p2, iv p3, iv p4, iv p5, iv d1, iv d2, iv d3, iv d4, iv tt, iv v0, iv v1, iv v2, iv v3, iv (v3 + d4), .unset, .unset, .unset, .unset, .unset, .unset]) rfl ?_
    show Steps p.tables e below (T192.setTop (mkF m 87 #[iv p0, iv p1, iv p2, iv p3, iv p4, iv p5, iv d1, iv d2, iv d3, iv d4, iv tt, iv v0, iv v1, iv v2, iv v3, iv (v3 + d4), .unset, .unset, .unset, .unset, .unset, .unset] [])) target
    exact kt
  obtain ⟨v4, e_v4⟩ : ∃ z : Int32, z = (v3 + d4) := ⟨_, rfl⟩
  rw [← e_v4] at g197
  have hv4 : v4.toInt = v3.toInt + d4.toInt := by rw [e_v4]; exact own_next (z := 65535) (by omega) (by omega) (by omega) (by omega)
  have cv0 : own_C v0 := ⟨by omega, by omega⟩
  have cv1 : own_C v1 := ⟨by omega, by omega⟩
  have cv2 : own_C v2 := ⟨by omega, by omega⟩
  have cv3 : own_C v3 := ⟨by omega, by omega⟩
  have cv4 : own_C v4 := ⟨by omega, by omega⟩
  obtain ⟨T198, h198, X198, e198, E198, A198, D198, -, st198⟩ := newO X192 hx hZ hown (hw _ (List.mem_of_getElem? (i := 9) rfl)) (hw _ (List.mem_of_getElem? (i := 10) rfl)) (hw _ (List.mem_of_getElem? (i := 11) rfl)) eq192 (g := (mkF m 87 #[iv p0, iv p1, iv p2, iv p3, iv p4, iv p5, iv d1, iv d2, iv d3, iv d4, iv tt, iv v0, iv v1, iv v2, iv v3, iv v4, .unset, .unset, .unset, .unset, .unset, .unset] [])) rfl (hb hby at_87) (by decide) (by decide)
  obtain ⟨b1, ga198⟩ : ∃ z, z = h0.size := ⟨_, rfl⟩
  rw [← ga198] at A198 D198 st198
  have Z198 : n0 ≤ h198.size := Nat.le_trans Z0 E198.1
  have g_b1 : n0 ≤ b1 := Nat.le_trans Z0 (Nat.le_of_eq ga198.symm)
  have F_values_b1 : Fld Z h198 b1 "com/example/bitloom/bitloom/ArrayContainer" "values" "[C" .null := D198 (Or.inl (hw _ (List.mem_of_getElem? (i := 25) rfl))) (ty := (.array .char)) (by decide)
  have F_stored_b1 : Fld Z h198 b1 "com/example/bitloom/bitloom/ArrayContainer" "stored" "Ljava/nio/CharBuffer;" .null := D198 (Or.inl (hw _ (List.mem_of_getElem? (i := 27) rfl))) (ty := (.object "java/nio/CharBuffer")) (by decide)
  have F_cardinality_b1 : Fld Z h198 b1 "com/example/bitloom/bitloom/Container" "cardinality" "C" (.int (0 : Int32)) := D198 (Or.inl (hw _ (List.mem_of_getElem? (i := 30) rfl))) (ty := .char) (by decide)
  have F_runCount_b1 : Fld Z h198 b1 "com/example/bitloom/bitloom/ArrayContainer" "runCount" "C" (.int (0 : Int32)) := D198 (Or.inl (hw _ (List.mem_of_getElem? (i := 37) rfl))) (ty := .char) (by decide)
  have g199 : own_Go p e below s₁ (entryFrame m #[(.int p0), (.int p1), (.int p2), (.int p3), (.int p4), (.int p5)] maxLocals) T198 (mkF m 90 #[iv p0, iv p1, iv p2, iv p3, iv p4, iv p5, iv d1, iv d2, iv d3, iv d4, iv tt, iv v0, iv v1, iv v2, iv v3, iv v4, .unset, .unset, .unset, .unset, .unset, .unset] [(.ref b1)]) := fun target kt => g197 target (st198 target kt)
  have g200 : own_Go p e below s₁ (entryFrame m #[(.int p0), (.int p1), (.int p2), (.int p3), (.int p4), (.int p5)] maxLocals) T198 (mkF m 94 #[iv p0, iv p1, iv p2, iv p3, iv p4, iv p5, iv d1, iv d2, iv d3, iv d4, iv tt, iv v0, iv v1, iv v2, iv v3, iv v4, .unset, .unset, .unset, .unset, .unset, .unset] [(.int (v0.toUInt32.toUInt16.toUInt32.toInt32)), (.ref b1), (.ref b1)]) := by
    intro target kt
    refine g199 target ?_
    refine XS.dup X198.here hx rfl (hb hby at_90) rfl rfl ?_
    show Steps p.tables e below (T198.setTop (mkF m 91 #[iv p0, iv p1, iv p2, iv p3, iv p4, iv p5, iv d1, iv d2, iv d3, iv d4, iv tt, iv v0, iv v1, iv v2, iv v3, iv v4, .unset, .unset, .unset, .unset, .unset, .unset] [(.ref b1), (.ref b1)])) target
    refine XS.iload X198.here hx rfl (hb hby at_91) rfl ?_
    show Steps p.tables e below (T198.setTop (mkF m 93 #[iv p0, iv p1, iv p2, iv p3, iv p4, iv p5, iv d1, iv d2, iv d3, iv d4, iv tt, iv v0, iv v1, iv v2, iv v3, iv v4, .unset, .unset, .unset, .unset, .unset, .unset] [(.int v0), (.ref b1), (.ref b1)])) target
    refine XT.i2c X198.here hx rfl (hb hby at_93) rfl ?_
    show Steps p.tables e below (T198.setTop (mkF m 94 #[iv p0, iv p1, iv p2, iv p3, iv p4, iv p5, iv d1, iv d2, iv d3, iv d4, iv tt, iv v0, iv v1, iv v2, iv v3, iv v4, .unset, .unset, .unset, .unset, .unset, .unset] [(.int (v0.toUInt32.toUInt16.toUInt32.toInt32)), (.ref b1), (.ref b1)])) target
    exact kt
  rw [own_i2c cv0] at g200
  obtain ⟨_, _, ⟨T201, L201, k201, n201⟩, -, X201, ⟨Lc201, hQ201, l201, y201, z201⟩, st201⟩ := X198.specialBack hx (y := (⟨"com/example/bitloom/bitloom/ArrayContainer", "<init>", "(C)V"⟩ : MethodName)) rfl hown (mvT hZ (hw _ (List.mem_of_getElem? (i := 12) rfl))) (mvT hZ (hw _ (List.mem_of_getElem? (i := 13) rfl))) (mvT hZ (hw _ (List.mem_of_getElem? (i := 14) rfl))) (by decide) (backOf (W := 1) (rmIni l Z a0 hw [] b1 v0 h198 n0 Z198 A198 F_values_b1 F_stored_b1 F_cardinality_b1 F_runCount_b1 cv0 g_b1) hZ (hw _ (List.mem_of_getElem? (i := 14) rfl)) (hw _ (List.mem_of_getElem? (i := 11) rfl)) (by decide) (by decide)) (g := (mkF m 94 #[iv p0, iv p1, iv p2, iv p3, iv p4, iv p5, iv d1, iv d2, iv d3, iv d4, iv tt, iv v0, iv v1, iv v2, iv v3, iv v4, .unset, .unset, .unset, .unset, .unset, .unset] [(.int v0), (.ref b1), (.ref b1)])) rfl (by rw [hml]; rfl) (Steps.refl _) (a := b1) (argsL := [(.int v0)]) (rest := [(.ref b1)]) (lenOf pd_8 rfl) rfl (by show 2 * 0 + _ ≤ _; exact Nat.le_of_eq rfl) (hb hby at_94) (fun _ _ => ⟨rfl, e198, (by decide : 1 + 1 ≤ _), (by decide : 4 + 4 ≤ _)⟩)
  dsimp only [Pt.U, Pt.locs, Pt.cells, Pt.slots] at X201 l201 y201 z201 st201 hQ201
  subst l201 y201 z201
  obtain ⟨rfl, Nq201, K201, av, gv, C0⟩ := hQ201
  have N201 := Fr.app N192 Nq201
  have g202 : own_Go p e below s₁ (entryFrame m #[(.int p0), (.int p1), (.int p2), (.int p3), (.int p4), (.int p5)] maxLocals) T201 (mkF m 97 #[iv p0, iv p1, iv p2, iv p3, iv p4, iv p5, iv d1, iv d2, iv d3, iv d4, iv tt, iv v0, iv v1, iv v2, iv v3, iv v4, .unset, .unset, .unset, .unset, .unset, .unset] [(.ref b1)]) := fun target kt => g200 target (st201.trans kt)
  have Z201 : n0 ≤ T201.heap.size := Nat.le_trans Z198 K201.1
  obtain ⟨f0, ef0⟩ : ∃ f : Nat → Int32, f = (fun j => if j = 0 then v0 else 0) := ⟨_, rfl⟩
  rw [← ef0] at C0
  have g203 : own_Go p e below s₁ (entryFrame m #[(.int p0), (.int p1), (.int p2), (.int p3), (.int p4), (.int p5)] maxLocals) T201 (mkF m 104 #[iv p0, iv p1, iv p2, iv p3, iv p4, iv p5, iv d1, iv d2, iv d3, iv d4, iv tt, iv v0, iv v1, iv v2, iv v3, iv v4, rv b1, .unset, .unset, .unset, .unset, .unset] [(.int (v1.toUInt32.toUInt16.toUInt32.toInt32)), (.ref b1)]) := by
    intro target kt
    refine g202 target ?_
    refine XS.astore X201.here hx rfl (hb hby at_97) rfl rfl (l' := #[iv p0, iv p1, iv p2, iv p3, iv p4, iv p5, iv d1, iv d2, iv d3, iv d4, iv tt, iv v0, iv v1, iv v2, iv v3, iv v4, rv b1, .unset, .unset, .unset, .unset, .unset]) rfl ?_
    show Steps p.tables e below (T201.setTop (mkF m 99 #[iv p0, iv p1, iv p2, iv p3, iv p4, iv p5, iv d1, iv d2, iv d3, iv d4, iv tt, iv v0, iv v1, iv v2, iv v3, iv v4, rv b1, .unset, .unset, .unset, .unset, .unset] [])) target
    refine XS.aload X201.here hx rfl (hb hby at_99) rfl rfl ?_
    show Steps p.tables e below (T201.setTop (mkF m 101 #[iv p0, iv p1, iv p2, iv p3, iv p4, iv p5, iv d1, iv d2, iv d3, iv d4, iv tt, iv v0, iv v1, iv v2, iv v3, iv v4, rv b1, .unset, .unset, .unset, .unset, .unset] [(.ref b1)])) target
    refine XS.iload X201.here hx rfl (hb hby at_101) rfl ?_
    show Steps p.tables e below (T201.setTop (mkF m 103 #[iv p0, iv p1, iv p2, iv p3, iv p4, iv p5, iv d1, iv d2, iv d3, iv d4, iv tt, iv v0, iv v1, iv v2, iv v3, iv v4, rv b1, .unset, .unset, .unset, .unset, .unset] [(.int v1), (.ref b1)])) target
    refine XT.i2c X201.here hx rfl (hb hby at_103) rfl ?_
    show Steps p.tables e below (T201.setTop (mkF m 104 #[iv p0, iv p1, iv p2, iv p3, iv p4, iv p5, iv d1, iv d2, iv d3, iv d4, iv tt, iv v0, iv v1, iv v2, iv v3, iv v4, rv b1, .unset, .unset, .unset, .unset, .unset] [(.int (v1.toUInt32.toUInt16.toUInt32.toInt32)), (.ref b1)])) target
    exact kt
  rw [own_i2c cv1] at g203
  have l0 : f0 0 = v0 := by rw [ef0]; rfl
  obtain ⟨cq204, kq204, q204a, q204b, q204c⟩ := isOf hZ rfl C0.1
  obtain ⟨_, _, ⟨T204, L204, k204, n204⟩, -, X204, ⟨Lc204, hQ204, l204, y204, z204⟩, st204⟩ := X201.virtualBack hx (y := (⟨"com/example/bitloom/bitloom/ArrayContainer", "add", "(C)Lcom/example/bitloom/bitloom/Container;"⟩ : MethodName)) (z := (⟨"com/example/bitloom/bitloom/ArrayContainer", "add", "(C)Lcom/example/bitloom/bitloom/Container;"⟩ : MethodName)) hown (mvT hZ (hw _ (List.mem_of_getElem? (i := 31) rfl))) (mvT hZ (hw _ (List.mem_of_getElem? (i := 32) rfl))) (notFace_of_selects (args := #[]) (mvT hZ (hw _ (List.mem_of_getElem? (i := 34) rfl)))) (mvT hZ (hw _ (List.mem_of_getElem? (i := 34) rfl))) (mvT hZ (hw _ (List.mem_of_getElem? (i := 33) rfl))) (by decide) (backOf (W := 0) (rmAdd l Z a0 hw [] b1 v1 av 0 (0 : Int32) f0 T201.heap n0 Z201 C0 (by decide) cv1 (by rw [l0, Int32.lt_iff_toInt_lt]; omega) g_b1 gv) hZ (hw _ (List.mem_of_getElem? (i := 35) rfl)) (hw _ (List.mem_of_getElem? (i := 11) rfl)) (by decide) (by decide)) q204a q204c (g := (mkF m 104 #[iv p0, iv p1, iv p2, iv p3, iv p4, iv p5, iv d1, iv d2, iv d3, iv d4, iv tt, iv v0, iv v1, iv v2, iv v3, iv v4, rv b1, .unset, .unset, .unset, .unset, .unset] [(.int v1), (.ref b1)])) rfl (by rw [hml]; rfl) (Steps.refl _) (argsL := [(.int v1)]) (rest := []) (lenOf pd_6 rfl) rfl (by show 2 * 0 + _ ≤ _; exact Nat.le_of_eq rfl) (hb hby at_104) (fun _ _ => ⟨rfl, rfl, (by decide : 2 + 0 ≤ _), (by decide : 8 + 0 ≤ _)⟩)
  dsimp only [Pt.U, Pt.locs, Pt.cells, Pt.slots] at X204 l204 y204 z204 st204 hQ204
  subst l204 y204 z204
  obtain ⟨rfl, Nq204, K204, C1⟩ := hQ204
  have N204 := Fr.app N201 Nq204
  have g205 : own_Go p e below s₁ (entryFrame m #[(.int p0), (.int p1), (.int p2), (.int p3), (.int p4), (.int p5)] maxLocals) T204 (mkF m 107 #[iv p0, iv p1, iv p2, iv p3, iv p4, iv p5, iv d1, iv d2, iv d3, iv d4, iv tt, iv v0, iv v1, iv v2, iv v3, iv v4, rv b1, .unset, .unset, .unset, .unset, .unset] [(.ref b1)]) := fun target kt => g203 target (st204.trans kt)
  have Z204 : n0 ≤ T204.heap.size := Nat.le_trans Z201 K204.1
  obtain ⟨f1, ef1⟩ : ∃ f : Nat → Int32, f = (fun j => if j = 1 then v1 else f0 j) := ⟨_, rfl⟩
  rw [← ef1] at C1
  have g206 : own_Go p e below s₁ (entryFrame m #[(.int p0), (.int p1), (.int p2), (.int p3), (.int p4), (.int p5)] maxLocals) T204 (mkF m 113 #[iv p0, iv p1, iv p2, iv p3, iv p4, iv p5, iv d1, iv d2, iv d3, iv d4, iv tt, iv v0, iv v1, iv v2, iv v3, iv v4, rv b1, .unset, .unset, .unset, .unset, .unset] [(.int (v2.toUInt32.toUInt16.toUInt32.toInt32)), (.ref b1)]) := by
    intro target kt
    refine g205 target ?_
    refine XT.pop X204.here hx rfl (hb hby at_107) rfl rfl ?_
    show Steps p.tables e below (T204.setTop (mkF m 108 #[iv p0, iv p1, iv p2, iv p3, iv p4, iv p5, iv d1, iv d2, iv d3, iv d4, iv tt, iv v0, iv v1, iv v2, iv v3, iv v4, rv b1, .unset, .unset, .unset, .unset, .unset] [])) target
    refine XS.aload X204.here hx rfl (hb hby at_108) rfl rfl ?_
    show Steps p.tables e below (T204.setTop (mkF m 110 #[iv p0, iv p1, iv p2, iv p3, iv p4, iv p5, iv d1, iv d2, iv d3, iv d4, iv tt, iv v0, iv v1, iv v2, iv v3, iv v4, rv b1, .unset, .unset, .unset, .unset, .unset] [(.ref b1)])) target
    refine XS.iload X204.here hx rfl (hb hby at_110) rfl ?_
    show Steps p.tables e below (T204.setTop (mkF m 112 #[iv p0, iv p1, iv p2, iv p3, iv p4, iv p5, iv d1, iv d2, iv d3, iv d4, iv tt, iv v0, iv v1, iv v2, iv v3, iv v4, rv b1, .unset, .unset, .unset, .unset, .unset] [(.int v2), (.ref b1)])) target
    refine XT.i2c X204.here hx rfl (hb hby at_112) rfl ?_
    show Steps p.tables e below (T204.setTop (mkF m 113 #[iv p0, iv p1, iv p2, iv p3, iv p4, iv p5, iv d1, iv d2, iv d3, iv d4, iv tt, iv v0, iv v1, iv v2, iv v3, iv v4, rv b1, .unset, .unset, .unset, .unset, .unset] [(.int (v2.toUInt32.toUInt16.toUInt32.toInt32)), (.ref b1)])) target
    exact kt
  rw [own_i2c cv2] at g206
  have l1 : f1 1 = v1 := by rw [ef1]; rfl
  obtain ⟨cq207, kq207, q207a, q207b, q207c⟩ := isOf hZ rfl C1.1
  obtain ⟨_, _, ⟨T207, L207, k207, n207⟩, -, X207, ⟨Lc207, hQ207, l207, y207, z207⟩, st207⟩ := X204.virtualBack hx (y := (⟨"com/example/bitloom/bitloom/ArrayContainer", "add", "(C)Lcom/example/bitloom/bitloom/Container;"⟩ : MethodName)) (z := (⟨"com/example/bitloom/bitloom/ArrayContainer", "add", "(C)Lcom/example/bitloom/bitloom/Container;"⟩ : MethodName)) hown (mvT hZ (hw _ (List.mem_of_getElem? (i := 31) rfl))) (mvT hZ (hw _ (List.mem_of_getElem? (i := 32) rfl))) (notFace_of_selects (args := #[]) (mvT hZ (hw _ (List.mem_of_getElem? (i := 34) rfl)))) (mvT hZ (hw _ (List.mem_of_getElem? (i := 34) rfl))) (mvT hZ (hw _ (List.mem_of_getElem? (i := 33) rfl))) (by decide) (backOf (W := 0) (rmAdd l Z a0 hw [] b1 v2 av 1 (0 : Int32) f1 T204.heap n0 Z204 C1 (by decide) cv2 (by rw [l1, Int32.lt_iff_toInt_lt]; omega) g_b1 gv) hZ (hw _ (List.mem_of_getElem? (i := 35) rfl)) (hw _ (List.mem_of_getElem? (i := 11) rfl)) (by decide) (by decide)) q207a q207c (g := (mkF m 113 #[iv p0, iv p1, iv p2, iv p3, iv p4, iv p5, iv d1, iv d2, iv d3, iv d4, iv tt, iv v0, iv v1, iv v2, iv v3, iv v4, rv b1, .unset, .unset, .unset, .unset, .unset] [(.int v2), (.ref b1)])) rfl (by rw [hml]; rfl) (Steps.refl _) (argsL := [(.int v2)]) (rest := []) (lenOf pd_6 rfl) rfl (by show 2 * 0 + _ ≤ _; exact Nat.le_of_eq rfl) (hb hby at_113) (fun _ _ => ⟨rfl, rfl, (by decide : 2 + 0 ≤ _), (by decide : 8 + 0 ≤ _)⟩)
  dsimp only [Pt.U, Pt.locs, Pt.cells, Pt.slots] at X207 l207 y207 z207 st207 hQ207
  subst l207 y207 z207
  obtain ⟨rfl, Nq207, K207, C2⟩ := hQ207
  have N207 := Fr.app N204 Nq207
  have g208 : own_Go p e below s₁ (entryFrame m #[(.int p0), (.int p1), (.int p2), (.int p3), (.int p4), (.int p5)] maxLocals) T207 (mkF m 116 #[iv p0, iv p1, iv p2, iv p3, iv p4, iv p5, iv d1, iv d2, iv d3, iv d4, iv tt, iv v0, iv v1, iv v2, iv v3, iv v4, rv b1, .unset, .unset, .unset, .unset, .unset] [(.ref b1)]) := fun target kt => g206 target (st207.trans kt)
  have Z207 : n0 ≤ T207.heap.size := Nat.le_trans Z204 K207.1
  obtain ⟨f2, ef2⟩ : ∃ f : Nat → Int32, f = (fun j => if j = 2 then v2 else f1 j) := ⟨_, rfl⟩
  rw [← ef2] at C2
  have g209 : own_Go p e below s₁ (entryFrame m #[(.int p0), (.int p1), (.int p2), (.int p3), (.int p4), (.int p5)] maxLocals) T207 (mkF m 122 #[iv p0, iv p1, iv p2, iv p3, iv p4, iv p5, iv d1, iv d2, iv d3, iv d4, iv tt, iv v0, iv v1, iv v2, iv v3, iv v4, rv b1, .unset, .unset, .unset, .unset, .unset] [(.int (v3.toUInt32.toUInt16.toUInt32.toInt32)), (.ref b1)]) := by
    intro target kt
    refine g208 target ?_
    refine XT.pop X207.here hx rfl (hb hby at_116) rfl rfl ?_
    show Steps p.tables e below (T207.setTop (mkF m 117 #[iv p0, iv p1, iv p2, iv p3, iv p4, iv p5, iv d1, iv d2, iv d3, iv d4, iv tt, iv v0, iv v1, iv v2, iv v3, iv v4, rv b1, .unset, .unset, .unset, .unset, .unset] [])) target
    refine XS.aload X207.here hx rfl (hb hby at_117) rfl rfl ?_
    show Steps p.tables e below (T207.setTop (mkF m 119 #[iv p0, iv p1, iv p2, iv p3, iv p4, iv p5, iv d1, iv d2, iv d3, iv d4, iv tt, iv v0, iv v1, iv v2, iv v3, iv v4, rv b1, .unset, .unset, .unset, .unset, .unset] [(.ref b1)])) target
    refine XS.iload X207.here hx rfl (hb hby at_119) rfl ?_
    show Steps p.tables e below (T207.setTop (mkF m 121 #[iv p0, iv p1, iv p2, iv p3, iv p4, iv p5, iv d1, iv d2, iv d3, iv d4, iv tt, iv v0, iv v1, iv v2, iv v3, iv v4, rv b1, .unset, .unset, .unset, .unset, .unset] [(.int v3), (.ref b1)])) target
    refine XT.i2c X207.here hx rfl (hb hby at_121) rfl ?_
    show Steps p.tables e below (T207.setTop (mkF m 122 #[iv p0, iv p1, iv p2, iv p3, iv p4, iv p5, iv d1, iv d2, iv d3, iv d4, iv tt, iv v0, iv v1, iv v2, iv v3, iv v4, rv b1, .unset, .unset, .unset, .unset, .unset] [(.int (v3.toUInt32.toUInt16.toUInt32.toInt32)), (.ref b1)])) target
    exact kt
  rw [own_i2c cv3] at g209
  have l2 : f2 2 = v2 := by rw [ef2]; rfl
  obtain ⟨cq210, kq210, q210a, q210b, q210c⟩ := isOf hZ rfl C2.1
  obtain ⟨_, _, ⟨T210, L210, k210, n210⟩, -, X210, ⟨Lc210, hQ210, l210, y210, z210⟩, st210⟩ := X207.virtualBack hx (y := (⟨"com/example/bitloom/bitloom/ArrayContainer", "add", "(C)Lcom/example/bitloom/bitloom/Container;"⟩ : MethodName)) (z := (⟨"com/example/bitloom/bitloom/ArrayContainer", "add", "(C)Lcom/example/bitloom/bitloom/Container;"⟩ : MethodName)) hown (mvT hZ (hw _ (List.mem_of_getElem? (i := 31) rfl))) (mvT hZ (hw _ (List.mem_of_getElem? (i := 32) rfl))) (notFace_of_selects (args := #[]) (mvT hZ (hw _ (List.mem_of_getElem? (i := 34) rfl)))) (mvT hZ (hw _ (List.mem_of_getElem? (i := 34) rfl))) (mvT hZ (hw _ (List.mem_of_getElem? (i := 33) rfl))) (by decide) (backOf (W := 0) (rmAdd l Z a0 hw [] b1 v3 av 2 (0 : Int32) f2 T207.heap n0 Z207 C2 (by decide) cv3 (by rw [l2, Int32.lt_iff_toInt_lt]; omega) g_b1 gv) hZ (hw _ (List.mem_of_getElem? (i := 35) rfl)) (hw _ (List.mem_of_getElem? (i := 11) rfl)) (by decide) (by decide)) q210a q210c (g := (mkF m 122 #[iv p0, iv p1, iv p2, iv p3, iv p4, iv p5, iv d1, iv d2, iv d3, iv d4, iv tt, iv v0, iv v1, iv v2, iv v3, iv v4, rv b1, .unset, .unset, .unset, .unset, .unset] [(.int v3), (.ref b1)])) rfl (by rw [hml]; rfl) (Steps.refl _) (argsL := [(.int v3)]) (rest := []) (lenOf pd_6 rfl) rfl (by show 2 * 0 + _ ≤ _; exact Nat.le_of_eq rfl) (hb hby at_122) (fun _ _ => ⟨rfl, rfl, (by decide : 2 + 0 ≤ _), (by decide : 8 + 0 ≤ _)⟩)
  dsimp only [Pt.U, Pt.locs, Pt.cells, Pt.slots] at X210 l210 y210 z210 st210 hQ210
  subst l210 y210 z210
  obtain ⟨rfl, Nq210, K210, C3⟩ := hQ210
  have N210 := Fr.app N207 Nq210
  have g211 : own_Go p e below s₁ (entryFrame m #[(.int p0), (.int p1), (.int p2), (.int p3), (.int p4), (.int p5)] maxLocals) T210 (mkF m 125 #[iv p0, iv p1, iv p2, iv p3, iv p4, iv p5, iv d1, iv d2, iv d3, iv d4, iv tt, iv v0, iv v1, iv v2, iv v3, iv v4, rv b1, .unset, .unset, .unset, .unset, .unset] [(.ref b1)]) := fun target kt => g209 target (st210.trans kt)
  have Z210 : n0 ≤ T210.heap.size := Nat.le_trans Z207 K210.1
  obtain ⟨f3, ef3⟩ : ∃ f : Nat → Int32, f = (fun j => if j = 3 then v3 else f2 j) := ⟨_, rfl⟩
  rw [← ef3] at C3
  have F0 : f3 0 = v0 := by rw [ef3, ef2, ef1, ef0]; rfl
  have F1 : f3 1 = v1 := by rw [ef3, ef2, ef1, ef0]; rfl
  have F2 : f3 2 = v2 := by rw [ef3, ef2, ef1, ef0]; rfl
  have F3 : f3 3 = v3 := by rw [ef3, ef2, ef1, ef0]; rfl
  have cf : ∀ j, j ≤ 3 → own_C (f3 j) := by
    intro j hj
    obtain h | h | h | h : j = 0 ∨ j = 1 ∨ j = 2 ∨ j = 3 := by omega
    · subst h; rw [F0]; exact cv0
    · subst h; rw [F1]; exact cv1
    · subst h; rw [F2]; exact cv2
    · subst h; rw [F3]; exact cv3
  have C3 : own_K Z T210.heap b1 av (Nat.toInt32 (3 + 1)) (0 : Int32) 4 f3 := C3
  obtain ⟨ha, eha⟩ : ∃ z, z = T210.heap := ⟨_, rfl⟩
  rw [← eha] at C3 Z210
  have g212 : own_Go p e below s₁ (entryFrame m #[(.int p0), (.int p1), (.int p2), (.int p3), (.int p4), (.int p5)] maxLocals) T210 (mkF m 129 #[iv p0, iv p1, iv p2, iv p3, iv p4, iv p5, iv d1, iv d2, iv d3, iv d4, iv tt, iv v0, iv v1, iv v2, iv v3, iv v4, rv b1, .unset, .unset, .unset, .unset, .unset] [(.int d1), (.int (1 : Int32))]) := by
    intro target kt
    refine g211 target ?_
    refine XT.pop X210.here hx rfl (hb hby at_125) rfl rfl ?_
    show Steps p.tables e below (T210.setTop (mkF m 126 #[iv p0, iv p1, iv p2, iv p3, iv p4, iv p5, iv d1, iv d2, iv d3, iv d4, iv tt, iv v0, iv v1, iv v2, iv v3, iv v4, rv b1, .unset, .unset, .unset, .unset, .unset] [])) target
    refine XT.iconstV X210.here hx rfl (1 : Int32) (hb hby at_126) rfl ?_
    show Steps p.tables e below (T210.setTop (mkF m 127 #[iv p0, iv p1, iv p2, iv p3, iv p4, iv p5, iv d1, iv d2, iv d3, iv d4, iv tt, iv v0, iv v1, iv v2, iv v3, iv v4, rv b1, .unset, .unset, .unset, .unset, .unset] [(.int (1 : Int32))])) target
    refine XS.iload X210.here hx rfl (hb hby at_127) rfl ?_
    show Steps p.tables e below (T210.setTop (mkF m 129 #[iv p0, iv p1, iv p2, iv p3, iv p4, iv p5, iv d1, iv d2, iv d3, iv d4, iv tt, iv v0, iv v1, iv v2, iv v3, iv v4, rv b1, .unset, .unset, .unset, .unset, .unset] [(.int d1), (.int (1 : Int32))])) target
    exact kt
  obtain ⟨_, _, ⟨T213, L213, k213, n213⟩, -, X213, ⟨Lc213, hQ213, l213, y213, z213⟩, st213⟩ := Jvm.LawKit.callS X210 hx (y := (⟨"com/example/bitloom/bitloom/ArrayContainerCountRunsPinLaw", "starts", "(I)I"⟩ : MethodName)) hown (mvT hZ (hw _ (List.mem_of_getElem? (i := 38) rfl))) (mvT hZ (hw _ (List.mem_of_getElem? (i := 39) rfl))) (mvT hZ (hw _ (List.mem_of_getElem? (i := 2) rfl))) (mvT hZ (hw _ (List.mem_of_getElem? (i := 40) rfl))) (by decide) (backOf (W := 1) (rmSt l Z a0 hw [] d1 ha n0 Z210) hZ (hw _ (List.mem_of_getElem? (i := 40) rfl)) (hw _ (List.mem_of_getElem? (i := 2) rfl)) (by decide) (by decide)) (g := (mkF m 129 #[iv p0, iv p1, iv p2, iv p3, iv p4, iv p5, iv d1, iv d2, iv d3, iv d4, iv tt, iv v0, iv v1, iv v2, iv v3, iv v4, rv b1, .unset, .unset, .unset, .unset, .unset] [(.int d1), (.int (1 : Int32))])) rfl (by rw [hml]; rfl) (argsL := [(.int d1)]) (rest := [(.int (1 : Int32))]) (lenOf pd_9 rfl) rfl (by show 2 * 0 + _ ≤ _; exact Nat.le_of_eq rfl) (hb hby at_129) (fun _ _ => ⟨rfl, eha.symm, (by decide : 2 + 0 ≤ _), (by decide : 8 + 0 ≤ _)⟩)
  dsimp only [Pt.U, Pt.locs, Pt.cells, Pt.slots] at X213 l213 y213 z213 st213 hQ213
  subst l213 y213 z213
  obtain ⟨rfl, Nq213, eq213⟩ := hQ213
  have N213 := Fr.app N210 Nq213
  have g214 : own_Go p e below s₁ (entryFrame m #[(.int p0), (.int p1), (.int p2), (.int p3), (.int p4), (.int p5)] maxLocals) T213 (mkF m 132 #[iv p0, iv p1, iv p2, iv p3, iv p4, iv p5, iv d1, iv d2, iv d3, iv d4, iv tt, iv v0, iv v1, iv v2, iv v3, iv v4, rv b1, .unset, .unset, .unset, .unset, .unset] [(.int (own_st d1)), (.int (1 : Int32))]) := fun target kt => g212 target (st213 target kt)
  have g215 : own_Go p e below s₁ (entryFrame m #[(.int p0), (.int p1), (.int p2), (.int p3), (.int p4), (.int p5)] maxLocals) T213 (mkF m 135 #[iv p0, iv p1, iv p2, iv p3, iv p4, iv p5, iv d1, iv d2, iv d3, iv d4, iv tt, iv v0, iv v1, iv v2, iv v3, iv v4, rv b1, .unset, .unset, .unset, .unset, .unset] [(.int d2), (.int ((1 : Int32) + (own_st d1)))]) := by
    intro target kt
    refine g214 target ?_
    refine XS.iadd X213.here hx rfl (hb hby at_132) rfl ?_
    show Steps p.tables e below (T213.setTop (mkF m 133 #[iv p0, iv p1, iv p2, iv p3, iv p4, iv p5, iv d1, iv d2, iv d3, iv d4, iv tt, iv v0, iv v1, iv v2, iv v3, iv v4, rv b1, .unset, .unset, .unset, .unset, .unset] [(.int ((1 : Int32) + (own_st d1)))])) target
    refine XS.iload X213.here hx rfl (hb hby at_133) rfl ?_
    show Steps p.tables e below (T213.setTop (mkF m 135 #[iv p0, iv p1, iv p2, iv p3, iv p4, iv p5, iv d1, iv d2, iv d3, iv d4, iv tt, iv v0, iv v1, iv v2, iv v3, iv v4, rv b1, .unset, .unset, .unset, .unset, .unset] [(.int d2), (.int ((1 : Int32) + (own_st d1)))])) target
    exact kt
  obtain ⟨_, _, ⟨T216, L216, k216, n216⟩, -, X216, ⟨Lc216, hQ216, l216, y216, z216⟩, st216⟩ := Jvm.LawKit.callS X213 hx (y := (⟨"com/example/bitloom/bitloom/ArrayContainerCountRunsPinLaw", "starts", "(I)I"⟩ : MethodName)) hown (mvT hZ (hw _ (List.mem_of_getElem? (i := 38) rfl))) (mvT hZ (hw _ (List.mem_of_getElem? (i := 39) rfl))) (mvT hZ (hw _ (List.mem_of_getElem? (i := 2) rfl))) (mvT hZ (hw _ (List.mem_of_getElem? (i := 40) rfl))) (by decide) (backOf (W := 1) (rmSt l Z a0 hw [] d2 ha n0 Z210) hZ (hw _ (List.mem_of_getElem? (i := 40) rfl)) (hw _ (List.mem_of_getElem? (i := 2) rfl)) (by decide) (by decide)) (g := (mkF m 135 #[iv p0, iv p1, iv p2, iv p3, iv p4, iv p5, iv d1, iv d2, iv d3, iv d4, iv tt, iv v0, iv v1, iv v2, iv v3, iv v4, rv b1, .unset, .unset, .unset, .unset, .unset] [(.int d2), (.int ((1 : Int32) + (own_st d1)))])) rfl (by rw [hml]; rfl) (argsL := [(.int d2)]) (rest := [(.int ((1 : Int32) + (own_st d1)))]) (lenOf pd_9 rfl) rfl (by show 2 * 0 + _ ≤ _; exact Nat.le_of_eq rfl) (hb hby at_135) (fun _ _ => ⟨rfl, eq213, (by decide : 2 + 0 ≤ _), (by decide : 8 + 0 ≤ _)⟩)
  dsimp only [Pt.U, Pt.locs, Pt.cells, Pt.slots] at X216 l216 y216 z216 st216 hQ216
  subst l216 y216 z216
  obtain ⟨rfl, Nq216, eq216⟩ := hQ216
  have N216 := Fr.app N213 Nq216
  have g217 : own_Go p e below s₁ (entryFrame m #[(.int p0), (.int p1), (.int p2), (.int p3), (.int p4), (.int p5)] maxLocals) T216 (mkF m 138 #[iv p0, iv p1, iv p2, iv p3, iv p4, iv p5, iv d1, iv d2, iv d3, iv d4, iv tt, iv v0, iv v1, iv v2, iv v3, iv v4, rv b1, .unset, .unset, .unset, .unset, .unset] [(.int (own_st d2)), (.int ((1 : Int32) + (own_st d1)))]) := fun target kt => g215 target (st216 target kt)
  have g218 : own_Go p e below s₁ (entryFrame m #[(.int p0), (.int p1), (.int p2), (.int p3), (.int p4), (.int p5)] maxLocals) T216 (mkF m 141 #[iv p0, iv p1, iv p2, iv p3, iv p4, iv p5, iv d1, iv d2, iv d3, iv d4, iv tt, iv v0, iv v1, iv v2, iv v3, iv v4, rv b1, .unset, .unset, .unset, .unset, .unset] [(.int d3), (.int (((1 : Int32) + (own_st d1)) + (own_st d2)))]) := by
    intro target kt
    refine g217 target ?_
    refine XS.iadd X216.here hx rfl (hb hby at_138) rfl ?_
    show Steps p.tables e below (T216.setTop (mkF m 139 #[iv p0, iv p1, iv p2, iv p3, iv p4, iv p5, iv d1, iv d2, iv d3, iv d4, iv tt, iv v0, iv v1, iv v2, iv v3, iv v4, rv b1, .unset, .unset, .unset, .unset, .unset] [(.int (((1 : Int32) + (own_st d1)) + (own_st d2)))])) target
    refine XS.iload X216.here hx rfl (hb hby at_139) rfl ?_
    show Steps p.tables e below (T216.setTop (mkF m 141 #[iv p0, iv p1, iv p2, iv p3, iv p4, iv p5, iv d1, iv d2, iv d3, iv d4, iv tt, iv v0, iv v1, iv v2, iv v3, iv v4, rv b1, .unset, .unset, .unset, .unset, .unset] [(.int d3), (.int (((1 : Int32) + (own_st d1)) + (own_st d2)))])) target
    exact kt
  obtain ⟨_, _, ⟨T219, L219, k219, n219⟩, -, X219, ⟨Lc219, hQ219, l219, y219, z219⟩, st219⟩ := Jvm.LawKit.callS X216 hx (y := (⟨"com/example/bitloom/bitloom/ArrayContainerCountRunsPinLaw", "starts", "(I)I"⟩ : MethodName)) hown (mvT hZ (hw _ (List.mem_of_getElem? (i := 38) rfl))) (mvT hZ (hw _ (List.mem_of_getElem? (i := 39) rfl))) (mvT hZ (hw _ (List.mem_of_getElem? (i := 2) rfl))) (mvT hZ (hw _ (List.mem_of_getElem? (i := 40) rfl))) (by decide) (backOf (W := 1) (rmSt l Z a0 hw [] d3 ha n0 Z210) hZ (hw _ (List.mem_of_getElem? (i := 40) rfl)) (hw _ (List.mem_of_getElem? (i := 2) rfl)) (by decide) (by decide)) (g := (mkF m 141 #[iv p0, iv p1, iv p2, iv p3, iv p4, iv p5, iv d1, iv d2, iv d3, iv d4, iv tt, iv v0, iv v1, iv v2, iv v3, iv v4, rv b1, .unset, .unset, .unset, .unset, .unset] [(.int d3), (.int (((1 : Int32) + (own_st d1)) + (own_st d2)))])) rfl (by rw [hml]; rfl) (argsL := [(.int d3)]) (rest := [(.int (((1 : Int32) + (own_st d1)) + (own_st d2)))]) (lenOf pd_9 rfl) rfl (by show 2 * 0 + _ ≤ _; exact Nat.le_of_eq rfl) (hb hby at_141) (fun _ _ => ⟨rfl, eq216, (by decide : 2 + 0 ≤ _), (by decide : 8 + 0 ≤ _)⟩)
  dsimp only [Pt.U, Pt.locs, Pt.cells, Pt.slots] at X219 l219 y219 z219 st219 hQ219
  subst l219 y219 z219
  obtain ⟨rfl, Nq219, eq219⟩ := hQ219
  have N219 := Fr.app N216 Nq219
  have g220 : own_Go p e below s₁ (entryFrame m #[(.int p0), (.int p1), (.int p2), (.int p3), (.int p4), (.int p5)] maxLocals) T219 (mkF m 144 #[iv p0, iv p1, iv p2, iv p3, iv p4, iv p5, iv d1, iv d2, iv d3, iv d4, iv tt, iv v0, iv v1, iv v2, iv v3, iv v4, rv b1, .unset, .unset, .unset, .unset, .unset] [(.int (own_st d3)), (.int (((1 : Int32) + (own_st d1)) + (own_st d2)))]) := fun target kt => g218 target (st219 target kt)
  have g221 : own_Go p e below s₁ (entryFrame m #[(.int p0), (.int p1), (.int p2), (.int p3), (.int p4), (.int p5)] maxLocals) T219 (mkF m 147 #[iv p0, iv p1, iv p2, iv p3, iv p4, iv p5, iv d1, iv d2, iv d3, iv d4, iv tt, iv v0, iv v1, iv v2, iv v3, iv v4, rv b1, iv ((((1 : Int32) + (own_st d1)) + (own_st d2)) + (own_st d3)), .unset, .unset, .unset, .unset] []) := by
    intro target kt
    refine g220 target ?_
    refine XS.iadd X219.here hx rfl (hb hby at_144) rfl ?_
    show Steps p.tables e below (T219.setTop (mkF m 145 #[iv p0, iv p1, iv p2, iv p3, iv p4, iv p5, iv d1, iv d2, iv d3, iv d4, iv tt, iv v0, iv v1, iv v2, iv v3, iv v4, rv b1, .unset, .unset, .unset, .unset, .unset] [(.int ((((1 : Int32) + (own_st d1)) + (own_st d2)) + (own_st d3)))])) target
    refine XS.istore X219.here hx rfl (hb hby at_145) rfl (l' := #[iv p0, iv p1, iv p2, iv p3, iv p4, iv p5, iv d1, iv d2, iv d3, iv d4, iv tt, iv v0, iv v1, iv v2, iv v3, iv v4, rv b1, iv ((((1 : Int32) + (own_st d1)) + (own_st d2)) + (own_st d3)), .unset, .unset, .unset, .unset]) rfl ?_
    show Steps p.tables e below (T219.setTop (mkF m 147 #[iv p0, iv p1, iv p2, iv p3, iv p4, iv p5, iv d1, iv d2, iv d3, iv d4, iv tt, iv v0, iv v1, iv v2, iv v3, iv v4, rv b1, iv ((((1 : Int32) + (own_st d1)) + (own_st d2)) + (own_st d3)), .unset, .unset, .unset, .unset] [])) target
    exact kt
  obtain ⟨r4, e_r4⟩ : ∃ z : Int32, z = ((((1 : Int32) + (own_st d1)) + (own_st d2)) + (own_st d3)) := ⟨_, rfl⟩
  rw [← e_r4] at g221
  have hR4 : r4 = (own_rs f3 3).toInt32 := by
    rw [e_r4, ← own_gst hv1, ← own_gst hv2, ← own_gst hv3, ← F0, ← F1, ← F2, ← F3]
    rw [show (1 : Int32) = (1 : Nat).toInt32 from rfl, own_padd, own_padd, own_padd]
    rfl
  have g222 : own_Go p e below s₁ (entryFrame m #[(.int p0), (.int p1), (.int p2), (.int p3), (.int p4), (.int p5)] maxLocals) T219 (mkF m 150 #[iv p0, iv p1, iv p2, iv p3, iv p4, iv p5, iv d1, iv d2, iv d3, iv d4, iv tt, iv v0, iv v1, iv v2, iv v3, iv v4, rv b1, iv r4, .unset, .unset, .unset, .unset] [(.int p3), (.ref b1)]) := by
    intro target kt
    refine g221 target ?_
    refine XS.aload X219.here hx rfl (hb hby at_147) rfl rfl ?_
    show Steps p.tables e below (T219.setTop (mkF m 149 #[iv p0, iv p1, iv p2, iv p3, iv p4, iv p5, iv d1, iv d2, iv d3, iv d4, iv tt, iv v0, iv v1, iv v2, iv v3, iv v4, rv b1, iv r4, .unset, .unset, .unset, .unset] [(.ref b1)])) target
    refine XS.iloadN X219.here hx rfl (hb hby at_149) rfl ?_
    show Steps p.tables e below (T219.setTop (mkF m 150 #[iv p0, iv p1, iv p2, iv p3, iv p4, iv p5, iv d1, iv d2, iv d3, iv d4, iv tt, iv v0, iv v1, iv v2, iv v3, iv v4, rv b1, iv r4, .unset, .unset, .unset, .unset] [(.int p3), (.ref b1)])) target
    exact kt
  obtain ⟨cq223, kq223, q223a, q223b, q223c⟩ := isOf hZ eq219 C3.1
  obtain ⟨_, _, ⟨T223, L223, k223, n223⟩, -, X223, ⟨Lc223, hQ223, l223, y223, z223⟩, st223⟩ := X219.virtualBack hx (y := (⟨"com/example/bitloom/bitloom/ArrayContainer", "countRuns", "(I)I"⟩ : MethodName)) (z := (⟨"com/example/bitloom/bitloom/ArrayContainer", "countRuns", "(I)I"⟩ : MethodName)) hown (mvT hZ (hw _ (List.mem_of_getElem? (i := 41) rfl))) (mvT hZ (hw _ (List.mem_of_getElem? (i := 42) rfl))) (notFace_of_selects (args := #[]) (mvT hZ (hw _ (List.mem_of_getElem? (i := 44) rfl)))) (mvT hZ (hw _ (List.mem_of_getElem? (i := 44) rfl))) (mvT hZ (hw _ (List.mem_of_getElem? (i := 43) rfl))) (by decide) (backOf (W := 0) (rmRuns l Z a0 hw [] b1 p3 av 3 (0 : Int32) 4 f3 ha n0 Z210 C3 (by decide) (by decide) cf (Or.inl rfl) g_b1) hZ (hw _ (List.mem_of_getElem? (i := 45) rfl)) (hw _ (List.mem_of_getElem? (i := 11) rfl)) (by decide) (by decide)) q223a q223c (g := (mkF m 150 #[iv p0, iv p1, iv p2, iv p3, iv p4, iv p5, iv d1, iv d2, iv d3, iv d4, iv tt, iv v0, iv v1, iv v2, iv v3, iv v4, rv b1, iv r4, .unset, .unset, .unset, .unset] [(.int p3), (.ref b1)])) rfl (by rw [hml]; rfl) (Steps.refl _) (argsL := [(.int p3)]) (rest := []) (lenOf pd_9 rfl) rfl (by show 2 * 0 + _ ≤ _; exact Nat.le_of_eq rfl) (hb hby at_150) (fun _ _ => ⟨rfl, eq219, (by decide : 2 + 0 ≤ _), (by decide : 8 + 0 ≤ _)⟩)
  dsimp only [Pt.U, Pt.locs, Pt.cells, Pt.slots] at X223 l223 y223 z223 st223 hQ223
  subst l223 y223 z223
  obtain ⟨x1, s1, rfl, o1, hs1, Nq223, K223, D1⟩ := hQ223
  have N223 := Fr.app N219 Nq223
  have g224 : own_Go p e below s₁ (entryFrame m #[(.int p0), (.int p1), (.int p2), (.int p3), (.int p4), (.int p5)] maxLocals) T223 (mkF m 153 #[iv p0, iv p1, iv p2, iv p3, iv p4, iv p5, iv d1, iv d2, iv d3, iv d4, iv tt, iv v0, iv v1, iv v2, iv v3, iv v4, rv b1, iv r4, .unset, .unset, .unset, .unset] [(.int x1)]) := fun target kt => g222 target (st223.trans kt)
  have Z223 : n0 ≤ T223.heap.size := Nat.le_trans Z210 K223.1
  have g225 : own_Go p e below s₁ (entryFrame m #[(.int p0), (.int p1), (.int p2), (.int p3), (.int p4), (.int p5)] maxLocals) T223 (mkF m 159 #[iv p0, iv p1, iv p2, iv p3, iv p4, iv p5, iv d1, iv d2, iv d3, iv d4, iv tt, iv v0, iv v1, iv v2, iv v3, iv v4, rv b1, iv r4, iv x1, .unset, .unset, .unset] [(.int p4), (.ref b1)]) := by
    intro target kt
    refine g224 target ?_
    refine XS.istore X223.here hx rfl (hb hby at_153) rfl (l' := #[iv p0, iv p1, iv p2, iv p3, iv p4, iv p5, iv d1, iv d2, iv d3, iv d4, iv tt, iv v0, iv v1, iv v2, iv v3, iv v4, rv b1, iv r4, iv x1, .unset, .unset, .unset]) rfl ?_
    show Steps p.tables e below (T223.setTop (mkF m 155 #[iv p0, iv p1, iv p2, iv p3, iv p4, iv p5, iv d1, iv d2, iv d3, iv d4, iv tt, iv v0, iv v1, iv v2, iv v3, iv v4, rv b1, iv r4, iv x1, .unset, .unset, .unset] [])) target
    refine XS.aload X223.here hx rfl (hb hby at_155) rfl rfl ?_
    show Steps p.tables e below (T223.setTop (mkF m 157 #[iv p0, iv p1, iv p2, iv p3, iv p4, iv p5, iv d1, iv d2, iv d3, iv d4, iv tt, iv v0, iv v1, iv v2, iv v3, iv v4, rv b1, iv r4, iv x1, .unset, .unset, .unset] [(.ref b1)])) target
    refine XS.iload X223.here hx rfl (hb hby at_157) rfl ?_
    show Steps p.tables e below (T223.setTop (mkF m 159 #[iv p0, iv p1, iv p2, iv p3, iv p4, iv p5, iv d1, iv d2, iv d3, iv d4, iv tt, iv v0, iv v1, iv v2, iv v3, iv v4, rv b1, iv r4, iv x1, .unset, .unset, .unset] [(.int p4), (.ref b1)])) target
    exact kt
  obtain ⟨cq226, kq226, q226a, q226b, q226c⟩ := isOf hZ rfl D1.1
  obtain ⟨_, _, ⟨T226, L226, k226, n226⟩, -, X226, ⟨Lc226, hQ226, l226, y226, z226⟩, st226⟩ := X223.virtualBack hx (y := (⟨"com/example/bitloom/bitloom/ArrayContainer", "countRuns", "(I)I"⟩ : MethodName)) (z := (⟨"com/example/bitloom/bitloom/ArrayContainer", "countRuns", "(I)I"⟩ : MethodName)) hown (mvT hZ (hw _ (List.mem_of_getElem? (i := 41) rfl))) (mvT hZ (hw _ (List.mem_of_getElem? (i := 42) rfl))) (notFace_of_selects (args := #[]) (mvT hZ (hw _ (List.mem_of_getElem? (i := 44) rfl)))) (mvT hZ (hw _ (List.mem_of_getElem? (i := 44) rfl))) (mvT hZ (hw _ (List.mem_of_getElem? (i := 43) rfl))) (by decide) (backOf (W := 0) (rmRuns l Z a0 hw [] b1 p4 av 3 s1 4 f3 T223.heap n0 Z223 D1 (by decide) (by decide) cf hs1 g_b1) hZ (hw _ (List.mem_of_getElem? (i := 45) rfl)) (hw _ (List.mem_of_getElem? (i := 11) rfl)) (by decide) (by decide)) q226a q226c (g := (mkF m 159 #[iv p0, iv p1, iv p2, iv p3, iv p4, iv p5, iv d1, iv d2, iv d3, iv d4, iv tt, iv v0, iv v1, iv v2, iv v3, iv v4, rv b1, iv r4, iv x1, .unset, .unset, .unset] [(.int p4), (.ref b1)])) rfl (by rw [hml]; rfl) (Steps.refl _) (argsL := [(.int p4)]) (rest := []) (lenOf pd_9 rfl) rfl (by show 2 * 0 + _ ≤ _; exact Nat.le_of_eq rfl) (hb hby at_159) (fun _ _ => ⟨rfl, rfl, (by decide : 2 + 0 ≤ _), (by decide : 8 + 0 ≤ _)⟩)
  dsimp only [Pt.U, Pt.locs, Pt.cells, Pt.slots] at X226 l226 y226 z226 st226 hQ226
  subst l226 y226 z226
  obtain ⟨x2, s2, rfl, o2, hs2, Nq226, K226, D2⟩ := hQ226
  have N226 := Fr.app N223 Nq226
  have g227 : own_Go p e below s₁ (entryFrame m #[(.int p0), (.int p1), (.int p2), (.int p3), (.int p4), (.int p5)] maxLocals) T226 (mkF m 162 #[iv p0, iv p1, iv p2, iv p3, iv p4, iv p5, iv d1, iv d2, iv d3, iv d4, iv tt, iv v0, iv v1, iv v2, iv v3, iv v4, rv b1, iv r4, iv x1, .unset, .unset, .unset] [(.int x2)]) := fun target kt => g225 target (st226.trans kt)
  have Z226 : n0 ≤ T226.heap.size := Nat.le_trans Z223 K226.1
  have g228 : own_Go p e below s₁ (entryFrame m #[(.int p0), (.int p1), (.int p2), (.int p3), (.int p4), (.int p5)] maxLocals) T226 (mkF m 169 #[iv p0, iv p1, iv p2, iv p3, iv p4, iv p5, iv d1, iv d2, iv d3, iv d4, iv tt, iv v0, iv v1, iv v2, iv v3, iv v4, rv b1, iv r4, iv x1, iv x2, .unset, .unset] [(.int (v4.toUInt32.toUInt16.toUInt32.toInt32)), (.ref b1)]) := by
    intro target kt
    refine g227 target ?_
    refine XS.istore X226.here hx rfl (hb hby at_162) rfl (l' := #[iv p0, iv p1, iv p2, iv p3, iv p4, iv p5, iv d1, iv d2, iv d3, iv d4, iv tt, iv v0, iv v1, iv v2, iv v3, iv v4, rv b1, iv r4, iv x1, iv x2, .unset, .unset]) rfl ?_
    show Steps p.tables e below (T226.setTop (mkF m 164 #[iv p0, iv p1, iv p2, iv p3, iv p4, iv p5, iv d1, iv d2, iv d3, iv d4, iv tt, iv v0, iv v1, iv v2, iv v3, iv v4, rv b1, iv r4, iv x1, iv x2, .unset, .unset] [])) target
    refine XS.aload X226.here hx rfl (hb hby at_164) rfl rfl ?_
    show Steps p.tables e below (T226.setTop (mkF m 166 #[iv p0, iv p1, iv p2, iv p3, iv p4, iv p5, iv d1, iv d2, iv d3, iv d4, iv tt, iv v0, iv v1, iv v2, iv v3, iv v4, rv b1, iv r4, iv x1, iv x2, .unset, .unset] [(.ref b1)])) target
    refine XS.iload X226.here hx rfl (hb hby at_166) rfl ?_
    show Steps p.tables e below (T226.setTop (mkF m 168 #[iv p0, iv p1, iv p2, iv p3, iv p4, iv p5, iv d1, iv d2, iv d3, iv d4, iv tt, iv v0, iv v1, iv v2, iv v3, iv v4, rv b1, iv r4, iv x1, iv x2, .unset, .unset] [(.int v4), (.ref b1)])) target
    refine XT.i2c X226.here hx rfl (hb hby at_168) rfl ?_
    show Steps p.tables e below (T226.setTop (mkF m 169 #[iv p0, iv p1, iv p2, iv p3, iv p4, iv p5, iv d1, iv d2, iv d3, iv d4, iv tt, iv v0, iv v1, iv v2, iv v3, iv v4, rv b1, iv r4, iv x1, iv x2, .unset, .unset] [(.int (v4.toUInt32.toUInt16.toUInt32.toInt32)), (.ref b1)])) target
    exact kt
  rw [own_i2c cv4] at g228
  obtain ⟨cq229, kq229, q229a, q229b, q229c⟩ := isOf hZ rfl D2.1
  obtain ⟨_, _, ⟨T229, L229, k229, n229⟩, -, X229, ⟨Lc229, hQ229, l229, y229, z229⟩, st229⟩ := X226.virtualBack hx (y := (⟨"com/example/bitloom/bitloom/ArrayContainer", "add", "(C)Lcom/example/bitloom/bitloom/Container;"⟩ : MethodName)) (z := (⟨"com/example/bitloom/bitloom/ArrayContainer", "add", "(C)Lcom/example/bitloom/bitloom/Container;"⟩ : MethodName)) hown (mvT hZ (hw _ (List.mem_of_getElem? (i := 31) rfl))) (mvT hZ (hw _ (List.mem_of_getElem? (i := 32) rfl))) (notFace_of_selects (args := #[]) (mvT hZ (hw _ (List.mem_of_getElem? (i := 34) rfl)))) (mvT hZ (hw _ (List.mem_of_getElem? (i := 34) rfl))) (mvT hZ (hw _ (List.mem_of_getElem? (i := 33) rfl))) (by decide) (backOf (W := 0) (rmAdd4 l Z a0 hw [] b1 v4 av s2 f3 T226.heap n0 Z226 D2 (fun j hj => cf j (by omega)) cv4 (by rw [F3, Int32.lt_iff_toInt_lt]; omega) g_b1) hZ (hw _ (List.mem_of_getElem? (i := 35) rfl)) (hw _ (List.mem_of_getElem? (i := 11) rfl)) (by decide) (by decide)) q229a q229c (g := (mkF m 169 #[iv p0, iv p1, iv p2, iv p3, iv p4, iv p5, iv d1, iv d2, iv d3, iv d4, iv tt, iv v0, iv v1, iv v2, iv v3, iv v4, rv b1, iv r4, iv x1, iv x2, .unset, .unset] [(.int v4), (.ref b1)])) rfl (by rw [hml]; rfl) (Steps.refl _) (argsL := [(.int v4)]) (rest := []) (lenOf pd_6 rfl) rfl (by show 2 * 0 + _ ≤ _; exact Nat.le_of_eq rfl) (hb hby at_169) (fun _ _ => ⟨rfl, rfl, (by decide : 2 + 1 ≤ _), (by decide : 8 + 8 ≤ _)⟩)
  dsimp only [Pt.U, Pt.locs, Pt.cells, Pt.slots] at X229 l229 y229 z229 st229 hQ229
  subst l229 y229 z229
  obtain ⟨rfl, Nq229, K229, aw, gw, D3⟩ := hQ229
  have N229 := Fr.app N226 Nq229
  have g230 : own_Go p e below s₁ (entryFrame m #[(.int p0), (.int p1), (.int p2), (.int p3), (.int p4), (.int p5)] maxLocals) T229 (mkF m 172 #[iv p0, iv p1, iv p2, iv p3, iv p4, iv p5, iv d1, iv d2, iv d3, iv d4, iv tt, iv v0, iv v1, iv v2, iv v3, iv v4, rv b1, iv r4, iv x1, iv x2, .unset, .unset] [(.ref b1)]) := fun target kt => g228 target (st229.trans kt)
  have Z229 : n0 ≤ T229.heap.size := Nat.le_trans Z226 K229.1
  obtain ⟨f4, ef4⟩ : ∃ f : Nat → Int32, f = (fun j => if j = 4 then v4 else own_g8 f3 j) := ⟨_, rfl⟩
  rw [← ef4] at D3
  have H0 : f4 0 = v0 := by rw [ef4, ← F0]; rfl
  have H1 : f4 1 = v1 := by rw [ef4, ← F1]; rfl
  have H2 : f4 2 = v2 := by rw [ef4, ← F2]; rfl
  have H3 : f4 3 = v3 := by rw [ef4, ← F3]; rfl
  have H4 : f4 4 = v4 := by rw [ef4]; rfl
  have cg : ∀ j, j ≤ 4 → own_C (f4 j) := by
    intro j hj
    obtain h | h | h | h | h : j = 0 ∨ j = 1 ∨ j = 2 ∨ j = 3 ∨ j = 4 := by omega
    · subst h; rw [H0]; exact cv0
    · subst h; rw [H1]; exact cv1
    · subst h; rw [H2]; exact cv2
    · subst h; rw [H3]; exact cv3
    · subst h; rw [H4]; exact cv4
  have D3 : own_K Z T229.heap b1 aw (Nat.toInt32 (4 + 1)) (0 : Int32) 8 f4 := D3
  obtain ⟨hz, ehz⟩ : ∃ z, z = T229.heap := ⟨_, rfl⟩
  rw [← ehz] at D3 Z229
  have g231 : own_Go p e below s₁ (entryFrame m #[(.int p0), (.int p1), (.int p2), (.int p3), (.int p4), (.int p5)] maxLocals) T229 (mkF m 177 #[iv p0, iv p1, iv p2, iv p3, iv p4, iv p5, iv d1, iv d2, iv d3, iv d4, iv tt, iv v0, iv v1, iv v2, iv v3, iv v4, rv b1, iv r4, iv x1, iv x2, .unset, .unset] [(.int d4), (.int r4)]) := by
    intro target kt
    refine g230 target ?_
    refine XT.pop X229.here hx rfl (hb hby at_172) rfl rfl ?_
    show Steps p.tables e below (T229.setTop (mkF m 173 #[iv p0, iv p1, iv p2, iv p3, iv p4, iv p5, iv d1, iv d2, iv d3, iv d4, iv tt, iv v0, iv v1, iv v2, iv v3, iv v4, rv b1, iv r4, iv x1, iv x2, .unset, .unset] [])) target
    refine XS.iload X229.here hx rfl (hb hby at_173) rfl ?_
    show Steps p.tables e below (T229.setTop (mkF m 175 #[iv p0, iv p1, iv p2, iv p3, iv p4, iv p5, iv d1, iv d2, iv d3, iv d4, iv tt, iv v0, iv v1, iv v2, iv v3, iv v4, rv b1, iv r4, iv x1, iv x2, .unset, .unset] [(.int r4)])) target
    refine XS.iload X229.here hx rfl (hb hby at_175) rfl ?_
    show Steps p.tables e below (T229.setTop (mkF m 177 #[iv p0, iv p1, iv p2, iv p3, iv p4, iv p5, iv d1, iv d2, iv d3, iv d4, iv tt, iv v0, iv v1, iv v2, iv v3, iv v4, rv b1, iv r4, iv x1, iv x2, .unset, .unset] [(.int d4), (.int r4)])) target
    exact kt
  obtain ⟨_, _, ⟨T232, L232, k232, n232⟩, -, X232, ⟨Lc232, hQ232, l232, y232, z232⟩, st232⟩ := Jvm.LawKit.callS X229 hx (y := (⟨"com/example/bitloom/bitloom/ArrayContainerCountRunsPinLaw", "starts", "(I)I"⟩ : MethodName)) hown (mvT hZ (hw _ (List.mem_of_getElem? (i := 38) rfl))) (mvT hZ (hw _ (List.mem_of_getElem? (i := 39) rfl))) (mvT hZ (hw _ (List.mem_of_getElem? (i := 2) rfl))) (mvT hZ (hw _ (List.mem_of_getElem? (i := 40) rfl))) (by decide) (backOf (W := 1) (rmSt l Z a0 hw [] d4 hz n0 Z229) hZ (hw _ (List.mem_of_getElem? (i := 40) rfl)) (hw _ (List.mem_of_getElem? (i := 2) rfl)) (by decide) (by decide)) (g := (mkF m 177 #[iv p0, iv p1, iv p2, iv p3, iv p4, iv p5, iv d1, iv d2, iv d3, iv d4, iv tt, iv v0, iv v1, iv v2, iv v3, iv v4, rv b1, iv r4, iv x1, iv x2, .unset, .unset] [(.int d4), (.int r4)])) rfl (by rw [hml]; rfl) (argsL := [(.int d4)]) (rest := [(.int r4)]) (lenOf pd_9 rfl) rfl (by show 2 * 0 + _ ≤ _; exact Nat.le_of_eq rfl) (hb hby at_177) (fun _ _ => ⟨rfl, ehz.symm, (by decide : 3 + 0 ≤ _), (by decide : 16 + 0 ≤ _)⟩)
  dsimp only [Pt.U, Pt.locs, Pt.cells, Pt.slots] at X232 l232 y232 z232 st232 hQ232
  subst l232 y232 z232
  obtain ⟨rfl, Nq232, eq232⟩ := hQ232
  have N232 := Fr.app N229 Nq232
  have g233 : own_Go p e below s₁ (entryFrame m #[(.int p0), (.int p1), (.int p2), (.int p3), (.int p4), (.int p5)] maxLocals) T232 (mkF m 180 #[iv p0, iv p1, iv p2, iv p3, iv p4, iv p5, iv d1, iv d2, iv d3, iv d4, iv tt, iv v0, iv v1, iv v2, iv v3, iv v4, rv b1, iv r4, iv x1, iv x2, .unset, .unset] [(.int (own_st d4)), (.int r4)]) := fun target kt => g231 target (st232 target kt)
  have g234 : own_Go p e below s₁ (entryFrame m #[(.int p0), (.int p1), (.int p2), (.int p3), (.int p4), (.int p5)] maxLocals) T232 (mkF m 183 #[iv p0, iv p1, iv p2, iv p3, iv p4, iv p5, iv d1, iv d2, iv d3, iv d4, iv tt, iv v0, iv v1, iv v2, iv v3, iv v4, rv b1, iv r4, iv x1, iv x2, iv (r4 + (own_st d4)), .unset] []) := by
    intro target kt
    refine g233 target ?_
    refine XS.iadd X232.here hx rfl (hb hby at_180) rfl ?_
    show Steps p.tables e below (T232.setTop (mkF m 181 #[iv p0, iv p1, iv p2, iv p3, iv p4, iv p5, iv d1, iv d2, iv d3, iv d4, iv tt, iv v0, iv v1, iv v2, iv v3, iv v4, rv b1, iv r4, iv x1, iv x2, .unset, .unset] [(.int (r4 + (own_st d4)))])) target
    refine XS.istore X232.here hx rfl (hb hby at_181) rfl (l' := #[iv p0, iv p1, iv p2, iv p3, iv p4, iv p5, iv d1, iv d2, iv d3, iv d4, iv tt, iv v0, iv v1, iv v2, iv v3, iv v4, rv b1, iv r4, iv x1, iv x2, iv (r4 + (own_st d4)), .unset]) rfl ?_
    show Steps p.tables e below (T232.setTop (mkF m 183 #[iv p0, iv p1, iv p2, iv p3, iv p4, iv p5, iv d1, iv d2, iv d3, iv d4, iv tt, iv v0, iv v1, iv v2, iv v3, iv v4, rv b1, iv r4, iv x1, iv x2, iv (r4 + (own_st d4)), .unset] [])) target
    exact kt
  obtain ⟨r5, e_r5⟩ : ∃ z : Int32, z = (r4 + (own_st d4)) := ⟨_, rfl⟩
  rw [← e_r5] at g234
  have hR5 : r5 = (own_rs f4 4).toInt32 := by
    have q : own_rs f4 3 = own_rs f3 3 := by
      show 1 + own_s (f4 0) (f4 1) + own_s (f4 1) (f4 2) + own_s (f4 2) (f4 3) = 1 + own_s (f3 0) (f3 1) + own_s (f3 1) (f3 2) + own_s (f3 2) (f3 3)
      rw [H0, H1, H2, H3, F0, F1, F2, F3]
    rw [e_r5, hR4, ← own_gst hv4, own_padd, ← q, ← H3, ← H4]
    rfl
  have g235 : own_Go p e below s₁ (entryFrame m #[(.int p0), (.int p1), (.int p2), (.int p3), (.int p4), (.int p5)] maxLocals) T232 (mkF m 187 #[iv p0, iv p1, iv p2, iv p3, iv p4, iv p5, iv d1, iv d2, iv d3, iv d4, iv tt, iv v0, iv v1, iv v2, iv v3, iv v4, rv b1, iv r4, iv x1, iv x2, iv r5, .unset] [(.int p5), (.ref b1)]) := by
    intro target kt
    refine g234 target ?_
    refine XS.aload X232.here hx rfl (hb hby at_183) rfl rfl ?_
    show Steps p.tables e below (T232.setTop (mkF m 185 #[iv p0, iv p1, iv p2, iv p3, iv p4, iv p5, iv d1, iv d2, iv d3, iv d4, iv tt, iv v0, iv v1, iv v2, iv v3, iv v4, rv b1, iv r4, iv x1, iv x2, iv r5, .unset] [(.ref b1)])) target
    refine XS.iload X232.here hx rfl (hb hby at_185) rfl ?_
    show Steps p.tables e below (T232.setTop (mkF m 187 #[iv p0, iv p1, iv p2, iv p3, iv p4, iv p5, iv d1, iv d2, iv d3, iv d4, iv tt, iv v0, iv v1, iv v2, iv v3, iv v4, rv b1, iv r4, iv x1, iv x2, iv r5, .unset] [(.int p5), (.ref b1)])) target
    exact kt
  obtain ⟨cq236, kq236, q236a, q236b, q236c⟩ := isOf hZ eq232 D3.1
  obtain ⟨_, _, ⟨T236, L236, k236, n236⟩, -, X236, ⟨Lc236, hQ236, l236, y236, z236⟩, st236⟩ := X232.virtualBack hx (y := (⟨"com/example/bitloom/bitloom/ArrayContainer", "countRuns", "(I)I"⟩ : MethodName)) (z := (⟨"com/example/bitloom/bitloom/ArrayContainer", "countRuns", "(I)I"⟩ : MethodName)) hown (mvT hZ (hw _ (List.mem_of_getElem? (i := 41) rfl))) (mvT hZ (hw _ (List.mem_of_getElem? (i := 42) rfl))) (notFace_of_selects (args := #[]) (mvT hZ (hw _ (List.mem_of_getElem? (i := 44) rfl)))) (mvT hZ (hw _ (List.mem_of_getElem? (i := 44) rfl))) (mvT hZ (hw _ (List.mem_of_getElem? (i := 43) rfl))) (by decide) (backOf (W := 0) (rmRuns l Z a0 hw [] b1 p5 aw 4 (0 : Int32) 8 f4 hz n0 Z229 D3 (by decide) (by decide) cg (Or.inl rfl) g_b1) hZ (hw _ (List.mem_of_getElem? (i := 45) rfl)) (hw _ (List.mem_of_getElem? (i := 11) rfl)) (by decide) (by decide)) q236a q236c (g := (mkF m 187 #[iv p0, iv p1, iv p2, iv p3, iv p4, iv p5, iv d1, iv d2, iv d3, iv d4, iv tt, iv v0, iv v1, iv v2, iv v3, iv v4, rv b1, iv r4, iv x1, iv x2, iv r5, .unset] [(.int p5), (.ref b1)])) rfl (by rw [hml]; rfl) (Steps.refl _) (argsL := [(.int p5)]) (rest := []) (lenOf pd_9 rfl) rfl (by show 2 * 0 + _ ≤ _; exact Nat.le_of_eq rfl) (hb hby at_187) (fun _ _ => ⟨rfl, eq232, (by decide : 3 + 0 ≤ _), (by decide : 16 + 0 ≤ _)⟩)
  dsimp only [Pt.U, Pt.locs, Pt.cells, Pt.slots] at X236 l236 y236 z236 st236 hQ236
  subst l236 y236 z236
  obtain ⟨x3, s3, rfl, o3, hs3, Nq236, K236, D4⟩ := hQ236
  have N236 := Fr.app N232 Nq236
  have g237 : own_Go p e below s₁ (entryFrame m #[(.int p0), (.int p1), (.int p2), (.int p3), (.int p4), (.int p5)] maxLocals) T236 (mkF m 190 #[iv p0, iv p1, iv p2, iv p3, iv p4, iv p5, iv d1, iv d2, iv d3, iv d4, iv tt, iv v0, iv v1, iv v2, iv v3, iv v4, rv b1, iv r4, iv x1, iv x2, iv r5, .unset] [(.int x3)]) := fun target kt => g235 target (st236.trans kt)
  have Z236 : n0 ≤ T236.heap.size := Nat.le_trans Z229 K236.1
  have q4 := own_rsle f3 3
  have q5 := own_rsle f4 4
  obtain ⟨hy, ehy⟩ : ∃ z, z = T236.heap := ⟨_, rfl⟩
  rw [← ehy] at Z236
  have g238 : own_Go p e below s₁ (entryFrame m #[(.int p0), (.int p1), (.int p2), (.int p3), (.int p4), (.int p5)] maxLocals) T236 (mkF m 197 #[iv p0, iv p1, iv p2, iv p3, iv p4, iv p5, iv d1, iv d2, iv d3, iv d4, iv tt, iv v0, iv v1, iv v2, iv v3, iv v4, rv b1, iv r4, iv x1, iv x2, iv r5, iv x3] [(.int p3), (.int r4), (.int x1)]) := by
    intro target kt
    refine g237 target ?_
    refine XS.istore X236.here hx rfl (hb hby at_190) rfl (l' := #[iv p0, iv p1, iv p2, iv p3, iv p4, iv p5, iv d1, iv d2, iv d3, iv d4, iv tt, iv v0, iv v1, iv v2, iv v3, iv v4, rv b1, iv r4, iv x1, iv x2, iv r5, iv x3]) rfl ?_
    show Steps p.tables e below (T236.setTop (mkF m 192 #[iv p0, iv p1, iv p2, iv p3, iv p4, iv p5, iv d1, iv d2, iv d3, iv d4, iv tt, iv v0, iv v1, iv v2, iv v3, iv v4, rv b1, iv r4, iv x1, iv x2, iv r5, iv x3] [])) target
    refine XS.iload X236.here hx rfl (hb hby at_192) rfl ?_
    show Steps p.tables e below (T236.setTop (mkF m 194 #[iv p0, iv p1, iv p2, iv p3, iv p4, iv p5, iv d1, iv d2, iv d3, iv d4, iv tt, iv v0, iv v1, iv v2, iv v3, iv v4, rv b1, iv r4, iv x1, iv x2, iv r5, iv x3] [(.int x1)])) target
    refine XS.iload X236.here hx rfl (hb hby at_194) rfl ?_
    show Steps p.tables e below (T236.setTop (mkF m 196 #[iv p0, iv p1, iv p2, iv p3, iv p4, iv p5, iv d1, iv d2, iv d3, iv d4, iv tt, iv v0, iv v1, iv v2, iv v3, iv v4, rv b1, iv r4, iv x1, iv x2, iv r5, iv x3] [(.int r4), (.int x1)])) target
    refine XS.iloadN X236.here hx rfl (hb hby at_196) rfl ?_
    show Steps p.tables e below (T236.setTop (mkF m 197 #[iv p0, iv p1, iv p2, iv p3, iv p4, iv p5, iv d1, iv d2, iv d3, iv d4, iv tt, iv v0, iv v1, iv v2, iv v3, iv v4, rv b1, iv r4, iv x1, iv x2, iv r5, iv x3] [(.int p3), (.int r4), (.int x1)])) target
    exact kt
  obtain ⟨_, _, ⟨T239, L239, k239, n239⟩, -, X239, ⟨Lc239, hQ239, l239, y239, z239⟩, st239⟩ := Jvm.LawKit.callS X236 hx (y := (⟨"com/example/bitloom/bitloom/ArrayContainerCountRunsPinLaw", "ok", "(III)Z"⟩ : MethodName)) hown (mvT hZ (hw _ (List.mem_of_getElem? (i := 75) rfl))) (mvT hZ (hw _ (List.mem_of_getElem? (i := 76) rfl))) (mvT hZ (hw _ (List.mem_of_getElem? (i := 2) rfl))) (mvT hZ (hw _ (List.mem_of_getElem? (i := 77) rfl))) (by decide) (backOf (W := 0) (rmOk l Z a0 hw [] x1 r4 p3 (own_rs f3 3) hy n0 Z236 (by omega) hR4 o1) hZ (hw _ (List.mem_of_getElem? (i := 77) rfl)) (hw _ (List.mem_of_getElem? (i := 2) rfl)) (by decide) (by decide)) (g := (mkF m 197 #[iv p0, iv p1, iv p2, iv p3, iv p4, iv p5, iv d1, iv d2, iv d3, iv d4, iv tt, iv v0, iv v1, iv v2, iv v3, iv v4, rv b1, iv r4, iv x1, iv x2, iv r5, iv x3] [(.int p3), (.int r4), (.int x1)])) rfl (by rw [hml]; rfl) (argsL := [(.int x1), (.int r4), (.int p3)]) (rest := []) (lenOf pd_10 rfl) rfl (by show 2 * 0 + _ ≤ _; exact Nat.le_of_eq rfl) (hb hby at_197) (fun _ _ => ⟨rfl, ehy.symm, (by decide : 3 + 0 ≤ _), (by decide : 16 + 0 ≤ _)⟩)
  dsimp only [Pt.U, Pt.locs, Pt.cells, Pt.slots] at X239 l239 y239 z239 st239 hQ239
  subst l239 y239 z239
  obtain ⟨rfl, Nq239, eq239⟩ := hQ239
  have N239 := Fr.app N236 Nq239
  have g240 : own_Go p e below s₁ (entryFrame m #[(.int p0), (.int p1), (.int p2), (.int p3), (.int p4), (.int p5)] maxLocals) T239 (mkF m 200 #[iv p0, iv p1, iv p2, iv p3, iv p4, iv p5, iv d1, iv d2, iv d3, iv d4, iv tt, iv v0, iv v1, iv v2, iv v3, iv v4, rv b1, iv r4, iv x1, iv x2, iv r5, iv x3] [(.int (1 : Int32))]) := fun target kt => g238 target (st239 target kt)
  have g241 : own_Go p e below s₁ (entryFrame m #[(.int p0), (.int p1), (.int p2), (.int p3), (.int p4), (.int p5)] maxLocals) T239 (mkF m 209 #[iv p0, iv p1, iv p2, iv p3, iv p4, iv p5, iv d1, iv d2, iv d3, iv d4, iv tt, iv v0, iv v1, iv v2, iv v3, iv v4, rv b1, iv r4, iv x1, iv x2, iv r5, iv x3] [(.int p4), (.int r4), (.int x2)]) := by
    intro target kt
    refine g240 target ?_
    refine XS.ifNo X239.here hx rfl (hb hby at_200) rfl (XT.i0_eq_f (by decide)) ?_
    show Steps p.tables e below (T239.setTop (mkF m 203 #[iv p0, iv p1, iv p2, iv p3, iv p4, iv p5, iv d1, iv d2, iv d3, iv d4, iv tt, iv v0, iv v1, iv v2, iv v3, iv v4, rv b1, iv r4, iv x1, iv x2, iv r5, iv x3] [])) target
    refine XS.iload X239.here hx rfl (hb hby at_203) rfl ?_
    show Steps p.tables e below (T239.setTop (mkF m 205 #[iv p0, iv p1, iv p2, iv p3, iv p4, iv p5, iv d1, iv d2, iv d3, iv d4, iv tt, iv v0, iv v1, iv v2, iv v3, iv v4, rv b1, iv r4, iv x1, iv x2, iv r5, iv x3] [(.int x2)])) target
    refine XS.iload X239.here hx rfl (hb hby at_205) rfl ?_
    show Steps p.tables e below (T239.setTop (mkF m 207 #[iv p0, iv p1, iv p2, iv p3, iv p4, iv p5, iv d1, iv d2, iv d3, iv d4, iv tt, iv v0, iv v1, iv v2, iv v3, iv v4, rv b1, iv r4, iv x1, iv x2, iv r5, iv x3] [(.int r4), (.int x2)])) target
    refine XS.iload X239.here hx rfl (hb hby at_207) rfl ?_
    show Steps p.tables e below (T239.setTop (mkF m 209 #[iv p0, iv p1, iv p2, iv p3, iv p4, iv p5, iv d1, iv d2, iv d3, iv d4, iv tt, iv v0, iv v1, iv v2, iv v3, iv v4, rv b1, iv r4, iv x1, iv x2, iv r5, iv x3] [(.int p4), (.int r4), (.int x2)])) target
    exact kt
  obtain ⟨_, _, ⟨T242, L242, k242, n242⟩, -, X242, ⟨Lc242, hQ242, l242, y242, z242⟩, st242⟩ := Jvm.LawKit.callS X239 hx (y := (⟨"com/example/bitloom/bitloom/ArrayContainerCountRunsPinLaw", "ok", "(III)Z"⟩ : MethodName)) hown (mvT hZ (hw _ (List.mem_of_getElem? (i := 75) rfl))) (mvT hZ (hw _ (List.mem_of_getElem? (i := 76) rfl))) (mvT hZ (hw _ (List.mem_of_getElem? (i := 2) rfl))) (mvT hZ (hw _ (List.mem_of_getElem? (i := 77) rfl))) (by decide) (backOf (W := 0) (rmOk l Z a0 hw [] x2 r4 p4 (own_rs f3 3) hy n0 Z236 (by omega) hR4 o2) hZ (hw _ (List.mem_of_getElem? (i := 77) rfl)) (hw _ (List.mem_of_getElem? (i := 2) rfl)) (by decide) (by decide)) (g := (mkF m 209 #[iv p0, iv p1, iv p2, iv p3, iv p4, iv p5, iv d1, iv d2, iv d3, iv d4, iv tt, iv v0, iv v1, iv v2, iv v3, iv v4, rv b1, iv r4, iv x1, iv x2, iv r5, iv x3] [(.int p4), (.int r4), (.int x2)])) rfl (by rw [hml]; rfl) (argsL := [(.int x2), (.int r4), (.int p4)]) (rest := []) (lenOf pd_10 rfl) rfl (by show 2 * 0 + _ ≤ _; exact Nat.le_of_eq rfl) (hb hby at_209) (fun _ _ => ⟨rfl, eq239, (by decide : 3 + 0 ≤ _), (by decide : 16 + 0 ≤ _)⟩)
  dsimp only [Pt.U, Pt.locs, Pt.cells, Pt.slots] at X242 l242 y242 z242 st242 hQ242
  subst l242 y242 z242
  obtain ⟨rfl, Nq242, eq242⟩ := hQ242
  have N242 := Fr.app N239 Nq242
  have g243 : own_Go p e below s₁ (entryFrame m #[(.int p0), (.int p1), (.int p2), (.int p3), (.int p4), (.int p5)] maxLocals) T242 (mkF m 212 #[iv p0, iv p1, iv p2, iv p3, iv p4, iv p5, iv d1, iv d2, iv d3, iv d4, iv tt, iv v0, iv v1, iv v2, iv v3, iv v4, rv b1, iv r4, iv x1, iv x2, iv r5, iv x3] [(.int (1 : Int32))]) := fun target kt => g241 target (st242 target kt)
  have g244 : own_Go p e below s₁ (entryFrame m #[(.int p0), (.int p1), (.int p2), (.int p3), (.int p4), (.int p5)] maxLocals) T242 (mkF m 221 #[iv p0, iv p1, iv p2, iv p3, iv p4, iv p5, iv d1, iv d2, iv d3, iv d4, iv tt, iv v0, iv v1, iv v2, iv v3, iv v4, rv b1, iv r4, iv x1, iv x2, iv r5, iv x3] [(.int p5), (.int r5), (.int x3)]) := by
    intro target kt
    refine g243 target ?_
    refine XS.ifNo X242.here hx rfl (hb hby at_212) rfl (XT.i0_eq_f (by decide)) ?_
    show Steps p.tables e below (T242.setTop (mkF m 215 #[iv p0, iv p1, iv p2, iv p3, iv p4, iv p5, iv d1, iv d2, iv d3, iv d4, iv tt, iv v0, iv v1, iv v2, iv v3, iv v4, rv b1, iv r4, iv x1, iv x2, iv r5, iv x3] [])) target
    refine XS.iload X242.here hx rfl (hb hby at_215) rfl ?_
    show Steps p.tables e below (T242.setTop (mkF m 217 #[iv p0, iv p1, iv p2, iv p3, iv p4, iv p5, iv d1, iv d2, iv d3, iv d4, iv tt, iv v0, iv v1, iv v2, iv v3, iv v4, rv b1, iv r4, iv x1, iv x2, iv r5, iv x3] [(.int x3)])) target
    refine XS.iload X242.here hx rfl (hb hby at_217) rfl ?_
    show Steps p.tables e below (T242.setTop (mkF m 219 #[iv p0, iv p1, iv p2, iv p3, iv p4, iv p5, iv d1, iv d2, iv d3, iv d4, iv tt, iv v0, iv v1, iv v2, iv v3, iv v4, rv b1, iv r4, iv x1, iv x2, iv r5, iv x3] [(.int r5), (.int x3)])) target
    refine XS.iload X242.here hx rfl (hb hby at_219) rfl ?_
    show Steps p.tables e below (T242.setTop (mkF m 221 #[iv p0, iv p1, iv p2, iv p3, iv p4, iv p5, iv d1, iv d2, iv d3, iv d4, iv tt, iv v0, iv v1, iv v2, iv v3, iv v4, rv b1, iv r4, iv x1, iv x2, iv r5, iv x3] [(.int p5), (.int r5), (.int x3)])) target
    exact kt
  obtain ⟨_, _, ⟨T245, L245, k245, n245⟩, -, X245, ⟨Lc245, hQ245, l245, y245, z245⟩, st245⟩ := Jvm.LawKit.callS X242 hx (y := (⟨"com/example/bitloom/bitloom/ArrayContainerCountRunsPinLaw", "ok", "(III)Z"⟩ : MethodName)) hown (mvT hZ (hw _ (List.mem_of_getElem? (i := 75) rfl))) (mvT hZ (hw _ (List.mem_of_getElem? (i := 76) rfl))) (mvT hZ (hw _ (List.mem_of_getElem? (i := 2) rfl))) (mvT hZ (hw _ (List.mem_of_getElem? (i := 77) rfl))) (by decide) (backOf (W := 0) (rmOk l Z a0 hw [] x3 r5 p5 (own_rs f4 4) hy n0 Z236 (by omega) hR5 o3) hZ (hw _ (List.mem_of_getElem? (i := 77) rfl)) (hw _ (List.mem_of_getElem? (i := 2) rfl)) (by decide) (by decide)) (g := (mkF m 221 #[iv p0, iv p1, iv p2, iv p3, iv p4, iv p5, iv d1, iv d2, iv d3, iv d4, iv tt, iv v0, iv v1, iv v2, iv v3, iv v4, rv b1, iv r4, iv x1, iv x2, iv r5, iv x3] [(.int p5), (.int r5), (.int x3)])) rfl (by rw [hml]; rfl) (argsL := [(.int x3), (.int r5), (.int p5)]) (rest := []) (lenOf pd_10 rfl) rfl (by show 2 * 0 + _ ≤ _; exact Nat.le_of_eq rfl) (hb hby at_221) (fun _ _ => ⟨rfl, eq242, (by decide : 3 + 0 ≤ _), (by decide : 16 + 0 ≤ _)⟩)
  dsimp only [Pt.U, Pt.locs, Pt.cells, Pt.slots] at X245 l245 y245 z245 st245 hQ245
  subst l245 y245 z245
  obtain ⟨rfl, Nq245, eq245⟩ := hQ245
  have N245 := Fr.app N242 Nq245
  have g246 : own_Go p e below s₁ (entryFrame m #[(.int p0), (.int p1), (.int p2), (.int p3), (.int p4), (.int p5)] maxLocals) T245 (mkF m 224 #[iv p0, iv p1, iv p2, iv p3, iv p4, iv p5, iv d1, iv d2, iv d3, iv d4, iv tt, iv v0, iv v1, iv v2, iv v3, iv v4, rv b1, iv r4, iv x1, iv x2, iv r5, iv x3] [(.int (1 : Int32))]) := fun target kt => g244 target (st245 target kt)
  have g247 : own_Go p e below s₁ (entryFrame m #[(.int p0), (.int p1), (.int p2), (.int p3), (.int p4), (.int p5)] maxLocals) T245 (mkF m 232 #[iv p0, iv p1, iv p2, iv p3, iv p4, iv p5, iv d1, iv d2, iv d3, iv d4, iv tt, iv v0, iv v1, iv v2, iv v3, iv v4, rv b1, iv r4, iv x1, iv x2, iv r5, iv x3] [(.int (1 : Int32))]) := by
    intro target kt
    refine g246 target ?_
    refine XS.ifNo X245.here hx rfl (hb hby at_224) rfl (XT.i0_eq_f (by decide)) ?_
    show Steps p.tables e below (T245.setTop (mkF m 227 #[iv p0, iv p1, iv p2, iv p3, iv p4, iv p5, iv d1, iv d2, iv d3, iv d4, iv tt, iv v0, iv v1, iv v2, iv v3, iv v4, rv b1, iv r4, iv x1, iv x2, iv r5, iv x3] [])) target
    refine XT.iconstV X245.here hx rfl (1 : Int32) (hb hby at_227) rfl ?_
    show Steps p.tables e below (T245.setTop (mkF m 228 #[iv p0, iv p1, iv p2, iv p3, iv p4, iv p5, iv d1, iv d2, iv d3, iv d4, iv tt, iv v0, iv v1, iv v2, iv v3, iv v4, rv b1, iv r4, iv x1, iv x2, iv r5, iv x3] [(.int (1 : Int32))])) target
    refine XS.goto X245.here hx rfl (pc0 := 228) (pc' := 232) rfl (hb hby at_228) (by decide) (by decide) ?_
    show Steps p.tables e below (T245.setTop (mkF m 232 #[iv p0, iv p1, iv p2, iv p3, iv p4, iv p5, iv d1, iv d2, iv d3, iv d4, iv tt, iv v0, iv v1, iv v2, iv v3, iv v4, rv b1, iv r4, iv x1, iv x2, iv r5, iv x3] [(.int (1 : Int32))])) target
    exact kt
  obtain ⟨fs, hr, hrun, hended, hW, hsame⟩ := X245.leave (v := some (.int (nar .boolean (1 : Int32)))) (fun h => by rw [Bd.returns] at h; cases h)
  refine ⟨_, _, g247 _ ?_, hrun, hended, _, _, rfl, ?_, ⟨_, rfl⟩, hW, hsame.mono (by decide) (by decide)⟩
  · exact retN X245 hx (t := .boolean) Bd.returns (by simp) (hb hby at_232) hr
  · show Q_rm0 Z p0 p1 p2 p3 p4 p5  h0 n0 _ T245.heap _
    rw [eq245]
    exact ⟨rfl, N245⟩
set_option maxRecDepth 65536 in
set_option maxHeartbeats 40000000 in
theorem comes_1 {Post : Tables → Env → Array Value → State → Outcome → State → Prop} (hpost : ∀ tb e args s v u, (limb_1_1.after args s (.returned v) u = true ∧ limb_1_2.after args s (.returned v) u = true ∧ True) → FrameEnd s (.returned v) u (Jvm.fieldLocs frame_1_writes args s ++ Jvm.arrayLocs frame_1_arrays args s ++ Jvm.staticLocs frame_1_statics s) 16 128 → Post tb e args s (.returned v) u) :
    ArmFor flags0 classFile x code maxLocals ret World_1 tables_1 room_1 Calls_1 rest_1 Pre_1 Post := by
  intro l hfl _ _ p e ha hc hk s m args below hf hA hF happ hP
  obtain ⟨hcalls, hrest, hpre⟩ := hP
  obtain ⟨-, -, -, hnamed, -, -, -, hat⟩ := (Spec.applies_iff hf).mp happ
  obtain ⟨hg, hn⟩ := and_e (Cond.before_iff.mp (show (Jvm.Cond.and given_1 narrow_1).before args s = true from hpre))
  obtain ⟨hcnt, hs0⟩ := and_e hg
  obtain ⟨ha0, hs1⟩ := and_e hs0
  obtain ⟨ha1, hs2⟩ := and_e hs1
  obtain ⟨ha2, hs3⟩ := and_e hs2
  obtain ⟨ha3, hs4⟩ := and_e hs3
  obtain ⟨ha4, hs5⟩ := and_e hs4
  have ha5 := hs5
  obtain ⟨w0, w1, w2, w3, w4, w5, rfl⟩ : ∃ w0 w1 w2 w3 w4 w5 : Value, args = #[w0, w1, w2, w3, w4, w5] := by
    have hs : args.size = 6 := by simpa [Cond.value, given_1] using hcnt
    obtain ⟨L⟩ := args
    match L, hs with
    | [w0, w1, w2, w3, w4, w5], _ => exact ⟨w0, w1, w2, w3, w4, w5, rfl⟩
  have hw := fun d (hd : d ∈ tables_1) => atoms_spec (ws := Jvm.Cond.code x code maxLocals ret :: tables_1) hat d (List.mem_cons_of_mem _ hd)
  have hfit : Fit s := fun {y c} hc i hi => by
    obtain ⟨ha, rfl⟩ := Array.getElem?_eq_some_iff.mp hc
    have q := List.all_eq_true.mp ((Array.all_eq_true_iff_forall_mem.mp hF) _ (Array.getElem_mem ha)) i (List.mem_range.mpr hi)
    simpa [Array.getElem?_eq_getElem hi] using q
  obtain ⟨i0, ei0⟩ := is_v ha0
  obtain rfl : w0 = (.int i0) := Option.some.inj ei0
  obtain ⟨i1, ei1⟩ := is_v ha1
  obtain rfl : w1 = (.int i1) := Option.some.inj ei1
  obtain ⟨i2, ei2⟩ := is_v ha2
  obtain rfl : w2 = (.int i2) := Option.some.inj ei2
  obtain ⟨i3, ei3⟩ := is_v ha3
  obtain rfl : w3 = (.int i3) := Option.some.inj ei3
  obtain ⟨i4, ei4⟩ := is_v ha4
  obtain rfl : w4 = (.int i4) := Option.some.inj ei4
  obtain ⟨i5, ei5⟩ := is_v ha5
  obtain rfl : w5 = (.int i5) := Option.some.inj ei5
  obtain ⟨n, o, h1, h2, h3, _, L, rfl, ⟨rfl, N⟩, hq⟩ := rm0 l s _ hw tables_1 i0 i1 i2 i3 i4 i5  s.heap s.heap.size (Nat.le_refl _)  p e ha hc hk s m _ below hf ((Spec.applies_iff_loose hf).mp happ).1 ⟨rfl, State.Warmed39.refl s, rfl⟩ trivial
  refine ⟨n, _, h1, h2, h3, hpost _ _ _ _ _ _ ⟨Cond.after_iff.mpr rfl, Cond.after_iff.mpr (eq_i res_at (Term.int_eval (1)) rfl), trivial⟩ ⟨hq.1, hq.2.1, (hq.2.2.sift fun y hy => Or.inr (N y hy)).mono (by decide) (by decide)⟩⟩
theorem main_1_1 : Claimed_1_1 := comes_1 fun _ _ _ _ _ _ h hF => ⟨h.1, hF⟩
theorem main_1_2 : Claimed_1_2 := comes_1 fun _ _ _ _ _ _ h hF => ⟨h.2.1, hF⟩
end Jvm.Pilot.@@N@@
namespace Jvm.Pilot.@@N@@
open Jvm Jvm.ClassFile Sem Op Lib Jvm.Free Jvm.Stand Jvm.Pilot.@@N@@.Jvm.D
/-! MADE BY PROGRAM (witnessworld.py) out of the Statement's table words and the real class files: 16 classes; the members and pool entries that the words name. The judged class is class 1, her method 4. -/
namespace start1
open Jvm.ClassFile
def u (s : String) : CpInfo := .utf8 (stringToUtf16 s)
/-- a pool by its gaps: so many unusable entries, then the entry; so many at the end -/
def gap : Nat → List CpInfo → List CpInfo
  | 0, r => r
  | n + 1, r => .unusable :: gap n r
def poolList (es : List (Nat × CpInfo)) (last : Nat) : List CpInfo := es.foldr (fun e r => gap e.1 (e.2 :: r)) (gap last [])
def pool (es : List (Nat × CpInfo)) (last : Nat) : Array CpInfo := ⟨poolList es last⟩
def fileOf (pool : Array CpInfo) (this : Nat) (attrs : Array Attribute := #[]) (ms : Array MethodInfo := #[]) (fl : Nat := 33) (sup : Nat := 0) (ifs : Array Nat := #[]) (fds : Array FieldInfo := #[]) : ClassFile where
  minorVersion := 0
  majorVersion := 65
  constantPool := pool
  accessFlags := fl
  thisClass := this
  superClass := sup
  interfaces := ifs
  fields := fds
  methods := ms
  attributes := attrs
def plain (name : String) (sup : Option ClassId) : Class where
  name := name
  kind := .ordinary
  loader := none
  accessFlags := 33
  super := sup
  interfaces := #[]
  cf := none
  fields := #[]
  methods := #[]
  instanceTypes := #[]
  staticTypes := #[]
  resolved := #[]
  callSites := []
  init := .initialized
  statics := none
  mirror := none

def pool0 : Array CpInfo := pool [(5, u "<init>"), (0, u "()V"), (1, .class_ 10), (1, u "java/lang/Object")] 113

def k0c0 : Code := { maxStack := 0, maxLocals := 1, code := object_method_1_code, exceptionTable := #[], attributes := #[] }
def k0m0 : Method := { name := "<init>", desc := "()V", sig := { parameters := [], returnType := none }, accessFlags := 1, code := some k0c0 }
/-- java/lang/Object -/
def k0 : Class := { plain "java/lang/Object" none with
  accessFlags := 33
  interfaces := #[]
  cf := some (fileOf pool0 8 #[] #[{ accessFlags := 1, nameIndex := 5, descriptorIndex := 6, attributes := #[] }] 33 0 #[] #[])
  fields := #[]
  methods := #[k0m0]
  instanceTypes := #[]
  staticTypes := #[]
  resolved := Array.replicate 124 none
  statics := none }

def pool1 : Array CpInfo := pool [(2, .class_ 4), (1, u "java/lang/Object"), (0, u "<init>"), (0, u "()V"), (0, .methodref 8 9), (0, .class_ 10), (0, .nameAndType 11 12), (0, u "com/example/bitloom/bitloom/ArrayContainerCountRunsPinLaw"), (0, u "gap"), (0, u "(III)I"), (0, .integer 65535), (0, .methodref 15 16), (0, .class_ 17), (0, .nameAndType 18 19), (0, u "java/lang/Math"), (0, u "min"), (0, u "(II)I"), (0, .class_ 21), (0, u "com/example/bitloom/bitloom/ArrayContainer"), (0, .methodref 20 23), (0, .nameAndType 5 24), (0, u "(C)V"), (0, .methodref 20 26), (0, .nameAndType 27 28), (0, u "add"), (0, u "(C)Lcom/example/bitloom/bitloom/Container;"), (0, .methodref 8 30), (0, .nameAndType 31 32), (0, u "starts"), (0, u "(I)I"), (0, .methodref 20 34), (0, .nameAndType 35 32), (0, u "countRuns"), (0, .methodref 8 37), (0, .nameAndType 38 39), (0, u "ok"), (0, u "(III)Z"), (3, u "law"), (0, u "(IIIIII)Z")] 2

def k1m0 : Method := { name := "<init>", desc := "()V", sig := { parameters := [], returnType := none }, accessFlags := 1, code := none }
def k1c1 : Code := { maxStack := 3, maxLocals := 4, code := method_2_code, exceptionTable := #[], attributes := #[] }
def k1m1 : Method := { name := "gap", desc := "(III)I", sig := { parameters := [.int, .int, .int], returnType := some .int }, accessFlags := 10, code := some k1c1 }
def k1c2 : Code := { maxStack := 2, maxLocals := 1, code := method_3_code, exceptionTable := #[], attributes := #[] }
def k1m2 : Method := { name := "starts", desc := "(I)I", sig := { parameters := [.int], returnType := some .int }, accessFlags := 10, code := some k1c2 }
def k1c3 : Code := { maxStack := 2, maxLocals := 3, code := method_4_code, exceptionTable := #[], attributes := #[] }
def k1m3 : Method := { name := "ok", desc := "(III)Z", sig := { parameters := [.int, .int, .int], returnType := some .boolean }, accessFlags := 10, code := some k1c3 }
def k1c4 : Code := { maxStack := 3, maxLocals := 22, code := code, exceptionTable := #[], attributes := #[] }
def k1m4 : Method := { name := "law", desc := "(IIIIII)Z", sig := { parameters := [.int, .int, .int, .int, .int, .int], returnType := some .boolean }, accessFlags := 9, code := some k1c4 }
/-- com/example/bitloom/bitloom/ArrayContainerCountRunsPinLaw -/
def k1 : Class := { plain "com/example/bitloom/bitloom/ArrayContainerCountRunsPinLaw" (some 0) with
  accessFlags := 49
  interfaces := #[]
  cf := some (fileOf pool1 8 #[] #[{ accessFlags := 1, nameIndex := 5, descriptorIndex := 6, attributes := #[] }, { accessFlags := 10, nameIndex := 11, descriptorIndex := 12, attributes := #[] }, { accessFlags := 10, nameIndex := 31, descriptorIndex := 32, attributes := #[] }, { accessFlags := 10, nameIndex := 38, descriptorIndex := 39, attributes := #[] }, { accessFlags := 9, nameIndex := 43, descriptorIndex := 44, attributes := #[] }] 49 2 #[] #[])
  fields := #[]
  methods := #[k1m0, k1m1, k1m2, k1m3, k1m4]
  instanceTypes := #[]
  staticTypes := #[]
  resolved := Array.replicate 47 none
  statics := none }

def pool2 : Array CpInfo := pool [(1, .class_ 2), (0, u "java/lang/Math"), (1, .class_ 6), (1, u "java/lang/Object"), (0, u "<init>"), (0, u "()V"), (89, .class_ 100), (1, u "java/lang/Math$RandomNumberGeneratorHolder"), (71, u "negativeZeroFloatBits"), (0, u "J"), (2, u "negativeZeroDoubleBits"), (21, u "max"), (2, u "min"), (43, u "$assertionsDisabled"), (0, u "Z"), (88, u "(II)I"), (2, u "twoToTheDoubleScaleDown"), (0, u "D"), (4, u "twoToTheDoubleScaleUp"), (9, u "E"), (3, u "PI"), (2, u "TAU"), (2, u "DEGREES_TO_RADIANS"), (0, u "RADIANS_TO_DEGREES")] 94

def k2m0 : Method := { name := "<init>", desc := "()V", sig := { parameters := [], returnType := none }, accessFlags := 2, code := none }
def k2c1 : Code := { maxStack := 2, maxLocals := 2, code := jdk_29_method_65_code, exceptionTable := #[], attributes := #[] }
def k2m1 : Method := { name := "max", desc := "(II)I", sig := { parameters := [.int, .int], returnType := some .int }, accessFlags := 9, code := some k2c1 }
def k2c2 : Code := { maxStack := 2, maxLocals := 2, code := jdk_29_method_69_code, exceptionTable := #[], attributes := #[] }
def k2m2 : Method := { name := "min", desc := "(II)I", sig := { parameters := [.int, .int], returnType := some .int }, accessFlags := 9, code := some k2c2 }
/-- java/lang/Math -/
def k2 : Class := { plain "java/lang/Math" (some 0) with
  accessFlags := 49
  interfaces := #[]
  cf := some (fileOf pool2 1 #[.nestMembers #[98]] #[{ accessFlags := 2, nameIndex := 7, descriptorIndex := 8, attributes := #[] }, { accessFlags := 9, nameIndex := 198, descriptorIndex := 335, attributes := #[] }, { accessFlags := 9, nameIndex := 201, descriptorIndex := 335, attributes := #[] }] 49 4 #[] #[{ accessFlags := 25, nameIndex := 354, descriptorIndex := 339, attributes := #[] }, { accessFlags := 25, nameIndex := 358, descriptorIndex := 339, attributes := #[] }, { accessFlags := 25, nameIndex := 361, descriptorIndex := 339, attributes := #[] }, { accessFlags := 26, nameIndex := 364, descriptorIndex := 339, attributes := #[] }, { accessFlags := 26, nameIndex := 365, descriptorIndex := 339, attributes := #[] }, { accessFlags := 26, nameIndex := 172, descriptorIndex := 173, attributes := #[] }, { accessFlags := 26, nameIndex := 176, descriptorIndex := 173, attributes := #[] }, { accessFlags := 8, nameIndex := 344, descriptorIndex := 339, attributes := #[] }, { accessFlags := 8, nameIndex := 338, descriptorIndex := 339, attributes := #[] }, { accessFlags := 4120, nameIndex := 245, descriptorIndex := 246, attributes := #[] }])
  fields := #[{ name := "E", type := .double, accessFlags := 25, slot := 0, constantValue := 0 }, { name := "PI", type := .double, accessFlags := 25, slot := 1, constantValue := 0 }, { name := "TAU", type := .double, accessFlags := 25, slot := 2, constantValue := 0 }, { name := "DEGREES_TO_RADIANS", type := .double, accessFlags := 26, slot := 3, constantValue := 0 }, { name := "RADIANS_TO_DEGREES", type := .double, accessFlags := 26, slot := 4, constantValue := 0 }, { name := "negativeZeroFloatBits", type := .long, accessFlags := 26, slot := 5, constantValue := 0 }, { name := "negativeZeroDoubleBits", type := .long, accessFlags := 26, slot := 6, constantValue := 0 }, { name := "twoToTheDoubleScaleUp", type := .double, accessFlags := 8, slot := 7, constantValue := 0 }, { name := "twoToTheDoubleScaleDown", type := .double, accessFlags := 8, slot := 8, constantValue := 0 }, { name := "$assertionsDisabled", type := .boolean, accessFlags := 4120, slot := 9, constantValue := 0 }]
  methods := #[k2m0, k2m1, k2m2]
  instanceTypes := #[]
  staticTypes := #[.double, .double, .double, .double, .double, .long, .long, .double, .double, .boolean]
  resolved := Array.replicate 460 none
  statics := none }

def pool3 : Array CpInfo := pool [(1, .methodref 2 3), (0, .class_ 4), (0, .nameAndType 5 6), (0, u "java/lang/Object"), (0, u "<init>"), (0, u "()V"), (1, .class_ 10), (1, u "com/example/bitloom/bitloom/Container"), (0, u "cardinality"), (0, u "C"), (204, u "NOT_IN_PLACE"), (0, u "I"), (41, .class_ 261), (0, u "com/example/bitloom/bitloom/Container$AscendingCursor"), (0, .class_ 263), (0, u "com/example/bitloom/bitloom/Container$Cursor")] 3

def k3c0 : Code := { maxStack := 1, maxLocals := 1, code := prog_57_method_1_code, exceptionTable := #[], attributes := #[] }
def k3m0 : Method := { name := "<init>", desc := "()V", sig := { parameters := [], returnType := none }, accessFlags := 0, code := some k3c0 }
/-- com/example/bitloom/bitloom/Container -/
def k3 : Class := { plain "com/example/bitloom/bitloom/Container" (some 0) with
  accessFlags := 1056
  interfaces := #[]
  cf := some (fileOf pool3 8 #[.nestMembers #[260, 262]] #[{ accessFlags := 0, nameIndex := 5, descriptorIndex := 6, attributes := #[] }] 1056 2 #[] #[{ accessFlags := 0, nameIndex := 11, descriptorIndex := 12, attributes := #[] }, { accessFlags := 24, nameIndex := 217, descriptorIndex := 218, attributes := #[] }])
  fields := #[{ name := "cardinality", type := .char, accessFlags := 0, slot := 0, constantValue := 0 }, { name := "NOT_IN_PLACE", type := .int, accessFlags := 24, slot := 0, constantValue := 0 }]
  methods := #[k3m0]
  instanceTypes := #[.char]
  staticTypes := #[.int]
  resolved := Array.replicate 267 none
  statics := none }

def pool4 : Array CpInfo := pool [(1, .class_ 2), (0, u "com/example/bitloom/bitloom/ArrayContainer"), (0, .methodref 4 5), (0, .class_ 6), (0, .nameAndType 7 8), (0, u "com/example/bitloom/bitloom/Container"), (0, u "<init>"), (0, u "()V"), (0, .fieldref 1 10), (0, .nameAndType 11 12), (0, u "values"), (0, u "[C"), (0, .fieldref 1 14), (0, .nameAndType 15 16), (0, u "stored"), (0, u "Ljava/nio/CharBuffer;"), (0, .fieldref 1 18), (0, .nameAndType 19 20), (0, u "cardinality"), (0, u "C"), (20, .methodref 1 42), (0, .nameAndType 43 44), (0, u "insert"), (0, u "(C)Lcom/example/bitloom/bitloom/Container;"), (0, .fieldref 1 46), (0, .nameAndType 47 20), (0, u "runCount"), (4, .methodref 1 53), (0, .nameAndType 54 55), (0, u "fits"), (0, u "(I)Z"), (5, u "add"), (0, .methodref 63 64), (0, .class_ 65), (0, .nameAndType 66 67), (0, u "com/example/bitloom/bitloom/Capacity"), (0, u "grown"), (0, u "(IIII)I"), (0, .methodref 1 69), (0, .nameAndType 70 71), (0, u "resize"), (0, u "(I)V"), (0, .methodref 73 74), (0, .class_ 75), (0, .nameAndType 76 77), (0, u "java/lang/System"), (0, u "arraycopy"), (0, u "(Ljava/lang/Object;ILjava/lang/Object;II)V"), (4, .methodref 83 84), (0, .class_ 85), (0, .nameAndType 86 87), (0, u "java/util/Arrays"), (0, u "copyOf"), (0, u "([CI)[C"), (22, .class_ 111), (0, u "com/example/bitloom/bitloom/ArrayContainer$1"), (3, .class_ 116), (0, u "com/example/bitloom/bitloom/ArrayContainer$2"), (9, u "(I)I"), (30, u "countRuns"), (74, .class_ 234), (1, u "com/example/bitloom/bitloom/ArrayContainer$Way"), (105, u "MAX_CARDINALITY"), (0, u "I"), (2, u "INITIAL_CAPACITY"), (1, u "FAR_APART"), (1, u "VERY_FAR_APART"), (1, u "FEW_TO_SEARCH_FOR"), (0, u "FEW"), (1, u "MERGED_WITHOUT_BRANCHES"), (3, u "(C)V")] 56

def k4c0 : Code := { maxStack := 2, maxLocals := 1, code := prog_3_method_1_code, exceptionTable := #[], attributes := #[] }
def k4m0 : Method := { name := "fits", desc := "(I)Z", sig := { parameters := [.int], returnType := some .boolean }, accessFlags := 8, code := some k4c0 }
def k4c1 : Code := { maxStack := 3, maxLocals := 2, code := prog_3_method_2_code, exceptionTable := #[], attributes := #[] }
def k4m1 : Method := { name := "<init>", desc := "(C)V", sig := { parameters := [.char], returnType := none }, accessFlags := 0, code := some k4c1 }
def k4c2 : Code := { maxStack := 4, maxLocals := 4, code := prog_3_method_11_code, exceptionTable := #[], attributes := #[] }
def k4m2 : Method := { name := "add", desc := "(C)Lcom/example/bitloom/bitloom/Container;", sig := { parameters := [.char], returnType := some (.object "com/example/bitloom/bitloom/Container") }, accessFlags := 0, code := some k4c2 }
def k4c3 : Code := { maxStack := 6, maxLocals := 4, code := prog_3_method_13_code, exceptionTable := #[], attributes := #[] }
def k4m3 : Method := { name := "insert", desc := "(C)Lcom/example/bitloom/bitloom/Container;", sig := { parameters := [.char], returnType := some (.object "com/example/bitloom/bitloom/Container") }, accessFlags := 2, code := some k4c3 }
def k4c4 : Code := { maxStack := 3, maxLocals := 2, code := prog_3_method_17_code, exceptionTable := #[], attributes := #[] }
def k4m4 : Method := { name := "resize", desc := "(I)V", sig := { parameters := [.int], returnType := none }, accessFlags := 2, code := some k4c4 }
def k4c5 : Code := { maxStack := 5, maxLocals := 4, code := prog_3_method_31_code, exceptionTable := #[], attributes := #[] }
def k4m5 : Method := { name := "countRuns", desc := "(I)I", sig := { parameters := [.int], returnType := some .int }, accessFlags := 0, code := some k4c5 }
/-- com/example/bitloom/bitloom/ArrayContainer -/
def k4 : Class := { plain "com/example/bitloom/bitloom/ArrayContainer" (some 3) with
  accessFlags := 48
  interfaces := #[]
  cf := some (fileOf pool4 1 #[.nestMembers #[232, 115, 110]] #[{ accessFlags := 8, nameIndex := 54, descriptorIndex := 55, attributes := #[] }, { accessFlags := 0, nameIndex := 7, descriptorIndex := 357, attributes := #[] }, { accessFlags := 0, nameIndex := 61, descriptorIndex := 44, attributes := #[] }, { accessFlags := 2, nameIndex := 43, descriptorIndex := 44, attributes := #[] }, { accessFlags := 2, nameIndex := 70, descriptorIndex := 71, attributes := #[] }, { accessFlags := 0, nameIndex := 157, descriptorIndex := 126, attributes := #[] }] 48 4 #[] #[{ accessFlags := 24, nameIndex := 340, descriptorIndex := 341, attributes := #[] }, { accessFlags := 26, nameIndex := 344, descriptorIndex := 341, attributes := #[] }, { accessFlags := 26, nameIndex := 346, descriptorIndex := 341, attributes := #[] }, { accessFlags := 26, nameIndex := 348, descriptorIndex := 341, attributes := #[] }, { accessFlags := 26, nameIndex := 350, descriptorIndex := 341, attributes := #[] }, { accessFlags := 26, nameIndex := 351, descriptorIndex := 341, attributes := #[] }, { accessFlags := 26, nameIndex := 353, descriptorIndex := 341, attributes := #[] }, { accessFlags := 2, nameIndex := 11, descriptorIndex := 12, attributes := #[] }, { accessFlags := 2, nameIndex := 15, descriptorIndex := 16, attributes := #[] }, { accessFlags := 2, nameIndex := 47, descriptorIndex := 20, attributes := #[] }])
  fields := #[{ name := "MAX_CARDINALITY", type := .int, accessFlags := 24, slot := 0, constantValue := 0 }, { name := "INITIAL_CAPACITY", type := .int, accessFlags := 26, slot := 1, constantValue := 0 }, { name := "FAR_APART", type := .int, accessFlags := 26, slot := 2, constantValue := 0 }, { name := "VERY_FAR_APART", type := .int, accessFlags := 26, slot := 3, constantValue := 0 }, { name := "FEW_TO_SEARCH_FOR", type := .int, accessFlags := 26, slot := 4, constantValue := 0 }, { name := "FEW", type := .int, accessFlags := 26, slot := 5, constantValue := 0 }, { name := "MERGED_WITHOUT_BRANCHES", type := .int, accessFlags := 26, slot := 6, constantValue := 0 }, { name := "values", type := (.array .char), accessFlags := 2, slot := 1, constantValue := 0 }, { name := "stored", type := (.object "java/nio/CharBuffer"), accessFlags := 2, slot := 2, constantValue := 0 }, { name := "runCount", type := .char, accessFlags := 2, slot := 3, constantValue := 0 }]
  methods := #[k4m0, k4m1, k4m2, k4m3, k4m4, k4m5]
  instanceTypes := #[.char, (.array .char), (.object "java/nio/CharBuffer"), .char]
  staticTypes := #[.int, .int, .int, .int, .int, .int, .int]
  resolved := Array.replicate 414 none
  statics := none }

def pool5 : Array CpInfo := pool [(4, .class_ 6), (1, u "java/lang/Object"), (0, u "<init>"), (0, u "()V"), (0, .class_ 10), (0, u "com/example/bitloom/bitloom/Capacity"), (27, .methodref 39 40), (0, .class_ 41), (0, .nameAndType 42 43), (0, u "java/lang/Math"), (0, u "max"), (0, u "(II)I"), (0, .methodref 39 45), (0, .nameAndType 46 43), (0, u "min"), (4, u "MAX_ARRAY_LENGTH"), (0, u "I"), (1, u "DOUBLING_BELOW"), (6, u "grown"), (0, u "(IIII)I")] 19

def k5m0 : Method := { name := "<init>", desc := "()V", sig := { parameters := [], returnType := none }, accessFlags := 2, code := none }
def k5c1 : Code := { maxStack := 4, maxLocals := 5, code := prog_35_method_3_code, exceptionTable := #[], attributes := #[] }
def k5m1 : Method := { name := "grown", desc := "(IIII)I", sig := { parameters := [.int, .int, .int, .int], returnType := some .int }, accessFlags := 8, code := some k5c1 }
/-- com/example/bitloom/bitloom/Capacity -/
def k5 : Class := { plain "com/example/bitloom/bitloom/Capacity" (some 0) with
  accessFlags := 48
  interfaces := #[]
  cf := some (fileOf pool5 9 #[] #[{ accessFlags := 2, nameIndex := 7, descriptorIndex := 8, attributes := #[] }, { accessFlags := 8, nameIndex := 61, descriptorIndex := 62, attributes := #[] }] 48 4 #[] #[{ accessFlags := 24, nameIndex := 51, descriptorIndex := 52, attributes := #[] }, { accessFlags := 26, nameIndex := 54, descriptorIndex := 52, attributes := #[] }])
  fields := #[{ name := "MAX_ARRAY_LENGTH", type := .int, accessFlags := 24, slot := 0, constantValue := 0 }, { name := "DOUBLING_BELOW", type := .int, accessFlags := 26, slot := 1, constantValue := 0 }]
  methods := #[k5m0, k5m1]
  instanceTypes := #[]
  staticTypes := #[.int, .int]
  resolved := Array.replicate 82 none
  statics := none }

def pool6 : Array CpInfo := pool [(2, .class_ 4), (1, u "java/lang/Object"), (0, u "<init>"), (0, u "()V"), (7, .class_ 16), (1, u "java/util/Arrays"), (57, .class_ 76), (1, u "java/util/Arrays$NaturalOrder"), (36, .class_ 115), (1, u "java/util/Arrays$LegacyMergeSort"), (1, u "Z"), (32, .methodref 151 152), (0, .class_ 153), (0, .nameAndType 154 155), (0, u "java/lang/System"), (0, u "arraycopy"), (0, u "(Ljava/lang/Object;ILjava/lang/Object;II)V"), (146, u "copyOf"), (1, .methodref 305 306), (0, .class_ 307), (0, .nameAndType 308 309), (0, u "java/lang/Math"), (0, u "min"), (0, u "(II)I"), (65, .class_ 376), (0, u "java/util/Arrays$ArrayList"), (68, u "$assertionsDisabled"), (269, u "MIN_ARRAY_SORT_GRAN"), (0, u "I"), (2, u "INSERTIONSORT_THRESHOLD"), (153, u "([CI)[C"), (101, .class_ 976), (0, u "java/util/Arrays$ArrayItr")] 52

def k6m0 : Method := { name := "<init>", desc := "()V", sig := { parameters := [], returnType := none }, accessFlags := 2, code := none }
def k6c1 : Code := { maxStack := 6, maxLocals := 3, code := jdk_65_method_125_code, exceptionTable := #[], attributes := #[] }
def k6m1 : Method := { name := "copyOf", desc := "([CI)[C", sig := { parameters := [(.array .char), .int], returnType := some (.array .char) }, accessFlags := 9, code := some k6c1 }
/-- java/util/Arrays -/
def k6 : Class := { plain "java/util/Arrays" (some 0) with
  accessFlags := 49
  interfaces := #[]
  cf := some (fileOf pool6 14 #[.nestMembers #[975, 375, 113, 74]] #[{ accessFlags := 2, nameIndex := 5, descriptorIndex := 6, attributes := #[] }, { accessFlags := 9, nameIndex := 302, descriptorIndex := 873, attributes := #[] }] 49 2 #[] #[{ accessFlags := 26, nameIndex := 715, descriptorIndex := 716, attributes := #[] }, { accessFlags := 26, nameIndex := 719, descriptorIndex := 716, attributes := #[] }, { accessFlags := 4120, nameIndex := 445, descriptorIndex := 117, attributes := #[] }])
  fields := #[{ name := "MIN_ARRAY_SORT_GRAN", type := .int, accessFlags := 26, slot := 0, constantValue := 0 }, { name := "INSERTIONSORT_THRESHOLD", type := .int, accessFlags := 26, slot := 1, constantValue := 0 }, { name := "$assertionsDisabled", type := .boolean, accessFlags := 4120, slot := 2, constantValue := 0 }]
  methods := #[k6m0, k6m1]
  instanceTypes := #[]
  staticTypes := #[.int, .int, .boolean]
  resolved := Array.replicate 1029 none
  statics := none }

def pool7 : Array CpInfo := pool [(2, .class_ 4), (1, u "java/lang/Object"), (0, u "<init>"), (0, u "()V"), (1, .class_ 10), (1, u "java/lang/System"), (0, u "allowSecurityManager"), (0, u "I"), (16, u "cons"), (0, u "Ljava/io/Console;"), (77, .class_ 110), (1, u "java/lang/System$CallersHolder"), (43, u "initialErrStream"), (0, u "Ljava/io/PrintStream;"), (19, u "security"), (0, u "Ljava/lang/SecurityManager;"), (31, .class_ 209), (0, u "java/lang/System$1"), (7, u "props"), (0, u "Ljava/util/Properties;"), (2, u "lineSeparator"), (0, u "Ljava/lang/String;"), (96, .class_ 321), (1, u "java/lang/System$LoggerFinder"), (5, .class_ 328), (0, u "java/lang/System$Logger"), (67, u "err"), (2, u "out"), (91, u "notSupportedJnuEncoding"), (15, u "in"), (17, u "initialIn"), (0, u "Ljava/io/InputStream;"), (35, u "bootLayer"), (0, u "Ljava/lang/ModuleLayer;"), (99, .class_ 664), (0, u "java/lang/System$2"), (9, u "NEVER"), (2, u "MAYBE"), (49, u "arraycopy"), (0, u "(Ljava/lang/Object;ILjava/lang/Object;II)V"), (72, .class_ 802), (0, u "java/lang/System$Logger$Level")] 31

def k7m0 : Method := { name := "<init>", desc := "()V", sig := { parameters := [], returnType := none }, accessFlags := 2, code := none }
def k7m1 : Method := { name := "arraycopy", desc := "(Ljava/lang/Object;ILjava/lang/Object;II)V", sig := { parameters := [(.object "java/lang/Object"), .int, (.object "java/lang/Object"), .int, .int], returnType := none }, accessFlags := 265, code := none }
/-- java/lang/System -/
def k7 : Class := { plain "java/lang/System" (some 0) with
  accessFlags := 49
  interfaces := #[]
  cf := some (fileOf pool7 8 #[.nestMembers #[319, 327, 801, 108, 663, 208]] #[{ accessFlags := 2, nameIndex := 5, descriptorIndex := 6, attributes := #[] }, { accessFlags := 265, nameIndex := 727, descriptorIndex := 728, attributes := #[] }] 49 2 #[] #[{ accessFlags := 25, nameIndex := 507, descriptorIndex := 526, attributes := #[] }, { accessFlags := 25, nameIndex := 399, descriptorIndex := 155, attributes := #[] }, { accessFlags := 25, nameIndex := 396, descriptorIndex := 155, attributes := #[] }, { accessFlags := 10, nameIndex := 525, descriptorIndex := 526, attributes := #[] }, { accessFlags := 26, nameIndex := 674, descriptorIndex := 12, attributes := #[] }, { accessFlags := 26, nameIndex := 677, descriptorIndex := 12, attributes := #[] }, { accessFlags := 10, nameIndex := 11, descriptorIndex := 12, attributes := #[] }, { accessFlags := 74, nameIndex := 175, descriptorIndex := 176, attributes := #[] }, { accessFlags := 10, nameIndex := 491, descriptorIndex := 222, attributes := #[] }, { accessFlags := 74, nameIndex := 29, descriptorIndex := 30, attributes := #[] }, { accessFlags := 74, nameIndex := 154, descriptorIndex := 155, attributes := #[] }, { accessFlags := 10, nameIndex := 217, descriptorIndex := 218, attributes := #[] }, { accessFlags := 10, nameIndex := 221, descriptorIndex := 222, attributes := #[] }, { accessFlags := 8, nameIndex := 562, descriptorIndex := 563, attributes := #[] }])
  fields := #[{ name := "in", type := (.object "java/io/InputStream"), accessFlags := 25, slot := 0, constantValue := 0 }, { name := "out", type := (.object "java/io/PrintStream"), accessFlags := 25, slot := 1, constantValue := 0 }, { name := "err", type := (.object "java/io/PrintStream"), accessFlags := 25, slot := 2, constantValue := 0 }, { name := "initialIn", type := (.object "java/io/InputStream"), accessFlags := 10, slot := 3, constantValue := 0 }, { name := "NEVER", type := .int, accessFlags := 26, slot := 4, constantValue := 0 }, { name := "MAYBE", type := .int, accessFlags := 26, slot := 5, constantValue := 0 }, { name := "allowSecurityManager", type := .int, accessFlags := 10, slot := 6, constantValue := 0 }, { name := "security", type := (.object "java/lang/SecurityManager"), accessFlags := 74, slot := 7, constantValue := 0 }, { name := "notSupportedJnuEncoding", type := (.object "java/lang/String"), accessFlags := 10, slot := 8, constantValue := 0 }, { name := "cons", type := (.object "java/io/Console"), accessFlags := 74, slot := 9, constantValue := 0 }, { name := "initialErrStream", type := (.object "java/io/PrintStream"), accessFlags := 74, slot := 10, constantValue := 0 }, { name := "props", type := (.object "java/util/Properties"), accessFlags := 10, slot := 11, constantValue := 0 }, { name := "lineSeparator", type := (.object "java/lang/String"), accessFlags := 10, slot := 12, constantValue := 0 }, { name := "bootLayer", type := (.object "java/lang/ModuleLayer"), accessFlags := 8, slot := 13, constantValue := 0 }]
  methods := #[k7m0, k7m1]
  instanceTypes := #[]
  staticTypes := #[(.object "java/io/InputStream"), (.object "java/io/PrintStream"), (.object "java/io/PrintStream"), (.object "java/io/InputStream"), .int, .int, .int, (.object "java/lang/SecurityManager"), (.object "java/lang/String"), (.object "java/io/Console"), (.object "java/io/PrintStream"), (.object "java/util/Properties"), (.object "java/lang/String"), (.object "java/lang/ModuleLayer")]
  resolved := Array.replicate 834 none
  statics := none }

def pool8 : Array CpInfo := pool [(1, u "java/lang/Cloneable"), (0, .class_ 1), (0, u "java/lang/Object"), (0, .class_ 3)] 3

/-- java/lang/Cloneable -/
def k8 : Class := { plain "java/lang/Cloneable" (some 0) with
  accessFlags := 1537
  interfaces := #[]
  cf := some (fileOf pool8 2 #[] #[] 1537 4 #[] #[])
  fields := #[]
  methods := #[]
  instanceTypes := #[]
  staticTypes := #[]
  resolved := Array.replicate 8 none
  statics := none }

def pool9 : Array CpInfo := pool [(1, u "java/io/Serializable"), (0, .class_ 1), (0, u "java/lang/Object"), (0, .class_ 3)] 3

/-- java/io/Serializable -/
def k9 : Class := { plain "java/io/Serializable" (some 0) with
  accessFlags := 1537
  interfaces := #[]
  cf := some (fileOf pool9 2 #[] #[] 1537 4 #[] #[])
  fields := #[]
  methods := #[]
  instanceTypes := #[]
  staticTypes := #[]
  resolved := Array.replicate 8 none
  statics := none }

/-- the primitive byte -/
def k10 : Class := { plain "byte" none with kind := .primitive 'B', accessFlags := 0x411 }
/-- [B -/
def k11 : Class := { plain "[B" (some 0) with kind := .array 10 .byte, interfaces := #[8, 9], accessFlags := 1041 }

/-- the primitive char -/
def k12 : Class := { plain "char" none with kind := .primitive 'C', accessFlags := 0x411 }
/-- [C -/
def k13 : Class := { plain "[C" (some 0) with kind := .array 12 .char, interfaces := #[8, 9], accessFlags := 1041 }

/-- the primitive int -/
def k14 : Class := { plain "int" none with kind := .primitive 'I', accessFlags := 0x411 }
/-- [I -/
def k15 : Class := { plain "[I" (some 0) with kind := .array 14 .int, interfaces := #[8, 9], accessFlags := 1041 }

def heap : Heap := #[]
def classes : Array Class := #[k0, k1, k2, k3, k4, k5, k6, k7, k8, k9, k10, k11, k12, k13, k14, k15]
def interned : List (Array UInt16 × Addr) := []
def slotsUsed : Nat := 0
def theMethod : MethodId := ⟨1, 4⟩
def args0 : Array Value := #[.int 5, .int 6, .int 7, .int 8, .int 9, .int 10]
def aboutOver (below : List Frame) : State where
  vm := { classes := classes, interned := interned.toArray }
  heap := heap
  slotsUsed := slotsUsed
  threads := #[{ frames := .invoking theMethod args0 :: below }]
def below0 : List Frame := [.native { method := ⟨0, 0⟩, args := #[] }]
def about1 : State := aboutOver below0
def p0 : Program := .bare "" "" ""
def e0 : Env := launch0.env 0 0 0
theorem w_frames : about1.frames = Frame.invoking theMethod args0 :: below0 := rfl
set_option maxRecDepth 65536 in
theorem w_args : argsFit about1.vm theMethod args0 = true := by decide +kernel
set_option maxRecDepth 65536 in
theorem w_heap : heapFits about1 = true := by decide +kernel
set_option maxRecDepth 65536 in
theorem w_runnable : about1.curStatus? = some .runnable := by decide +kernel
set_option maxRecDepth 65536 in
theorem w_alone : about1.alone = true := by decide +kernel
set_option maxRecDepth 65536 in
theorem w_named : about1.methodNamed? x = some theMethod := by decide +kernel
set_option maxRecDepth 65536 in
theorem w_hears : about1.hears theMethod below0 = true := by decide +kernel
set_option maxRecDepth 65536 in
theorem w_ripe : about1.ripe theMethod args0 below0 = true := by decide +kernel
theorem w_running : about1.status = .running := rfl
set_option maxRecDepth 65536 in
theorem w_room : about1.hasRoom e0.platform room_1 = true :=
  launch0.hasRoom_least _ room_1 (by decide +kernel) (by decide +kernel) (by decide +kernel) (by decide +kernel) (by decide +kernel) (by decide +kernel)
theorem allAtoms_all (ts : List Jvm.Cond) (a : Array Jvm.Value) (st : Jvm.State) : (allAtoms ts).before a st = ts.all (fun c => c.before a st) := by
  induction ts with
  | nil => rfl
  | cons c t ih =>
    show (Jvm.Cond.and c (allAtoms t)).before a st = _
    rw [Jvm.Cond.before_and, ih, List.all_cons]
def words1 : List Jvm.Cond := Jvm.Cond.code x code maxLocals ret :: tables_1
/-- a 'code' word, met by the world's own term for the bytes: nothing is compared byte by byte -/
theorem code_word {y : MethodName} {bytes : ByteArray} {mx : Nat} {rt : Option FieldType} {a : Array Value} {s : State} {m : MethodId} {meth : Method} {c : Code} (h1 : s.methodNamed? y = some m) (h2 : s.vm.method? m = some meth) (h3 : meth.code = some c) (h4 : c.code = bytes)
    (h5 : (c.maxLocals == mx && c.exceptionTable.isEmpty && decide (c.maxStack ≤ mostOperands) && decide (meth.sig.returnType = rt) && !meth.locks && decide (parseMethodDescriptor y.desc = some meth.sig)) = true) : (Jvm.Cond.code y bytes mx rt).before a s = true := by
  simp only [Bool.and_eq_true, beq_iff_eq, Bool.not_eq_true', decide_eq_true_eq] at h5
  obtain ⟨⟨⟨⟨⟨g1, g2⟩, g3⟩, g4⟩, g5⟩, g6⟩ := h5
  simp [Cond.before, Cond.holds, Cond.value, h1, h2, h3, h4, g1, g2, g3, g4, g5, g6]
def isCode : Jvm.Cond → Bool
  | .code _ _ _ _ => true
  | _ => false
theorem all_split {L : List Jvm.Cond} {P : Jvm.Cond → Bool} (h1 : L.all (fun c => isCode c || P c) = true) (h2 : ∀ c ∈ L.filter isCode, P c = true) : L.all P = true := by
  refine List.all_eq_true.mpr fun c hc => ?_
  have h := List.all_eq_true.mp h1 c hc
  rcases Bool.eq_false_or_eq_true (isCode c) with hi | hi
  · exact h2 c (List.mem_filter.mpr ⟨hc, hi⟩)
  · simpa [hi] using h
set_option maxRecDepth 65536 in
theorem w_c0 : (Jvm.Cond.code x code maxLocals ret).before args0 about1 = true := code_word (m := ⟨1, 4⟩) (meth := k1m4) (c := k1c4) (by decide +kernel) rfl rfl rfl (by decide +kernel)
set_option maxRecDepth 65536 in
theorem w_c1 : (Jvm.Cond.code ({ cls := "com/example/bitloom/bitloom/ArrayContainerCountRunsPinLaw", name := "gap", desc := "(III)I" } : Jvm.MethodName) method_2_code (4 : Nat) (Option.some Jvm.ClassFile.FieldType.int)).before args0 about1 = true := code_word (m := ⟨1, 1⟩) (meth := k1m1) (c := k1c1) (by decide +kernel) rfl rfl rfl (by decide +kernel)
set_option maxRecDepth 65536 in
theorem w_c2 : (Jvm.Cond.code ({ cls := "java/lang/Math", name := "min", desc := "(II)I" } : Jvm.MethodName) jdk_29_method_69_code (2 : Nat) (Option.some Jvm.ClassFile.FieldType.int)).before args0 about1 = true := code_word (m := ⟨2, 2⟩) (meth := k2m2) (c := k2c2) (by decide +kernel) rfl rfl rfl (by decide +kernel)
set_option maxRecDepth 65536 in
theorem w_c3 : (Jvm.Cond.code ({ cls := "com/example/bitloom/bitloom/ArrayContainer", name := "<init>", desc := "(C)V" } : Jvm.MethodName) prog_3_method_2_code (2 : Nat) (Option.none : Option Jvm.ClassFile.FieldType)).before args0 about1 = true := code_word (m := ⟨4, 1⟩) (meth := k4m1) (c := k4c1) (by decide +kernel) rfl rfl rfl (by decide +kernel)
set_option maxRecDepth 65536 in
theorem w_c4 : (Jvm.Cond.code ({ cls := "com/example/bitloom/bitloom/Container", name := "<init>", desc := "()V" } : Jvm.MethodName) prog_57_method_1_code (1 : Nat) (Option.none : Option Jvm.ClassFile.FieldType)).before args0 about1 = true := code_word (m := ⟨3, 0⟩) (meth := k3m0) (c := k3c0) (by decide +kernel) rfl rfl rfl (by decide +kernel)
set_option maxRecDepth 65536 in
theorem w_c5 : (Jvm.Cond.code ({ cls := "java/lang/Object", name := "<init>", desc := "()V" } : Jvm.MethodName) object_method_1_code (1 : Nat) (Option.none : Option Jvm.ClassFile.FieldType)).before args0 about1 = true := code_word (m := ⟨0, 0⟩) (meth := k0m0) (c := k0c0) (by decide +kernel) rfl rfl rfl (by decide +kernel)
set_option maxRecDepth 65536 in
theorem w_c6 : (Jvm.Cond.code ({ cls := "com/example/bitloom/bitloom/ArrayContainer", name := "add", desc := "(C)Lcom/example/bitloom/bitloom/Container;" } : Jvm.MethodName) prog_3_method_11_code (4 : Nat) (Option.some (Jvm.ClassFile.FieldType.object "com/example/bitloom/bitloom/Container"))).before args0 about1 = true := code_word (m := ⟨4, 2⟩) (meth := k4m2) (c := k4c2) (by decide +kernel) rfl rfl rfl (by decide +kernel)
set_option maxRecDepth 65536 in
theorem w_c7 : (Jvm.Cond.code ({ cls := "com/example/bitloom/bitloom/ArrayContainerCountRunsPinLaw", name := "starts", desc := "(I)I" } : Jvm.MethodName) method_3_code (1 : Nat) (Option.some Jvm.ClassFile.FieldType.int)).before args0 about1 = true := code_word (m := ⟨1, 2⟩) (meth := k1m2) (c := k1c2) (by decide +kernel) rfl rfl rfl (by decide +kernel)
set_option maxRecDepth 65536 in
theorem w_c8 : (Jvm.Cond.code ({ cls := "com/example/bitloom/bitloom/ArrayContainer", name := "countRuns", desc := "(I)I" } : Jvm.MethodName) prog_3_method_31_code (4 : Nat) (Option.some Jvm.ClassFile.FieldType.int)).before args0 about1 = true := code_word (m := ⟨4, 5⟩) (meth := k4m5) (c := k4c5) (by decide +kernel) rfl rfl rfl (by decide +kernel)
set_option maxRecDepth 65536 in
theorem w_c9 : (Jvm.Cond.code ({ cls := "com/example/bitloom/bitloom/ArrayContainer", name := "insert", desc := "(C)Lcom/example/bitloom/bitloom/Container;" } : Jvm.MethodName) prog_3_method_13_code (4 : Nat) (Option.some (Jvm.ClassFile.FieldType.object "com/example/bitloom/bitloom/Container"))).before args0 about1 = true := code_word (m := ⟨4, 3⟩) (meth := k4m3) (c := k4c3) (by decide +kernel) rfl rfl rfl (by decide +kernel)
set_option maxRecDepth 65536 in
theorem w_c10 : (Jvm.Cond.code ({ cls := "com/example/bitloom/bitloom/ArrayContainer", name := "fits", desc := "(I)Z" } : Jvm.MethodName) prog_3_method_1_code (1 : Nat) (Option.some Jvm.ClassFile.FieldType.boolean)).before args0 about1 = true := code_word (m := ⟨4, 0⟩) (meth := k4m0) (c := k4c0) (by decide +kernel) rfl rfl rfl (by decide +kernel)
set_option maxRecDepth 65536 in
theorem w_c11 : (Jvm.Cond.code ({ cls := "com/example/bitloom/bitloom/Capacity", name := "grown", desc := "(IIII)I" } : Jvm.MethodName) prog_35_method_3_code (5 : Nat) (Option.some Jvm.ClassFile.FieldType.int)).before args0 about1 = true := code_word (m := ⟨5, 1⟩) (meth := k5m1) (c := k5c1) (by decide +kernel) rfl rfl rfl (by decide +kernel)
set_option maxRecDepth 65536 in
theorem w_c12 : (Jvm.Cond.code ({ cls := "java/lang/Math", name := "max", desc := "(II)I" } : Jvm.MethodName) jdk_29_method_65_code (2 : Nat) (Option.some Jvm.ClassFile.FieldType.int)).before args0 about1 = true := code_word (m := ⟨2, 1⟩) (meth := k2m1) (c := k2c1) (by decide +kernel) rfl rfl rfl (by decide +kernel)
set_option maxRecDepth 65536 in
theorem w_c13 : (Jvm.Cond.code ({ cls := "com/example/bitloom/bitloom/ArrayContainer", name := "resize", desc := "(I)V" } : Jvm.MethodName) prog_3_method_17_code (2 : Nat) (Option.none : Option Jvm.ClassFile.FieldType)).before args0 about1 = true := code_word (m := ⟨4, 4⟩) (meth := k4m4) (c := k4c4) (by decide +kernel) rfl rfl rfl (by decide +kernel)
set_option maxRecDepth 65536 in
theorem w_c14 : (Jvm.Cond.code ({ cls := "java/util/Arrays", name := "copyOf", desc := "([CI)[C" } : Jvm.MethodName) jdk_65_method_125_code (3 : Nat) (Option.some (Jvm.ClassFile.FieldType.array Jvm.ClassFile.FieldType.char))).before args0 about1 = true := code_word (m := ⟨6, 1⟩) (meth := k6m1) (c := k6c1) (by decide +kernel) rfl rfl rfl (by decide +kernel)
set_option maxRecDepth 65536 in
theorem w_c15 : (Jvm.Cond.code ({ cls := "com/example/bitloom/bitloom/ArrayContainerCountRunsPinLaw", name := "ok", desc := "(III)Z" } : Jvm.MethodName) method_4_code (3 : Nat) (Option.some Jvm.ClassFile.FieldType.boolean)).before args0 about1 = true := code_word (m := ⟨1, 3⟩) (meth := k1m3) (c := k1c3) (by decide +kernel) rfl rfl rfl (by decide +kernel)
def codes1 : List Jvm.Cond := [Jvm.Cond.code x code maxLocals ret, Jvm.Cond.code ({ cls := "com/example/bitloom/bitloom/ArrayContainerCountRunsPinLaw", name := "gap", desc := "(III)I" } : Jvm.MethodName) method_2_code (4 : Nat) (Option.some Jvm.ClassFile.FieldType.int), Jvm.Cond.code ({ cls := "java/lang/Math", name := "min", desc := "(II)I" } : Jvm.MethodName) jdk_29_method_69_code (2 : Nat) (Option.some Jvm.ClassFile.FieldType.int), Jvm.Cond.code ({ cls := "com/example/bitloom/bitloom/ArrayContainer", name := "<init>", desc := "(C)V" } : Jvm.MethodName) prog_3_method_2_code (2 : Nat) (Option.none : Option Jvm.ClassFile.FieldType), Jvm.Cond.code ({ cls := "com/example/bitloom/bitloom/Container", name := "<init>", desc := "()V" } : Jvm.MethodName) prog_57_method_1_code (1 : Nat) (Option.none : Option Jvm.ClassFile.FieldType), Jvm.Cond.code ({ cls := "java/lang/Object", name := "<init>", desc := "()V" } : Jvm.MethodName) object_method_1_code (1 : Nat) (Option.none : Option Jvm.ClassFile.FieldType), Jvm.Cond.code ({ cls := "com/example/bitloom/bitloom/ArrayContainer", name := "add", desc := "(C)Lcom/example/bitloom/bitloom/Container;" } : Jvm.MethodName) prog_3_method_11_code (4 : Nat) (Option.some (Jvm.ClassFile.FieldType.object "com/example/bitloom/bitloom/Container")), Jvm.Cond.code ({ cls := "com/example/bitloom/bitloom/ArrayContainerCountRunsPinLaw", name := "starts", desc := "(I)I" } : Jvm.MethodName) method_3_code (1 : Nat) (Option.some Jvm.ClassFile.FieldType.int), Jvm.Cond.code ({ cls := "com/example/bitloom/bitloom/ArrayContainer", name := "countRuns", desc := "(I)I" } : Jvm.MethodName) prog_3_method_31_code (4 : Nat) (Option.some Jvm.ClassFile.FieldType.int), Jvm.Cond.code ({ cls := "com/example/bitloom/bitloom/ArrayContainer", name := "insert", desc := "(C)Lcom/example/bitloom/bitloom/Container;" } : Jvm.MethodName) prog_3_method_13_code (4 : Nat) (Option.some (Jvm.ClassFile.FieldType.object "com/example/bitloom/bitloom/Container")), Jvm.Cond.code ({ cls := "com/example/bitloom/bitloom/ArrayContainer", name := "fits", desc := "(I)Z" } : Jvm.MethodName) prog_3_method_1_code (1 : Nat) (Option.some Jvm.ClassFile.FieldType.boolean), Jvm.Cond.code ({ cls := "com/example/bitloom/bitloom/Capacity", name := "grown", desc := "(IIII)I" } : Jvm.MethodName) prog_35_method_3_code (5 : Nat) (Option.some Jvm.ClassFile.FieldType.int), Jvm.Cond.code ({ cls := "java/lang/Math", name := "max", desc := "(II)I" } : Jvm.MethodName) jdk_29_method_65_code (2 : Nat) (Option.some Jvm.ClassFile.FieldType.int), Jvm.Cond.code ({ cls := "com/example/bitloom/bitloom/ArrayContainer", name := "resize", desc := "(I)V" } : Jvm.MethodName) prog_3_method_17_code (2 : Nat) (Option.none : Option Jvm.ClassFile.FieldType), Jvm.Cond.code ({ cls := "java/util/Arrays", name := "copyOf", desc := "([CI)[C" } : Jvm.MethodName) jdk_65_method_125_code (3 : Nat) (Option.some (Jvm.ClassFile.FieldType.array Jvm.ClassFile.FieldType.char)), Jvm.Cond.code ({ cls := "com/example/bitloom/bitloom/ArrayContainerCountRunsPinLaw", name := "ok", desc := "(III)Z" } : Jvm.MethodName) method_4_code (3 : Nat) (Option.some Jvm.ClassFile.FieldType.boolean)]
set_option maxRecDepth 65536 in
theorem codes_eq : words1.filter isCode = codes1 := rfl
theorem w_codes : ∀ c ∈ words1.filter isCode, c.before args0 about1 = true := by
  rw [codes_eq]
  intro c hc
  simp only [codes1, List.mem_cons, List.not_mem_nil, or_false] at hc
  rcases hc with rfl | rfl | rfl | rfl | rfl | rfl | rfl | rfl | rfl | rfl | rfl | rfl | rfl | rfl | rfl | rfl
  · exact w_c0
  · exact w_c1
  · exact w_c2
  · exact w_c3
  · exact w_c4
  · exact w_c5
  · exact w_c6
  · exact w_c7
  · exact w_c8
  · exact w_c9
  · exact w_c10
  · exact w_c11
  · exact w_c12
  · exact w_c13
  · exact w_c14
  · exact w_c15
set_option maxRecDepth 65536 in
theorem w_t1 : (words1.take 24).all (fun c => isCode c || c.before args0 about1) = true := by decide +kernel
set_option maxRecDepth 65536 in
theorem w_t2 : ((words1.drop 24).take 24).all (fun c => isCode c || c.before args0 about1) = true := by decide +kernel
set_option maxRecDepth 65536 in
theorem w_t3 : (((words1.drop 24).drop 24).take 24).all (fun c => isCode c || c.before args0 about1) = true := by decide +kernel
set_option maxRecDepth 65536 in
theorem w_t4 : (((words1.drop 24).drop 24).drop 24).all (fun c => isCode c || c.before args0 about1) = true := by decide +kernel
theorem w_tables : (allAtoms (Jvm.Cond.code x code maxLocals ret :: tables_1)).before args0 about1 = true := by
  rw [allAtoms_all]
  show words1.all (fun c => c.before args0 about1) = true
  refine all_split ?_ w_codes
  rw [← List.take_append_drop 24 words1, List.all_append, w_t1, ← List.take_append_drop 24 (words1.drop 24), List.all_append, w_t2, ← List.take_append_drop 24 ((words1.drop 24).drop 24), List.all_append, w_t3, w_t4]
  rfl
set_option maxRecDepth 65536 in
theorem w_case : (Jvm.Cond.and given_1 narrow_1).before args0 about1 = true := by decide +kernel
theorem w_applies : (headSpec (Jvm.Cond.code x code maxLocals ret :: tables_1) room_1).applies x e0.platform about1 = true :=
  (Spec.applies_iff w_frames).mpr ⟨w_running, w_runnable, w_alone, w_named, w_hears, w_ripe, w_room, w_tables⟩
theorem atStart : AtStart classFile x code maxLocals ret World_1 tables_1 room_1 Calls_1 rest_1 Pre_1 launch0 p0 e0 about1 theMethod args0 below0 :=
  ⟨lists_1, trivial, launch0.admits_env _ _ _, launch0.least_env, fairChoices_fair.cas, fairChoices_fair.clock, w_frames, w_args, w_heap, w_applies, trivial, trivial, w_case⟩
end start1
theorem witness_1 : WitnessClaimed_1 := ⟨start1.p0, start1.e0, start1.about1, start1.theMethod, start1.args0, start1.below0, start1.atStart⟩
end Jvm.Pilot.@@N@@
