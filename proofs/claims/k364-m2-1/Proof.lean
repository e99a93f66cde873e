import JvmDerived
import JvmDerived.Pilot.@@N@@Statement
import JvmDerived.Pilot.@@N@@Code
set_option linter.unusedVariables false
set_option linter.unusedSimpArgs false
namespace Jvm.RoadKit
open Sem ClassFile Op Lib Jvm.Stand Jvm.Free Jvm.LawKit
section New
variable {p : Program} {l : Launch} {e : Env} {R : Room} {s : State} {m : MethodId} {args : Array Value} {below : List Frame} {meth : Method} {c : Code} {T : State} {locs : List Loc} {cells slots : Nat}
theorem retI (X : Stand p l e R s m args below meth c T locs cells slots) (hx : p.tables.exec = Jvm.exec) {pc : Nat} {Ls : Array Slot} {z : Int32} {rest : List Value} (hret : meth.sig.returnType = some .int) (hd : decode c.code pc = .ok (.ireturn, 1)) {fs : List Frame}
    (hl : ∀ (f : JFrame) (acts : List Action), f.method = m → f.locked = none → f.entered = [] → (doReturn e (T.setTop f) acts (some (.int z))).1 = T.setFrames fs) : Steps p.tables e below (T.setTop (mkF m pc Ls (.int z :: rest))) (T.setFrames fs) := by
  have hm' : T.vm.method? m = some meth := X.method'
  have hn : narrow .int (.int z) = .int z := rfl
  show Steps p.tables e below (T.setTop { method := m, pc := pc, locals := Ls, stack := _ :: rest, locked := none }) _
  jvm_step X.here [X.here.top, hx, hd, hm', hret, hn]
  first | (intro acts; rw [hl _ acts rfl rfl rfl]) | rw [hl _ _ rfl rfl rfl]
  exact Steps.refl _
end New
end Jvm.RoadKit
namespace Jvm.Pilot.@@N@@
open Jvm Jvm.ClassFile Sem Op Lib Jvm.Free Jvm.Stand Jvm.LawKit Jvm.RoadKit Bundle Jvm.Pilot.@@N@@.Jvm.D
/-- whoever reaches a target from the frame F of T reaches it from the frame F0 of T0 -/
def own_Go (p : Program) (e : Env) (below : List Frame) (T0 : State) (F0 : JFrame) (T : State) (F : JFrame) : Prop := ∀ target, Steps p.tables e below (T.setTop F) target → Steps p.tables e below (T0.setTop F0) target
theorem own_Go.refl {p : Program} {e : Env} {below : List Frame} {T : State} {F : JFrame} : own_Go p e below T F T F := fun _ k => k
theorem own_Go.trans {p : Program} {e : Env} {below : List Frame} {T0 T1 T2 : State} {F0 F1 F2 : JFrame} (a : own_Go p e below T0 F0 T1 F1) (b : own_Go p e below T1 F1 T2 F2) : own_Go p e below T0 F0 T2 F2 := fun t k => a t (b t k)

theorem pd_0 : parseMethodDescriptor "([JI)Z" = some ⟨[(.array .long), .int], some .boolean⟩ := by decide +kernel
theorem pd_1 : parseMethodDescriptor "([J[CIZ[C)I" = some ⟨[(.array .long), (.array .char), .int, .boolean, (.array .char)], some .int⟩ := by decide +kernel
/-! plain laws: small naturals as ints -/
theorem own_ti {n : Nat} (h : n < 2147483648) : n.toInt32.toInt = n := len_toInt (by omega)
theorem own_tn {n : Nat} (h : n < 2147483648) : n.toInt32.toNatClampNeg = n := by
  rw [Int32.toNatClampNeg, own_ti h]; rfl
theorem own_nn {n : Nat} (h : n < 2147483648) : ¬ n.toInt32 < 0 := by
  rw [Int32.lt_iff_toInt_lt, own_ti h, show (0 : Int32).toInt = 0 from rfl]
  omega
theorem own_lt {i n : Nat} (hi : i < n) (hn : n < 2147483648) : i.toInt32 < n.toInt32 := by
  rw [Int32.lt_iff_toInt_lt, own_ti (by omega), own_ti hn]
  omega
theorem own_ltf {i n : Nat} (hi : n ≤ i) (hn : i < 2147483648) : ¬ i.toInt32 < n.toInt32 := by
  rw [Int32.lt_iff_toInt_lt, own_ti hn, own_ti (by omega)]
  omega
theorem own_padd (a b : Nat) : a.toInt32 + b.toInt32 = (a + b).toInt32 := (Int32.ofNat_add a b).symm
theorem own_one (i : Nat) : i.toInt32 + (1 : Int32) = (i + 1).toInt32 := own_padd i 1
/-! the values of a char -/
def own_C (y : Int32) : Prop := 0 ≤ y.toInt ∧ y.toInt < 65536
def own_ix (y : Int32) : Nat := y.toNatClampNeg / 64
theorem own_Cand (x : Int32) : own_C (x &&& (65535 : Int32)) := by
  have h := c_mask x 65535 16 (by decide) (by decide)
  unfold own_C
  rw [h]
  omega
theorem own_Cshr (x : Int32) : own_C (XT.ushr x (16 : Int32)) := by
  have h : (XT.ushr x (16 : Int32)).toInt = _ := c_iushr x 16 16 (by decide) (by decide)
  unfold own_C
  rw [h]
  omega
theorem own_cnt (x : Int32) : ∃ n : Nat, n ≤ 3 ∧ (x &&& (3 : Int32)) = n.toInt32 := by
  have h := c_mask x 3 2 (by decide) (by decide)
  refine ⟨(x.toInt % ((2 ^ 2 : Nat) : Int)).toNat, by omega, Int32.toInt_inj.mp ?_⟩
  rw [h, own_ti (by omega)]
  omega
theorem own_nat {y : Int32} (hy : own_C y) : (y.toNatClampNeg : Int) = y.toInt := by
  rw [Int32.toNatClampNeg]
  exact Int.toNat_of_nonneg hy.1
theorem own_ixlt {y : Int32} (hy : own_C y) : own_ix y < 1024 := by
  have h := own_nat hy
  have := hy.2
  unfold own_ix
  omega
theorem own_divI {y : Int32} (hy : own_C y) : (y / (64 : Int32)).toInt = y.toInt / 64 := (c_idiv y 64 64 rfl (by decide)).1 hy.1
theorem own_div {y : Int32} (hy : own_C y) : (y / (64 : Int32)).toNatClampNeg = own_ix y := by
  have h := own_nat hy
  have := hy.1
  rw [Int32.toNatClampNeg, own_divI hy]
  unfold own_ix
  omega
theorem own_divn {y : Int32} (hy : own_C y) : ¬ (y / (64 : Int32)) < 0 := by
  have := hy.1
  rw [Int32.lt_iff_toInt_lt, own_divI hy, show (0 : Int32).toInt = 0 from rfl]
  omega
theorem own_shrI {y : Int32} (hy : own_C y) : ((XT.ushr y (6 : Int32)) &&& ((1024 : Int32) - (1 : Int32))).toInt = y.toInt / 64 := by
  have h : (XT.ushr y (6 : Int32)).toInt = _ := c_iushr y 6 6 (by decide) (by decide)
  have h2 := c_mask (XT.ushr y (6 : Int32)) ((1024 : Int32) - (1 : Int32)) 10 (by decide) (by decide)
  obtain ⟨q1, q2⟩ := hy
  rw [h2, h]
  omega
theorem own_shr {y : Int32} (hy : own_C y) : ((XT.ushr y (6 : Int32)) &&& ((1024 : Int32) - (1 : Int32))).toNatClampNeg = own_ix y := by
  have h := own_nat hy
  have := hy.1
  rw [Int32.toNatClampNeg, own_shrI hy]
  unfold own_ix
  omega
theorem own_shrn {y : Int32} (hy : own_C y) : ¬ ((XT.ushr y (6 : Int32)) &&& ((1024 : Int32) - (1 : Int32))) < 0 := by
  have := hy.1
  rw [Int32.lt_iff_toInt_lt, own_shrI hy, show (0 : Int32).toInt = 0 from rfl]
  omega
theorem own_i2c {y : Int32} (hy : own_C y) : y.toUInt32.toUInt16.toUInt32.toInt32 = y := by
  have h := c_i2c y
  obtain ⟨q1, q2⟩ := hy
  apply Int32.toInt_inj.mp
  omega
theorem own_narc {y : Int32} (hy : own_C y) : nar .char y = y := own_i2c hy
/-! one bit of a word -/
theorem own_sh (x : Int64) (y : Int32) (k : Nat) (hk : k < 64) (hy : y.toInt64.toUInt64 &&& Int64.toUInt64 63 = UInt64.ofNat k) : (XT.ushrL x y).toBitVec = x.toBitVec >>> k := by
  unfold XT.ushrL
  rw [hy]
  show (x.toUInt64 >>> UInt64.ofNat k).toBitVec = _
  rw [UInt64.toBitVec_shiftRight]
  apply BitVec.eq_of_toNat_eq
  simp only [BitVec.ushiftRight_eq', BitVec.toNat_ushiftRight, BitVec.toNat_umod]
  have : (UInt64.ofNat k).toBitVec.toNat = k := by
    show k % 2 ^ 64 = k
    omega
  rw [this]
  have e : k % (64 : BitVec 64).toNat = k := by
    show k % 64 = k
    omega
  rw [e]
  rfl
theorem own_low (y : Int32) (hy : own_C y) : y.toInt64.toUInt64 &&& Int64.toUInt64 63 = UInt64.ofNat (y.toNatClampNeg % 64) := by
  have hn := own_nat hy
  have h0 : y.toInt64.toInt = y.toInt := Int32.toInt_toInt64 y
  have h1 : y.toInt64.toBitVec.toNat = y.toNatClampNeg := by
    have h2 : y.toInt64.toBitVec.toInt = y.toInt := h0
    rw [BitVec.toInt_eq_toNat_cond] at h2
    have := hy.1
    have := y.toInt64.toBitVec.isLt
    split at h2 <;> omega
  apply UInt64.toBitVec_inj.mp
  show y.toInt64.toBitVec &&& (63 : BitVec 64) = BitVec.ofNat 64 (y.toNatClampNeg % 64)
  apply BitVec.eq_of_toNat_eq
  rw [BitVec.toNat_and, h1, BitVec.toNat_ofNat, show (63 : BitVec 64).toNat = 2 ^ 6 - 1 from rfl, Nat.and_two_pow_sub_one_eq_mod]
  omega
theorem own_shl (y : Int32) (hy : own_C y) : ((1 : Int64) <<< ((y % (64 : Int32)).toInt64 &&& 63)).toBitVec = BitVec.twoPow 64 (y.toNatClampNeg % 64) := by
  have hn := own_nat hy
  have h0 : (y % (64 : Int32)).toInt = y.toInt % 64 := (c_irem y 64 64 rfl).1 hy.1
  have h1 : ((y % (64 : Int32)).toInt64 &&& (63 : Int64)).toInt = _ := c_maskL _ 63 6 (by decide) (by decide)
  rw [Int32.toInt_toInt64, h0] at h1
  have hp := hy.1
  have h2 : ((y % (64 : Int32)).toInt64 &&& (63 : Int64)).toBitVec = BitVec.ofNat 64 (y.toNatClampNeg % 64) := by
    apply BitVec.eq_of_toInt_eq
    have e1 : ((y % (64 : Int32)).toInt64 &&& (63 : Int64)).toBitVec.toInt = ((y % (64 : Int32)).toInt64 &&& (63 : Int64)).toInt := rfl
    rw [e1, h1, BitVec.toInt_eq_toNat_cond, BitVec.toNat_ofNat]
    split <;> omega
  show (1 : Int64).toBitVec <<< (((y % (64 : Int32)).toInt64 &&& (63 : Int64)).toBitVec.smod 64) = _
  rw [h2, BitVec.shiftLeft_eq', smod64 _ (by omega)]
  rfl
theorem own_bit (w : Int64) (y : Int32) (hy : own_C y) : (XT.ushrL w y &&& (1 : Int64)) = (if (w &&& ((1 : Int64) <<< ((y % (64 : Int32)).toInt64 &&& 63))) = (0 : Int64) then (0 : Int64) else (1 : Int64)) := by
  have hlt : y.toNatClampNeg % 64 < 64 := Nat.mod_lt _ (by decide)
  have h1 := own_sh w y _ hlt (own_low y hy)
  have h2 := own_shl y hy
  have h3 : (w &&& ((1 : Int64) <<< ((y % (64 : Int32)).toInt64 &&& 63))).toBitVec = if w.toBitVec.getLsbD (y.toNatClampNeg % 64) then BitVec.twoPow 64 (y.toNatClampNeg % 64) else 0#64 := by
    rw [Int64.toBitVec_and, h2, BitVec.and_twoPow]
  have h4 : (XT.ushrL w y &&& (1 : Int64)).toBitVec = if w.toBitVec.getLsbD (y.toNatClampNeg % 64) then 1#64 else 0#64 := by
    rw [Int64.toBitVec_and, h1]
    show (w.toBitVec >>> (y.toNatClampNeg % 64)) &&& BitVec.twoPow 64 0 = _
    rw [BitVec.and_twoPow, BitVec.getLsbD_ushiftRight, Nat.add_zero]
    rfl
  have hne : BitVec.twoPow 64 (y.toNatClampNeg % 64) ≠ 0#64 := by
    intro h
    have := congrArg (fun b => b.getLsbD (y.toNatClampNeg % 64)) h
    simp [hlt] at this
  by_cases hb : w.toBitVec.getLsbD (y.toNatClampNeg % 64) = true
  · rw [if_pos hb] at h3 h4
    rw [if_neg (fun h => hne (by rw [← h3, h]; rfl))]
    exact Int64.toBitVec_inj.mp h4
  · rw [if_neg hb] at h3 h4
    rw [if_pos (Int64.toBitVec_inj.mp h3)]
    exact Int64.toBitVec_inj.mp h4
def own_hb (G : Nat → Int64) (y : Int32) : Int32 := if (G (own_ix y) &&& ((1 : Int64) <<< ((y % (64 : Int32)).toInt64 &&& 63))) = (0 : Int64) then (0 : Int32) else (1 : Int32)
theorem own_hbn (G : Nat → Int64) (y : Int32) : nar .boolean (own_hb G y) = own_hb G y := by
  unfold own_hb
  split <;> rfl
theorem own_bits (G : Nat → Int64) (y : Int32) (hy : own_C y) (z : Int32) (hz : z = 0 ∨ z = 1) : ((XT.ushrL (G (own_ix y)) y &&& (1 : Int64)) ^^^ (if z = 0 then (1 : Int64) else (0 : Int64))).toInt32 = (if own_hb G y = z then 1 else 0 : Nat).toInt32 := by
  rw [own_bit _ y hy]
  unfold own_hb
  by_cases h : (G (own_ix y) &&& ((1 : Int64) <<< ((y % (64 : Int32)).toInt64 &&& 63))) = (0 : Int64)
  · rw [if_pos h, if_pos h]
    rcases hz with rfl | rfl <;> decide
  · rw [if_neg h, if_neg h]
    rcases hz with rfl | rfl <;> decide
/-! an array whose n places hold f 0 .. f (n - 1) -/
def own_Ar (Z : State) (h : Heap) (a : Addr) (ty : FieldType) (n : Nat) (f : Nat → Value) : Prop := ∃ cl : Cell, Arr Z h a cl ty ∧ cl.slots.size = n ∧ ∀ j, j < n → cl.slots[j]? = some (f j)
section OwnArr
variable {Z : State} {h h' : Heap} {a b : Addr} {ty : FieldType} {n i : Nat} {f g : Nat → Value} {v : Value} {cl : Cell}
theorem own_new {k : ClassId} {z : Int32} (A : Arr Z h a (newA k ty z) ty) (hz : z.toNatClampNeg = n) : own_Ar Z h a ty n (fun _ => defaultValue ty) := by
  refine ⟨_, A, by rw [sz_new, hz], fun j hj => ?_⟩
  show (Array.replicate z.toNatClampNeg (defaultValue ty))[j]? = _
  rw [hz, Array.getElem?_replicate, if_pos hj]
theorem own_set (A : Arr Z h a cl ty) (S : cl.slots.size = n) (H : ∀ j, j < n → cl.slots[j]? = some (f j)) (W : Wr h h' a i v) (hi : i < n) : own_Ar Z h' a ty n (fun j => if j = i then v else f j) := by
  refine ⟨_, A.same W, by rw [sz_set, S], fun j hj => ?_⟩
  show (cl.slots.setIfInBounds i v)[j]? = some (if j = i then v else f j)
  rw [Array.getElem?_setIfInBounds]
  by_cases h : j = i
  · subst h
    rw [if_pos rfl, if_pos (by omega), if_pos rfl]
  · rw [if_neg (fun q => h q.symm), if_neg h]
    exact H j hj
theorem own_congr (V : own_Ar Z h a ty n f) (q : ∀ j, j < n → f j = g j) : own_Ar Z h a ty n g := by
  obtain ⟨c, A, S, H⟩ := V
  exact ⟨c, A, S, fun j hj => by rw [H j hj, q j hj]⟩
theorem own_Ar.ext (V : own_Ar Z h a ty n f) (E : Ext h h') : own_Ar Z h' a ty n f := by
  obtain ⟨c, A, r⟩ := V
  exact ⟨c, A.ext E, r⟩
theorem own_Ar.other (V : own_Ar Z h a ty n f) (W : Wr h h' b i v) (q : a ≠ b) : own_Ar Z h' a ty n f := by
  obtain ⟨c, A, r⟩ := V
  exact ⟨c, A.other W q, r⟩
theorem own_Ar.keep {ws : List Addr} (V : own_Ar Z h a ty n f) (K : Keep h h' ws) (q : a ∉ ws) : own_Ar Z h' a ty n f := by
  obtain ⟨c, A, r⟩ := V
  exact ⟨c, ⟨K.2.1 a c A.1 q, A.2⟩, r⟩
theorem own_Ar.lt (V : own_Ar Z h a ty n f) : a < h.size := by
  obtain ⟨c, A, -⟩ := V
  exact A.lt
theorem own_setC {f : Nat → Int32} {y : Int32} (A : Arr Z h a cl ty) (S : cl.slots.size = n) (H : ∀ j, j < n → cl.slots[j]? = some (.int (f j))) (W : Wr h h' a i (.int y)) (hi : i < n) : own_Ar Z h' a ty n (fun j => .int ((fun j => if j = i then y else f j) j)) :=
  own_congr (own_set A S H W hi) (fun j _ => by dsimp only; split <;> rfl)
theorem own_setL {f : Nat → Int64} {y : Int64} (A : Arr Z h a cl .long) (S : cl.slots.size = n) (H : ∀ j, j < n → cl.slots[j]? = some (.long (f j))) (W : Wr h h' a i (.long y)) (hi : i < n) : ∃ g : Nat → Int64, own_Ar Z h' a .long n (fun j => .long (g j)) :=
  ⟨fun j => if j = i then y else f j, own_congr (own_set A S H W hi) (fun j _ => by dsimp only; split <;> rfl)⟩
theorem own_inb {j : Int32} (S : cl.slots.size = n) (hj : j.toNatClampNeg = i) (hn : ¬ j < 0) (hi : i < n) : ¬ (j < 0 ∨ cl.slots.size ≤ j.toNatClampNeg) := fun q => q.elim hn (fun q => by omega)
end OwnArr
/-! what filter and the law compute -/
def own_three (x y z : Int32) : Nat → Int32 := fun j => if j = 0 then x else if j = 1 then y else z
theorem own_threes (x y z : Int32) (j : Nat) (hj : j < 3) : (if j = (2 : Int32).toNatClampNeg then z else if j = (1 : Int32).toNatClampNeg then y else if j = (0 : Int32).toNatClampNeg then x else (0 : Int32)) = own_three x y z j := by
  have e0 : (0 : Int32).toNatClampNeg = 0 := by decide
  have e1 : (1 : Int32).toNatClampNeg = 1 := by decide
  have e2 : (2 : Int32).toNatClampNeg = 2 := by decide
  rw [e0, e1, e2]
  unfold own_three
  obtain h | h | h : j = 0 ∨ j = 1 ∨ j = 2 := by omega
  all_goals subst h; rfl
theorem own_threeC {x y z : Int32} (hx : own_C x) (hy : own_C y) (hz : own_C z) (j : Nat) : own_C (own_three x y z j) := by
  unfold own_three
  split
  · exact hx
  · split
    · exact hy
    · exact hz
def own_fl (C : Nat → Int32) (k : Nat → Nat) (f0 : Nat → Int32) : Nat → Nat × (Nat → Int32)
  | 0 => (0, f0)
  | i + 1 => ((own_fl C k f0 i).1 + k i, fun j => if j = (own_fl C k f0 i).1 then C i else (own_fl C k f0 i).2 j)
def own_ex (C : Nat → Int32) (k : Nat → Nat) : Nat → Nat × (Nat → Int32)
  | 0 => (0, fun _ => 0)
  | i + 1 => if k i = 0 then own_ex C k i else ((own_ex C k i).1 + 1, fun j => if j = (own_ex C k i).1 then C i else (own_ex C k i).2 j)
theorem own_flset (C : Nat → Int32) (k : Nat → Nat) (f0 : Nat → Int32) (i j : Nat) : (if j = (own_fl C k f0 i).1 then Value.int (C i) else .int ((own_fl C k f0 i).2 j)) = .int ((own_fl C k f0 (i + 1)).2 j) := by
  show _ = Value.int (if j = (own_fl C k f0 i).1 then C i else (own_fl C k f0 i).2 j)
  split <;> rfl
theorem own_flle (C : Nat → Int32) (k : Nat → Nat) (f0 : Nat → Int32) : ∀ {i : Nat}, (∀ j, j < i → k j ≤ 1) → (own_fl C k f0 i).1 ≤ i
  | 0, _ => Nat.le_refl 0
  | i + 1, h => by
    have h1 := own_flle C k f0 (i := i) (fun j hj => h j (by omega))
    have h2 := h i (by omega)
    show (own_fl C k f0 i).1 + k i ≤ i + 1
    omega
theorem own_ex0 (C : Nat → Int32) (k : Nat → Nat) (i : Nat) (h : k i = 0) : own_ex C k (i + 1) = own_ex C k i := by
  show (if k i = 0 then _ else _) = _
  rw [if_pos h]
theorem own_exu (C : Nat → Int32) (k : Nat → Nat) (i : Nat) (h : k i = 1) : own_ex C k (i + 1) = ((own_ex C k i).1 + 1, fun j => if j = (own_ex C k i).1 then C i else (own_ex C k i).2 j) := by
  show (if k i = 0 then _ else _) = _
  rw [if_neg (by omega)]
theorem own_exs (C : Nat → Int32) (k : Nat → Nat) (i : Nat) (h : k i = 1) : (own_ex C k (i + 1)).1 = (own_ex C k i).1 + 1 := by rw [own_exu C k i h]
theorem own_ex1 (C : Nat → Int32) (k : Nat → Nat) (i : Nat) (h : k i = 1) (j : Nat) : (if j = (own_ex C k i).1 then Value.int (C i) else .int ((own_ex C k i).2 j)) = .int ((own_ex C k (i + 1)).2 j) := by
  rw [own_exu C k i h]
  dsimp only
  split <;> rfl
theorem own_exle (C : Nat → Int32) (k : Nat → Nat) : ∀ i : Nat, (own_ex C k i).1 ≤ i
  | 0 => Nat.le_refl 0
  | i + 1 => by
    have h := own_exle C k i
    show (if k i = 0 then own_ex C k i else _).1 ≤ i + 1
    split
    · omega
    · show (own_ex C k i).1 + 1 ≤ i + 1
      omega
theorem own_alike (C : Nat → Int32) (k : Nat → Nat) (le : ∀ i, k i ≤ 1) : ∀ i, (own_fl C k (fun _ => (0 : Int32)) i).1 = (own_ex C k i).1 ∧ ∀ j, j < (own_ex C k i).1 → (own_fl C k (fun _ => (0 : Int32)) i).2 j = (own_ex C k i).2 j
  | 0 => ⟨rfl, fun j hj => absurd hj (Nat.not_lt_zero j)⟩
  | i + 1 => by
    obtain ⟨h1, h2⟩ := own_alike C k le i
    have hl := le i
    by_cases hk : k i = 0
    · rw [own_ex0 C k i hk]
      refine ⟨by show (own_fl C k (fun _ => (0 : Int32)) i).1 + k i = _; omega, fun j hj => ?_⟩
      show (if j = (own_fl C k (fun _ => (0 : Int32)) i).1 then C i else (own_fl C k (fun _ => (0 : Int32)) i).2 j) = _
      rw [if_neg (by omega)]
      exact h2 j hj
    · rw [own_exu C k i (by omega)]
      refine ⟨by show (own_fl C k (fun _ => (0 : Int32)) i).1 + k i = (own_ex C k i).1 + 1; omega, fun j hj => ?_⟩
      show (if j = (own_fl C k (fun _ => (0 : Int32)) i).1 then C i else (own_fl C k (fun _ => (0 : Int32)) i).2 j) = (if j = (own_ex C k i).1 then C i else (own_ex C k i).2 j)
      rw [h1]
      split
      · rfl
      · have hj' : j < (own_ex C k i).1 + 1 := hj
        exact h2 j (by omega)
theorem own_agree (C : Nat → Int32) (k : Nat → Nat) (n : Nat) (hn : n ≤ 3) (off : ∀ i, n ≤ i → k i = 0) (le : ∀ i, k i ≤ 1) : (own_fl C k (fun _ => (0 : Int32)) n).1 = (own_ex C k 3).1 ∧ ∀ j, j < (own_ex C k 3).1 → (own_fl C k (fun _ => (0 : Int32)) n).2 j = (own_ex C k 3).2 j := by
  have h : ∀ d, own_ex C k (n + d) = own_ex C k n := by
    intro d
    induction d with
    | zero => rfl
    | succ d ih => rw [← Nat.add_assoc, own_ex0 C k (n + d) (off _ (by omega)), ih]
  have h3 := h (3 - n)
  rw [Nat.add_sub_cancel' hn] at h3
  rw [h3]
  exact own_alike C k le n
def own_k (G : Nat → Int64) (C : Nat → Int32) (z : Int32) (n : Nat) : Nat → Nat := fun i => if i < n then (if own_hb G (C i) = z then 1 else 0) else 0
theorem own_ks (G : Nat → Int64) (C : Nat → Int32) (z : Int32) (n j : Nat) (h : j < n) : own_k G C z n j = (if own_hb G (C j) = z then 1 else 0) := if_pos h
theorem own_koff (G : Nat → Int64) (C : Nat → Int32) (z : Int32) (n j : Nat) (h : n ≤ j) : own_k G C z n j = 0 := if_neg (by omega)
theorem own_kle (G : Nat → Int64) (C : Nat → Int32) (z : Int32) (n j : Nat) : own_k G C z n j ≤ 1 := by
  unfold own_k
  split
  · split <;> omega
  · omega
theorem own_kz (G : Nat → Int64) (C : Nat → Int32) (z : Int32) (n : Nat) (hn : n ≤ 3) (i : Nat) (hi : i < 3) (u : Int32) (hu : C i = u) : (if i.toInt32 < n.toInt32 then (if own_hb G u = z then (1 : Int32) else (0 : Int32)) else (0 : Int32)) = 0 ↔ own_k G C z n i = 0 := by
  unfold own_k
  rw [hu]
  by_cases h : i < n
  · rw [if_pos (own_lt h (by omega)), if_pos h]
    by_cases q : own_hb G u = z
    · rw [if_pos q, if_pos q]
      decide
    · rw [if_neg q, if_neg q]
      decide
  · rw [if_neg (own_ltf (by omega) (by omega)), if_neg h]
    decide
section OwnRem
variable {p : Program} {l : Launch} {e : Env} {R : Room} {s : State} {m : MethodId} {args : Array Value} {below : List Frame} {meth : Method} {c : Code} {T : State} {locs : List Loc} {cells slots : Nat}
theorem own_irem {g : JFrame} {target : State} (X : Stand p l e R s m args below meth c T locs cells slots) (hx : p.tables.exec = Jvm.exec) (hg : g.method = m) {x y : Int32} {rest : List Value} (hd : decode c.code g.pc = .ok (.irem, 1)) (hs : g.stack = .int y :: .int x :: rest) (hy : y ≠ 0)
    (hr : Steps p.tables e below (T.setTop { g with pc := g.pc + 1, stack := .int (x % y) :: rest }) target) : Steps p.tables e below (T.setTop g) target := iremM X hx hg hd hs hy hr
theorem own_lrem {g : JFrame} {target : State} (X : Stand p l e R s m args below meth c T locs cells slots) (hx : p.tables.exec = Jvm.exec) (hg : g.method = m) {x y : Int64} {rest : List Value} (hd : decode c.code g.pc = .ok (.lrem, 1)) (hs : g.stack = .long y :: .long x :: rest) (hy : y ≠ 0)
    (hr : Steps p.tables e below (T.setTop { g with pc := g.pc + 1, stack := .long (x % y) :: rest }) target) : Steps p.tables e below (T.setTop g) target := by
  refine XT.lrem X.here hx hg hd hs hy ?_
  rw [lrem_mod]
  exact hr
end OwnRem

theorem d2_0 : decode method_3_code 0 = .ok (.aload_n 0, 1) := by decide +kernel
theorem d2_1 : decode method_3_code 1 = .ok (.iload_n 1, 1) := by decide +kernel
theorem d2_2 : decode method_3_code 2 = .ok (.bipush 64, 2) := by decide +kernel
theorem d2_4 : decode method_3_code 4 = .ok (.idiv, 1) := by decide +kernel
theorem d2_5 : decode method_3_code 5 = .ok (.laload, 1) := by decide +kernel
theorem d2_6 : decode method_3_code 6 = .ok (.lconst 1, 1) := by decide +kernel
theorem d2_7 : decode method_3_code 7 = .ok (.iload_n 1, 1) := by decide +kernel
theorem d2_8 : decode method_3_code 8 = .ok (.bipush 64, 2) := by decide +kernel
theorem d2_10 : decode method_3_code 10 = .ok (.irem, 1) := by decide +kernel
theorem d2_11 : decode method_3_code 11 = .ok (.lshl, 1) := by decide +kernel
theorem d2_12 : decode method_3_code 12 = .ok (.land, 1) := by decide +kernel
theorem d2_13 : decode method_3_code 13 = .ok (.lconst 0, 1) := by decide +kernel
theorem d2_14 : decode method_3_code 14 = .ok (.lcmp, 1) := by decide +kernel
theorem d2_15 : decode method_3_code 15 = .ok (.ifCond .eq 7, 3) := by decide +kernel
theorem d2_18 : decode method_3_code 18 = .ok (.iconst 1, 1) := by decide +kernel
theorem d2_19 : decode method_3_code 19 = .ok (.goto 4, 3) := by decide +kernel
theorem d2_22 : decode method_3_code 22 = .ok (.iconst 0, 1) := by decide +kernel
theorem d2_23 : decode method_3_code 23 = .ok (.ireturn, 1) := by decide +kernel
theorem pn_rmH : plainName "com/example/bitloom/bitloom/BitmapContainerFilterPinLaw" = true := by first | (simp [plainName, overriddenIn]; done) | decide +kernel
theorem ef_rmH (m : MethodId) (aw : Addr) (y : Int32) : entryFrame m #[(.ref aw), (.int y)] 2 = mkF m 0 #[rv aw, iv y] [] := by first | (simp [entryFrame, mkF, argsToLocals, Value.category]; done) | rfl
def Q_rmH (Z : State) (aw : Addr) (y : Int32) (G : Nat → Int64) (h0 : Heap) (n0 : Nat) (v : Option Value) (h : Heap) (L : List Loc) : Prop := v = some (.int (own_hb G y)) ∧ Fr n0 L ∧ h = h0
set_option maxRecDepth 65536 in
set_option maxHeartbeats 40000000 in
theorem rmH (l : Launch) (Z : State) (a0 : Array Value) (hw : ∀ d ∈ tables_1, d.before a0 Z = true) (ws : List Jvm.Cond) (aw : Addr) (y : Int32) (G : Nat → Int64) (h0 : Heap) (n0 : Nat) (Z0 : n0 ≤ h0.size) (V1 : own_Ar Z h0 aw .long 1024 (fun j => .long (G j))) (hy : own_C y) :
    MetFree l (⟨"com/example/bitloom/bitloom/BitmapContainerFilterPinLaw", "held", "([JI)Z"⟩ : MethodName) (head1 (Jvm.Cond.code (⟨"com/example/bitloom/bitloom/BitmapContainerFilterPinLaw", "held", "([JI)Z"⟩ : MethodName) method_3_code 2 (some .boolean) :: ws) ({ frames := 0, cells := 0, slots := 0, locals := 0 } : Room)) (fun a U => a = #[(.ref aw), (.int y)] ∧ Z.Warmed39 U.vm ∧ U.heap = h0) (fun _ _ _ _ _ => True) (fun _ U o U' => ∃ v L, o = .returned v ∧ Q_rmH Z aw y G h0 n0 v U'.heap L ∧ FrameEnd U o U' L ({ frames := 0, cells := 0, slots := 0, locals := 0 } : Room).cells ({ frames := 0, cells := 0, slots := 0, locals := 0 } : Room).slots) := by
  refine MetFree.of_bodySF (plainFor_of_name pn_rmH) hisR ?_
  intro p e s m args below meth c s₁ Bd hml0 hP hK
  obtain ⟨rfl, hZ, hh⟩ := hP
  have hx := Bd.exec
  have hby := Bd.bytes
  have hml : c.maxLocals = 2 := hml0
  have hown : s.vm.findClass "com/example/bitloom/bitloom/BitmapContainerFilterPinLaw" = some m.cls := findClass_of_methodNamed Bd.named
  have hnm := (name_of_methodNamed Bd.named Bd.method).1
  have X0 : Stand p l e ({ frames := 0, cells := 0, slots := 0, locals := 0 } : Room) s m #[(.ref aw), (.int y)] below meth c s₁ [] 0 0 := Stand.of_body Bd
  have e0 : s₁.heap = h0 := by rw [← hh, Bd.state]; rfl
  have N0 := Fr.nil n0
  have g0 : own_Go p e below s₁ (entryFrame m #[(.ref aw), (.int y)] 2) s₁ (mkF m 0 #[rv aw, iv y] []) := fun t k => castTop (ef_rmH m aw y) k
  obtain ⟨cl1, Ar1, S1, H1⟩ := V1
  have hq : (y / (64 : Int32)).toNatClampNeg = own_ix y := own_div hy
  have hin : ¬ ((y / (64 : Int32)) < 0 ∨ cl1.slots.size ≤ (y / (64 : Int32)).toNatClampNeg) := own_inb S1 hq (own_divn hy) (own_ixlt hy)
  have hat : cl1.slots[(y / (64 : Int32)).toNatClampNeg]? = some (.long (G (own_ix y))) := by rw [hq]; exact H1 _ (own_ixlt hy)
  obtain ⟨rr, hm5, g5⟩ : ∃ (rr : Int32), (rr = (if ((G (own_ix y)) &&& ((1 : Int64) <<< ((y % (64 : Int32)).toInt64 &&& 63))) = (0 : Int64) then (0 : Int32) else (1 : Int32))) ∧ own_Go p e below s₁ (entryFrame m #[(.ref aw), (.int y)] 2) s₁ (mkF m 23 #[rv aw, iv y] [(.int rr)]) := by
    have g1 : own_Go p e below s₁ (entryFrame m #[(.ref aw), (.int y)] 2) s₁ (mkF m 15 #[rv aw, iv y] [(.int (XT.cmpL ((G (own_ix y)) &&& ((1 : Int64) <<< ((y % (64 : Int32)).toInt64 &&& 63))) (0 : Int64)))]) := by
      intro target kt
      refine g0 target ?_
      refine XS.aloadN X0.here hx rfl (hb hby d2_0) rfl rfl ?_
      show Steps p.tables e below (s₁.setTop (mkF m 1 #[rv aw, iv y] [(.ref aw)])) target
      refine XS.iloadN X0.here hx rfl (hb hby d2_1) rfl ?_
      show Steps p.tables e below (s₁.setTop (mkF m 2 #[rv aw, iv y] [(.int y), (.ref aw)])) target
      refine XT.bipushV X0.here hx rfl (64 : Int32) (hb hby d2_2) rfl ?_
      show Steps p.tables e below (s₁.setTop (mkF m 4 #[rv aw, iv y] [(.int (64 : Int32)), (.int y), (.ref aw)])) target
      refine XS.idiv X0.here hx rfl (hb hby d2_4) rfl (by decide) ?_
      show Steps p.tables e below (s₁.setTop (mkF m 5 #[rv aw, iv y] [(.int (y / (64 : Int32))), (.ref aw)])) target
      refine X0.laload hx (j := (y / (64 : Int32))) (v := (.long (G (own_ix y)))) (by rw [e0]; exact Ar1.1) (State.isArrayOf_alike hZ.alike Ar1.2.1) Ar1.2.2 hin hat (g := (mkF m 5 #[rv aw, iv y] [(.int (y / (64 : Int32))), (.ref aw)])) rfl rfl (hb hby d2_5) _ ?_
      show Steps p.tables e below (s₁.setTop (mkF m 6 #[rv aw, iv y] [(.long (G (own_ix y)))])) target
      refine XT.lconstV X0.here hx rfl (1 : Int64) (hb hby d2_6) rfl ?_
      show Steps p.tables e below (s₁.setTop (mkF m 7 #[rv aw, iv y] [(.long (1 : Int64)), (.long (G (own_ix y)))])) target
      refine XS.iloadN X0.here hx rfl (hb hby d2_7) rfl ?_
      show Steps p.tables e below (s₁.setTop (mkF m 8 #[rv aw, iv y] [(.int y), (.long (1 : Int64)), (.long (G (own_ix y)))])) target
      refine XT.bipushV X0.here hx rfl (64 : Int32) (hb hby d2_8) rfl ?_
      show Steps p.tables e below (s₁.setTop (mkF m 10 #[rv aw, iv y] [(.int (64 : Int32)), (.int y), (.long (1 : Int64)), (.long (G (own_ix y)))])) target
      refine own_irem X0 hx rfl (hb hby d2_10) rfl (by decide) ?_
      show Steps p.tables e below (s₁.setTop (mkF m 11 #[rv aw, iv y] [(.int (y % (64 : Int32))), (.long (1 : Int64)), (.long (G (own_ix y)))])) target
      refine XT.lshl X0.here hx rfl (hb hby d2_11) rfl ?_
      show Steps p.tables e below (s₁.setTop (mkF m 12 #[rv aw, iv y] [(.long ((1 : Int64) <<< ((y % (64 : Int32)).toInt64 &&& 63))), (.long (G (own_ix y)))])) target
      refine XT.land X0.here hx rfl (hb hby d2_12) rfl ?_
      show Steps p.tables e below (s₁.setTop (mkF m 13 #[rv aw, iv y] [(.long ((G (own_ix y)) &&& ((1 : Int64) <<< ((y % (64 : Int32)).toInt64 &&& 63))))])) target
      refine XT.lconstV X0.here hx rfl (0 : Int64) (hb hby d2_13) rfl ?_
      show Steps p.tables e below (s₁.setTop (mkF m 14 #[rv aw, iv y] [(.long (0 : Int64)), (.long ((G (own_ix y)) &&& ((1 : Int64) <<< ((y % (64 : Int32)).toInt64 &&& 63))))])) target
      refine XT.lcmp X0.here hx rfl (hb hby d2_14) rfl ?_
      show Steps p.tables e below (s₁.setTop (mkF m 15 #[rv aw, iv y] [(.int (XT.cmpL ((G (own_ix y)) &&& ((1 : Int64) <<< ((y % (64 : Int32)).toInt64 &&& 63))) (0 : Int64)))])) target
      exact kt
    by_cases hc2 : ((G (own_ix y)) &&& ((1 : Int64) <<< ((y % (64 : Int32)).toInt64 &&& 63))) = (0 : Int64)
    · have g3 : own_Go p e below s₁ (entryFrame m #[(.ref aw), (.int y)] 2) s₁ (mkF m 23 #[rv aw, iv y] [(.int (0 : Int32))]) := by
        intro target kt
        refine g1 target ?_
        refine XS.ifYes X0.here hx rfl (pc0 := 15) (pc' := 22) rfl (hb hby d2_15) rfl (XT.ll_eq_t hc2) (by decide) (by decide) ?_
        show Steps p.tables e below (s₁.setTop (mkF m 22 #[rv aw, iv y] [])) target
        refine XT.iconstV X0.here hx rfl (0 : Int32) (hb hby d2_22) rfl ?_
        show Steps p.tables e below (s₁.setTop (mkF m 23 #[rv aw, iv y] [(.int (0 : Int32))])) target
        exact kt
      exact ⟨(0 : Int32), (by simp only [if_pos hc2]), g3⟩
    · have g4 : own_Go p e below s₁ (entryFrame m #[(.ref aw), (.int y)] 2) s₁ (mkF m 23 #[rv aw, iv y] [(.int (1 : Int32))]) := by
        intro target kt
        refine g1 target ?_
        refine XS.ifNo X0.here hx rfl (hb hby d2_15) rfl (XT.ll_eq_f hc2) ?_
        show Steps p.tables e below (s₁.setTop (mkF m 18 #[rv aw, iv y] [])) target
        refine XT.iconstV X0.here hx rfl (1 : Int32) (hb hby d2_18) rfl ?_
        show Steps p.tables e below (s₁.setTop (mkF m 19 #[rv aw, iv y] [(.int (1 : Int32))])) target
        refine XS.goto X0.here hx rfl (pc0 := 19) (pc' := 23) rfl (hb hby d2_19) (by decide) (by decide) ?_
        show Steps p.tables e below (s₁.setTop (mkF m 23 #[rv aw, iv y] [(.int (1 : Int32))])) target
        exact kt
      exact ⟨(1 : Int32), (by simp only [if_neg hc2]), g4⟩
  have hr1 : nar .boolean rr = own_hb G y := by rw [hm5]; exact own_hbn G y
  obtain ⟨fs, hr, hrun, hended, hW, hsame⟩ := X0.leave (v := some (.int (nar .boolean rr))) (fun h => by rw [Bd.returns] at h; cases h)
  refine ⟨_, _, g5 _ ?_, hrun, hended, _, _, rfl, ?_, ⟨_, rfl⟩, hW, hsame.mono (by decide) (by decide)⟩
  · exact retN X0 hx (t := .boolean) Bd.returns (by simp) (hb hby d2_23) hr
  · show Q_rmH Z aw y G h0 n0 _ s₁.heap _
    rw [e0]
    exact ⟨by rw [hr1], N0, rfl⟩
theorem d1_0 : decode prog_15_method_58_code 0 = .ok (.iload_n 3, 1) := by decide +kernel
theorem d1_1 : decode prog_15_method_58_code 1 = .ok (.ifCond .eq 7, 3) := by decide +kernel
theorem d1_4 : decode prog_15_method_58_code 4 = .ok (.lconst 0, 1) := by decide +kernel
theorem d1_5 : decode prog_15_method_58_code 5 = .ok (.goto 4, 3) := by decide +kernel
theorem d1_8 : decode prog_15_method_58_code 8 = .ok (.lconst 1, 1) := by decide +kernel
theorem d1_9 : decode prog_15_method_58_code 9 = .ok (.lstore 5, 2) := by decide +kernel
theorem d1_11 : decode prog_15_method_58_code 11 = .ok (.iconst 0, 1) := by decide +kernel
theorem d1_12 : decode prog_15_method_58_code 12 = .ok (.istore 7, 2) := by decide +kernel
theorem d1_14 : decode prog_15_method_58_code 14 = .ok (.iconst 0, 1) := by decide +kernel
theorem d1_15 : decode prog_15_method_58_code 15 = .ok (.istore 8, 2) := by decide +kernel
theorem d1_17 : decode prog_15_method_58_code 17 = .ok (.iload 8, 2) := by decide +kernel
theorem d1_19 : decode prog_15_method_58_code 19 = .ok (.iload_n 2, 1) := by decide +kernel
theorem d1_20 : decode prog_15_method_58_code 20 = .ok (.if_icmp .ge 48, 3) := by decide +kernel
theorem d1_23 : decode prog_15_method_58_code 23 = .ok (.aload_n 1, 1) := by decide +kernel
theorem d1_24 : decode prog_15_method_58_code 24 = .ok (.iload 8, 2) := by decide +kernel
theorem d1_26 : decode prog_15_method_58_code 26 = .ok (.caload, 1) := by decide +kernel
theorem d1_27 : decode prog_15_method_58_code 27 = .ok (.istore 9, 2) := by decide +kernel
theorem d1_29 : decode prog_15_method_58_code 29 = .ok (.aload 4, 2) := by decide +kernel
theorem d1_31 : decode prog_15_method_58_code 31 = .ok (.iload 7, 2) := by decide +kernel
theorem d1_33 : decode prog_15_method_58_code 33 = .ok (.iload 9, 2) := by decide +kernel
theorem d1_35 : decode prog_15_method_58_code 35 = .ok (.castore, 1) := by decide +kernel
theorem d1_36 : decode prog_15_method_58_code 36 = .ok (.iload 7, 2) := by decide +kernel
theorem d1_38 : decode prog_15_method_58_code 38 = .ok (.aload_n 0, 1) := by decide +kernel
theorem d1_39 : decode prog_15_method_58_code 39 = .ok (.iload 9, 2) := by decide +kernel
theorem d1_41 : decode prog_15_method_58_code 41 = .ok (.bipush 6, 2) := by decide +kernel
theorem d1_43 : decode prog_15_method_58_code 43 = .ok (.iushr, 1) := by decide +kernel
theorem d1_44 : decode prog_15_method_58_code 44 = .ok (.aload_n 0, 1) := by decide +kernel
theorem d1_45 : decode prog_15_method_58_code 45 = .ok (.arraylength, 1) := by decide +kernel
theorem d1_46 : decode prog_15_method_58_code 46 = .ok (.iconst 1, 1) := by decide +kernel
theorem d1_47 : decode prog_15_method_58_code 47 = .ok (.isub, 1) := by decide +kernel
theorem d1_48 : decode prog_15_method_58_code 48 = .ok (.iand, 1) := by decide +kernel
theorem d1_49 : decode prog_15_method_58_code 49 = .ok (.laload, 1) := by decide +kernel
theorem d1_50 : decode prog_15_method_58_code 50 = .ok (.iload 9, 2) := by decide +kernel
theorem d1_52 : decode prog_15_method_58_code 52 = .ok (.lushr, 1) := by decide +kernel
theorem d1_53 : decode prog_15_method_58_code 53 = .ok (.lconst 1, 1) := by decide +kernel
theorem d1_54 : decode prog_15_method_58_code 54 = .ok (.land, 1) := by decide +kernel
theorem d1_55 : decode prog_15_method_58_code 55 = .ok (.lload 5, 2) := by decide +kernel
theorem d1_57 : decode prog_15_method_58_code 57 = .ok (.lxor, 1) := by decide +kernel
theorem d1_58 : decode prog_15_method_58_code 58 = .ok (.l2i, 1) := by decide +kernel
theorem d1_59 : decode prog_15_method_58_code 59 = .ok (.iadd, 1) := by decide +kernel
theorem d1_60 : decode prog_15_method_58_code 60 = .ok (.istore 7, 2) := by decide +kernel
theorem d1_62 : decode prog_15_method_58_code 62 = .ok (.iinc 8 1, 3) := by decide +kernel
theorem d1_65 : decode prog_15_method_58_code 65 = .ok (.goto (-48), 3) := by decide +kernel
theorem d1_68 : decode prog_15_method_58_code 68 = .ok (.iload 7, 2) := by decide +kernel
theorem d1_70 : decode prog_15_method_58_code 70 = .ok (.ireturn, 1) := by decide +kernel
theorem pn_rmF : plainName "com/example/bitloom/bitloom/BitmapContainer" = true := by first | (simp [plainName, overriddenIn]; done) | decide +kernel
theorem ef_rmF (m : MethodId) (aw : Addr) (as : Addr) (p2 : Int32) (p3 : Int32) (ai : Addr) : entryFrame m #[(.ref aw), (.ref as), (.int p2), (.int p3), (.ref ai)] 10 = mkF m 0 #[rv aw, rv as, iv p2, iv p3, rv ai, .unset, .unset, .unset, .unset, .unset] [] := by first | (simp [entryFrame, mkF, argsToLocals, Value.category]; done) | rfl
def Q_rmF (Z : State) (aw : Addr) (as : Addr) (p2 : Int32) (p3 : Int32) (ai : Addr) (G : Nat → Int64) (C f0 : Nat → Int32) (cnt : Nat) (k : Nat → Nat) (h0 : Heap) (n0 : Nat) (v : Option Value) (h : Heap) (L : List Loc) : Prop := v = some (.int (own_fl C k f0 cnt).1.toInt32) ∧ Fr n0 L ∧ Keep h0 h [ai] ∧ own_Ar Z h ai .char 3 (fun j => .int ((own_fl C k f0 cnt).2 j))
set_option maxRecDepth 65536 in
set_option maxHeartbeats 40000000 in
theorem rmF (l : Launch) (Z : State) (a0 : Array Value) (hw : ∀ d ∈ tables_1, d.before a0 Z = true) (ws : List Jvm.Cond) (aw : Addr) (as : Addr) (p2 : Int32) (p3 : Int32) (ai : Addr) (G : Nat → Int64) (C f0 : Nat → Int32) (cnt : Nat) (k : Nat → Nat) (h0 : Heap) (n0 : Nat) (Z0 : n0 ≤ h0.size) (V1 : own_Ar Z h0 aw .long 1024 (fun j => .long (G j))) (V2 : own_Ar Z h0 as .char 3 (fun j => .int (C j))) (V3 : own_Ar Z h0 ai .char 3 (fun j => .int (f0 j))) (hC : ∀ j, own_C (C j)) (hcnt : cnt ≤ 3) (hp2 : p2 = cnt.toInt32) (hk : ∀ j, j < cnt → k j = (if own_hb G (C j) = p3 then 1 else 0)) (hp3 : p3 = 0 ∨ p3 = 1) (n1 : aw ≠ ai) (n2 : as ≠ ai) (gi : n0 ≤ ai) :
    MetFree l (⟨"com/example/bitloom/bitloom/BitmapContainer", "filter", "([J[CIZ[C)I"⟩ : MethodName) (head1 (Jvm.Cond.code (⟨"com/example/bitloom/bitloom/BitmapContainer", "filter", "([J[CIZ[C)I"⟩ : MethodName) prog_15_method_58_code 10 (some .int) :: ws) ({ frames := 0, cells := 0, slots := 0, locals := 0 } : Room)) (fun a U => a = #[(.ref aw), (.ref as), (.int p2), (.int p3), (.ref ai)] ∧ Z.Warmed39 U.vm ∧ U.heap = h0) (fun _ _ _ _ _ => True) (fun _ U o U' => ∃ v L, o = .returned v ∧ Q_rmF Z aw as p2 p3 ai G C f0 cnt k h0 n0 v U'.heap L ∧ FrameEnd U o U' L ({ frames := 0, cells := 0, slots := 0, locals := 0 } : Room).cells ({ frames := 0, cells := 0, slots := 0, locals := 0 } : Room).slots) := by
  refine MetFree.of_bodySF (plainFor_of_name pn_rmF) hisR ?_
  intro p e s m args below meth c s₁ Bd hml0 hP hK
  obtain ⟨rfl, hZ, hh⟩ := hP
  have hx := Bd.exec
  have hby := Bd.bytes
  have hml : c.maxLocals = 10 := hml0
  have hown : s.vm.findClass "com/example/bitloom/bitloom/BitmapContainer" = some m.cls := findClass_of_methodNamed Bd.named
  have hnm := (name_of_methodNamed Bd.named Bd.method).1
  have X0 : Stand p l e ({ frames := 0, cells := 0, slots := 0, locals := 0 } : Room) s m #[(.ref aw), (.ref as), (.int p2), (.int p3), (.ref ai)] below meth c s₁ [] 0 0 := Stand.of_body Bd
  have e0 : s₁.heap = h0 := by rw [← hh, Bd.state]; rfl
  have N0 := Fr.nil n0
  have g0 : own_Go p e below s₁ (entryFrame m #[(.ref aw), (.ref as), (.int p2), (.int p3), (.ref ai)] 10) s₁ (mkF m 0 #[rv aw, rv as, iv p2, iv p3, rv ai, .unset, .unset, .unset, .unset, .unset] []) := fun t k => castTop (ef_rmF m aw as p2 p3 ai) k
  obtain ⟨sk, hm10, g10⟩ : ∃ (sk : Int64), (sk = (if p3 = 0 then (1 : Int64) else (0 : Int64))) ∧ own_Go p e below s₁ (entryFrame m #[(.ref aw), (.ref as), (.int p2), (.int p3), (.ref ai)] 10) s₁ (mkF m 9 #[rv aw, rv as, iv p2, iv p3, rv ai, .unset, .unset, .unset, .unset, .unset] [(.long sk)]) := by
    have g6 : own_Go p e below s₁ (entryFrame m #[(.ref aw), (.ref as), (.int p2), (.int p3), (.ref ai)] 10) s₁ (mkF m 1 #[rv aw, rv as, iv p2, iv p3, rv ai, .unset, .unset, .unset, .unset, .unset] [(.int p3)]) := by
      intro target kt
      refine g0 target ?_
      refine XS.iloadN X0.here hx rfl (hb hby d1_0) rfl ?_
      show Steps p.tables e below (s₁.setTop (mkF m 1 #[rv aw, rv as, iv p2, iv p3, rv ai, .unset, .unset, .unset, .unset, .unset] [(.int p3)])) target
      exact kt
    by_cases hc7 : p3 = 0
    · have g8 : own_Go p e below s₁ (entryFrame m #[(.ref aw), (.ref as), (.int p2), (.int p3), (.ref ai)] 10) s₁ (mkF m 9 #[rv aw, rv as, iv p2, iv p3, rv ai, .unset, .unset, .unset, .unset, .unset] [(.long (1 : Int64))]) := by
        intro target kt
        refine g6 target ?_
        refine XS.ifYes X0.here hx rfl (pc0 := 1) (pc' := 8) rfl (hb hby d1_1) rfl (XT.i0_eq_t hc7) (by decide) (by decide) ?_
        show Steps p.tables e below (s₁.setTop (mkF m 8 #[rv aw, rv as, iv p2, iv p3, rv ai, .unset, .unset, .unset, .unset, .unset] [])) target
        refine XT.lconstV X0.here hx rfl (1 : Int64) (hb hby d1_8) rfl ?_
        show Steps p.tables e below (s₁.setTop (mkF m 9 #[rv aw, rv as, iv p2, iv p3, rv ai, .unset, .unset, .unset, .unset, .unset] [(.long (1 : Int64))])) target
        exact kt
      exact ⟨(1 : Int64), (by simp only [if_pos hc7]), g8⟩
    · have g9 : own_Go p e below s₁ (entryFrame m #[(.ref aw), (.ref as), (.int p2), (.int p3), (.ref ai)] 10) s₁ (mkF m 9 #[rv aw, rv as, iv p2, iv p3, rv ai, .unset, .unset, .unset, .unset, .unset] [(.long (0 : Int64))]) := by
        intro target kt
        refine g6 target ?_
        refine XS.ifNo X0.here hx rfl (hb hby d1_1) rfl (XT.i0_eq_f hc7) ?_
        show Steps p.tables e below (s₁.setTop (mkF m 4 #[rv aw, rv as, iv p2, iv p3, rv ai, .unset, .unset, .unset, .unset, .unset] [])) target
        refine XT.lconstV X0.here hx rfl (0 : Int64) (hb hby d1_4) rfl ?_
        show Steps p.tables e below (s₁.setTop (mkF m 5 #[rv aw, rv as, iv p2, iv p3, rv ai, .unset, .unset, .unset, .unset, .unset] [(.long (0 : Int64))])) target
        refine XS.goto X0.here hx rfl (pc0 := 5) (pc' := 9) rfl (hb hby d1_5) (by decide) (by decide) ?_
        show Steps p.tables e below (s₁.setTop (mkF m 9 #[rv aw, rv as, iv p2, iv p3, rv ai, .unset, .unset, .unset, .unset, .unset] [(.long (0 : Int64))])) target
        exact kt
      exact ⟨(0 : Int64), (by simp only [if_neg hc7]), g9⟩
  have hsk : sk = (if p3 = 0 then (1 : Int64) else (0 : Int64)) := hm10
  have loop : ∀ (t i : Nat) (T0 : State) (hh : Heap) (L0 : List Loc) (s9 : Slot), i + t = cnt → Stand p l e ({ frames := 0, cells := 0, slots := 0, locals := 0 } : Room) s m #[(.ref aw), (.ref as), (.int p2), (.int p3), (.ref ai)] below meth c T0 L0 0 0 → T0.heap = hh → Fr n0 L0 → Keep h0 hh [ai] → own_Ar Z hh ai .char 3 (fun j => .int ((own_fl C k f0 i).2 j)) → (s9 = .unset ∨ ∃ w, s9 = .val w ∧ w.category = 1) →
      ∃ (T' : State) (h' : Heap) (L' : List Loc) (i' : Int32) (s9' : Slot), Stand p l e ({ frames := 0, cells := 0, slots := 0, locals := 0 } : Room) s m #[(.ref aw), (.ref as), (.int p2), (.int p3), (.ref ai)] below meth c T' L' 0 0 ∧ T'.heap = h' ∧ Fr n0 L' ∧ Keep h0 h' [ai] ∧ own_Ar Z h' ai .char 3 (fun j => .int ((own_fl C k f0 cnt).2 j)) ∧ own_Go p e below T0 (mkF m 17 #[rv aw, rv as, iv p2, iv p3, rv ai, .val (.long sk), .second, iv (own_fl C k f0 i).1.toInt32, iv i.toInt32, s9] []) T' (mkF m 68 #[rv aw, rv as, iv p2, iv p3, rv ai, .val (.long sk), .second, iv (own_fl C k f0 cnt).1.toInt32, iv i', s9'] []) := by
    intro t
    induction t with
    | zero =>
      intro i T0 hh L0 s9 hi X0 e0 N0 K0 V0 h9
      have hic : i = cnt := by omega
      have g11 : own_Go p e below T0 (mkF m 17 #[rv aw, rv as, iv p2, iv p3, rv ai, .val (.long sk), .second, iv (own_fl C k f0 i).1.toInt32, iv i.toInt32, s9] []) T0 (mkF m 68 #[rv aw, rv as, iv p2, iv p3, rv ai, .val (.long sk), .second, iv (own_fl C k f0 i).1.toInt32, iv i.toInt32, s9] []) := by
        intro target kt
        refine XS.iload X0.here hx rfl (hb hby d1_17) rfl ?_
        show Steps p.tables e below (T0.setTop (mkF m 19 #[rv aw, rv as, iv p2, iv p3, rv ai, .val (.long sk), .second, iv (own_fl C k f0 i).1.toInt32, iv i.toInt32, s9] [(.int i.toInt32)])) target
        refine XS.iloadN X0.here hx rfl (hb hby d1_19) rfl ?_
        show Steps p.tables e below (T0.setTop (mkF m 20 #[rv aw, rv as, iv p2, iv p3, rv ai, .val (.long sk), .second, iv (own_fl C k f0 i).1.toInt32, iv i.toInt32, s9] [(.int p2), (.int i.toInt32)])) target
        refine XS.icmpYes X0.here hx rfl (pc0 := 20) (pc' := 68) rfl (hb hby d1_20) rfl (XT.ii_ge_t (by rw [hp2, hic]; exact Int32.lt_irrefl)) (by decide) (by decide) ?_
        show Steps p.tables e below (T0.setTop (mkF m 68 #[rv aw, rv as, iv p2, iv p3, rv ai, .val (.long sk), .second, iv (own_fl C k f0 i).1.toInt32, iv i.toInt32, s9] [])) target
        exact kt
      subst hic
      exact ⟨T0, hh, L0, _, s9, X0, e0, N0, K0, V0, g11⟩
    | succ t ih =>
      intro i T0 hh L0 s9 hi X0 e0 N0 K0 V0 h9
      have g12 : own_Go p e below T0 (mkF m 17 #[rv aw, rv as, iv p2, iv p3, rv ai, .val (.long sk), .second, iv (own_fl C k f0 i).1.toInt32, iv i.toInt32, s9] []) T0 (mkF m 26 #[rv aw, rv as, iv p2, iv p3, rv ai, .val (.long sk), .second, iv (own_fl C k f0 i).1.toInt32, iv i.toInt32, s9] [(.int i.toInt32), (.ref as)]) := by
        intro target kt
        refine XS.iload X0.here hx rfl (hb hby d1_17) rfl ?_
        show Steps p.tables e below (T0.setTop (mkF m 19 #[rv aw, rv as, iv p2, iv p3, rv ai, .val (.long sk), .second, iv (own_fl C k f0 i).1.toInt32, iv i.toInt32, s9] [(.int i.toInt32)])) target
        refine XS.iloadN X0.here hx rfl (hb hby d1_19) rfl ?_
        show Steps p.tables e below (T0.setTop (mkF m 20 #[rv aw, rv as, iv p2, iv p3, rv ai, .val (.long sk), .second, iv (own_fl C k f0 i).1.toInt32, iv i.toInt32, s9] [(.int p2), (.int i.toInt32)])) target
        refine XS.icmpNo X0.here hx rfl (hb hby d1_20) rfl (XT.ii_ge_f (by rw [hp2]; exact own_lt (by omega) (by omega))) ?_
        show Steps p.tables e below (T0.setTop (mkF m 23 #[rv aw, rv as, iv p2, iv p3, rv ai, .val (.long sk), .second, iv (own_fl C k f0 i).1.toInt32, iv i.toInt32, s9] [])) target
        refine XS.aloadN X0.here hx rfl (hb hby d1_23) rfl rfl ?_
        show Steps p.tables e below (T0.setTop (mkF m 24 #[rv aw, rv as, iv p2, iv p3, rv ai, .val (.long sk), .second, iv (own_fl C k f0 i).1.toInt32, iv i.toInt32, s9] [(.ref as)])) target
        refine XS.iload X0.here hx rfl (hb hby d1_24) rfl ?_
        show Steps p.tables e below (T0.setTop (mkF m 26 #[rv aw, rv as, iv p2, iv p3, rv ai, .val (.long sk), .second, iv (own_fl C k f0 i).1.toInt32, iv i.toInt32, s9] [(.int i.toInt32), (.ref as)])) target
        exact kt
      obtain ⟨cl2, Ar2, S2, H2⟩ := V2.keep K0 (ninS n2 nin0)
      obtain ⟨cl3, Ar3, S3, H3⟩ := V0
      have hit : i.toInt32.toNatClampNeg = i := own_tn (by omega)
      have hin2 : ¬ (i.toInt32 < 0 ∨ cl2.slots.size ≤ i.toInt32.toNatClampNeg) := own_inb S2 hit (own_nn (by omega)) (by omega)
      have hat2 : cl2.slots[i.toInt32.toNatClampNeg]? = some (.int (C i)) := by rw [hit]; exact H2 i (by omega)
      have hple : (own_fl C k f0 i).1 ≤ i := own_flle C k f0 (fun j hj => by rw [hk j (by omega)]; split <;> omega)
      have hpt : (own_fl C k f0 i).1.toInt32.toNatClampNeg = (own_fl C k f0 i).1 := own_tn (by omega)
      have hin3 : ¬ ((own_fl C k f0 i).1.toInt32 < 0 ∨ cl3.slots.size ≤ (own_fl C k f0 i).1.toInt32.toNatClampNeg) := own_inb S3 hpt (own_nn (by omega)) (by omega)
      have g13 : own_Go p e below T0 (mkF m 17 #[rv aw, rv as, iv p2, iv p3, rv ai, .val (.long sk), .second, iv (own_fl C k f0 i).1.toInt32, iv i.toInt32, s9] []) T0 (mkF m 35 #[rv aw, rv as, iv p2, iv p3, rv ai, .val (.long sk), .second, iv (own_fl C k f0 i).1.toInt32, iv i.toInt32, iv (C i)] [(.int (C i)), (.int (own_fl C k f0 i).1.toInt32), (.ref ai)]) := by
        intro target kt
        refine g12 target ?_
        refine X0.caload hx (j := i.toInt32) (v := (.int (C i))) (by rw [e0]; exact Ar2.1) (State.isArrayOf_alike hZ.alike Ar2.2.1) Ar2.2.2 hin2 hat2 (g := (mkF m 26 #[rv aw, rv as, iv p2, iv p3, rv ai, .val (.long sk), .second, iv (own_fl C k f0 i).1.toInt32, iv i.toInt32, s9] [(.int i.toInt32), (.ref as)])) rfl rfl (hb hby d1_26) _ ?_
        show Steps p.tables e below (T0.setTop (mkF m 27 #[rv aw, rv as, iv p2, iv p3, rv ai, .val (.long sk), .second, iv (own_fl C k f0 i).1.toInt32, iv i.toInt32, s9] [(.int (C i))])) target
        refine XS.istoreS X0.here hx rfl (hb hby d1_27) rfl rfl h9 ?_
        show Steps p.tables e below (T0.setTop (mkF m 29 #[rv aw, rv as, iv p2, iv p3, rv ai, .val (.long sk), .second, iv (own_fl C k f0 i).1.toInt32, iv i.toInt32, iv (C i)] [])) target
        refine XS.aload X0.here hx rfl (hb hby d1_29) rfl rfl ?_
        show Steps p.tables e below (T0.setTop (mkF m 31 #[rv aw, rv as, iv p2, iv p3, rv ai, .val (.long sk), .second, iv (own_fl C k f0 i).1.toInt32, iv i.toInt32, iv (C i)] [(.ref ai)])) target
        refine XS.iload X0.here hx rfl (hb hby d1_31) rfl ?_
        show Steps p.tables e below (T0.setTop (mkF m 33 #[rv aw, rv as, iv p2, iv p3, rv ai, .val (.long sk), .second, iv (own_fl C k f0 i).1.toInt32, iv i.toInt32, iv (C i)] [(.int (own_fl C k f0 i).1.toInt32), (.ref ai)])) target
        refine XS.iload X0.here hx rfl (hb hby d1_33) rfl ?_
        show Steps p.tables e below (T0.setTop (mkF m 35 #[rv aw, rv as, iv p2, iv p3, rv ai, .val (.long sk), .second, iv (own_fl C k f0 i).1.toInt32, iv i.toInt32, iv (C i)] [(.int (C i)), (.int (own_fl C k f0 i).1.toInt32), (.ref ai)])) target
        exact kt
      obtain ⟨T14, h14, X14, e14, W14, st14⟩ := stC X0 hx hZ e0 Ar3 (j := (own_fl C k f0 i).1.toInt32) hin3 (g := (mkF m 35 #[rv aw, rv as, iv p2, iv p3, rv ai, .val (.long sk), .second, iv (own_fl C k f0 i).1.toInt32, iv i.toInt32, iv (C i)] [(.int (C i)), (.int (own_fl C k f0 i).1.toInt32), (.ref ai)])) rfl rfl (hb hby d1_35)
      have g15 : own_Go p e below T0 (mkF m 17 #[rv aw, rv as, iv p2, iv p3, rv ai, .val (.long sk), .second, iv (own_fl C k f0 i).1.toInt32, iv i.toInt32, s9] []) T14 (mkF m 36 #[rv aw, rv as, iv p2, iv p3, rv ai, .val (.long sk), .second, iv (own_fl C k f0 i).1.toInt32, iv i.toInt32, iv (C i)] []) := fun target kt => g13 target (st14 target kt)
      have N14 := Fr.snoc X14 N0 gi
      rw [hpt, own_narc (hC i)] at W14
      have K14 : Keep h0 h14 [ai] := K0.wr W14 (Or.inl (List.mem_of_getElem? (i := 0) rfl))
      have Vn := own_set Ar3 S3 H3 W14 (by omega)
      obtain ⟨cl1, Ar1, S1, H1⟩ := V1.keep K14 (ninS n1 nin0)
      have hsz1 : cl1.slots.size.toInt32 = (1024 : Int32) := by rw [S1]; rfl
      have hx1 : ((XT.ushr (C i) (6 : Int32)) &&& ((1024 : Int32) - (1 : Int32))).toNatClampNeg = own_ix (C i) := own_shr (hC i)
      have hin1 : ¬ (((XT.ushr (C i) (6 : Int32)) &&& ((1024 : Int32) - (1 : Int32))) < 0 ∨ cl1.slots.size ≤ ((XT.ushr (C i) (6 : Int32)) &&& ((1024 : Int32) - (1 : Int32))).toNatClampNeg) := own_inb S1 hx1 (own_shrn (hC i)) (own_ixlt (hC i))
      have hat1 : cl1.slots[((XT.ushr (C i) (6 : Int32)) &&& ((1024 : Int32) - (1 : Int32))).toNatClampNeg]? = some (.long (G (own_ix (C i)))) := by rw [hx1]; exact H1 _ (own_ixlt (hC i))
      have g16 : own_Go p e below T0 (mkF m 17 #[rv aw, rv as, iv p2, iv p3, rv ai, .val (.long sk), .second, iv (own_fl C k f0 i).1.toInt32, iv i.toInt32, s9] []) T14 (mkF m 60 #[rv aw, rv as, iv p2, iv p3, rv ai, .val (.long sk), .second, iv (own_fl C k f0 i).1.toInt32, iv i.toInt32, iv (C i)] [(.int ((own_fl C k f0 i).1.toInt32 + ((((XT.ushrL (G (own_ix (C i))) (C i)) &&& (1 : Int64)) ^^^ sk).toInt32)))]) := by
        intro target kt
        refine g15 target ?_
        refine XS.iload X14.here hx rfl (hb hby d1_36) rfl ?_
        show Steps p.tables e below (T14.setTop (mkF m 38 #[rv aw, rv as, iv p2, iv p3, rv ai, .val (.long sk), .second, iv (own_fl C k f0 i).1.toInt32, iv i.toInt32, iv (C i)] [(.int (own_fl C k f0 i).1.toInt32)])) target
        refine XS.aloadN X14.here hx rfl (hb hby d1_38) rfl rfl ?_
        show Steps p.tables e below (T14.setTop (mkF m 39 #[rv aw, rv as, iv p2, iv p3, rv ai, .val (.long sk), .second, iv (own_fl C k f0 i).1.toInt32, iv i.toInt32, iv (C i)] [(.ref aw), (.int (own_fl C k f0 i).1.toInt32)])) target
        refine XS.iload X14.here hx rfl (hb hby d1_39) rfl ?_
        show Steps p.tables e below (T14.setTop (mkF m 41 #[rv aw, rv as, iv p2, iv p3, rv ai, .val (.long sk), .second, iv (own_fl C k f0 i).1.toInt32, iv i.toInt32, iv (C i)] [(.int (C i)), (.ref aw), (.int (own_fl C k f0 i).1.toInt32)])) target
        refine XT.bipushV X14.here hx rfl (6 : Int32) (hb hby d1_41) rfl ?_
        show Steps p.tables e below (T14.setTop (mkF m 43 #[rv aw, rv as, iv p2, iv p3, rv ai, .val (.long sk), .second, iv (own_fl C k f0 i).1.toInt32, iv i.toInt32, iv (C i)] [(.int (6 : Int32)), (.int (C i)), (.ref aw), (.int (own_fl C k f0 i).1.toInt32)])) target
        refine XT.iushr X14.here hx rfl (hb hby d1_43) rfl ?_
        show Steps p.tables e below (T14.setTop (mkF m 44 #[rv aw, rv as, iv p2, iv p3, rv ai, .val (.long sk), .second, iv (own_fl C k f0 i).1.toInt32, iv i.toInt32, iv (C i)] [(.int (XT.ushr (C i) (6 : Int32))), (.ref aw), (.int (own_fl C k f0 i).1.toInt32)])) target
        refine XS.aloadN X14.here hx rfl (hb hby d1_44) rfl rfl ?_
        show Steps p.tables e below (T14.setTop (mkF m 45 #[rv aw, rv as, iv p2, iv p3, rv ai, .val (.long sk), .second, iv (own_fl C k f0 i).1.toInt32, iv i.toInt32, iv (C i)] [(.ref aw), (.int (XT.ushr (C i) (6 : Int32))), (.ref aw), (.int (own_fl C k f0 i).1.toInt32)])) target
        refine X14.arraylength hx (cell := cl1) (by rw [e14]; exact Ar1.1) (State.isArrayOf_alike hZ.alike Ar1.2.1) (g := (mkF m 45 #[rv aw, rv as, iv p2, iv p3, rv ai, .val (.long sk), .second, iv (own_fl C k f0 i).1.toInt32, iv i.toInt32, iv (C i)] [(.ref aw), (.int (XT.ushr (C i) (6 : Int32))), (.ref aw), (.int (own_fl C k f0 i).1.toInt32)])) rfl (rest := [(.int (XT.ushr (C i) (6 : Int32))), (.ref aw), (.int (own_fl C k f0 i).1.toInt32)]) rfl (hb hby d1_45) _ ?_
        rw [hsz1]
        show Steps p.tables e below (T14.setTop (mkF m 46 #[rv aw, rv as, iv p2, iv p3, rv ai, .val (.long sk), .second, iv (own_fl C k f0 i).1.toInt32, iv i.toInt32, iv (C i)] [(.int (1024 : Int32)), (.int (XT.ushr (C i) (6 : Int32))), (.ref aw), (.int (own_fl C k f0 i).1.toInt32)])) target
        refine XT.iconstV X14.here hx rfl (1 : Int32) (hb hby d1_46) rfl ?_
        show Steps p.tables e below (T14.setTop (mkF m 47 #[rv aw, rv as, iv p2, iv p3, rv ai, .val (.long sk), .second, iv (own_fl C k f0 i).1.toInt32, iv i.toInt32, iv (C i)] [(.int (1 : Int32)), (.int (1024 : Int32)), (.int (XT.ushr (C i) (6 : Int32))), (.ref aw), (.int (own_fl C k f0 i).1.toInt32)])) target
        refine XS.isub X14.here hx rfl (hb hby d1_47) rfl ?_
        show Steps p.tables e below (T14.setTop (mkF m 48 #[rv aw, rv as, iv p2, iv p3, rv ai, .val (.long sk), .second, iv (own_fl C k f0 i).1.toInt32, iv i.toInt32, iv (C i)] [(.int ((1024 : Int32) - (1 : Int32))), (.int (XT.ushr (C i) (6 : Int32))), (.ref aw), (.int (own_fl C k f0 i).1.toInt32)])) target
        refine XS.iand X14.here hx rfl (hb hby d1_48) rfl ?_
        show Steps p.tables e below (T14.setTop (mkF m 49 #[rv aw, rv as, iv p2, iv p3, rv ai, .val (.long sk), .second, iv (own_fl C k f0 i).1.toInt32, iv i.toInt32, iv (C i)] [(.int ((XT.ushr (C i) (6 : Int32)) &&& ((1024 : Int32) - (1 : Int32)))), (.ref aw), (.int (own_fl C k f0 i).1.toInt32)])) target
        refine X14.laload hx (j := ((XT.ushr (C i) (6 : Int32)) &&& ((1024 : Int32) - (1 : Int32)))) (v := (.long (G (own_ix (C i))))) (by rw [e14]; exact Ar1.1) (State.isArrayOf_alike hZ.alike Ar1.2.1) Ar1.2.2 hin1 hat1 (g := (mkF m 49 #[rv aw, rv as, iv p2, iv p3, rv ai, .val (.long sk), .second, iv (own_fl C k f0 i).1.toInt32, iv i.toInt32, iv (C i)] [(.int ((XT.ushr (C i) (6 : Int32)) &&& ((1024 : Int32) - (1 : Int32)))), (.ref aw), (.int (own_fl C k f0 i).1.toInt32)])) rfl rfl (hb hby d1_49) _ ?_
        show Steps p.tables e below (T14.setTop (mkF m 50 #[rv aw, rv as, iv p2, iv p3, rv ai, .val (.long sk), .second, iv (own_fl C k f0 i).1.toInt32, iv i.toInt32, iv (C i)] [(.long (G (own_ix (C i)))), (.int (own_fl C k f0 i).1.toInt32)])) target
        refine XS.iload X14.here hx rfl (hb hby d1_50) rfl ?_
        show Steps p.tables e below (T14.setTop (mkF m 52 #[rv aw, rv as, iv p2, iv p3, rv ai, .val (.long sk), .second, iv (own_fl C k f0 i).1.toInt32, iv i.toInt32, iv (C i)] [(.int (C i)), (.long (G (own_ix (C i)))), (.int (own_fl C k f0 i).1.toInt32)])) target
        refine XT.lushr X14.here hx rfl (hb hby d1_52) rfl ?_
        show Steps p.tables e below (T14.setTop (mkF m 53 #[rv aw, rv as, iv p2, iv p3, rv ai, .val (.long sk), .second, iv (own_fl C k f0 i).1.toInt32, iv i.toInt32, iv (C i)] [(.long (XT.ushrL (G (own_ix (C i))) (C i))), (.int (own_fl C k f0 i).1.toInt32)])) target
        refine XT.lconstV X14.here hx rfl (1 : Int64) (hb hby d1_53) rfl ?_
        show Steps p.tables e below (T14.setTop (mkF m 54 #[rv aw, rv as, iv p2, iv p3, rv ai, .val (.long sk), .second, iv (own_fl C k f0 i).1.toInt32, iv i.toInt32, iv (C i)] [(.long (1 : Int64)), (.long (XT.ushrL (G (own_ix (C i))) (C i))), (.int (own_fl C k f0 i).1.toInt32)])) target
        refine XT.land X14.here hx rfl (hb hby d1_54) rfl ?_
        show Steps p.tables e below (T14.setTop (mkF m 55 #[rv aw, rv as, iv p2, iv p3, rv ai, .val (.long sk), .second, iv (own_fl C k f0 i).1.toInt32, iv i.toInt32, iv (C i)] [(.long ((XT.ushrL (G (own_ix (C i))) (C i)) &&& (1 : Int64))), (.int (own_fl C k f0 i).1.toInt32)])) target
        refine XT.lload X14.here hx rfl (hb hby d1_55) rfl ?_
        show Steps p.tables e below (T14.setTop (mkF m 57 #[rv aw, rv as, iv p2, iv p3, rv ai, .val (.long sk), .second, iv (own_fl C k f0 i).1.toInt32, iv i.toInt32, iv (C i)] [(.long sk), (.long ((XT.ushrL (G (own_ix (C i))) (C i)) &&& (1 : Int64))), (.int (own_fl C k f0 i).1.toInt32)])) target
        refine XT.lxor X14.here hx rfl (hb hby d1_57) rfl ?_
        show Steps p.tables e below (T14.setTop (mkF m 58 #[rv aw, rv as, iv p2, iv p3, rv ai, .val (.long sk), .second, iv (own_fl C k f0 i).1.toInt32, iv i.toInt32, iv (C i)] [(.long (((XT.ushrL (G (own_ix (C i))) (C i)) &&& (1 : Int64)) ^^^ sk)), (.int (own_fl C k f0 i).1.toInt32)])) target
        refine XT.l2i X14.here hx rfl (hb hby d1_58) rfl ?_
        show Steps p.tables e below (T14.setTop (mkF m 59 #[rv aw, rv as, iv p2, iv p3, rv ai, .val (.long sk), .second, iv (own_fl C k f0 i).1.toInt32, iv i.toInt32, iv (C i)] [(.int ((((XT.ushrL (G (own_ix (C i))) (C i)) &&& (1 : Int64)) ^^^ sk).toInt32)), (.int (own_fl C k f0 i).1.toInt32)])) target
        refine XS.iadd X14.here hx rfl (hb hby d1_59) rfl ?_
        show Steps p.tables e below (T14.setTop (mkF m 60 #[rv aw, rv as, iv p2, iv p3, rv ai, .val (.long sk), .second, iv (own_fl C k f0 i).1.toInt32, iv i.toInt32, iv (C i)] [(.int ((own_fl C k f0 i).1.toInt32 + ((((XT.ushrL (G (own_ix (C i))) (C i)) &&& (1 : Int64)) ^^^ sk).toInt32)))])) target
        exact kt
      have hpos : ((own_fl C k f0 i).1.toInt32 + ((((XT.ushrL (G (own_ix (C i))) (C i)) &&& (1 : Int64)) ^^^ sk).toInt32)) = (own_fl C k f0 (i + 1)).1.toInt32 := by
        rw [hsk, own_bits G (C i) (hC i) p3 hp3, ← hk i (by omega)]
        exact own_padd _ _
      rw [hpos] at g16
      have g17 : own_Go p e below T0 (mkF m 17 #[rv aw, rv as, iv p2, iv p3, rv ai, .val (.long sk), .second, iv (own_fl C k f0 i).1.toInt32, iv i.toInt32, s9] []) T14 (mkF m 17 #[rv aw, rv as, iv p2, iv p3, rv ai, .val (.long sk), .second, iv (own_fl C k f0 (i + 1)).1.toInt32, iv (i.toInt32 + (1 : Int32)), iv (C i)] []) := by
        intro target kt
        refine g16 target ?_
        refine XS.istore X14.here hx rfl (hb hby d1_60) rfl (l' := #[rv aw, rv as, iv p2, iv p3, rv ai, .val (.long sk), .second, iv (own_fl C k f0 (i + 1)).1.toInt32, iv i.toInt32, iv (C i)]) rfl ?_
        show Steps p.tables e below (T14.setTop (mkF m 62 #[rv aw, rv as, iv p2, iv p3, rv ai, .val (.long sk), .second, iv (own_fl C k f0 (i + 1)).1.toInt32, iv i.toInt32, iv (C i)] [])) target
        refine XT.iincV X14.here hx rfl (1 : Int32) (hb hby d1_62) rfl rfl (l' := #[rv aw, rv as, iv p2, iv p3, rv ai, .val (.long sk), .second, iv (own_fl C k f0 (i + 1)).1.toInt32, iv (i.toInt32 + (1 : Int32)), iv (C i)]) rfl ?_
        show Steps p.tables e below (T14.setTop (mkF m 65 #[rv aw, rv as, iv p2, iv p3, rv ai, .val (.long sk), .second, iv (own_fl C k f0 (i + 1)).1.toInt32, iv (i.toInt32 + (1 : Int32)), iv (C i)] [])) target
        refine XS.goto X14.here hx rfl (pc0 := 65) (pc' := 17) rfl (hb hby d1_65) (by decide) (by decide) ?_
        show Steps p.tables e below (T14.setTop (mkF m 17 #[rv aw, rv as, iv p2, iv p3, rv ai, .val (.long sk), .second, iv (own_fl C k f0 (i + 1)).1.toInt32, iv (i.toInt32 + (1 : Int32)), iv (C i)] [])) target
        exact kt
      rw [own_one] at g17
      obtain ⟨T', h', L', i', s9', X', e', N', K', V', gl⟩ := ih (i + 1) T14 h14 _ (.val (.int (C i))) (by omega) X14 e14 N14 K14 (own_congr Vn (fun j _ => own_flset C k f0 i j)) (Or.inr ⟨(.int (C i)), rfl, rfl⟩)
      exact ⟨T', h', L', i', s9', X', e', N', K', V', own_Go.trans g17 gl⟩
  have g18 : own_Go p e below s₁ (entryFrame m #[(.ref aw), (.ref as), (.int p2), (.int p3), (.ref ai)] 10) s₁ (mkF m 17 #[rv aw, rv as, iv p2, iv p3, rv ai, .val (.long sk), .second, iv (0 : Int32), iv (0 : Int32), .unset] []) := by
    intro target kt
    refine g10 target ?_
    refine XT.lstore X0.here hx rfl (hb hby d1_9) rfl (l' := #[rv aw, rv as, iv p2, iv p3, rv ai, .val (.long sk), .second, .unset, .unset, .unset]) rfl ?_
    show Steps p.tables e below (s₁.setTop (mkF m 11 #[rv aw, rv as, iv p2, iv p3, rv ai, .val (.long sk), .second, .unset, .unset, .unset] [])) target
    refine XT.iconstV X0.here hx rfl (0 : Int32) (hb hby d1_11) rfl ?_
    show Steps p.tables e below (s₁.setTop (mkF m 12 #[rv aw, rv as, iv p2, iv p3, rv ai, .val (.long sk), .second, .unset, .unset, .unset] [(.int (0 : Int32))])) target
    refine XS.istore X0.here hx rfl (hb hby d1_12) rfl (l' := #[rv aw, rv as, iv p2, iv p3, rv ai, .val (.long sk), .second, iv (0 : Int32), .unset, .unset]) rfl ?_
    show Steps p.tables e below (s₁.setTop (mkF m 14 #[rv aw, rv as, iv p2, iv p3, rv ai, .val (.long sk), .second, iv (0 : Int32), .unset, .unset] [])) target
    refine XT.iconstV X0.here hx rfl (0 : Int32) (hb hby d1_14) rfl ?_
    show Steps p.tables e below (s₁.setTop (mkF m 15 #[rv aw, rv as, iv p2, iv p3, rv ai, .val (.long sk), .second, iv (0 : Int32), .unset, .unset] [(.int (0 : Int32))])) target
    refine XS.istore X0.here hx rfl (hb hby d1_15) rfl (l' := #[rv aw, rv as, iv p2, iv p3, rv ai, .val (.long sk), .second, iv (0 : Int32), iv (0 : Int32), .unset]) rfl ?_
    show Steps p.tables e below (s₁.setTop (mkF m 17 #[rv aw, rv as, iv p2, iv p3, rv ai, .val (.long sk), .second, iv (0 : Int32), iv (0 : Int32), .unset] [])) target
    exact kt
  obtain ⟨T', h', L', i', s9', X', e', N', K', V', gl⟩ := loop cnt 0 s₁ h0 [] .unset (by omega) X0 e0 N0 (Keep.refl _ _) V3 (Or.inl rfl)
  have gL := own_Go.trans g18 gl
  have g19 : own_Go p e below s₁ (entryFrame m #[(.ref aw), (.ref as), (.int p2), (.int p3), (.ref ai)] 10) T' (mkF m 70 #[rv aw, rv as, iv p2, iv p3, rv ai, .val (.long sk), .second, iv (own_fl C k f0 cnt).1.toInt32, iv i', s9'] [(.int (own_fl C k f0 cnt).1.toInt32)]) := by
    intro target kt
    refine gL target ?_
    refine XS.iload X'.here hx rfl (hb hby d1_68) rfl ?_
    show Steps p.tables e below (T'.setTop (mkF m 70 #[rv aw, rv as, iv p2, iv p3, rv ai, .val (.long sk), .second, iv (own_fl C k f0 cnt).1.toInt32, iv i', s9'] [(.int (own_fl C k f0 cnt).1.toInt32)])) target
    exact kt
  obtain ⟨fs, hr, hrun, hended, hW, hsame⟩ := X'.leave (v := some (.int (own_fl C k f0 cnt).1.toInt32)) (fun h => by rw [Bd.returns] at h; cases h)
  refine ⟨_, _, g19 _ ?_, hrun, hended, _, _, rfl, ?_, ⟨_, rfl⟩, hW, hsame.mono (by decide) (by decide)⟩
  · exact retI X' hx Bd.returns (hb hby d1_70) hr
  · show Q_rmF Z aw as p2 p3 ai G C f0 cnt k h0 n0 _ T'.heap _
    rw [e']
    exact ⟨rfl, N', K', V'⟩
theorem pn_rm0 : plainName "com/example/bitloom/bitloom/BitmapContainerFilterPinLaw" = true := by first | (simp [plainName, overriddenIn]; done) | decide +kernel
theorem ef_rm0 (m : MethodId) (p0 : Int32) (p1 : Int32) (q0 : Int64) (q1 : Int64) (q2 : Int64) : entryFrame m #[(.int p0), (.int p1), (.long q0), (.long q1), (.long q2)] maxLocals = mkF m 0 #[iv p0, iv p1, .val (.long q0), .second, .val (.long q1), .second, .val (.long q2), .second, .unset, .unset, .unset, .unset, .unset, .unset, .unset, .unset, .unset, .unset, .unset, .unset, .unset, .unset] [] := by first | (simp [entryFrame, mkF, argsToLocals, Value.category, maxLocals]; done) | rfl
def Q_rm0 (Z : State) (p0 : Int32) (p1 : Int32) (q0 : Int64) (q1 : Int64) (q2 : Int64)  (h0 : Heap) (n0 : Nat) (v : Option Value) (h : Heap) (L : List Loc) : Prop := v = some (.int (1 : Int32)) ∧ Fr n0 L
set_option maxRecDepth 65536 in
set_option maxHeartbeats 40000000 in
theorem rm0 (l : Launch) (Z : State) (a0 : Array Value) (hw : ∀ d ∈ tables_1, d.before a0 Z = true) (ws : List Jvm.Cond) (p0 : Int32) (p1 : Int32) (q0 : Int64) (q1 : Int64) (q2 : Int64)  (h0 : Heap) (n0 : Nat) (Z0 : n0 ≤ h0.size)  :
    MetFree l x (head1 (Jvm.Cond.code x code maxLocals ret :: ws) room_1) (fun a U => a = #[(.int p0), (.int p1), (.long q0), (.long q1), (.long q2)] ∧ Z.Warmed39 U.vm ∧ U.heap = h0) (fun _ _ _ _ _ => True) (fun _ U o U' => ∃ v L, o = .returned v ∧ Q_rm0 Z p0 p1 q0 q1 q2  h0 n0 v U'.heap L ∧ FrameEnd U o U' L room_1.cells room_1.slots) := by
  refine MetFree.of_bodySF (plainFor_of_name pn_rm0) hisR ?_
  intro p e s m args below meth c s₁ Bd hml0 hP hK
  obtain ⟨rfl, hZ, hh⟩ := hP
  have hx := Bd.exec
  have hby := Bd.bytes
  have hml : c.maxLocals = 22 := hml0
  have hown : s.vm.findClass "com/example/bitloom/bitloom/BitmapContainerFilterPinLaw" = some m.cls := findClass_of_methodNamed Bd.named
  have hnm := (name_of_methodNamed Bd.named Bd.method).1
  have X0 : Stand p l e room_1 s m #[(.int p0), (.int p1), (.long q0), (.long q1), (.long q2)] below meth c s₁ [] 0 0 := Stand.of_body Bd
  have e0 : s₁.heap = h0 := by rw [← hh, Bd.state]; rfl
  have N0 := Fr.nil n0
  have g0 : own_Go p e below s₁ (entryFrame m #[(.int p0), (.int p1), (.long q0), (.long q1), (.long q2)] maxLocals) s₁ (mkF m 0 #[iv p0, iv p1, .val (.long q0), .second, .val (.long q1), .second, .val (.long q2), .second, .unset, .unset, .unset, .unset, .unset, .unset, .unset, .unset, .unset, .unset, .unset, .unset, .unset, .unset] []) := fun t k => castTop (ef_rm0 m p0 p1 q0 q1 q2) k
  have g20 : own_Go p e below s₁ (entryFrame m #[(.int p0), (.int p1), (.long q0), (.long q1), (.long q2)] maxLocals) s₁ (mkF m 6 #[iv p0, iv p1, .val (.long q0), .second, .val (.long q1), .second, .val (.long q2), .second, iv (p0 &&& (65535 : Int32)), .unset, .unset, .unset, .unset, .unset, .unset, .unset, .unset, .unset, .unset, .unset, .unset, .unset] []) := by
    intro target kt
    refine g0 target ?_
    refine XS.iloadN X0.here hx rfl (hb hby at_0) rfl ?_
    show Steps p.tables e below (s₁.setTop (mkF m 1 #[iv p0, iv p1, .val (.long q0), .second, .val (.long q1), .second, .val (.long q2), .second, .unset, .unset, .unset, .unset, .unset, .unset, .unset, .unset, .unset, .unset, .unset, .unset, .unset, .unset] [(.int p0)])) target
    refine X0.ldcI hx hown (mvT hZ (hw _ (List.mem_of_getElem? (i := 0) rfl))) rfl (hb hby at_1) ?_
    show Steps p.tables e below (s₁.setTop (mkF m 3 #[iv p0, iv p1, .val (.long q0), .second, .val (.long q1), .second, .val (.long q2), .second, .unset, .unset, .unset, .unset, .unset, .unset, .unset, .unset, .unset, .unset, .unset, .unset, .unset, .unset] [(.int (65535 : Int32)), (.int p0)])) target
    refine XS.iand X0.here hx rfl (hb hby at_3) rfl ?_
    show Steps p.tables e below (s₁.setTop (mkF m 4 #[iv p0, iv p1, .val (.long q0), .second, .val (.long q1), .second, .val (.long q2), .second, .unset, .unset, .unset, .unset, .unset, .unset, .unset, .unset, .unset, .unset, .unset, .unset, .unset, .unset] [(.int (p0 &&& (65535 : Int32)))])) target
    refine XS.istore X0.here hx rfl (hb hby at_4) rfl (l' := #[iv p0, iv p1, .val (.long q0), .second, .val (.long q1), .second, .val (.long q2), .second, iv (p0 &&& (65535 : Int32)), .unset, .unset, .unset, .unset, .unset, .unset, .unset, .unset, .unset, .unset, .unset, .unset, .unset]) rfl ?_
    show Steps p.tables e below (s₁.setTop (mkF m 6 #[iv p0, iv p1, .val (.long q0), .second, .val (.long q1), .second, .val (.long q2), .second, iv (p0 &&& (65535 : Int32)), .unset, .unset, .unset, .unset, .unset, .unset, .unset, .unset, .unset, .unset, .unset, .unset, .unset] [])) target
    exact kt
  obtain ⟨u0, e_u0⟩ : ∃ z : Int32, z = (p0 &&& (65535 : Int32)) := ⟨_, rfl⟩
  rw [← e_u0] at g20
  have g21 : own_Go p e below s₁ (entryFrame m #[(.int p0), (.int p1), (.long q0), (.long q1), (.long q2)] maxLocals) s₁ (mkF m 12 #[iv p0, iv p1, .val (.long q0), .second, .val (.long q1), .second, .val (.long q2), .second, iv u0, iv (XT.ushr p0 (16 : Int32)), .unset, .unset, .unset, .unset, .unset, .unset, .unset, .unset, .unset, .unset, .unset, .unset] []) := by
    intro target kt
    refine g20 target ?_
    refine XS.iloadN X0.here hx rfl (hb hby at_6) rfl ?_
    show Steps p.tables e below (s₁.setTop (mkF m 7 #[iv p0, iv p1, .val (.long q0), .second, .val (.long q1), .second, .val (.long q2), .second, iv u0, .unset, .unset, .unset, .unset, .unset, .unset, .unset, .unset, .unset, .unset, .unset, .unset, .unset] [(.int p0)])) target
    refine XT.bipushV X0.here hx rfl (16 : Int32) (hb hby at_7) rfl ?_
    show Steps p.tables e below (s₁.setTop (mkF m 9 #[iv p0, iv p1, .val (.long q0), .second, .val (.long q1), .second, .val (.long q2), .second, iv u0, .unset, .unset, .unset, .unset, .unset, .unset, .unset, .unset, .unset, .unset, .unset, .unset, .unset] [(.int (16 : Int32)), (.int p0)])) target
    refine XT.iushr X0.here hx rfl (hb hby at_9) rfl ?_
    show Steps p.tables e below (s₁.setTop (mkF m 10 #[iv p0, iv p1, .val (.long q0), .second, .val (.long q1), .second, .val (.long q2), .second, iv u0, .unset, .unset, .unset, .unset, .unset, .unset, .unset, .unset, .unset, .unset, .unset, .unset, .unset] [(.int (XT.ushr p0 (16 : Int32)))])) target
    refine XS.istore X0.here hx rfl (hb hby at_10) rfl (l' := #[iv p0, iv p1, .val (.long q0), .second, .val (.long q1), .second, .val (.long q2), .second, iv u0, iv (XT.ushr p0 (16 : Int32)), .unset, .unset, .unset, .unset, .unset, .unset, .unset, .unset, .unset, .unset, .unset, .unset]) rfl ?_
    show Steps p.tables e below (s₁.setTop (mkF m 12 #[iv p0, iv p1, .val (.long q0), .second, .val (.long q1), .second, .val (.long q2), .second, iv u0, iv (XT.ushr p0 (16 : Int32)), .unset, .unset, .unset, .unset, .unset, .unset, .unset, .unset, .unset, .unset, .unset, .unset] [])) target
    exact kt
  obtain ⟨u1, e_u1⟩ : ∃ z : Int32, z = (XT.ushr p0 (16 : Int32)) := ⟨_, rfl⟩
  rw [← e_u1] at g21
  have g22 : own_Go p e below s₁ (entryFrame m #[(.int p0), (.int p1), (.long q0), (.long q1), (.long q2)] maxLocals) s₁ (mkF m 18 #[iv p0, iv p1, .val (.long q0), .second, .val (.long q1), .second, .val (.long q2), .second, iv u0, iv u1, iv (p1 &&& (65535 : Int32)), .unset, .unset, .unset, .unset, .unset, .unset, .unset, .unset, .unset, .unset, .unset] []) := by
    intro target kt
    refine g21 target ?_
    refine XS.iloadN X0.here hx rfl (hb hby at_12) rfl ?_
    show Steps p.tables e below (s₁.setTop (mkF m 13 #[iv p0, iv p1, .val (.long q0), .second, .val (.long q1), .second, .val (.long q2), .second, iv u0, iv u1, .unset, .unset, .unset, .unset, .unset, .unset, .unset, .unset, .unset, .unset, .unset, .unset] [(.int p1)])) target
    refine X0.ldcI hx hown (mvT hZ (hw _ (List.mem_of_getElem? (i := 0) rfl))) rfl (hb hby at_13) ?_
    show Steps p.tables e below (s₁.setTop (mkF m 15 #[iv p0, iv p1, .val (.long q0), .second, .val (.long q1), .second, .val (.long q2), .second, iv u0, iv u1, .unset, .unset, .unset, .unset, .unset, .unset, .unset, .unset, .unset, .unset, .unset, .unset] [(.int (65535 : Int32)), (.int p1)])) target
    refine XS.iand X0.here hx rfl (hb hby at_15) rfl ?_
    show Steps p.tables e below (s₁.setTop (mkF m 16 #[iv p0, iv p1, .val (.long q0), .second, .val (.long q1), .second, .val (.long q2), .second, iv u0, iv u1, .unset, .unset, .unset, .unset, .unset, .unset, .unset, .unset, .unset, .unset, .unset, .unset] [(.int (p1 &&& (65535 : Int32)))])) target
    refine XS.istore X0.here hx rfl (hb hby at_16) rfl (l' := #[iv p0, iv p1, .val (.long q0), .second, .val (.long q1), .second, .val (.long q2), .second, iv u0, iv u1, iv (p1 &&& (65535 : Int32)), .unset, .unset, .unset, .unset, .unset, .unset, .unset, .unset, .unset, .unset, .unset]) rfl ?_
    show Steps p.tables e below (s₁.setTop (mkF m 18 #[iv p0, iv p1, .val (.long q0), .second, .val (.long q1), .second, .val (.long q2), .second, iv u0, iv u1, iv (p1 &&& (65535 : Int32)), .unset, .unset, .unset, .unset, .unset, .unset, .unset, .unset, .unset, .unset, .unset] [])) target
    exact kt
  obtain ⟨u2, e_u2⟩ : ∃ z : Int32, z = (p1 &&& (65535 : Int32)) := ⟨_, rfl⟩
  rw [← e_u2] at g22
  have g23 : own_Go p e below s₁ (entryFrame m #[(.int p0), (.int p1), (.long q0), (.long q1), (.long q2)] maxLocals) s₁ (mkF m 26 #[iv p0, iv p1, .val (.long q0), .second, .val (.long q1), .second, .val (.long q2), .second, iv u0, iv u1, iv u2, iv ((XT.ushr p1 (16 : Int32)) &&& (3 : Int32)), .unset, .unset, .unset, .unset, .unset, .unset, .unset, .unset, .unset, .unset] []) := by
    intro target kt
    refine g22 target ?_
    refine XS.iloadN X0.here hx rfl (hb hby at_18) rfl ?_
    show Steps p.tables e below (s₁.setTop (mkF m 19 #[iv p0, iv p1, .val (.long q0), .second, .val (.long q1), .second, .val (.long q2), .second, iv u0, iv u1, iv u2, .unset, .unset, .unset, .unset, .unset, .unset, .unset, .unset, .unset, .unset, .unset] [(.int p1)])) target
    refine XT.bipushV X0.here hx rfl (16 : Int32) (hb hby at_19) rfl ?_
    show Steps p.tables e below (s₁.setTop (mkF m 21 #[iv p0, iv p1, .val (.long q0), .second, .val (.long q1), .second, .val (.long q2), .second, iv u0, iv u1, iv u2, .unset, .unset, .unset, .unset, .unset, .unset, .unset, .unset, .unset, .unset, .unset] [(.int (16 : Int32)), (.int p1)])) target
    refine XT.iushr X0.here hx rfl (hb hby at_21) rfl ?_
    show Steps p.tables e below (s₁.setTop (mkF m 22 #[iv p0, iv p1, .val (.long q0), .second, .val (.long q1), .second, .val (.long q2), .second, iv u0, iv u1, iv u2, .unset, .unset, .unset, .unset, .unset, .unset, .unset, .unset, .unset, .unset, .unset] [(.int (XT.ushr p1 (16 : Int32)))])) target
    refine XT.iconstV X0.here hx rfl (3 : Int32) (hb hby at_22) rfl ?_
    show Steps p.tables e below (s₁.setTop (mkF m 23 #[iv p0, iv p1, .val (.long q0), .second, .val (.long q1), .second, .val (.long q2), .second, iv u0, iv u1, iv u2, .unset, .unset, .unset, .unset, .unset, .unset, .unset, .unset, .unset, .unset, .unset] [(.int (3 : Int32)), (.int (XT.ushr p1 (16 : Int32)))])) target
    refine XS.iand X0.here hx rfl (hb hby at_23) rfl ?_
    show Steps p.tables e below (s₁.setTop (mkF m 24 #[iv p0, iv p1, .val (.long q0), .second, .val (.long q1), .second, .val (.long q2), .second, iv u0, iv u1, iv u2, .unset, .unset, .unset, .unset, .unset, .unset, .unset, .unset, .unset, .unset, .unset] [(.int ((XT.ushr p1 (16 : Int32)) &&& (3 : Int32)))])) target
    refine XS.istore X0.here hx rfl (hb hby at_24) rfl (l' := #[iv p0, iv p1, .val (.long q0), .second, .val (.long q1), .second, .val (.long q2), .second, iv u0, iv u1, iv u2, iv ((XT.ushr p1 (16 : Int32)) &&& (3 : Int32)), .unset, .unset, .unset, .unset, .unset, .unset, .unset, .unset, .unset, .unset]) rfl ?_
    show Steps p.tables e below (s₁.setTop (mkF m 26 #[iv p0, iv p1, .val (.long q0), .second, .val (.long q1), .second, .val (.long q2), .second, iv u0, iv u1, iv u2, iv ((XT.ushr p1 (16 : Int32)) &&& (3 : Int32)), .unset, .unset, .unset, .unset, .unset, .unset, .unset, .unset, .unset, .unset] [])) target
    exact kt
  obtain ⟨ct, e_ct⟩ : ∃ z : Int32, z = ((XT.ushr p1 (16 : Int32)) &&& (3 : Int32)) := ⟨_, rfl⟩
  rw [← e_ct] at g23
  have c0 : own_C u0 := by rw [e_u0]; exact own_Cand p0
  have c1 : own_C u1 := by rw [e_u1]; exact own_Cshr p0
  have c2 : own_C u2 := by rw [e_u2]; exact own_Cand p1
  obtain ⟨cnt, hcnt, hct⟩ : ∃ cnt : Nat, cnt ≤ 3 ∧ ct = cnt.toInt32 := by rw [e_ct]; exact own_cnt _
  obtain ⟨cn, hm28, g28⟩ : ∃ (cn : Int32), (cn = (if ((XT.ushr p1 (18 : Int32)) &&& (1 : Int32)) = 0 then (0 : Int32) else (1 : Int32))) ∧ own_Go p e below s₁ (entryFrame m #[(.int p0), (.int p1), (.long q0), (.long q1), (.long q2)] maxLocals) s₁ (mkF m 40 #[iv p0, iv p1, .val (.long q0), .second, .val (.long q1), .second, .val (.long q2), .second, iv u0, iv u1, iv u2, iv ct, .unset, .unset, .unset, .unset, .unset, .unset, .unset, .unset, .unset, .unset] [(.int cn)]) := by
    have g24 : own_Go p e below s₁ (entryFrame m #[(.int p0), (.int p1), (.long q0), (.long q1), (.long q2)] maxLocals) s₁ (mkF m 32 #[iv p0, iv p1, .val (.long q0), .second, .val (.long q1), .second, .val (.long q2), .second, iv u0, iv u1, iv u2, iv ct, .unset, .unset, .unset, .unset, .unset, .unset, .unset, .unset, .unset, .unset] [(.int ((XT.ushr p1 (18 : Int32)) &&& (1 : Int32)))]) := by
      intro target kt
      refine g23 target ?_
      refine XS.iloadN X0.here hx rfl (hb hby at_26) rfl ?_
      show Steps p.tables e below (s₁.setTop (mkF m 27 #[iv p0, iv p1, .val (.long q0), .second, .val (.long q1), .second, .val (.long q2), .second, iv u0, iv u1, iv u2, iv ct, .unset, .unset, .unset, .unset, .unset, .unset, .unset, .unset, .unset, .unset] [(.int p1)])) target
      refine XT.bipushV X0.here hx rfl (18 : Int32) (hb hby at_27) rfl ?_
      show Steps p.tables e below (s₁.setTop (mkF m 29 #[iv p0, iv p1, .val (.long q0), .second, .val (.long q1), .second, .val (.long q2), .second, iv u0, iv u1, iv u2, iv ct, .unset, .unset, .unset, .unset, .unset, .unset, .unset, .unset, .unset, .unset] [(.int (18 : Int32)), (.int p1)])) target
      refine XT.iushr X0.here hx rfl (hb hby at_29) rfl ?_
      show Steps p.tables e below (s₁.setTop (mkF m 30 #[iv p0, iv p1, .val (.long q0), .second, .val (.long q1), .second, .val (.long q2), .second, iv u0, iv u1, iv u2, iv ct, .unset, .unset, .unset, .unset, .unset, .unset, .unset, .unset, .unset, .unset] [(.int (XT.ushr p1 (18 : Int32)))])) target
      refine XT.iconstV X0.here hx rfl (1 : Int32) (hb hby at_30) rfl ?_
      show Steps p.tables e below (s₁.setTop (mkF m 31 #[iv p0, iv p1, .val (.long q0), .second, .val (.long q1), .second, .val (.long q2), .second, iv u0, iv u1, iv u2, iv ct, .unset, .unset, .unset, .unset, .unset, .unset, .unset, .unset, .unset, .unset] [(.int (1 : Int32)), (.int (XT.ushr p1 (18 : Int32)))])) target
      refine XS.iand X0.here hx rfl (hb hby at_31) rfl ?_
      show Steps p.tables e below (s₁.setTop (mkF m 32 #[iv p0, iv p1, .val (.long q0), .second, .val (.long q1), .second, .val (.long q2), .second, iv u0, iv u1, iv u2, iv ct, .unset, .unset, .unset, .unset, .unset, .unset, .unset, .unset, .unset, .unset] [(.int ((XT.ushr p1 (18 : Int32)) &&& (1 : Int32)))])) target
      exact kt
    by_cases hc25 : ((XT.ushr p1 (18 : Int32)) &&& (1 : Int32)) = 0
    · have g26 : own_Go p e below s₁ (entryFrame m #[(.int p0), (.int p1), (.long q0), (.long q1), (.long q2)] maxLocals) s₁ (mkF m 40 #[iv p0, iv p1, .val (.long q0), .second, .val (.long q1), .second, .val (.long q2), .second, iv u0, iv u1, iv u2, iv ct, .unset, .unset, .unset, .unset, .unset, .unset, .unset, .unset, .unset, .unset] [(.int (0 : Int32))]) := by
        intro target kt
        refine g24 target ?_
        refine XS.ifYes X0.here hx rfl (pc0 := 32) (pc' := 39) rfl (hb hby at_32) rfl (XT.i0_eq_t hc25) (by decide) (by decide) ?_
        show Steps p.tables e below (s₁.setTop (mkF m 39 #[iv p0, iv p1, .val (.long q0), .second, .val (.long q1), .second, .val (.long q2), .second, iv u0, iv u1, iv u2, iv ct, .unset, .unset, .unset, .unset, .unset, .unset, .unset, .unset, .unset, .unset] [])) target
        refine XT.iconstV X0.here hx rfl (0 : Int32) (hb hby at_39) rfl ?_
        show Steps p.tables e below (s₁.setTop (mkF m 40 #[iv p0, iv p1, .val (.long q0), .second, .val (.long q1), .second, .val (.long q2), .second, iv u0, iv u1, iv u2, iv ct, .unset, .unset, .unset, .unset, .unset, .unset, .unset, .unset, .unset, .unset] [(.int (0 : Int32))])) target
        exact kt
      exact ⟨(0 : Int32), (by simp only [if_pos hc25]), g26⟩
    · have g27 : own_Go p e below s₁ (entryFrame m #[(.int p0), (.int p1), (.long q0), (.long q1), (.long q2)] maxLocals) s₁ (mkF m 40 #[iv p0, iv p1, .val (.long q0), .second, .val (.long q1), .second, .val (.long q2), .second, iv u0, iv u1, iv u2, iv ct, .unset, .unset, .unset, .unset, .unset, .unset, .unset, .unset, .unset, .unset] [(.int (1 : Int32))]) := by
        intro target kt
        refine g24 target ?_
        refine XS.ifNo X0.here hx rfl (hb hby at_32) rfl (XT.i0_eq_f hc25) ?_
        show Steps p.tables e below (s₁.setTop (mkF m 35 #[iv p0, iv p1, .val (.long q0), .second, .val (.long q1), .second, .val (.long q2), .second, iv u0, iv u1, iv u2, iv ct, .unset, .unset, .unset, .unset, .unset, .unset, .unset, .unset, .unset, .unset] [])) target
        refine XT.iconstV X0.here hx rfl (1 : Int32) (hb hby at_35) rfl ?_
        show Steps p.tables e below (s₁.setTop (mkF m 36 #[iv p0, iv p1, .val (.long q0), .second, .val (.long q1), .second, .val (.long q2), .second, iv u0, iv u1, iv u2, iv ct, .unset, .unset, .unset, .unset, .unset, .unset, .unset, .unset, .unset, .unset] [(.int (1 : Int32))])) target
        refine XS.goto X0.here hx rfl (pc0 := 36) (pc' := 40) rfl (hb hby at_36) (by decide) (by decide) ?_
        show Steps p.tables e below (s₁.setTop (mkF m 40 #[iv p0, iv p1, .val (.long q0), .second, .val (.long q1), .second, .val (.long q2), .second, iv u0, iv u1, iv u2, iv ct, .unset, .unset, .unset, .unset, .unset, .unset, .unset, .unset, .unset, .unset] [(.int (1 : Int32))])) target
        exact kt
      exact ⟨(1 : Int32), (by simp only [if_neg hc25]), g27⟩
  have hcn : cn = 0 ∨ cn = 1 := by rw [hm28]; split <;> simp
  have g29 : own_Go p e below s₁ (entryFrame m #[(.int p0), (.int p1), (.long q0), (.long q1), (.long q2)] maxLocals) s₁ (mkF m 45 #[iv p0, iv p1, .val (.long q0), .second, .val (.long q1), .second, .val (.long q2), .second, iv u0, iv u1, iv u2, iv ct, iv cn, .unset, .unset, .unset, .unset, .unset, .unset, .unset, .unset, .unset] [(.int (1024 : Int32))]) := by
    intro target kt
    refine g28 target ?_
    refine XS.istore X0.here hx rfl (hb hby at_40) rfl (l' := #[iv p0, iv p1, .val (.long q0), .second, .val (.long q1), .second, .val (.long q2), .second, iv u0, iv u1, iv u2, iv ct, iv cn, .unset, .unset, .unset, .unset, .unset, .unset, .unset, .unset, .unset]) rfl ?_
    show Steps p.tables e below (s₁.setTop (mkF m 42 #[iv p0, iv p1, .val (.long q0), .second, .val (.long q1), .second, .val (.long q2), .second, iv u0, iv u1, iv u2, iv ct, iv cn, .unset, .unset, .unset, .unset, .unset, .unset, .unset, .unset, .unset] [])) target
    refine XT.sipushV X0.here hx rfl (1024 : Int32) (hb hby at_42) rfl ?_
    show Steps p.tables e below (s₁.setTop (mkF m 45 #[iv p0, iv p1, .val (.long q0), .second, .val (.long q1), .second, .val (.long q2), .second, iv u0, iv u1, iv u2, iv ct, iv cn, .unset, .unset, .unset, .unset, .unset, .unset, .unset, .unset, .unset] [(.int (1024 : Int32))])) target
    exact kt
  obtain ⟨T30, h30, k30, X30, e30, E30, A30, st30⟩ := newP X0 hx hZ (hw _ (List.mem_of_getElem? (i := 1) rfl)) e0 (g := (mkF m 45 #[iv p0, iv p1, .val (.long q0), .second, .val (.long q1), .second, .val (.long q2), .second, iv u0, iv u1, iv u2, iv ct, iv cn, .unset, .unset, .unset, .unset, .unset, .unset, .unset, .unset, .unset] [(.int (1024 : Int32))])) rfl (hb hby at_45) rfl (by decide) (cap := 1024) (by decide) (by decide) (by decide) (by decide)
  obtain ⟨bw, ga30⟩ : ∃ z, z = h0.size := ⟨_, rfl⟩
  rw [← ga30] at A30 st30
  have Z30 : n0 ≤ h30.size := Nat.le_trans Z0 E30.1
  have g_bw : n0 ≤ bw := Nat.le_trans Z0 (Nat.le_of_eq ga30.symm)
  have g31 : own_Go p e below s₁ (entryFrame m #[(.int p0), (.int p1), (.long q0), (.long q1), (.long q2)] maxLocals) T30 (mkF m 47 #[iv p0, iv p1, .val (.long q0), .second, .val (.long q1), .second, .val (.long q2), .second, iv u0, iv u1, iv u2, iv ct, iv cn, .unset, .unset, .unset, .unset, .unset, .unset, .unset, .unset, .unset] [(.ref bw)]) := fun target kt => g29 target (st30 target kt)
  obtain ⟨G0, V0⟩ : ∃ G : Nat → Int64, own_Ar Z h30 bw .long 1024 (fun j => .long (G j)) := ⟨fun _ => 0, own_new A30 (by decide)⟩
  obtain ⟨cw0, Aw0, Sw0, Hw0⟩ := V0
  have hq0 : (u0 / (64 : Int32)).toNatClampNeg = own_ix u0 := own_div c0
  have hin0 : ¬ ((u0 / (64 : Int32)) < 0 ∨ cw0.slots.size ≤ (u0 / (64 : Int32)).toNatClampNeg) := own_inb Sw0 hq0 (own_divn c0) (own_ixlt c0)
  have hat0 : cw0.slots[(u0 / (64 : Int32)).toNatClampNeg]? = some (.long (G0 (own_ix u0))) := by rw [hq0]; exact Hw0 _ (own_ixlt c0)
  have g32 : own_Go p e below s₁ (entryFrame m #[(.int p0), (.int p1), (.long q0), (.long q1), (.long q2)] maxLocals) T30 (mkF m 60 #[iv p0, iv p1, .val (.long q0), .second, .val (.long q1), .second, .val (.long q2), .second, iv u0, iv u1, iv u2, iv ct, iv cn, rv bw, .unset, .unset, .unset, .unset, .unset, .unset, .unset, .unset] [(.long ((G0 (own_ix u0)) ^^^ q0)), (.int (u0 / (64 : Int32))), (.ref bw)]) := by
    intro target kt
    refine g31 target ?_
    refine XS.astore X30.here hx rfl (hb hby at_47) rfl rfl (l' := #[iv p0, iv p1, .val (.long q0), .second, .val (.long q1), .second, .val (.long q2), .second, iv u0, iv u1, iv u2, iv ct, iv cn, rv bw, .unset, .unset, .unset, .unset, .unset, .unset, .unset, .unset]) rfl ?_
    show Steps p.tables e below (T30.setTop (mkF m 49 #[iv p0, iv p1, .val (.long q0), .second, .val (.long q1), .second, .val (.long q2), .second, iv u0, iv u1, iv u2, iv ct, iv cn, rv bw, .unset, .unset, .unset, .unset, .unset, .unset, .unset, .unset] [])) target
    refine XS.aload X30.here hx rfl (hb hby at_49) rfl rfl ?_
    show Steps p.tables e below (T30.setTop (mkF m 51 #[iv p0, iv p1, .val (.long q0), .second, .val (.long q1), .second, .val (.long q2), .second, iv u0, iv u1, iv u2, iv ct, iv cn, rv bw, .unset, .unset, .unset, .unset, .unset, .unset, .unset, .unset] [(.ref bw)])) target
    refine XS.iload X30.here hx rfl (hb hby at_51) rfl ?_
    show Steps p.tables e below (T30.setTop (mkF m 53 #[iv p0, iv p1, .val (.long q0), .second, .val (.long q1), .second, .val (.long q2), .second, iv u0, iv u1, iv u2, iv ct, iv cn, rv bw, .unset, .unset, .unset, .unset, .unset, .unset, .unset, .unset] [(.int u0), (.ref bw)])) target
    refine XT.bipushV X30.here hx rfl (64 : Int32) (hb hby at_53) rfl ?_
    show Steps p.tables e below (T30.setTop (mkF m 55 #[iv p0, iv p1, .val (.long q0), .second, .val (.long q1), .second, .val (.long q2), .second, iv u0, iv u1, iv u2, iv ct, iv cn, rv bw, .unset, .unset, .unset, .unset, .unset, .unset, .unset, .unset] [(.int (64 : Int32)), (.int u0), (.ref bw)])) target
    refine XS.idiv X30.here hx rfl (hb hby at_55) rfl (by decide) ?_
    show Steps p.tables e below (T30.setTop (mkF m 56 #[iv p0, iv p1, .val (.long q0), .second, .val (.long q1), .second, .val (.long q2), .second, iv u0, iv u1, iv u2, iv ct, iv cn, rv bw, .unset, .unset, .unset, .unset, .unset, .unset, .unset, .unset] [(.int (u0 / (64 : Int32))), (.ref bw)])) target
    refine XT.dup2 X30.here hx rfl (hb hby at_56) rfl rfl rfl ?_
    show Steps p.tables e below (T30.setTop (mkF m 57 #[iv p0, iv p1, .val (.long q0), .second, .val (.long q1), .second, .val (.long q2), .second, iv u0, iv u1, iv u2, iv ct, iv cn, rv bw, .unset, .unset, .unset, .unset, .unset, .unset, .unset, .unset] [(.int (u0 / (64 : Int32))), (.ref bw), (.int (u0 / (64 : Int32))), (.ref bw)])) target
    refine X30.laload hx (j := (u0 / (64 : Int32))) (v := (.long (G0 (own_ix u0)))) (by rw [e30]; exact Aw0.1) (State.isArrayOf_alike hZ.alike Aw0.2.1) Aw0.2.2 hin0 hat0 (g := (mkF m 57 #[iv p0, iv p1, .val (.long q0), .second, .val (.long q1), .second, .val (.long q2), .second, iv u0, iv u1, iv u2, iv ct, iv cn, rv bw, .unset, .unset, .unset, .unset, .unset, .unset, .unset, .unset] [(.int (u0 / (64 : Int32))), (.ref bw), (.int (u0 / (64 : Int32))), (.ref bw)])) rfl rfl (hb hby at_57) _ ?_
    show Steps p.tables e below (T30.setTop (mkF m 58 #[iv p0, iv p1, .val (.long q0), .second, .val (.long q1), .second, .val (.long q2), .second, iv u0, iv u1, iv u2, iv ct, iv cn, rv bw, .unset, .unset, .unset, .unset, .unset, .unset, .unset, .unset] [(.long (G0 (own_ix u0))), (.int (u0 / (64 : Int32))), (.ref bw)])) target
    refine XT.lloadN X30.here hx rfl (hb hby at_58) rfl ?_
    show Steps p.tables e below (T30.setTop (mkF m 59 #[iv p0, iv p1, .val (.long q0), .second, .val (.long q1), .second, .val (.long q2), .second, iv u0, iv u1, iv u2, iv ct, iv cn, rv bw, .unset, .unset, .unset, .unset, .unset, .unset, .unset, .unset] [(.long q0), (.long (G0 (own_ix u0))), (.int (u0 / (64 : Int32))), (.ref bw)])) target
    refine XT.lxor X30.here hx rfl (hb hby at_59) rfl ?_
    show Steps p.tables e below (T30.setTop (mkF m 60 #[iv p0, iv p1, .val (.long q0), .second, .val (.long q1), .second, .val (.long q2), .second, iv u0, iv u1, iv u2, iv ct, iv cn, rv bw, .unset, .unset, .unset, .unset, .unset, .unset, .unset, .unset] [(.long ((G0 (own_ix u0)) ^^^ q0)), (.int (u0 / (64 : Int32))), (.ref bw)])) target
    exact kt
  obtain ⟨T33, h33, X33, e33, W33, st33⟩ := stJ X30 hx hZ e30 Aw0 (j := (u0 / (64 : Int32))) hin0 (g := (mkF m 60 #[iv p0, iv p1, .val (.long q0), .second, .val (.long q1), .second, .val (.long q2), .second, iv u0, iv u1, iv u2, iv ct, iv cn, rv bw, .unset, .unset, .unset, .unset, .unset, .unset, .unset, .unset] [(.long ((G0 (own_ix u0)) ^^^ q0)), (.int (u0 / (64 : Int32))), (.ref bw)])) rfl rfl (hb hby at_60)
  have g34 : own_Go p e below s₁ (entryFrame m #[(.int p0), (.int p1), (.long q0), (.long q1), (.long q2)] maxLocals) T33 (mkF m 61 #[iv p0, iv p1, .val (.long q0), .second, .val (.long q1), .second, .val (.long q2), .second, iv u0, iv u1, iv u2, iv ct, iv cn, rv bw, .unset, .unset, .unset, .unset, .unset, .unset, .unset, .unset] []) := fun target kt => g32 target (st33 target kt)
  have N33 := Fr.snoc X33 N0 g_bw
  have Z33 : n0 ≤ h33.size := Nat.le_trans Z30 (Keep.of_wr W33).1
  obtain ⟨G1, V1⟩ : ∃ G : Nat → Int64, own_Ar Z h33 bw .long 1024 (fun j => .long (G j)) := own_setL Aw0 Sw0 Hw0 W33 (by rw [hq0]; exact own_ixlt c0)
  obtain ⟨cw1, Aw1, Sw1, Hw1⟩ := V1
  have hq1 : (u1 / (64 : Int32)).toNatClampNeg = own_ix u1 := own_div c1
  have hin1 : ¬ ((u1 / (64 : Int32)) < 0 ∨ cw1.slots.size ≤ (u1 / (64 : Int32)).toNatClampNeg) := own_inb Sw1 hq1 (own_divn c1) (own_ixlt c1)
  have hat1 : cw1.slots[(u1 / (64 : Int32)).toNatClampNeg]? = some (.long (G1 (own_ix u1))) := by rw [hq1]; exact Hw1 _ (own_ixlt c1)
  have g35 : own_Go p e below s₁ (entryFrame m #[(.int p0), (.int p1), (.long q0), (.long q1), (.long q2)] maxLocals) T33 (mkF m 73 #[iv p0, iv p1, .val (.long q0), .second, .val (.long q1), .second, .val (.long q2), .second, iv u0, iv u1, iv u2, iv ct, iv cn, rv bw, .unset, .unset, .unset, .unset, .unset, .unset, .unset, .unset] [(.long ((G1 (own_ix u1)) ^^^ q1)), (.int (u1 / (64 : Int32))), (.ref bw)]) := by
    intro target kt
    refine g34 target ?_
    refine XS.aload X33.here hx rfl (hb hby at_61) rfl rfl ?_
    show Steps p.tables e below (T33.setTop (mkF m 63 #[iv p0, iv p1, .val (.long q0), .second, .val (.long q1), .second, .val (.long q2), .second, iv u0, iv u1, iv u2, iv ct, iv cn, rv bw, .unset, .unset, .unset, .unset, .unset, .unset, .unset, .unset] [(.ref bw)])) target
    refine XS.iload X33.here hx rfl (hb hby at_63) rfl ?_
    show Steps p.tables e below (T33.setTop (mkF m 65 #[iv p0, iv p1, .val (.long q0), .second, .val (.long q1), .second, .val (.long q2), .second, iv u0, iv u1, iv u2, iv ct, iv cn, rv bw, .unset, .unset, .unset, .unset, .unset, .unset, .unset, .unset] [(.int u1), (.ref bw)])) target
    refine XT.bipushV X33.here hx rfl (64 : Int32) (hb hby at_65) rfl ?_
    show Steps p.tables e below (T33.setTop (mkF m 67 #[iv p0, iv p1, .val (.long q0), .second, .val (.long q1), .second, .val (.long q2), .second, iv u0, iv u1, iv u2, iv ct, iv cn, rv bw, .unset, .unset, .unset, .unset, .unset, .unset, .unset, .unset] [(.int (64 : Int32)), (.int u1), (.ref bw)])) target
    refine XS.idiv X33.here hx rfl (hb hby at_67) rfl (by decide) ?_
    show Steps p.tables e below (T33.setTop (mkF m 68 #[iv p0, iv p1, .val (.long q0), .second, .val (.long q1), .second, .val (.long q2), .second, iv u0, iv u1, iv u2, iv ct, iv cn, rv bw, .unset, .unset, .unset, .unset, .unset, .unset, .unset, .unset] [(.int (u1 / (64 : Int32))), (.ref bw)])) target
    refine XT.dup2 X33.here hx rfl (hb hby at_68) rfl rfl rfl ?_
    show Steps p.tables e below (T33.setTop (mkF m 69 #[iv p0, iv p1, .val (.long q0), .second, .val (.long q1), .second, .val (.long q2), .second, iv u0, iv u1, iv u2, iv ct, iv cn, rv bw, .unset, .unset, .unset, .unset, .unset, .unset, .unset, .unset] [(.int (u1 / (64 : Int32))), (.ref bw), (.int (u1 / (64 : Int32))), (.ref bw)])) target
    refine X33.laload hx (j := (u1 / (64 : Int32))) (v := (.long (G1 (own_ix u1)))) (by rw [e33]; exact Aw1.1) (State.isArrayOf_alike hZ.alike Aw1.2.1) Aw1.2.2 hin1 hat1 (g := (mkF m 69 #[iv p0, iv p1, .val (.long q0), .second, .val (.long q1), .second, .val (.long q2), .second, iv u0, iv u1, iv u2, iv ct, iv cn, rv bw, .unset, .unset, .unset, .unset, .unset, .unset, .unset, .unset] [(.int (u1 / (64 : Int32))), (.ref bw), (.int (u1 / (64 : Int32))), (.ref bw)])) rfl rfl (hb hby at_69) _ ?_
    show Steps p.tables e below (T33.setTop (mkF m 70 #[iv p0, iv p1, .val (.long q0), .second, .val (.long q1), .second, .val (.long q2), .second, iv u0, iv u1, iv u2, iv ct, iv cn, rv bw, .unset, .unset, .unset, .unset, .unset, .unset, .unset, .unset] [(.long (G1 (own_ix u1))), (.int (u1 / (64 : Int32))), (.ref bw)])) target
    refine XT.lload X33.here hx rfl (hb hby at_70) rfl ?_
    show Steps p.tables e below (T33.setTop (mkF m 72 #[iv p0, iv p1, .val (.long q0), .second, .val (.long q1), .second, .val (.long q2), .second, iv u0, iv u1, iv u2, iv ct, iv cn, rv bw, .unset, .unset, .unset, .unset, .unset, .unset, .unset, .unset] [(.long q1), (.long (G1 (own_ix u1))), (.int (u1 / (64 : Int32))), (.ref bw)])) target
    refine XT.lxor X33.here hx rfl (hb hby at_72) rfl ?_
    show Steps p.tables e below (T33.setTop (mkF m 73 #[iv p0, iv p1, .val (.long q0), .second, .val (.long q1), .second, .val (.long q2), .second, iv u0, iv u1, iv u2, iv ct, iv cn, rv bw, .unset, .unset, .unset, .unset, .unset, .unset, .unset, .unset] [(.long ((G1 (own_ix u1)) ^^^ q1)), (.int (u1 / (64 : Int32))), (.ref bw)])) target
    exact kt
  obtain ⟨T36, h36, X36, e36, W36, st36⟩ := stJ X33 hx hZ e33 Aw1 (j := (u1 / (64 : Int32))) hin1 (g := (mkF m 73 #[iv p0, iv p1, .val (.long q0), .second, .val (.long q1), .second, .val (.long q2), .second, iv u0, iv u1, iv u2, iv ct, iv cn, rv bw, .unset, .unset, .unset, .unset, .unset, .unset, .unset, .unset] [(.long ((G1 (own_ix u1)) ^^^ q1)), (.int (u1 / (64 : Int32))), (.ref bw)])) rfl rfl (hb hby at_73)
  have g37 : own_Go p e below s₁ (entryFrame m #[(.int p0), (.int p1), (.long q0), (.long q1), (.long q2)] maxLocals) T36 (mkF m 74 #[iv p0, iv p1, .val (.long q0), .second, .val (.long q1), .second, .val (.long q2), .second, iv u0, iv u1, iv u2, iv ct, iv cn, rv bw, .unset, .unset, .unset, .unset, .unset, .unset, .unset, .unset] []) := fun target kt => g35 target (st36 target kt)
  have N36 := Fr.snoc X36 N33 g_bw
  have Z36 : n0 ≤ h36.size := Nat.le_trans Z33 (Keep.of_wr W36).1
  obtain ⟨G2, V2⟩ : ∃ G : Nat → Int64, own_Ar Z h36 bw .long 1024 (fun j => .long (G j)) := own_setL Aw1 Sw1 Hw1 W36 (by rw [hq1]; exact own_ixlt c1)
  obtain ⟨cw2, Aw2, Sw2, Hw2⟩ := V2
  have hq2 : (u2 / (64 : Int32)).toNatClampNeg = own_ix u2 := own_div c2
  have hin2 : ¬ ((u2 / (64 : Int32)) < 0 ∨ cw2.slots.size ≤ (u2 / (64 : Int32)).toNatClampNeg) := own_inb Sw2 hq2 (own_divn c2) (own_ixlt c2)
  have hat2 : cw2.slots[(u2 / (64 : Int32)).toNatClampNeg]? = some (.long (G2 (own_ix u2))) := by rw [hq2]; exact Hw2 _ (own_ixlt c2)
  have g38 : own_Go p e below s₁ (entryFrame m #[(.int p0), (.int p1), (.long q0), (.long q1), (.long q2)] maxLocals) T36 (mkF m 86 #[iv p0, iv p1, .val (.long q0), .second, .val (.long q1), .second, .val (.long q2), .second, iv u0, iv u1, iv u2, iv ct, iv cn, rv bw, .unset, .unset, .unset, .unset, .unset, .unset, .unset, .unset] [(.long ((G2 (own_ix u2)) ^^^ q2)), (.int (u2 / (64 : Int32))), (.ref bw)]) := by
    intro target kt
    refine g37 target ?_
    refine XS.aload X36.here hx rfl (hb hby at_74) rfl rfl ?_
    show Steps p.tables e below (T36.setTop (mkF m 76 #[iv p0, iv p1, .val (.long q0), .second, .val (.long q1), .second, .val (.long q2), .second, iv u0, iv u1, iv u2, iv ct, iv cn, rv bw, .unset, .unset, .unset, .unset, .unset, .unset, .unset, .unset] [(.ref bw)])) target
    refine XS.iload X36.here hx rfl (hb hby at_76) rfl ?_
    show Steps p.tables e below (T36.setTop (mkF m 78 #[iv p0, iv p1, .val (.long q0), .second, .val (.long q1), .second, .val (.long q2), .second, iv u0, iv u1, iv u2, iv ct, iv cn, rv bw, .unset, .unset, .unset, .unset, .unset, .unset, .unset, .unset] [(.int u2), (.ref bw)])) target
    refine XT.bipushV X36.here hx rfl (64 : Int32) (hb hby at_78) rfl ?_
    show Steps p.tables e below (T36.setTop (mkF m 80 #[iv p0, iv p1, .val (.long q0), .second, .val (.long q1), .second, .val (.long q2), .second, iv u0, iv u1, iv u2, iv ct, iv cn, rv bw, .unset, .unset, .unset, .unset, .unset, .unset, .unset, .unset] [(.int (64 : Int32)), (.int u2), (.ref bw)])) target
    refine XS.idiv X36.here hx rfl (hb hby at_80) rfl (by decide) ?_
    show Steps p.tables e below (T36.setTop (mkF m 81 #[iv p0, iv p1, .val (.long q0), .second, .val (.long q1), .second, .val (.long q2), .second, iv u0, iv u1, iv u2, iv ct, iv cn, rv bw, .unset, .unset, .unset, .unset, .unset, .unset, .unset, .unset] [(.int (u2 / (64 : Int32))), (.ref bw)])) target
    refine XT.dup2 X36.here hx rfl (hb hby at_81) rfl rfl rfl ?_
    show Steps p.tables e below (T36.setTop (mkF m 82 #[iv p0, iv p1, .val (.long q0), .second, .val (.long q1), .second, .val (.long q2), .second, iv u0, iv u1, iv u2, iv ct, iv cn, rv bw, .unset, .unset, .unset, .unset, .unset, .unset, .unset, .unset] [(.int (u2 / (64 : Int32))), (.ref bw), (.int (u2 / (64 : Int32))), (.ref bw)])) target
    refine X36.laload hx (j := (u2 / (64 : Int32))) (v := (.long (G2 (own_ix u2)))) (by rw [e36]; exact Aw2.1) (State.isArrayOf_alike hZ.alike Aw2.2.1) Aw2.2.2 hin2 hat2 (g := (mkF m 82 #[iv p0, iv p1, .val (.long q0), .second, .val (.long q1), .second, .val (.long q2), .second, iv u0, iv u1, iv u2, iv ct, iv cn, rv bw, .unset, .unset, .unset, .unset, .unset, .unset, .unset, .unset] [(.int (u2 / (64 : Int32))), (.ref bw), (.int (u2 / (64 : Int32))), (.ref bw)])) rfl rfl (hb hby at_82) _ ?_
    show Steps p.tables e below (T36.setTop (mkF m 83 #[iv p0, iv p1, .val (.long q0), .second, .val (.long q1), .second, .val (.long q2), .second, iv u0, iv u1, iv u2, iv ct, iv cn, rv bw, .unset, .unset, .unset, .unset, .unset, .unset, .unset, .unset] [(.long (G2 (own_ix u2))), (.int (u2 / (64 : Int32))), (.ref bw)])) target
    refine XT.lload X36.here hx rfl (hb hby at_83) rfl ?_
    show Steps p.tables e below (T36.setTop (mkF m 85 #[iv p0, iv p1, .val (.long q0), .second, .val (.long q1), .second, .val (.long q2), .second, iv u0, iv u1, iv u2, iv ct, iv cn, rv bw, .unset, .unset, .unset, .unset, .unset, .unset, .unset, .unset] [(.long q2), (.long (G2 (own_ix u2))), (.int (u2 / (64 : Int32))), (.ref bw)])) target
    refine XT.lxor X36.here hx rfl (hb hby at_85) rfl ?_
    show Steps p.tables e below (T36.setTop (mkF m 86 #[iv p0, iv p1, .val (.long q0), .second, .val (.long q1), .second, .val (.long q2), .second, iv u0, iv u1, iv u2, iv ct, iv cn, rv bw, .unset, .unset, .unset, .unset, .unset, .unset, .unset, .unset] [(.long ((G2 (own_ix u2)) ^^^ q2)), (.int (u2 / (64 : Int32))), (.ref bw)])) target
    exact kt
  obtain ⟨T39, h39, X39, e39, W39, st39⟩ := stJ X36 hx hZ e36 Aw2 (j := (u2 / (64 : Int32))) hin2 (g := (mkF m 86 #[iv p0, iv p1, .val (.long q0), .second, .val (.long q1), .second, .val (.long q2), .second, iv u0, iv u1, iv u2, iv ct, iv cn, rv bw, .unset, .unset, .unset, .unset, .unset, .unset, .unset, .unset] [(.long ((G2 (own_ix u2)) ^^^ q2)), (.int (u2 / (64 : Int32))), (.ref bw)])) rfl rfl (hb hby at_86)
  have g40 : own_Go p e below s₁ (entryFrame m #[(.int p0), (.int p1), (.long q0), (.long q1), (.long q2)] maxLocals) T39 (mkF m 87 #[iv p0, iv p1, .val (.long q0), .second, .val (.long q1), .second, .val (.long q2), .second, iv u0, iv u1, iv u2, iv ct, iv cn, rv bw, .unset, .unset, .unset, .unset, .unset, .unset, .unset, .unset] []) := fun target kt => g38 target (st39 target kt)
  have N39 := Fr.snoc X39 N36 g_bw
  have Z39 : n0 ≤ h39.size := Nat.le_trans Z36 (Keep.of_wr W39).1
  obtain ⟨G3, V3⟩ : ∃ G : Nat → Int64, own_Ar Z h39 bw .long 1024 (fun j => .long (G j)) := own_setL Aw2 Sw2 Hw2 W39 (by rw [hq2]; exact own_ixlt c2)
  obtain ⟨G, VG⟩ : ∃ G : Nat → Int64, own_Ar Z h39 bw .long 1024 (fun j => .long (G j)) := ⟨G3, V3⟩
  have g41 : own_Go p e below s₁ (entryFrame m #[(.int p0), (.int p1), (.long q0), (.long q1), (.long q2)] maxLocals) T39 (mkF m 88 #[iv p0, iv p1, .val (.long q0), .second, .val (.long q1), .second, .val (.long q2), .second, iv u0, iv u1, iv u2, iv ct, iv cn, rv bw, .unset, .unset, .unset, .unset, .unset, .unset, .unset, .unset] [(.int (3 : Int32))]) := by
    intro target kt
    refine g40 target ?_
    refine XT.iconstV X39.here hx rfl (3 : Int32) (hb hby at_87) rfl ?_
    show Steps p.tables e below (T39.setTop (mkF m 88 #[iv p0, iv p1, .val (.long q0), .second, .val (.long q1), .second, .val (.long q2), .second, iv u0, iv u1, iv u2, iv ct, iv cn, rv bw, .unset, .unset, .unset, .unset, .unset, .unset, .unset, .unset] [(.int (3 : Int32))])) target
    exact kt
  obtain ⟨T42, h42, k42, X42, e42, E42, A42, st42⟩ := newP X39 hx hZ (hw _ (List.mem_of_getElem? (i := 2) rfl)) e39 (g := (mkF m 88 #[iv p0, iv p1, .val (.long q0), .second, .val (.long q1), .second, .val (.long q2), .second, iv u0, iv u1, iv u2, iv ct, iv cn, rv bw, .unset, .unset, .unset, .unset, .unset, .unset, .unset, .unset] [(.int (3 : Int32))])) rfl (hb hby at_88) rfl (by decide) (cap := 3) (by decide) (by decide) (by decide) (by decide)
  obtain ⟨bs, ga42⟩ : ∃ z, z = h39.size := ⟨_, rfl⟩
  rw [← ga42] at A42 st42
  have Z42 : n0 ≤ h42.size := Nat.le_trans Z39 E42.1
  have g_bs : n0 ≤ bs := Nat.le_trans Z39 (Nat.le_of_eq ga42.symm)
  have g43 : own_Go p e below s₁ (entryFrame m #[(.int p0), (.int p1), (.long q0), (.long q1), (.long q2)] maxLocals) T42 (mkF m 90 #[iv p0, iv p1, .val (.long q0), .second, .val (.long q1), .second, .val (.long q2), .second, iv u0, iv u1, iv u2, iv ct, iv cn, rv bw, .unset, .unset, .unset, .unset, .unset, .unset, .unset, .unset] [(.ref bs)]) := fun target kt => g41 target (st42 target kt)
  have Vw := VG.ext E42
  have U0 : own_Ar Z h42 bs .char 3 (fun j => .int ((fun _ => (0 : Int32)) j)) := own_new A42 (by decide)
  have nws : bw ≠ bs := Nat.ne_of_lt (Nat.lt_of_lt_of_le VG.lt (Nat.le_of_eq ga42.symm))
  obtain ⟨cs0, As0, Ss0, Hs0⟩ := U0
  have g44 : own_Go p e below s₁ (entryFrame m #[(.int p0), (.int p1), (.long q0), (.long q1), (.long q2)] maxLocals) T42 (mkF m 98 #[iv p0, iv p1, .val (.long q0), .second, .val (.long q1), .second, .val (.long q2), .second, iv u0, iv u1, iv u2, iv ct, iv cn, rv bw, rv bs, .unset, .unset, .unset, .unset, .unset, .unset, .unset] [(.int (u0.toUInt32.toUInt16.toUInt32.toInt32)), (.int (0 : Int32)), (.ref bs)]) := by
    intro target kt
    refine g43 target ?_
    refine XS.astore X42.here hx rfl (hb hby at_90) rfl rfl (l' := #[iv p0, iv p1, .val (.long q0), .second, .val (.long q1), .second, .val (.long q2), .second, iv u0, iv u1, iv u2, iv ct, iv cn, rv bw, rv bs, .unset, .unset, .unset, .unset, .unset, .unset, .unset]) rfl ?_
    show Steps p.tables e below (T42.setTop (mkF m 92 #[iv p0, iv p1, .val (.long q0), .second, .val (.long q1), .second, .val (.long q2), .second, iv u0, iv u1, iv u2, iv ct, iv cn, rv bw, rv bs, .unset, .unset, .unset, .unset, .unset, .unset, .unset] [])) target
    refine XS.aload X42.here hx rfl (hb hby at_92) rfl rfl ?_
    show Steps p.tables e below (T42.setTop (mkF m 94 #[iv p0, iv p1, .val (.long q0), .second, .val (.long q1), .second, .val (.long q2), .second, iv u0, iv u1, iv u2, iv ct, iv cn, rv bw, rv bs, .unset, .unset, .unset, .unset, .unset, .unset, .unset] [(.ref bs)])) target
    refine XT.iconstV X42.here hx rfl (0 : Int32) (hb hby at_94) rfl ?_
    show Steps p.tables e below (T42.setTop (mkF m 95 #[iv p0, iv p1, .val (.long q0), .second, .val (.long q1), .second, .val (.long q2), .second, iv u0, iv u1, iv u2, iv ct, iv cn, rv bw, rv bs, .unset, .unset, .unset, .unset, .unset, .unset, .unset] [(.int (0 : Int32)), (.ref bs)])) target
    refine XS.iload X42.here hx rfl (hb hby at_95) rfl ?_
    show Steps p.tables e below (T42.setTop (mkF m 97 #[iv p0, iv p1, .val (.long q0), .second, .val (.long q1), .second, .val (.long q2), .second, iv u0, iv u1, iv u2, iv ct, iv cn, rv bw, rv bs, .unset, .unset, .unset, .unset, .unset, .unset, .unset] [(.int u0), (.int (0 : Int32)), (.ref bs)])) target
    refine XT.i2c X42.here hx rfl (hb hby at_97) rfl ?_
    show Steps p.tables e below (T42.setTop (mkF m 98 #[iv p0, iv p1, .val (.long q0), .second, .val (.long q1), .second, .val (.long q2), .second, iv u0, iv u1, iv u2, iv ct, iv cn, rv bw, rv bs, .unset, .unset, .unset, .unset, .unset, .unset, .unset] [(.int (u0.toUInt32.toUInt16.toUInt32.toInt32)), (.int (0 : Int32)), (.ref bs)])) target
    exact kt
  obtain ⟨T45, h45, X45, e45, W45, st45⟩ := stC X42 hx hZ e42 As0 (j := (0 : Int32)) (by rw [Ss0]; decide) (g := (mkF m 98 #[iv p0, iv p1, .val (.long q0), .second, .val (.long q1), .second, .val (.long q2), .second, iv u0, iv u1, iv u2, iv ct, iv cn, rv bw, rv bs, .unset, .unset, .unset, .unset, .unset, .unset, .unset] [(.int (u0.toUInt32.toUInt16.toUInt32.toInt32)), (.int (0 : Int32)), (.ref bs)])) rfl rfl (hb hby at_98)
  have g46 : own_Go p e below s₁ (entryFrame m #[(.int p0), (.int p1), (.long q0), (.long q1), (.long q2)] maxLocals) T45 (mkF m 99 #[iv p0, iv p1, .val (.long q0), .second, .val (.long q1), .second, .val (.long q2), .second, iv u0, iv u1, iv u2, iv ct, iv cn, rv bw, rv bs, .unset, .unset, .unset, .unset, .unset, .unset, .unset] []) := fun target kt => g44 target (st45 target kt)
  have N45 := Fr.snoc X45 N39 g_bs
  have Z45 : n0 ≤ h45.size := Nat.le_trans Z42 (Keep.of_wr W45).1
  rw [own_i2c c0, own_narc c0] at W45
  have U1 := own_setC As0 Ss0 Hs0 W45 (by decide)
  have Vw := Vw.other W45 nws
  obtain ⟨cs1, As1, Ss1, Hs1⟩ := U1
  have g47 : own_Go p e below s₁ (entryFrame m #[(.int p0), (.int p1), (.long q0), (.long q1), (.long q2)] maxLocals) T45 (mkF m 105 #[iv p0, iv p1, .val (.long q0), .second, .val (.long q1), .second, .val (.long q2), .second, iv u0, iv u1, iv u2, iv ct, iv cn, rv bw, rv bs, .unset, .unset, .unset, .unset, .unset, .unset, .unset] [(.int (u1.toUInt32.toUInt16.toUInt32.toInt32)), (.int (1 : Int32)), (.ref bs)]) := by
    intro target kt
    refine g46 target ?_
    refine XS.aload X45.here hx rfl (hb hby at_99) rfl rfl ?_
    show Steps p.tables e below (T45.setTop (mkF m 101 #[iv p0, iv p1, .val (.long q0), .second, .val (.long q1), .second, .val (.long q2), .second, iv u0, iv u1, iv u2, iv ct, iv cn, rv bw, rv bs, .unset, .unset, .unset, .unset, .unset, .unset, .unset] [(.ref bs)])) target
    refine XT.iconstV X45.here hx rfl (1 : Int32) (hb hby at_101) rfl ?_
    show Steps p.tables e below (T45.setTop (mkF m 102 #[iv p0, iv p1, .val (.long q0), .second, .val (.long q1), .second, .val (.long q2), .second, iv u0, iv u1, iv u2, iv ct, iv cn, rv bw, rv bs, .unset, .unset, .unset, .unset, .unset, .unset, .unset] [(.int (1 : Int32)), (.ref bs)])) target
    refine XS.iload X45.here hx rfl (hb hby at_102) rfl ?_
    show Steps p.tables e below (T45.setTop (mkF m 104 #[iv p0, iv p1, .val (.long q0), .second, .val (.long q1), .second, .val (.long q2), .second, iv u0, iv u1, iv u2, iv ct, iv cn, rv bw, rv bs, .unset, .unset, .unset, .unset, .unset, .unset, .unset] [(.int u1), (.int (1 : Int32)), (.ref bs)])) target
    refine XT.i2c X45.here hx rfl (hb hby at_104) rfl ?_
    show Steps p.tables e below (T45.setTop (mkF m 105 #[iv p0, iv p1, .val (.long q0), .second, .val (.long q1), .second, .val (.long q2), .second, iv u0, iv u1, iv u2, iv ct, iv cn, rv bw, rv bs, .unset, .unset, .unset, .unset, .unset, .unset, .unset] [(.int (u1.toUInt32.toUInt16.toUInt32.toInt32)), (.int (1 : Int32)), (.ref bs)])) target
    exact kt
  obtain ⟨T48, h48, X48, e48, W48, st48⟩ := stC X45 hx hZ e45 As1 (j := (1 : Int32)) (by rw [Ss1]; decide) (g := (mkF m 105 #[iv p0, iv p1, .val (.long q0), .second, .val (.long q1), .second, .val (.long q2), .second, iv u0, iv u1, iv u2, iv ct, iv cn, rv bw, rv bs, .unset, .unset, .unset, .unset, .unset, .unset, .unset] [(.int (u1.toUInt32.toUInt16.toUInt32.toInt32)), (.int (1 : Int32)), (.ref bs)])) rfl rfl (hb hby at_105)
  have g49 : own_Go p e below s₁ (entryFrame m #[(.int p0), (.int p1), (.long q0), (.long q1), (.long q2)] maxLocals) T48 (mkF m 106 #[iv p0, iv p1, .val (.long q0), .second, .val (.long q1), .second, .val (.long q2), .second, iv u0, iv u1, iv u2, iv ct, iv cn, rv bw, rv bs, .unset, .unset, .unset, .unset, .unset, .unset, .unset] []) := fun target kt => g47 target (st48 target kt)
  have N48 := Fr.snoc X48 N45 g_bs
  have Z48 : n0 ≤ h48.size := Nat.le_trans Z45 (Keep.of_wr W48).1
  rw [own_i2c c1, own_narc c1] at W48
  have U2 := own_setC As1 Ss1 Hs1 W48 (by decide)
  have Vw := Vw.other W48 nws
  obtain ⟨cs2, As2, Ss2, Hs2⟩ := U2
  have g50 : own_Go p e below s₁ (entryFrame m #[(.int p0), (.int p1), (.long q0), (.long q1), (.long q2)] maxLocals) T48 (mkF m 112 #[iv p0, iv p1, .val (.long q0), .second, .val (.long q1), .second, .val (.long q2), .second, iv u0, iv u1, iv u2, iv ct, iv cn, rv bw, rv bs, .unset, .unset, .unset, .unset, .unset, .unset, .unset] [(.int (u2.toUInt32.toUInt16.toUInt32.toInt32)), (.int (2 : Int32)), (.ref bs)]) := by
    intro target kt
    refine g49 target ?_
    refine XS.aload X48.here hx rfl (hb hby at_106) rfl rfl ?_
    show Steps p.tables e below (T48.setTop (mkF m 108 #[iv p0, iv p1, .val (.long q0), .second, .val (.long q1), .second, .val (.long q2), .second, iv u0, iv u1, iv u2, iv ct, iv cn, rv bw, rv bs, .unset, .unset, .unset, .unset, .unset, .unset, .unset] [(.ref bs)])) target
    refine XT.iconstV X48.here hx rfl (2 : Int32) (hb hby at_108) rfl ?_
    show Steps p.tables e below (T48.setTop (mkF m 109 #[iv p0, iv p1, .val (.long q0), .second, .val (.long q1), .second, .val (.long q2), .second, iv u0, iv u1, iv u2, iv ct, iv cn, rv bw, rv bs, .unset, .unset, .unset, .unset, .unset, .unset, .unset] [(.int (2 : Int32)), (.ref bs)])) target
    refine XS.iload X48.here hx rfl (hb hby at_109) rfl ?_
    show Steps p.tables e below (T48.setTop (mkF m 111 #[iv p0, iv p1, .val (.long q0), .second, .val (.long q1), .second, .val (.long q2), .second, iv u0, iv u1, iv u2, iv ct, iv cn, rv bw, rv bs, .unset, .unset, .unset, .unset, .unset, .unset, .unset] [(.int u2), (.int (2 : Int32)), (.ref bs)])) target
    refine XT.i2c X48.here hx rfl (hb hby at_111) rfl ?_
    show Steps p.tables e below (T48.setTop (mkF m 112 #[iv p0, iv p1, .val (.long q0), .second, .val (.long q1), .second, .val (.long q2), .second, iv u0, iv u1, iv u2, iv ct, iv cn, rv bw, rv bs, .unset, .unset, .unset, .unset, .unset, .unset, .unset] [(.int (u2.toUInt32.toUInt16.toUInt32.toInt32)), (.int (2 : Int32)), (.ref bs)])) target
    exact kt
  obtain ⟨T51, h51, X51, e51, W51, st51⟩ := stC X48 hx hZ e48 As2 (j := (2 : Int32)) (by rw [Ss2]; decide) (g := (mkF m 112 #[iv p0, iv p1, .val (.long q0), .second, .val (.long q1), .second, .val (.long q2), .second, iv u0, iv u1, iv u2, iv ct, iv cn, rv bw, rv bs, .unset, .unset, .unset, .unset, .unset, .unset, .unset] [(.int (u2.toUInt32.toUInt16.toUInt32.toInt32)), (.int (2 : Int32)), (.ref bs)])) rfl rfl (hb hby at_112)
  have g52 : own_Go p e below s₁ (entryFrame m #[(.int p0), (.int p1), (.long q0), (.long q1), (.long q2)] maxLocals) T51 (mkF m 113 #[iv p0, iv p1, .val (.long q0), .second, .val (.long q1), .second, .val (.long q2), .second, iv u0, iv u1, iv u2, iv ct, iv cn, rv bw, rv bs, .unset, .unset, .unset, .unset, .unset, .unset, .unset] []) := fun target kt => g50 target (st51 target kt)
  have N51 := Fr.snoc X51 N48 g_bs
  have Z51 : n0 ≤ h51.size := Nat.le_trans Z48 (Keep.of_wr W51).1
  rw [own_i2c c2, own_narc c2] at W51
  have U3 := own_setC As2 Ss2 Hs2 W51 (by decide)
  have Vw := Vw.other W51 nws
  obtain ⟨C, eC⟩ : ∃ C : Nat → Int32, C = own_three u0 u1 u2 := ⟨_, rfl⟩
  have Vs : own_Ar Z h51 bs .char 3 (fun j => .int (C j)) := own_congr U3 (fun j hj => by rw [eC]; exact congrArg Value.int (own_threes u0 u1 u2 j hj))
  have hC : ∀ j, own_C (C j) := by rw [eC]; exact own_threeC c0 c1 c2
  have C0 : C 0 = u0 := by rw [eC]; rfl
  have C1 : C 1 = u1 := by rw [eC]; rfl
  have C2 : C 2 = u2 := by rw [eC]; rfl
  have g53 : own_Go p e below s₁ (entryFrame m #[(.int p0), (.int p1), (.long q0), (.long q1), (.long q2)] maxLocals) T51 (mkF m 114 #[iv p0, iv p1, .val (.long q0), .second, .val (.long q1), .second, .val (.long q2), .second, iv u0, iv u1, iv u2, iv ct, iv cn, rv bw, rv bs, .unset, .unset, .unset, .unset, .unset, .unset, .unset] [(.int (3 : Int32))]) := by
    intro target kt
    refine g52 target ?_
    refine XT.iconstV X51.here hx rfl (3 : Int32) (hb hby at_113) rfl ?_
    show Steps p.tables e below (T51.setTop (mkF m 114 #[iv p0, iv p1, .val (.long q0), .second, .val (.long q1), .second, .val (.long q2), .second, iv u0, iv u1, iv u2, iv ct, iv cn, rv bw, rv bs, .unset, .unset, .unset, .unset, .unset, .unset, .unset] [(.int (3 : Int32))])) target
    exact kt
  obtain ⟨T54, h54, k54, X54, e54, E54, A54, st54⟩ := newP X51 hx hZ (hw _ (List.mem_of_getElem? (i := 2) rfl)) e51 (g := (mkF m 114 #[iv p0, iv p1, .val (.long q0), .second, .val (.long q1), .second, .val (.long q2), .second, iv u0, iv u1, iv u2, iv ct, iv cn, rv bw, rv bs, .unset, .unset, .unset, .unset, .unset, .unset, .unset] [(.int (3 : Int32))])) rfl (hb hby at_114) rfl (by decide) (cap := 3) (by decide) (by decide) (by decide) (by decide)
  obtain ⟨bi, ga54⟩ : ∃ z, z = h51.size := ⟨_, rfl⟩
  rw [← ga54] at A54 st54
  have Z54 : n0 ≤ h54.size := Nat.le_trans Z51 E54.1
  have g_bi : n0 ≤ bi := Nat.le_trans Z51 (Nat.le_of_eq ga54.symm)
  have g55 : own_Go p e below s₁ (entryFrame m #[(.int p0), (.int p1), (.long q0), (.long q1), (.long q2)] maxLocals) T54 (mkF m 116 #[iv p0, iv p1, .val (.long q0), .second, .val (.long q1), .second, .val (.long q2), .second, iv u0, iv u1, iv u2, iv ct, iv cn, rv bw, rv bs, .unset, .unset, .unset, .unset, .unset, .unset, .unset] [(.ref bi)]) := fun target kt => g53 target (st54 target kt)
  have nwi : bw ≠ bi := Nat.ne_of_lt (Nat.lt_of_lt_of_le Vw.lt (Nat.le_of_eq ga54.symm))
  have nsi : bs ≠ bi := Nat.ne_of_lt (Nat.lt_of_lt_of_le Vs.lt (Nat.le_of_eq ga54.symm))
  have Vw := Vw.ext E54
  have Vs := Vs.ext E54
  have Vi : own_Ar Z h54 bi .char 3 (fun j => .int ((fun _ => (0 : Int32)) j)) := own_new A54 (by decide)
  obtain ⟨T66, L66, kk0, X66, e66, N66, hm66, g66⟩ : ∃ (T66 : State) (L66 : List Loc) (kk0 : Int32), Stand p l e room_1 s m #[(.int p0), (.int p1), (.long q0), (.long q1), (.long q2)] below meth c T66 L66 3 1030 ∧ T66.heap = h54 ∧ Fr n0 L66 ∧ (kk0 = (if 0 < ct then (if (own_hb G u0) = cn then (1 : Int32) else (0 : Int32)) else (0 : Int32))) ∧ own_Go p e below s₁ (entryFrame m #[(.int p0), (.int p1), (.long q0), (.long q1), (.long q2)] maxLocals) T66 (mkF m 140 #[iv p0, iv p1, .val (.long q0), .second, .val (.long q1), .second, .val (.long q2), .second, iv u0, iv u1, iv u2, iv ct, iv cn, rv bw, rv bs, rv bi, .unset, .unset, .unset, .unset, .unset, .unset] [(.int kk0)]) := by
    have g56 : own_Go p e below s₁ (entryFrame m #[(.int p0), (.int p1), (.long q0), (.long q1), (.long q2)] maxLocals) T54 (mkF m 120 #[iv p0, iv p1, .val (.long q0), .second, .val (.long q1), .second, .val (.long q2), .second, iv u0, iv u1, iv u2, iv ct, iv cn, rv bw, rv bs, rv bi, .unset, .unset, .unset, .unset, .unset, .unset] [(.int ct)]) := by
      intro target kt
      refine g55 target ?_
      refine XS.astore X54.here hx rfl (hb hby at_116) rfl rfl (l' := #[iv p0, iv p1, .val (.long q0), .second, .val (.long q1), .second, .val (.long q2), .second, iv u0, iv u1, iv u2, iv ct, iv cn, rv bw, rv bs, rv bi, .unset, .unset, .unset, .unset, .unset, .unset]) rfl ?_
      show Steps p.tables e below (T54.setTop (mkF m 118 #[iv p0, iv p1, .val (.long q0), .second, .val (.long q1), .second, .val (.long q2), .second, iv u0, iv u1, iv u2, iv ct, iv cn, rv bw, rv bs, rv bi, .unset, .unset, .unset, .unset, .unset, .unset] [])) target
      refine XS.iload X54.here hx rfl (hb hby at_118) rfl ?_
      show Steps p.tables e below (T54.setTop (mkF m 120 #[iv p0, iv p1, .val (.long q0), .second, .val (.long q1), .second, .val (.long q2), .second, iv u0, iv u1, iv u2, iv ct, iv cn, rv bw, rv bs, rv bi, .unset, .unset, .unset, .unset, .unset, .unset] [(.int ct)])) target
      exact kt
    by_cases hc57 : 0 < ct
    · have g58 : own_Go p e below s₁ (entryFrame m #[(.int p0), (.int p1), (.long q0), (.long q1), (.long q2)] maxLocals) T54 (mkF m 127 #[iv p0, iv p1, .val (.long q0), .second, .val (.long q1), .second, .val (.long q2), .second, iv u0, iv u1, iv u2, iv ct, iv cn, rv bw, rv bs, rv bi, .unset, .unset, .unset, .unset, .unset, .unset] [(.int u0), (.ref bw)]) := by
        intro target kt
        refine g56 target ?_
        refine XS.ifNo X54.here hx rfl (hb hby at_120) rfl (XT.i0_le_f hc57) ?_
        show Steps p.tables e below (T54.setTop (mkF m 123 #[iv p0, iv p1, .val (.long q0), .second, .val (.long q1), .second, .val (.long q2), .second, iv u0, iv u1, iv u2, iv ct, iv cn, rv bw, rv bs, rv bi, .unset, .unset, .unset, .unset, .unset, .unset] [])) target
        refine XS.aload X54.here hx rfl (hb hby at_123) rfl rfl ?_
        show Steps p.tables e below (T54.setTop (mkF m 125 #[iv p0, iv p1, .val (.long q0), .second, .val (.long q1), .second, .val (.long q2), .second, iv u0, iv u1, iv u2, iv ct, iv cn, rv bw, rv bs, rv bi, .unset, .unset, .unset, .unset, .unset, .unset] [(.ref bw)])) target
        refine XS.iload X54.here hx rfl (hb hby at_125) rfl ?_
        show Steps p.tables e below (T54.setTop (mkF m 127 #[iv p0, iv p1, .val (.long q0), .second, .val (.long q1), .second, .val (.long q2), .second, iv u0, iv u1, iv u2, iv ct, iv cn, rv bw, rv bs, rv bi, .unset, .unset, .unset, .unset, .unset, .unset] [(.int u0), (.ref bw)])) target
        exact kt
      obtain ⟨_, _, ⟨T59, L59, k59, n59⟩, -, X59, ⟨Lc59, hQ59, l59, y59, z59⟩, st59⟩ := Jvm.LawKit.callS X54 hx (y := (⟨"com/example/bitloom/bitloom/BitmapContainerFilterPinLaw", "held", "([JI)Z"⟩ : MethodName)) hown (mvT hZ (hw _ (List.mem_of_getElem? (i := 7) rfl))) (mvT hZ (hw _ (List.mem_of_getElem? (i := 8) rfl))) (mvT hZ (hw _ (List.mem_of_getElem? (i := 9) rfl))) (mvT hZ (hw _ (List.mem_of_getElem? (i := 10) rfl))) (by decide) (backOf (W := 0) (rmH l Z a0 hw [] bw u0 G h54 n0 Z54 Vw c0) hZ (hw _ (List.mem_of_getElem? (i := 10) rfl)) (hw _ (List.mem_of_getElem? (i := 9) rfl)) (by decide) (by decide)) (g := (mkF m 127 #[iv p0, iv p1, .val (.long q0), .second, .val (.long q1), .second, .val (.long q2), .second, iv u0, iv u1, iv u2, iv ct, iv cn, rv bw, rv bs, rv bi, .unset, .unset, .unset, .unset, .unset, .unset] [(.int u0), (.ref bw)])) rfl (by rw [hml]; rfl) (argsL := [(.ref bw), (.int u0)]) (rest := []) (lenOf pd_0 rfl) rfl (by show 2 * 0 + _ ≤ _; exact Nat.le_of_eq rfl) (hb hby at_127) (fun _ _ => ⟨rfl, e54, (by decide : 3 + 0 ≤ _), (by decide : 1030 + 0 ≤ _)⟩)
      dsimp only [Pt.U, Pt.locs, Pt.cells, Pt.slots] at X59 l59 y59 z59 st59 hQ59
      subst l59 y59 z59
      obtain ⟨rfl, Nq59, eq59⟩ := hQ59
      have N59 := Fr.app N51 Nq59
      have g60 : own_Go p e below s₁ (entryFrame m #[(.int p0), (.int p1), (.long q0), (.long q1), (.long q2)] maxLocals) T59 (mkF m 130 #[iv p0, iv p1, .val (.long q0), .second, .val (.long q1), .second, .val (.long q2), .second, iv u0, iv u1, iv u2, iv ct, iv cn, rv bw, rv bs, rv bi, .unset, .unset, .unset, .unset, .unset, .unset] [(.int (own_hb G u0))]) := fun target kt => g58 target (st59 target kt)
      have g61 : own_Go p e below s₁ (entryFrame m #[(.int p0), (.int p1), (.long q0), (.long q1), (.long q2)] maxLocals) T59 (mkF m 132 #[iv p0, iv p1, .val (.long q0), .second, .val (.long q1), .second, .val (.long q2), .second, iv u0, iv u1, iv u2, iv ct, iv cn, rv bw, rv bs, rv bi, .unset, .unset, .unset, .unset, .unset, .unset] [(.int cn), (.int (own_hb G u0))]) := by
        intro target kt
        refine g60 target ?_
        refine XS.iload X59.here hx rfl (hb hby at_130) rfl ?_
        show Steps p.tables e below (T59.setTop (mkF m 132 #[iv p0, iv p1, .val (.long q0), .second, .val (.long q1), .second, .val (.long q2), .second, iv u0, iv u1, iv u2, iv ct, iv cn, rv bw, rv bs, rv bi, .unset, .unset, .unset, .unset, .unset, .unset] [(.int cn), (.int (own_hb G u0))])) target
        exact kt
      by_cases hc62 : (own_hb G u0) = cn
      · have g63 : own_Go p e below s₁ (entryFrame m #[(.int p0), (.int p1), (.long q0), (.long q1), (.long q2)] maxLocals) T59 (mkF m 140 #[iv p0, iv p1, .val (.long q0), .second, .val (.long q1), .second, .val (.long q2), .second, iv u0, iv u1, iv u2, iv ct, iv cn, rv bw, rv bs, rv bi, .unset, .unset, .unset, .unset, .unset, .unset] [(.int (1 : Int32))]) := by
          intro target kt
          refine g61 target ?_
          refine XS.icmpNo X59.here hx rfl (hb hby at_132) rfl (XT.ii_ne_f hc62) ?_
          show Steps p.tables e below (T59.setTop (mkF m 135 #[iv p0, iv p1, .val (.long q0), .second, .val (.long q1), .second, .val (.long q2), .second, iv u0, iv u1, iv u2, iv ct, iv cn, rv bw, rv bs, rv bi, .unset, .unset, .unset, .unset, .unset, .unset] [])) target
          refine XT.iconstV X59.here hx rfl (1 : Int32) (hb hby at_135) rfl ?_
          show Steps p.tables e below (T59.setTop (mkF m 136 #[iv p0, iv p1, .val (.long q0), .second, .val (.long q1), .second, .val (.long q2), .second, iv u0, iv u1, iv u2, iv ct, iv cn, rv bw, rv bs, rv bi, .unset, .unset, .unset, .unset, .unset, .unset] [(.int (1 : Int32))])) target
          refine XS.goto X59.here hx rfl (pc0 := 136) (pc' := 140) rfl (hb hby at_136) (by decide) (by decide) ?_
          show Steps p.tables e below (T59.setTop (mkF m 140 #[iv p0, iv p1, .val (.long q0), .second, .val (.long q1), .second, .val (.long q2), .second, iv u0, iv u1, iv u2, iv ct, iv cn, rv bw, rv bs, rv bi, .unset, .unset, .unset, .unset, .unset, .unset] [(.int (1 : Int32))])) target
          exact kt
        exact ⟨T59, _, (1 : Int32), X59, eq59, N59, (by simp only [if_pos hc57, if_pos hc62]), g63⟩
      · have g64 : own_Go p e below s₁ (entryFrame m #[(.int p0), (.int p1), (.long q0), (.long q1), (.long q2)] maxLocals) T59 (mkF m 140 #[iv p0, iv p1, .val (.long q0), .second, .val (.long q1), .second, .val (.long q2), .second, iv u0, iv u1, iv u2, iv ct, iv cn, rv bw, rv bs, rv bi, .unset, .unset, .unset, .unset, .unset, .unset] [(.int (0 : Int32))]) := by
          intro target kt
          refine g61 target ?_
          refine XS.icmpYes X59.here hx rfl (pc0 := 132) (pc' := 139) rfl (hb hby at_132) rfl (XT.ii_ne_t hc62) (by decide) (by decide) ?_
          show Steps p.tables e below (T59.setTop (mkF m 139 #[iv p0, iv p1, .val (.long q0), .second, .val (.long q1), .second, .val (.long q2), .second, iv u0, iv u1, iv u2, iv ct, iv cn, rv bw, rv bs, rv bi, .unset, .unset, .unset, .unset, .unset, .unset] [])) target
          refine XT.iconstV X59.here hx rfl (0 : Int32) (hb hby at_139) rfl ?_
          show Steps p.tables e below (T59.setTop (mkF m 140 #[iv p0, iv p1, .val (.long q0), .second, .val (.long q1), .second, .val (.long q2), .second, iv u0, iv u1, iv u2, iv ct, iv cn, rv bw, rv bs, rv bi, .unset, .unset, .unset, .unset, .unset, .unset] [(.int (0 : Int32))])) target
          exact kt
        exact ⟨T59, _, (0 : Int32), X59, eq59, N59, (by simp only [if_pos hc57, if_neg hc62]), g64⟩
    · have g65 : own_Go p e below s₁ (entryFrame m #[(.int p0), (.int p1), (.long q0), (.long q1), (.long q2)] maxLocals) T54 (mkF m 140 #[iv p0, iv p1, .val (.long q0), .second, .val (.long q1), .second, .val (.long q2), .second, iv u0, iv u1, iv u2, iv ct, iv cn, rv bw, rv bs, rv bi, .unset, .unset, .unset, .unset, .unset, .unset] [(.int (0 : Int32))]) := by
        intro target kt
        refine g56 target ?_
        refine XS.ifYes X54.here hx rfl (pc0 := 120) (pc' := 139) rfl (hb hby at_120) rfl (XT.i0_le_t hc57) (by decide) (by decide) ?_
        show Steps p.tables e below (T54.setTop (mkF m 139 #[iv p0, iv p1, .val (.long q0), .second, .val (.long q1), .second, .val (.long q2), .second, iv u0, iv u1, iv u2, iv ct, iv cn, rv bw, rv bs, rv bi, .unset, .unset, .unset, .unset, .unset, .unset] [])) target
        refine XT.iconstV X54.here hx rfl (0 : Int32) (hb hby at_139) rfl ?_
        show Steps p.tables e below (T54.setTop (mkF m 140 #[iv p0, iv p1, .val (.long q0), .second, .val (.long q1), .second, .val (.long q2), .second, iv u0, iv u1, iv u2, iv ct, iv cn, rv bw, rv bs, rv bi, .unset, .unset, .unset, .unset, .unset, .unset] [(.int (0 : Int32))])) target
        exact kt
      exact ⟨T54, _, (0 : Int32), X54, e54, N51, (by simp only [if_neg hc57]), g65⟩
  have hkk0 := hm66
  obtain ⟨T77, L77, kk1, X77, e77, N77, hm77, g77⟩ : ∃ (T77 : State) (L77 : List Loc) (kk1 : Int32), Stand p l e room_1 s m #[(.int p0), (.int p1), (.long q0), (.long q1), (.long q2)] below meth c T77 L77 3 1030 ∧ T77.heap = h54 ∧ Fr n0 L77 ∧ (kk1 = (if (1 : Int32) < ct then (if (own_hb G u1) = cn then (1 : Int32) else (0 : Int32)) else (0 : Int32))) ∧ own_Go p e below s₁ (entryFrame m #[(.int p0), (.int p1), (.long q0), (.long q1), (.long q2)] maxLocals) T77 (mkF m 165 #[iv p0, iv p1, .val (.long q0), .second, .val (.long q1), .second, .val (.long q2), .second, iv u0, iv u1, iv u2, iv ct, iv cn, rv bw, rv bs, rv bi, iv kk0, .unset, .unset, .unset, .unset, .unset] [(.int kk1)]) := by
    have g67 : own_Go p e below s₁ (entryFrame m #[(.int p0), (.int p1), (.long q0), (.long q1), (.long q2)] maxLocals) T66 (mkF m 145 #[iv p0, iv p1, .val (.long q0), .second, .val (.long q1), .second, .val (.long q2), .second, iv u0, iv u1, iv u2, iv ct, iv cn, rv bw, rv bs, rv bi, iv kk0, .unset, .unset, .unset, .unset, .unset] [(.int (1 : Int32)), (.int ct)]) := by
      intro target kt
      refine g66 target ?_
      refine XS.istore X66.here hx rfl (hb hby at_140) rfl (l' := #[iv p0, iv p1, .val (.long q0), .second, .val (.long q1), .second, .val (.long q2), .second, iv u0, iv u1, iv u2, iv ct, iv cn, rv bw, rv bs, rv bi, iv kk0, .unset, .unset, .unset, .unset, .unset]) rfl ?_
      show Steps p.tables e below (T66.setTop (mkF m 142 #[iv p0, iv p1, .val (.long q0), .second, .val (.long q1), .second, .val (.long q2), .second, iv u0, iv u1, iv u2, iv ct, iv cn, rv bw, rv bs, rv bi, iv kk0, .unset, .unset, .unset, .unset, .unset] [])) target
      refine XS.iload X66.here hx rfl (hb hby at_142) rfl ?_
      show Steps p.tables e below (T66.setTop (mkF m 144 #[iv p0, iv p1, .val (.long q0), .second, .val (.long q1), .second, .val (.long q2), .second, iv u0, iv u1, iv u2, iv ct, iv cn, rv bw, rv bs, rv bi, iv kk0, .unset, .unset, .unset, .unset, .unset] [(.int ct)])) target
      refine XT.iconstV X66.here hx rfl (1 : Int32) (hb hby at_144) rfl ?_
      show Steps p.tables e below (T66.setTop (mkF m 145 #[iv p0, iv p1, .val (.long q0), .second, .val (.long q1), .second, .val (.long q2), .second, iv u0, iv u1, iv u2, iv ct, iv cn, rv bw, rv bs, rv bi, iv kk0, .unset, .unset, .unset, .unset, .unset] [(.int (1 : Int32)), (.int ct)])) target
      exact kt
    by_cases hc68 : (1 : Int32) < ct
    · have g69 : own_Go p e below s₁ (entryFrame m #[(.int p0), (.int p1), (.long q0), (.long q1), (.long q2)] maxLocals) T66 (mkF m 152 #[iv p0, iv p1, .val (.long q0), .second, .val (.long q1), .second, .val (.long q2), .second, iv u0, iv u1, iv u2, iv ct, iv cn, rv bw, rv bs, rv bi, iv kk0, .unset, .unset, .unset, .unset, .unset] [(.int u1), (.ref bw)]) := by
        intro target kt
        refine g67 target ?_
        refine XS.icmpNo X66.here hx rfl (hb hby at_145) rfl (XT.ii_le_f hc68) ?_
        show Steps p.tables e below (T66.setTop (mkF m 148 #[iv p0, iv p1, .val (.long q0), .second, .val (.long q1), .second, .val (.long q2), .second, iv u0, iv u1, iv u2, iv ct, iv cn, rv bw, rv bs, rv bi, iv kk0, .unset, .unset, .unset, .unset, .unset] [])) target
        refine XS.aload X66.here hx rfl (hb hby at_148) rfl rfl ?_
        show Steps p.tables e below (T66.setTop (mkF m 150 #[iv p0, iv p1, .val (.long q0), .second, .val (.long q1), .second, .val (.long q2), .second, iv u0, iv u1, iv u2, iv ct, iv cn, rv bw, rv bs, rv bi, iv kk0, .unset, .unset, .unset, .unset, .unset] [(.ref bw)])) target
        refine XS.iload X66.here hx rfl (hb hby at_150) rfl ?_
        show Steps p.tables e below (T66.setTop (mkF m 152 #[iv p0, iv p1, .val (.long q0), .second, .val (.long q1), .second, .val (.long q2), .second, iv u0, iv u1, iv u2, iv ct, iv cn, rv bw, rv bs, rv bi, iv kk0, .unset, .unset, .unset, .unset, .unset] [(.int u1), (.ref bw)])) target
        exact kt
      obtain ⟨_, _, ⟨T70, L70, k70, n70⟩, -, X70, ⟨Lc70, hQ70, l70, y70, z70⟩, st70⟩ := Jvm.LawKit.callS X66 hx (y := (⟨"com/example/bitloom/bitloom/BitmapContainerFilterPinLaw", "held", "([JI)Z"⟩ : MethodName)) hown (mvT hZ (hw _ (List.mem_of_getElem? (i := 7) rfl))) (mvT hZ (hw _ (List.mem_of_getElem? (i := 8) rfl))) (mvT hZ (hw _ (List.mem_of_getElem? (i := 9) rfl))) (mvT hZ (hw _ (List.mem_of_getElem? (i := 10) rfl))) (by decide) (backOf (W := 0) (rmH l Z a0 hw [] bw u1 G h54 n0 Z54 Vw c1) hZ (hw _ (List.mem_of_getElem? (i := 10) rfl)) (hw _ (List.mem_of_getElem? (i := 9) rfl)) (by decide) (by decide)) (g := (mkF m 152 #[iv p0, iv p1, .val (.long q0), .second, .val (.long q1), .second, .val (.long q2), .second, iv u0, iv u1, iv u2, iv ct, iv cn, rv bw, rv bs, rv bi, iv kk0, .unset, .unset, .unset, .unset, .unset] [(.int u1), (.ref bw)])) rfl (by rw [hml]; rfl) (argsL := [(.ref bw), (.int u1)]) (rest := []) (lenOf pd_0 rfl) rfl (by show 2 * 0 + _ ≤ _; exact Nat.le_of_eq rfl) (hb hby at_152) (fun _ _ => ⟨rfl, e66, (by decide : 3 + 0 ≤ _), (by decide : 1030 + 0 ≤ _)⟩)
      dsimp only [Pt.U, Pt.locs, Pt.cells, Pt.slots] at X70 l70 y70 z70 st70 hQ70
      subst l70 y70 z70
      obtain ⟨rfl, Nq70, eq70⟩ := hQ70
      have N70 := Fr.app N66 Nq70
      have g71 : own_Go p e below s₁ (entryFrame m #[(.int p0), (.int p1), (.long q0), (.long q1), (.long q2)] maxLocals) T70 (mkF m 155 #[iv p0, iv p1, .val (.long q0), .second, .val (.long q1), .second, .val (.long q2), .second, iv u0, iv u1, iv u2, iv ct, iv cn, rv bw, rv bs, rv bi, iv kk0, .unset, .unset, .unset, .unset, .unset] [(.int (own_hb G u1))]) := fun target kt => g69 target (st70 target kt)
      have g72 : own_Go p e below s₁ (entryFrame m #[(.int p0), (.int p1), (.long q0), (.long q1), (.long q2)] maxLocals) T70 (mkF m 157 #[iv p0, iv p1, .val (.long q0), .second, .val (.long q1), .second, .val (.long q2), .second, iv u0, iv u1, iv u2, iv ct, iv cn, rv bw, rv bs, rv bi, iv kk0, .unset, .unset, .unset, .unset, .unset] [(.int cn), (.int (own_hb G u1))]) := by
        intro target kt
        refine g71 target ?_
        refine XS.iload X70.here hx rfl (hb hby at_155) rfl ?_
        show Steps p.tables e below (T70.setTop (mkF m 157 #[iv p0, iv p1, .val (.long q0), .second, .val (.long q1), .second, .val (.long q2), .second, iv u0, iv u1, iv u2, iv ct, iv cn, rv bw, rv bs, rv bi, iv kk0, .unset, .unset, .unset, .unset, .unset] [(.int cn), (.int (own_hb G u1))])) target
        exact kt
      by_cases hc73 : (own_hb G u1) = cn
      · have g74 : own_Go p e below s₁ (entryFrame m #[(.int p0), (.int p1), (.long q0), (.long q1), (.long q2)] maxLocals) T70 (mkF m 165 #[iv p0, iv p1, .val (.long q0), .second, .val (.long q1), .second, .val (.long q2), .second, iv u0, iv u1, iv u2, iv ct, iv cn, rv bw, rv bs, rv bi, iv kk0, .unset, .unset, .unset, .unset, .unset] [(.int (1 : Int32))]) := by
          intro target kt
          refine g72 target ?_
          refine XS.icmpNo X70.here hx rfl (hb hby at_157) rfl (XT.ii_ne_f hc73) ?_
          show Steps p.tables e below (T70.setTop (mkF m 160 #[iv p0, iv p1, .val (.long q0), .second, .val (.long q1), .second, .val (.long q2), .second, iv u0, iv u1, iv u2, iv ct, iv cn, rv bw, rv bs, rv bi, iv kk0, .unset, .unset, .unset, .unset, .unset] [])) target
          refine XT.iconstV X70.here hx rfl (1 : Int32) (hb hby at_160) rfl ?_
          show Steps p.tables e below (T70.setTop (mkF m 161 #[iv p0, iv p1, .val (.long q0), .second, .val (.long q1), .second, .val (.long q2), .second, iv u0, iv u1, iv u2, iv ct, iv cn, rv bw, rv bs, rv bi, iv kk0, .unset, .unset, .unset, .unset, .unset] [(.int (1 : Int32))])) target
          refine XS.goto X70.here hx rfl (pc0 := 161) (pc' := 165) rfl (hb hby at_161) (by decide) (by decide) ?_
          show Steps p.tables e below (T70.setTop (mkF m 165 #[iv p0, iv p1, .val (.long q0), .second, .val (.long q1), .second, .val (.long q2), .second, iv u0, iv u1, iv u2, iv ct, iv cn, rv bw, rv bs, rv bi, iv kk0, .unset, .unset, .unset, .unset, .unset] [(.int (1 : Int32))])) target
          exact kt
        exact ⟨T70, _, (1 : Int32), X70, eq70, N70, (by simp only [if_pos hc68, if_pos hc73]), g74⟩
      · have g75 : own_Go p e below s₁ (entryFrame m #[(.int p0), (.int p1), (.long q0), (.long q1), (.long q2)] maxLocals) T70 (mkF m 165 #[iv p0, iv p1, .val (.long q0), .second, .val (.long q1), .second, .val (.long q2), .second, iv u0, iv u1, iv u2, iv ct, iv cn, rv bw, rv bs, rv bi, iv kk0, .unset, .unset, .unset, .unset, .unset] [(.int (0 : Int32))]) := by
          intro target kt
          refine g72 target ?_
          refine XS.icmpYes X70.here hx rfl (pc0 := 157) (pc' := 164) rfl (hb hby at_157) rfl (XT.ii_ne_t hc73) (by decide) (by decide) ?_
          show Steps p.tables e below (T70.setTop (mkF m 164 #[iv p0, iv p1, .val (.long q0), .second, .val (.long q1), .second, .val (.long q2), .second, iv u0, iv u1, iv u2, iv ct, iv cn, rv bw, rv bs, rv bi, iv kk0, .unset, .unset, .unset, .unset, .unset] [])) target
          refine XT.iconstV X70.here hx rfl (0 : Int32) (hb hby at_164) rfl ?_
          show Steps p.tables e below (T70.setTop (mkF m 165 #[iv p0, iv p1, .val (.long q0), .second, .val (.long q1), .second, .val (.long q2), .second, iv u0, iv u1, iv u2, iv ct, iv cn, rv bw, rv bs, rv bi, iv kk0, .unset, .unset, .unset, .unset, .unset] [(.int (0 : Int32))])) target
          exact kt
        exact ⟨T70, _, (0 : Int32), X70, eq70, N70, (by simp only [if_pos hc68, if_neg hc73]), g75⟩
    · have g76 : own_Go p e below s₁ (entryFrame m #[(.int p0), (.int p1), (.long q0), (.long q1), (.long q2)] maxLocals) T66 (mkF m 165 #[iv p0, iv p1, .val (.long q0), .second, .val (.long q1), .second, .val (.long q2), .second, iv u0, iv u1, iv u2, iv ct, iv cn, rv bw, rv bs, rv bi, iv kk0, .unset, .unset, .unset, .unset, .unset] [(.int (0 : Int32))]) := by
        intro target kt
        refine g67 target ?_
        refine XS.icmpYes X66.here hx rfl (pc0 := 145) (pc' := 164) rfl (hb hby at_145) rfl (XT.ii_le_t hc68) (by decide) (by decide) ?_
        show Steps p.tables e below (T66.setTop (mkF m 164 #[iv p0, iv p1, .val (.long q0), .second, .val (.long q1), .second, .val (.long q2), .second, iv u0, iv u1, iv u2, iv ct, iv cn, rv bw, rv bs, rv bi, iv kk0, .unset, .unset, .unset, .unset, .unset] [])) target
        refine XT.iconstV X66.here hx rfl (0 : Int32) (hb hby at_164) rfl ?_
        show Steps p.tables e below (T66.setTop (mkF m 165 #[iv p0, iv p1, .val (.long q0), .second, .val (.long q1), .second, .val (.long q2), .second, iv u0, iv u1, iv u2, iv ct, iv cn, rv bw, rv bs, rv bi, iv kk0, .unset, .unset, .unset, .unset, .unset] [(.int (0 : Int32))])) target
        exact kt
      exact ⟨T66, _, (0 : Int32), X66, e66, N66, (by simp only [if_neg hc68]), g76⟩
  have hkk1 := hm77
  obtain ⟨T88, L88, kk2, X88, e88, N88, hm88, g88⟩ : ∃ (T88 : State) (L88 : List Loc) (kk2 : Int32), Stand p l e room_1 s m #[(.int p0), (.int p1), (.long q0), (.long q1), (.long q2)] below meth c T88 L88 3 1030 ∧ T88.heap = h54 ∧ Fr n0 L88 ∧ (kk2 = (if (2 : Int32) < ct then (if (own_hb G u2) = cn then (1 : Int32) else (0 : Int32)) else (0 : Int32))) ∧ own_Go p e below s₁ (entryFrame m #[(.int p0), (.int p1), (.long q0), (.long q1), (.long q2)] maxLocals) T88 (mkF m 190 #[iv p0, iv p1, .val (.long q0), .second, .val (.long q1), .second, .val (.long q2), .second, iv u0, iv u1, iv u2, iv ct, iv cn, rv bw, rv bs, rv bi, iv kk0, iv kk1, .unset, .unset, .unset, .unset] [(.int kk2)]) := by
    have g78 : own_Go p e below s₁ (entryFrame m #[(.int p0), (.int p1), (.long q0), (.long q1), (.long q2)] maxLocals) T77 (mkF m 170 #[iv p0, iv p1, .val (.long q0), .second, .val (.long q1), .second, .val (.long q2), .second, iv u0, iv u1, iv u2, iv ct, iv cn, rv bw, rv bs, rv bi, iv kk0, iv kk1, .unset, .unset, .unset, .unset] [(.int (2 : Int32)), (.int ct)]) := by
      intro target kt
      refine g77 target ?_
      refine XS.istore X77.here hx rfl (hb hby at_165) rfl (l' := #[iv p0, iv p1, .val (.long q0), .second, .val (.long q1), .second, .val (.long q2), .second, iv u0, iv u1, iv u2, iv ct, iv cn, rv bw, rv bs, rv bi, iv kk0, iv kk1, .unset, .unset, .unset, .unset]) rfl ?_
      show Steps p.tables e below (T77.setTop (mkF m 167 #[iv p0, iv p1, .val (.long q0), .second, .val (.long q1), .second, .val (.long q2), .second, iv u0, iv u1, iv u2, iv ct, iv cn, rv bw, rv bs, rv bi, iv kk0, iv kk1, .unset, .unset, .unset, .unset] [])) target
      refine XS.iload X77.here hx rfl (hb hby at_167) rfl ?_
      show Steps p.tables e below (T77.setTop (mkF m 169 #[iv p0, iv p1, .val (.long q0), .second, .val (.long q1), .second, .val (.long q2), .second, iv u0, iv u1, iv u2, iv ct, iv cn, rv bw, rv bs, rv bi, iv kk0, iv kk1, .unset, .unset, .unset, .unset] [(.int ct)])) target
      refine XT.iconstV X77.here hx rfl (2 : Int32) (hb hby at_169) rfl ?_
      show Steps p.tables e below (T77.setTop (mkF m 170 #[iv p0, iv p1, .val (.long q0), .second, .val (.long q1), .second, .val (.long q2), .second, iv u0, iv u1, iv u2, iv ct, iv cn, rv bw, rv bs, rv bi, iv kk0, iv kk1, .unset, .unset, .unset, .unset] [(.int (2 : Int32)), (.int ct)])) target
      exact kt
    by_cases hc79 : (2 : Int32) < ct
    · have g80 : own_Go p e below s₁ (entryFrame m #[(.int p0), (.int p1), (.long q0), (.long q1), (.long q2)] maxLocals) T77 (mkF m 177 #[iv p0, iv p1, .val (.long q0), .second, .val (.long q1), .second, .val (.long q2), .second, iv u0, iv u1, iv u2, iv ct, iv cn, rv bw, rv bs, rv bi, iv kk0, iv kk1, .unset, .unset, .unset, .unset] [(.int u2), (.ref bw)]) := by
        intro target kt
        refine g78 target ?_
        refine XS.icmpNo X77.here hx rfl (hb hby at_170) rfl (XT.ii_le_f hc79) ?_
        show Steps p.tables e below (T77.setTop (mkF m 173 #[iv p0, iv p1, .val (.long q0), .second, .val (.long q1), .second, .val (.long q2), .second, iv u0, iv u1, iv u2, iv ct, iv cn, rv bw, rv bs, rv bi, iv kk0, iv kk1, .unset, .unset, .unset, .unset] [])) target
        refine XS.aload X77.here hx rfl (hb hby at_173) rfl rfl ?_
        show Steps p.tables e below (T77.setTop (mkF m 175 #[iv p0, iv p1, .val (.long q0), .second, .val (.long q1), .second, .val (.long q2), .second, iv u0, iv u1, iv u2, iv ct, iv cn, rv bw, rv bs, rv bi, iv kk0, iv kk1, .unset, .unset, .unset, .unset] [(.ref bw)])) target
        refine XS.iload X77.here hx rfl (hb hby at_175) rfl ?_
        show Steps p.tables e below (T77.setTop (mkF m 177 #[iv p0, iv p1, .val (.long q0), .second, .val (.long q1), .second, .val (.long q2), .second, iv u0, iv u1, iv u2, iv ct, iv cn, rv bw, rv bs, rv bi, iv kk0, iv kk1, .unset, .unset, .unset, .unset] [(.int u2), (.ref bw)])) target
        exact kt
      obtain ⟨_, _, ⟨T81, L81, k81, n81⟩, -, X81, ⟨Lc81, hQ81, l81, y81, z81⟩, st81⟩ := Jvm.LawKit.callS X77 hx (y := (⟨"com/example/bitloom/bitloom/BitmapContainerFilterPinLaw", "held", "([JI)Z"⟩ : MethodName)) hown (mvT hZ (hw _ (List.mem_of_getElem? (i := 7) rfl))) (mvT hZ (hw _ (List.mem_of_getElem? (i := 8) rfl))) (mvT hZ (hw _ (List.mem_of_getElem? (i := 9) rfl))) (mvT hZ (hw _ (List.mem_of_getElem? (i := 10) rfl))) (by decide) (backOf (W := 0) (rmH l Z a0 hw [] bw u2 G h54 n0 Z54 Vw c2) hZ (hw _ (List.mem_of_getElem? (i := 10) rfl)) (hw _ (List.mem_of_getElem? (i := 9) rfl)) (by decide) (by decide)) (g := (mkF m 177 #[iv p0, iv p1, .val (.long q0), .second, .val (.long q1), .second, .val (.long q2), .second, iv u0, iv u1, iv u2, iv ct, iv cn, rv bw, rv bs, rv bi, iv kk0, iv kk1, .unset, .unset, .unset, .unset] [(.int u2), (.ref bw)])) rfl (by rw [hml]; rfl) (argsL := [(.ref bw), (.int u2)]) (rest := []) (lenOf pd_0 rfl) rfl (by show 2 * 0 + _ ≤ _; exact Nat.le_of_eq rfl) (hb hby at_177) (fun _ _ => ⟨rfl, e77, (by decide : 3 + 0 ≤ _), (by decide : 1030 + 0 ≤ _)⟩)
      dsimp only [Pt.U, Pt.locs, Pt.cells, Pt.slots] at X81 l81 y81 z81 st81 hQ81
      subst l81 y81 z81
      obtain ⟨rfl, Nq81, eq81⟩ := hQ81
      have N81 := Fr.app N77 Nq81
      have g82 : own_Go p e below s₁ (entryFrame m #[(.int p0), (.int p1), (.long q0), (.long q1), (.long q2)] maxLocals) T81 (mkF m 180 #[iv p0, iv p1, .val (.long q0), .second, .val (.long q1), .second, .val (.long q2), .second, iv u0, iv u1, iv u2, iv ct, iv cn, rv bw, rv bs, rv bi, iv kk0, iv kk1, .unset, .unset, .unset, .unset] [(.int (own_hb G u2))]) := fun target kt => g80 target (st81 target kt)
      have g83 : own_Go p e below s₁ (entryFrame m #[(.int p0), (.int p1), (.long q0), (.long q1), (.long q2)] maxLocals) T81 (mkF m 182 #[iv p0, iv p1, .val (.long q0), .second, .val (.long q1), .second, .val (.long q2), .second, iv u0, iv u1, iv u2, iv ct, iv cn, rv bw, rv bs, rv bi, iv kk0, iv kk1, .unset, .unset, .unset, .unset] [(.int cn), (.int (own_hb G u2))]) := by
        intro target kt
        refine g82 target ?_
        refine XS.iload X81.here hx rfl (hb hby at_180) rfl ?_
        show Steps p.tables e below (T81.setTop (mkF m 182 #[iv p0, iv p1, .val (.long q0), .second, .val (.long q1), .second, .val (.long q2), .second, iv u0, iv u1, iv u2, iv ct, iv cn, rv bw, rv bs, rv bi, iv kk0, iv kk1, .unset, .unset, .unset, .unset] [(.int cn), (.int (own_hb G u2))])) target
        exact kt
      by_cases hc84 : (own_hb G u2) = cn
      · have g85 : own_Go p e below s₁ (entryFrame m #[(.int p0), (.int p1), (.long q0), (.long q1), (.long q2)] maxLocals) T81 (mkF m 190 #[iv p0, iv p1, .val (.long q0), .second, .val (.long q1), .second, .val (.long q2), .second, iv u0, iv u1, iv u2, iv ct, iv cn, rv bw, rv bs, rv bi, iv kk0, iv kk1, .unset, .unset, .unset, .unset] [(.int (1 : Int32))]) := by
          intro target kt
          refine g83 target ?_
          refine XS.icmpNo X81.here hx rfl (hb hby at_182) rfl (XT.ii_ne_f hc84) ?_
          show Steps p.tables e below (T81.setTop (mkF m 185 #[iv p0, iv p1, .val (.long q0), .second, .val (.long q1), .second, .val (.long q2), .second, iv u0, iv u1, iv u2, iv ct, iv cn, rv bw, rv bs, rv bi, iv kk0, iv kk1, .unset, .unset, .unset, .unset] [])) target
          refine XT.iconstV X81.here hx rfl (1 : Int32) (hb hby at_185) rfl ?_
          show Steps p.tables e below (T81.setTop (mkF m 186 #[iv p0, iv p1, .val (.long q0), .second, .val (.long q1), .second, .val (.long q2), .second, iv u0, iv u1, iv u2, iv ct, iv cn, rv bw, rv bs, rv bi, iv kk0, iv kk1, .unset, .unset, .unset, .unset] [(.int (1 : Int32))])) target
          refine XS.goto X81.here hx rfl (pc0 := 186) (pc' := 190) rfl (hb hby at_186) (by decide) (by decide) ?_
          show Steps p.tables e below (T81.setTop (mkF m 190 #[iv p0, iv p1, .val (.long q0), .second, .val (.long q1), .second, .val (.long q2), .second, iv u0, iv u1, iv u2, iv ct, iv cn, rv bw, rv bs, rv bi, iv kk0, iv kk1, .unset, .unset, .unset, .unset] [(.int (1 : Int32))])) target
          exact kt
        exact ⟨T81, _, (1 : Int32), X81, eq81, N81, (by simp only [if_pos hc79, if_pos hc84]), g85⟩
      · have g86 : own_Go p e below s₁ (entryFrame m #[(.int p0), (.int p1), (.long q0), (.long q1), (.long q2)] maxLocals) T81 (mkF m 190 #[iv p0, iv p1, .val (.long q0), .second, .val (.long q1), .second, .val (.long q2), .second, iv u0, iv u1, iv u2, iv ct, iv cn, rv bw, rv bs, rv bi, iv kk0, iv kk1, .unset, .unset, .unset, .unset] [(.int (0 : Int32))]) := by
          intro target kt
          refine g83 target ?_
          refine XS.icmpYes X81.here hx rfl (pc0 := 182) (pc' := 189) rfl (hb hby at_182) rfl (XT.ii_ne_t hc84) (by decide) (by decide) ?_
          show Steps p.tables e below (T81.setTop (mkF m 189 #[iv p0, iv p1, .val (.long q0), .second, .val (.long q1), .second, .val (.long q2), .second, iv u0, iv u1, iv u2, iv ct, iv cn, rv bw, rv bs, rv bi, iv kk0, iv kk1, .unset, .unset, .unset, .unset] [])) target
          refine XT.iconstV X81.here hx rfl (0 : Int32) (hb hby at_189) rfl ?_
          show Steps p.tables e below (T81.setTop (mkF m 190 #[iv p0, iv p1, .val (.long q0), .second, .val (.long q1), .second, .val (.long q2), .second, iv u0, iv u1, iv u2, iv ct, iv cn, rv bw, rv bs, rv bi, iv kk0, iv kk1, .unset, .unset, .unset, .unset] [(.int (0 : Int32))])) target
          exact kt
        exact ⟨T81, _, (0 : Int32), X81, eq81, N81, (by simp only [if_pos hc79, if_neg hc84]), g86⟩
    · have g87 : own_Go p e below s₁ (entryFrame m #[(.int p0), (.int p1), (.long q0), (.long q1), (.long q2)] maxLocals) T77 (mkF m 190 #[iv p0, iv p1, .val (.long q0), .second, .val (.long q1), .second, .val (.long q2), .second, iv u0, iv u1, iv u2, iv ct, iv cn, rv bw, rv bs, rv bi, iv kk0, iv kk1, .unset, .unset, .unset, .unset] [(.int (0 : Int32))]) := by
        intro target kt
        refine g78 target ?_
        refine XS.icmpYes X77.here hx rfl (pc0 := 170) (pc' := 189) rfl (hb hby at_170) rfl (XT.ii_le_t hc79) (by decide) (by decide) ?_
        show Steps p.tables e below (T77.setTop (mkF m 189 #[iv p0, iv p1, .val (.long q0), .second, .val (.long q1), .second, .val (.long q2), .second, iv u0, iv u1, iv u2, iv ct, iv cn, rv bw, rv bs, rv bi, iv kk0, iv kk1, .unset, .unset, .unset, .unset] [])) target
        refine XT.iconstV X77.here hx rfl (0 : Int32) (hb hby at_189) rfl ?_
        show Steps p.tables e below (T77.setTop (mkF m 190 #[iv p0, iv p1, .val (.long q0), .second, .val (.long q1), .second, .val (.long q2), .second, iv u0, iv u1, iv u2, iv ct, iv cn, rv bw, rv bs, rv bi, iv kk0, iv kk1, .unset, .unset, .unset, .unset] [(.int (0 : Int32))])) target
        exact kt
      exact ⟨T77, _, (0 : Int32), X77, e77, N77, (by simp only [if_neg hc79]), g87⟩
  have hkk2 := hm88
  obtain ⟨k, ek⟩ : ∃ k : Nat → Nat, k = own_k G C cn cnt := ⟨_, rfl⟩
  have hk : ∀ j, j < cnt → k j = (if own_hb G (C j) = cn then 1 else 0) := by rw [ek]; exact own_ks G C cn cnt
  have hz0 : kk0 = 0 ↔ k 0 = 0 := by rw [ek, hkk0, hct]; exact own_kz G C cn cnt hcnt 0 (by decide) u0 C0
  have ho0 : k 0 ≤ 1 := by rw [ek]; exact own_kle G C cn cnt 0
  have hz1 : kk1 = 0 ↔ k 1 = 0 := by rw [ek, hkk1, hct]; exact own_kz G C cn cnt hcnt 1 (by decide) u1 C1
  have ho1 : k 1 ≤ 1 := by rw [ek]; exact own_kle G C cn cnt 1
  have hz2 : kk2 = 0 ↔ k 2 = 0 := by rw [ek, hkk2, hct]; exact own_kz G C cn cnt hcnt 2 (by decide) u2 C2
  have ho2 : k 2 ≤ 1 := by rw [ek]; exact own_kle G C cn cnt 2
  have g89 : own_Go p e below s₁ (entryFrame m #[(.int p0), (.int p1), (.long q0), (.long q1), (.long q2)] maxLocals) T88 (mkF m 193 #[iv p0, iv p1, .val (.long q0), .second, .val (.long q1), .second, .val (.long q2), .second, iv u0, iv u1, iv u2, iv ct, iv cn, rv bw, rv bs, rv bi, iv kk0, iv kk1, iv kk2, .unset, .unset, .unset] [(.int (3 : Int32))]) := by
    intro target kt
    refine g88 target ?_
    refine XS.istore X88.here hx rfl (hb hby at_190) rfl (l' := #[iv p0, iv p1, .val (.long q0), .second, .val (.long q1), .second, .val (.long q2), .second, iv u0, iv u1, iv u2, iv ct, iv cn, rv bw, rv bs, rv bi, iv kk0, iv kk1, iv kk2, .unset, .unset, .unset]) rfl ?_
    show Steps p.tables e below (T88.setTop (mkF m 192 #[iv p0, iv p1, .val (.long q0), .second, .val (.long q1), .second, .val (.long q2), .second, iv u0, iv u1, iv u2, iv ct, iv cn, rv bw, rv bs, rv bi, iv kk0, iv kk1, iv kk2, .unset, .unset, .unset] [])) target
    refine XT.iconstV X88.here hx rfl (3 : Int32) (hb hby at_192) rfl ?_
    show Steps p.tables e below (T88.setTop (mkF m 193 #[iv p0, iv p1, .val (.long q0), .second, .val (.long q1), .second, .val (.long q2), .second, iv u0, iv u1, iv u2, iv ct, iv cn, rv bw, rv bs, rv bi, iv kk0, iv kk1, iv kk2, .unset, .unset, .unset] [(.int (3 : Int32))])) target
    exact kt
  obtain ⟨T90, h90, k90, X90, e90, E90, A90, st90⟩ := newP X88 hx hZ (hw _ (List.mem_of_getElem? (i := 2) rfl)) e88 (g := (mkF m 193 #[iv p0, iv p1, .val (.long q0), .second, .val (.long q1), .second, .val (.long q2), .second, iv u0, iv u1, iv u2, iv ct, iv cn, rv bw, rv bs, rv bi, iv kk0, iv kk1, iv kk2, .unset, .unset, .unset] [(.int (3 : Int32))])) rfl (hb hby at_193) rfl (by decide) (cap := 3) (by decide) (by decide) (by decide) (by decide)
  obtain ⟨be, ga90⟩ : ∃ z, z = h54.size := ⟨_, rfl⟩
  rw [← ga90] at A90 st90
  have Z90 : n0 ≤ h90.size := Nat.le_trans Z54 E90.1
  have g_be : n0 ≤ be := Nat.le_trans Z54 (Nat.le_of_eq ga90.symm)
  have g91 : own_Go p e below s₁ (entryFrame m #[(.int p0), (.int p1), (.long q0), (.long q1), (.long q2)] maxLocals) T90 (mkF m 195 #[iv p0, iv p1, .val (.long q0), .second, .val (.long q1), .second, .val (.long q2), .second, iv u0, iv u1, iv u2, iv ct, iv cn, rv bw, rv bs, rv bi, iv kk0, iv kk1, iv kk2, .unset, .unset, .unset] [(.ref be)]) := fun target kt => g89 target (st90 target kt)
  have nwe : bw ≠ be := Nat.ne_of_lt (Nat.lt_of_lt_of_le Vw.lt (Nat.le_of_eq ga90.symm))
  have nse : bs ≠ be := Nat.ne_of_lt (Nat.lt_of_lt_of_le Vs.lt (Nat.le_of_eq ga90.symm))
  have nie : bi ≠ be := Nat.ne_of_lt (Nat.lt_of_lt_of_le Vi.lt (Nat.le_of_eq ga90.symm))
  have Vw := Vw.ext E90
  have Vs := Vs.ext E90
  have Vi := Vi.ext E90
  have Ve : own_Ar Z h90 be .char 3 (fun j => .int ((own_ex C k 0).2 j)) := own_new A90 (by decide)
  have g92 : own_Go p e below s₁ (entryFrame m #[(.int p0), (.int p1), (.long q0), (.long q1), (.long q2)] maxLocals) T90 (mkF m 200 #[iv p0, iv p1, .val (.long q0), .second, .val (.long q1), .second, .val (.long q2), .second, iv u0, iv u1, iv u2, iv ct, iv cn, rv bw, rv bs, rv bi, iv kk0, iv kk1, iv kk2, rv be, iv (0 : Int32), .unset] []) := by
    intro target kt
    refine g91 target ?_
    refine XS.astore X90.here hx rfl (hb hby at_195) rfl rfl (l' := #[iv p0, iv p1, .val (.long q0), .second, .val (.long q1), .second, .val (.long q2), .second, iv u0, iv u1, iv u2, iv ct, iv cn, rv bw, rv bs, rv bi, iv kk0, iv kk1, iv kk2, rv be, .unset, .unset]) rfl ?_
    show Steps p.tables e below (T90.setTop (mkF m 197 #[iv p0, iv p1, .val (.long q0), .second, .val (.long q1), .second, .val (.long q2), .second, iv u0, iv u1, iv u2, iv ct, iv cn, rv bw, rv bs, rv bi, iv kk0, iv kk1, iv kk2, rv be, .unset, .unset] [])) target
    refine XT.iconstV X90.here hx rfl (0 : Int32) (hb hby at_197) rfl ?_
    show Steps p.tables e below (T90.setTop (mkF m 198 #[iv p0, iv p1, .val (.long q0), .second, .val (.long q1), .second, .val (.long q2), .second, iv u0, iv u1, iv u2, iv ct, iv cn, rv bw, rv bs, rv bi, iv kk0, iv kk1, iv kk2, rv be, .unset, .unset] [(.int (0 : Int32))])) target
    refine XS.istore X90.here hx rfl (hb hby at_198) rfl (l' := #[iv p0, iv p1, .val (.long q0), .second, .val (.long q1), .second, .val (.long q2), .second, iv u0, iv u1, iv u2, iv ct, iv cn, rv bw, rv bs, rv bi, iv kk0, iv kk1, iv kk2, rv be, iv (0 : Int32), .unset]) rfl ?_
    show Steps p.tables e below (T90.setTop (mkF m 200 #[iv p0, iv p1, .val (.long q0), .second, .val (.long q1), .second, .val (.long q2), .second, iv u0, iv u1, iv u2, iv ct, iv cn, rv bw, rv bs, rv bi, iv kk0, iv kk1, iv kk2, rv be, iv (0 : Int32), .unset] [])) target
    exact kt
  have hn0 : (0 : Int32) = (own_ex C k 0).1.toInt32 := rfl
  rw [hn0] at g92
  obtain ⟨T93, h93, L93, X93, e93, N93, Z93, Vw, Vs, Vi, Ve, g93⟩ : ∃ (T93 : State) (h93 : Heap) (L93 : List Loc), Stand p l e room_1 s m #[(.int p0), (.int p1), (.long q0), (.long q1), (.long q2)] below meth c T93 L93 4 1033 ∧ T93.heap = h93 ∧ Fr n0 L93 ∧ n0 ≤ h93.size ∧ own_Ar Z h93 bw .long 1024 (fun j => .long (G j)) ∧ own_Ar Z h93 bs .char 3 (fun j => .int (C j)) ∧ own_Ar Z h93 bi .char 3 (fun j => .int ((fun _ => (0 : Int32)) j)) ∧ own_Ar Z h93 be .char 3 (fun j => .int ((own_ex C k 1).2 j)) ∧ own_Go p e below s₁ (entryFrame m #[(.int p0), (.int p1), (.long q0), (.long q1), (.long q2)] maxLocals) T93 (mkF m 216 #[iv p0, iv p1, .val (.long q0), .second, .val (.long q1), .second, .val (.long q2), .second, iv u0, iv u1, iv u2, iv ct, iv cn, rv bw, rv bs, rv bi, iv kk0, iv kk1, iv kk2, rv be, iv (own_ex C k 1).1.toInt32, .unset] []) := by
    have g94 : own_Go p e below s₁ (entryFrame m #[(.int p0), (.int p1), (.long q0), (.long q1), (.long q2)] maxLocals) T90 (mkF m 202 #[iv p0, iv p1, .val (.long q0), .second, .val (.long q1), .second, .val (.long q2), .second, iv u0, iv u1, iv u2, iv ct, iv cn, rv bw, rv bs, rv bi, iv kk0, iv kk1, iv kk2, rv be, iv (own_ex C k 0).1.toInt32, .unset] [(.int kk0)]) := by
      intro target kt
      refine g92 target ?_
      refine XS.iload X90.here hx rfl (hb hby at_200) rfl ?_
      show Steps p.tables e below (T90.setTop (mkF m 202 #[iv p0, iv p1, .val (.long q0), .second, .val (.long q1), .second, .val (.long q2), .second, iv u0, iv u1, iv u2, iv ct, iv cn, rv bw, rv bs, rv bi, iv kk0, iv kk1, iv kk2, rv be, iv (own_ex C k 0).1.toInt32, .unset] [(.int kk0)])) target
      exact kt
    by_cases hb0 : kk0 = 0
    · have g95 : own_Go p e below s₁ (entryFrame m #[(.int p0), (.int p1), (.long q0), (.long q1), (.long q2)] maxLocals) T90 (mkF m 216 #[iv p0, iv p1, .val (.long q0), .second, .val (.long q1), .second, .val (.long q2), .second, iv u0, iv u1, iv u2, iv ct, iv cn, rv bw, rv bs, rv bi, iv kk0, iv kk1, iv kk2, rv be, iv (own_ex C k 0).1.toInt32, .unset] []) := by
        intro target kt
        refine g94 target ?_
        refine XS.ifYes X90.here hx rfl (pc0 := 202) (pc' := 216) rfl (hb hby at_202) rfl (XT.i0_eq_t hb0) (by decide) (by decide) ?_
        show Steps p.tables e below (T90.setTop (mkF m 216 #[iv p0, iv p1, .val (.long q0), .second, .val (.long q1), .second, .val (.long q2), .second, iv u0, iv u1, iv u2, iv ct, iv cn, rv bw, rv bs, rv bi, iv kk0, iv kk1, iv kk2, rv be, iv (own_ex C k 0).1.toInt32, .unset] [])) target
        exact kt
      have hs0 : own_ex C k 1 = own_ex C k 0 := own_ex0 C k 0 (hz0.mp hb0)
      rw [hs0]
      exact ⟨T90, h90, _, X90, e90, N88, Z90, Vw, Vs, Vi, Ve, g95⟩
    · have g96 : own_Go p e below s₁ (entryFrame m #[(.int p0), (.int p1), (.long q0), (.long q1), (.long q2)] maxLocals) T90 (mkF m 212 #[iv p0, iv p1, .val (.long q0), .second, .val (.long q1), .second, .val (.long q2), .second, iv u0, iv u1, iv u2, iv ct, iv cn, rv bw, rv bs, rv bi, iv kk0, iv kk1, iv kk2, rv be, iv (own_ex C k 0).1.toInt32, .unset] [(.int (u0.toUInt32.toUInt16.toUInt32.toInt32)), (.int (own_ex C k 0).1.toInt32), (.ref be)]) := by
        intro target kt
        refine g94 target ?_
        refine XS.ifNo X90.here hx rfl (hb hby at_202) rfl (XT.i0_eq_f hb0) ?_
        show Steps p.tables e below (T90.setTop (mkF m 205 #[iv p0, iv p1, .val (.long q0), .second, .val (.long q1), .second, .val (.long q2), .second, iv u0, iv u1, iv u2, iv ct, iv cn, rv bw, rv bs, rv bi, iv kk0, iv kk1, iv kk2, rv be, iv (own_ex C k 0).1.toInt32, .unset] [])) target
        refine XS.aload X90.here hx rfl (hb hby at_205) rfl rfl ?_
        show Steps p.tables e below (T90.setTop (mkF m 207 #[iv p0, iv p1, .val (.long q0), .second, .val (.long q1), .second, .val (.long q2), .second, iv u0, iv u1, iv u2, iv ct, iv cn, rv bw, rv bs, rv bi, iv kk0, iv kk1, iv kk2, rv be, iv (own_ex C k 0).1.toInt32, .unset] [(.ref be)])) target
        refine XS.iload X90.here hx rfl (hb hby at_207) rfl ?_
        show Steps p.tables e below (T90.setTop (mkF m 209 #[iv p0, iv p1, .val (.long q0), .second, .val (.long q1), .second, .val (.long q2), .second, iv u0, iv u1, iv u2, iv ct, iv cn, rv bw, rv bs, rv bi, iv kk0, iv kk1, iv kk2, rv be, iv (own_ex C k 0).1.toInt32, .unset] [(.int (own_ex C k 0).1.toInt32), (.ref be)])) target
        refine XS.iload X90.here hx rfl (hb hby at_209) rfl ?_
        show Steps p.tables e below (T90.setTop (mkF m 211 #[iv p0, iv p1, .val (.long q0), .second, .val (.long q1), .second, .val (.long q2), .second, iv u0, iv u1, iv u2, iv ct, iv cn, rv bw, rv bs, rv bi, iv kk0, iv kk1, iv kk2, rv be, iv (own_ex C k 0).1.toInt32, .unset] [(.int u0), (.int (own_ex C k 0).1.toInt32), (.ref be)])) target
        refine XT.i2c X90.here hx rfl (hb hby at_211) rfl ?_
        show Steps p.tables e below (T90.setTop (mkF m 212 #[iv p0, iv p1, .val (.long q0), .second, .val (.long q1), .second, .val (.long q2), .second, iv u0, iv u1, iv u2, iv ct, iv cn, rv bw, rv bs, rv bi, iv kk0, iv kk1, iv kk2, rv be, iv (own_ex C k 0).1.toInt32, .unset] [(.int (u0.toUInt32.toUInt16.toUInt32.toInt32)), (.int (own_ex C k 0).1.toInt32), (.ref be)])) target
        exact kt
      have hle : (own_ex C k 0).1 ≤ 0 := own_exle C k 0
      have hpt : (own_ex C k 0).1.toInt32.toNatClampNeg = (own_ex C k 0).1 := own_tn (by omega)
      obtain ⟨ce, Ae, Se, He⟩ := Ve
      obtain ⟨T97, h97, X97, e97, W97, st97⟩ := stC X90 hx hZ e90 Ae (j := (own_ex C k 0).1.toInt32) (own_inb Se hpt (own_nn (by omega)) (by omega)) (g := (mkF m 212 #[iv p0, iv p1, .val (.long q0), .second, .val (.long q1), .second, .val (.long q2), .second, iv u0, iv u1, iv u2, iv ct, iv cn, rv bw, rv bs, rv bi, iv kk0, iv kk1, iv kk2, rv be, iv (own_ex C k 0).1.toInt32, .unset] [(.int (u0.toUInt32.toUInt16.toUInt32.toInt32)), (.int (own_ex C k 0).1.toInt32), (.ref be)])) rfl rfl (hb hby at_212)
      have g98 : own_Go p e below s₁ (entryFrame m #[(.int p0), (.int p1), (.long q0), (.long q1), (.long q2)] maxLocals) T97 (mkF m 213 #[iv p0, iv p1, .val (.long q0), .second, .val (.long q1), .second, .val (.long q2), .second, iv u0, iv u1, iv u2, iv ct, iv cn, rv bw, rv bs, rv bi, iv kk0, iv kk1, iv kk2, rv be, iv (own_ex C k 0).1.toInt32, .unset] []) := fun target kt => g96 target (st97 target kt)
      have N97 := Fr.snoc X97 N88 g_be
      have Z97 : n0 ≤ h97.size := Nat.le_trans Z90 (Keep.of_wr W97).1
      rw [hpt, own_i2c c0, own_narc c0, ← C0] at W97
      have hone : k 0 = 1 := by have := ho0; have : k 0 ≠ 0 := fun h => hb0 (hz0.mpr h); omega
      have Ve := own_congr (own_set Ae Se He W97 (by omega)) (fun j _ => own_ex1 C k 0 hone j)
      have g99 : own_Go p e below s₁ (entryFrame m #[(.int p0), (.int p1), (.long q0), (.long q1), (.long q2)] maxLocals) T97 (mkF m 216 #[iv p0, iv p1, .val (.long q0), .second, .val (.long q1), .second, .val (.long q2), .second, iv u0, iv u1, iv u2, iv ct, iv cn, rv bw, rv bs, rv bi, iv kk0, iv kk1, iv kk2, rv be, iv ((own_ex C k 0).1.toInt32 + (1 : Int32)), .unset] []) := by
        intro target kt
        refine g98 target ?_
        refine XT.iincV X97.here hx rfl (1 : Int32) (hb hby at_213) rfl rfl (l' := #[iv p0, iv p1, .val (.long q0), .second, .val (.long q1), .second, .val (.long q2), .second, iv u0, iv u1, iv u2, iv ct, iv cn, rv bw, rv bs, rv bi, iv kk0, iv kk1, iv kk2, rv be, iv ((own_ex C k 0).1.toInt32 + (1 : Int32)), .unset]) rfl ?_
        show Steps p.tables e below (T97.setTop (mkF m 216 #[iv p0, iv p1, .val (.long q0), .second, .val (.long q1), .second, .val (.long q2), .second, iv u0, iv u1, iv u2, iv ct, iv cn, rv bw, rv bs, rv bi, iv kk0, iv kk1, iv kk2, rv be, iv ((own_ex C k 0).1.toInt32 + (1 : Int32)), .unset] [])) target
        exact kt
      rw [own_one, ← own_exs C k 0 hone] at g99
      exact ⟨T97, h97, _, X97, e97, N97, Z97, Vw.other W97 nwe, Vs.other W97 nse, Vi.other W97 nie, Ve, g99⟩
  obtain ⟨T100, h100, L100, X100, e100, N100, Z100, Vw, Vs, Vi, Ve, g100⟩ : ∃ (T100 : State) (h100 : Heap) (L100 : List Loc), Stand p l e room_1 s m #[(.int p0), (.int p1), (.long q0), (.long q1), (.long q2)] below meth c T100 L100 4 1033 ∧ T100.heap = h100 ∧ Fr n0 L100 ∧ n0 ≤ h100.size ∧ own_Ar Z h100 bw .long 1024 (fun j => .long (G j)) ∧ own_Ar Z h100 bs .char 3 (fun j => .int (C j)) ∧ own_Ar Z h100 bi .char 3 (fun j => .int ((fun _ => (0 : Int32)) j)) ∧ own_Ar Z h100 be .char 3 (fun j => .int ((own_ex C k 2).2 j)) ∧ own_Go p e below s₁ (entryFrame m #[(.int p0), (.int p1), (.long q0), (.long q1), (.long q2)] maxLocals) T100 (mkF m 232 #[iv p0, iv p1, .val (.long q0), .second, .val (.long q1), .second, .val (.long q2), .second, iv u0, iv u1, iv u2, iv ct, iv cn, rv bw, rv bs, rv bi, iv kk0, iv kk1, iv kk2, rv be, iv (own_ex C k 2).1.toInt32, .unset] []) := by
    have g101 : own_Go p e below s₁ (entryFrame m #[(.int p0), (.int p1), (.long q0), (.long q1), (.long q2)] maxLocals) T93 (mkF m 218 #[iv p0, iv p1, .val (.long q0), .second, .val (.long q1), .second, .val (.long q2), .second, iv u0, iv u1, iv u2, iv ct, iv cn, rv bw, rv bs, rv bi, iv kk0, iv kk1, iv kk2, rv be, iv (own_ex C k 1).1.toInt32, .unset] [(.int kk1)]) := by
      intro target kt
      refine g93 target ?_
      refine XS.iload X93.here hx rfl (hb hby at_216) rfl ?_
      show Steps p.tables e below (T93.setTop (mkF m 218 #[iv p0, iv p1, .val (.long q0), .second, .val (.long q1), .second, .val (.long q2), .second, iv u0, iv u1, iv u2, iv ct, iv cn, rv bw, rv bs, rv bi, iv kk0, iv kk1, iv kk2, rv be, iv (own_ex C k 1).1.toInt32, .unset] [(.int kk1)])) target
      exact kt
    by_cases hb1 : kk1 = 0
    · have g102 : own_Go p e below s₁ (entryFrame m #[(.int p0), (.int p1), (.long q0), (.long q1), (.long q2)] maxLocals) T93 (mkF m 232 #[iv p0, iv p1, .val (.long q0), .second, .val (.long q1), .second, .val (.long q2), .second, iv u0, iv u1, iv u2, iv ct, iv cn, rv bw, rv bs, rv bi, iv kk0, iv kk1, iv kk2, rv be, iv (own_ex C k 1).1.toInt32, .unset] []) := by
        intro target kt
        refine g101 target ?_
        refine XS.ifYes X93.here hx rfl (pc0 := 218) (pc' := 232) rfl (hb hby at_218) rfl (XT.i0_eq_t hb1) (by decide) (by decide) ?_
        show Steps p.tables e below (T93.setTop (mkF m 232 #[iv p0, iv p1, .val (.long q0), .second, .val (.long q1), .second, .val (.long q2), .second, iv u0, iv u1, iv u2, iv ct, iv cn, rv bw, rv bs, rv bi, iv kk0, iv kk1, iv kk2, rv be, iv (own_ex C k 1).1.toInt32, .unset] [])) target
        exact kt
      have hs1 : own_ex C k 2 = own_ex C k 1 := own_ex0 C k 1 (hz1.mp hb1)
      rw [hs1]
      exact ⟨T93, h93, _, X93, e93, N93, Z93, Vw, Vs, Vi, Ve, g102⟩
    · have g103 : own_Go p e below s₁ (entryFrame m #[(.int p0), (.int p1), (.long q0), (.long q1), (.long q2)] maxLocals) T93 (mkF m 228 #[iv p0, iv p1, .val (.long q0), .second, .val (.long q1), .second, .val (.long q2), .second, iv u0, iv u1, iv u2, iv ct, iv cn, rv bw, rv bs, rv bi, iv kk0, iv kk1, iv kk2, rv be, iv (own_ex C k 1).1.toInt32, .unset] [(.int (u1.toUInt32.toUInt16.toUInt32.toInt32)), (.int (own_ex C k 1).1.toInt32), (.ref be)]) := by
        intro target kt
        refine g101 target ?_
        refine XS.ifNo X93.here hx rfl (hb hby at_218) rfl (XT.i0_eq_f hb1) ?_
        show Steps p.tables e below (T93.setTop (mkF m 221 #[iv p0, iv p1, .val (.long q0), .second, .val (.long q1), .second, .val (.long q2), .second, iv u0, iv u1, iv u2, iv ct, iv cn, rv bw, rv bs, rv bi, iv kk0, iv kk1, iv kk2, rv be, iv (own_ex C k 1).1.toInt32, .unset] [])) target
        refine XS.aload X93.here hx rfl (hb hby at_221) rfl rfl ?_
        show Steps p.tables e below (T93.setTop (mkF m 223 #[iv p0, iv p1, .val (.long q0), .second, .val (.long q1), .second, .val (.long q2), .second, iv u0, iv u1, iv u2, iv ct, iv cn, rv bw, rv bs, rv bi, iv kk0, iv kk1, iv kk2, rv be, iv (own_ex C k 1).1.toInt32, .unset] [(.ref be)])) target
        refine XS.iload X93.here hx rfl (hb hby at_223) rfl ?_
        show Steps p.tables e below (T93.setTop (mkF m 225 #[iv p0, iv p1, .val (.long q0), .second, .val (.long q1), .second, .val (.long q2), .second, iv u0, iv u1, iv u2, iv ct, iv cn, rv bw, rv bs, rv bi, iv kk0, iv kk1, iv kk2, rv be, iv (own_ex C k 1).1.toInt32, .unset] [(.int (own_ex C k 1).1.toInt32), (.ref be)])) target
        refine XS.iload X93.here hx rfl (hb hby at_225) rfl ?_
        show Steps p.tables e below (T93.setTop (mkF m 227 #[iv p0, iv p1, .val (.long q0), .second, .val (.long q1), .second, .val (.long q2), .second, iv u0, iv u1, iv u2, iv ct, iv cn, rv bw, rv bs, rv bi, iv kk0, iv kk1, iv kk2, rv be, iv (own_ex C k 1).1.toInt32, .unset] [(.int u1), (.int (own_ex C k 1).1.toInt32), (.ref be)])) target
        refine XT.i2c X93.here hx rfl (hb hby at_227) rfl ?_
        show Steps p.tables e below (T93.setTop (mkF m 228 #[iv p0, iv p1, .val (.long q0), .second, .val (.long q1), .second, .val (.long q2), .second, iv u0, iv u1, iv u2, iv ct, iv cn, rv bw, rv bs, rv bi, iv kk0, iv kk1, iv kk2, rv be, iv (own_ex C k 1).1.toInt32, .unset] [(.int (u1.toUInt32.toUInt16.toUInt32.toInt32)), (.int (own_ex C k 1).1.toInt32), (.ref be)])) target
        exact kt
      have hle : (own_ex C k 1).1 ≤ 1 := own_exle C k 1
      have hpt : (own_ex C k 1).1.toInt32.toNatClampNeg = (own_ex C k 1).1 := own_tn (by omega)
      obtain ⟨ce, Ae, Se, He⟩ := Ve
      obtain ⟨T104, h104, X104, e104, W104, st104⟩ := stC X93 hx hZ e93 Ae (j := (own_ex C k 1).1.toInt32) (own_inb Se hpt (own_nn (by omega)) (by omega)) (g := (mkF m 228 #[iv p0, iv p1, .val (.long q0), .second, .val (.long q1), .second, .val (.long q2), .second, iv u0, iv u1, iv u2, iv ct, iv cn, rv bw, rv bs, rv bi, iv kk0, iv kk1, iv kk2, rv be, iv (own_ex C k 1).1.toInt32, .unset] [(.int (u1.toUInt32.toUInt16.toUInt32.toInt32)), (.int (own_ex C k 1).1.toInt32), (.ref be)])) rfl rfl (hb hby at_228)
      have g105 : own_Go p e below s₁ (entryFrame m #[(.int p0), (.int p1), (.long q0), (.long q1), (.long q2)] maxLocals) T104 (mkF m 229 #[iv p0, iv p1, .val (.long q0), .second, .val (.long q1), .second, .val (.long q2), .second, iv u0, iv u1, iv u2, iv ct, iv cn, rv bw, rv bs, rv bi, iv kk0, iv kk1, iv kk2, rv be, iv (own_ex C k 1).1.toInt32, .unset] []) := fun target kt => g103 target (st104 target kt)
      have N104 := Fr.snoc X104 N93 g_be
      have Z104 : n0 ≤ h104.size := Nat.le_trans Z93 (Keep.of_wr W104).1
      rw [hpt, own_i2c c1, own_narc c1, ← C1] at W104
      have hone : k 1 = 1 := by have := ho1; have : k 1 ≠ 0 := fun h => hb1 (hz1.mpr h); omega
      have Ve := own_congr (own_set Ae Se He W104 (by omega)) (fun j _ => own_ex1 C k 1 hone j)
      have g106 : own_Go p e below s₁ (entryFrame m #[(.int p0), (.int p1), (.long q0), (.long q1), (.long q2)] maxLocals) T104 (mkF m 232 #[iv p0, iv p1, .val (.long q0), .second, .val (.long q1), .second, .val (.long q2), .second, iv u0, iv u1, iv u2, iv ct, iv cn, rv bw, rv bs, rv bi, iv kk0, iv kk1, iv kk2, rv be, iv ((own_ex C k 1).1.toInt32 + (1 : Int32)), .unset] []) := by
        intro target kt
        refine g105 target ?_
        refine XT.iincV X104.here hx rfl (1 : Int32) (hb hby at_229) rfl rfl (l' := #[iv p0, iv p1, .val (.long q0), .second, .val (.long q1), .second, .val (.long q2), .second, iv u0, iv u1, iv u2, iv ct, iv cn, rv bw, rv bs, rv bi, iv kk0, iv kk1, iv kk2, rv be, iv ((own_ex C k 1).1.toInt32 + (1 : Int32)), .unset]) rfl ?_
        show Steps p.tables e below (T104.setTop (mkF m 232 #[iv p0, iv p1, .val (.long q0), .second, .val (.long q1), .second, .val (.long q2), .second, iv u0, iv u1, iv u2, iv ct, iv cn, rv bw, rv bs, rv bi, iv kk0, iv kk1, iv kk2, rv be, iv ((own_ex C k 1).1.toInt32 + (1 : Int32)), .unset] [])) target
        exact kt
      rw [own_one, ← own_exs C k 1 hone] at g106
      exact ⟨T104, h104, _, X104, e104, N104, Z104, Vw.other W104 nwe, Vs.other W104 nse, Vi.other W104 nie, Ve, g106⟩
  obtain ⟨T107, h107, L107, X107, e107, N107, Z107, Vw, Vs, Vi, Ve, g107⟩ : ∃ (T107 : State) (h107 : Heap) (L107 : List Loc), Stand p l e room_1 s m #[(.int p0), (.int p1), (.long q0), (.long q1), (.long q2)] below meth c T107 L107 4 1033 ∧ T107.heap = h107 ∧ Fr n0 L107 ∧ n0 ≤ h107.size ∧ own_Ar Z h107 bw .long 1024 (fun j => .long (G j)) ∧ own_Ar Z h107 bs .char 3 (fun j => .int (C j)) ∧ own_Ar Z h107 bi .char 3 (fun j => .int ((fun _ => (0 : Int32)) j)) ∧ own_Ar Z h107 be .char 3 (fun j => .int ((own_ex C k 3).2 j)) ∧ own_Go p e below s₁ (entryFrame m #[(.int p0), (.int p1), (.long q0), (.long q1), (.long q2)] maxLocals) T107 (mkF m 248 #[iv p0, iv p1, .val (.long q0), .second, .val (.long q1), .second, .val (.long q2), .second, iv u0, iv u1, iv u2, iv ct, iv cn, rv bw, rv bs, rv bi, iv kk0, iv kk1, iv kk2, rv be, iv (own_ex C k 3).1.toInt32, .unset] []) := by
    have g108 : own_Go p e below s₁ (entryFrame m #[(.int p0), (.int p1), (.long q0), (.long q1), (.long q2)] maxLocals) T100 (mkF m 234 #[iv p0, iv p1, .val (.long q0), .second, .val (.long q1), .second, .val (.long q2), .second, iv u0, iv u1, iv u2, iv ct, iv cn, rv bw, rv bs, rv bi, iv kk0, iv kk1, iv kk2, rv be, iv (own_ex C k 2).1.toInt32, .unset] [(.int kk2)]) := by
      intro target kt
      refine g100 target ?_
      refine XS.iload X100.here hx rfl (hb hby at_232) rfl ?_
      show Steps p.tables e below (T100.setTop (mkF m 234 #[iv p0, iv p1, .val (.long q0), .second, .val (.long q1), .second, .val (.long q2), .second, iv u0, iv u1, iv u2, iv ct, iv cn, rv bw, rv bs, rv bi, iv kk0, iv kk1, iv kk2, rv be, iv (own_ex C k 2).1.toInt32, .unset] [(.int kk2)])) target
      exact kt
    by_cases hb2 : kk2 = 0
    · have g109 : own_Go p e below s₁ (entryFrame m #[(.int p0), (.int p1), (.long q0), (.long q1), (.long q2)] maxLocals) T100 (mkF m 248 #[iv p0, iv p1, .val (.long q0), .second, .val (.long q1), .second, .val (.long q2), .second, iv u0, iv u1, iv u2, iv ct, iv cn, rv bw, rv bs, rv bi, iv kk0, iv kk1, iv kk2, rv be, iv (own_ex C k 2).1.toInt32, .unset] []) := by
        intro target kt
        refine g108 target ?_
        refine XS.ifYes X100.here hx rfl (pc0 := 234) (pc' := 248) rfl (hb hby at_234) rfl (XT.i0_eq_t hb2) (by decide) (by decide) ?_
        show Steps p.tables e below (T100.setTop (mkF m 248 #[iv p0, iv p1, .val (.long q0), .second, .val (.long q1), .second, .val (.long q2), .second, iv u0, iv u1, iv u2, iv ct, iv cn, rv bw, rv bs, rv bi, iv kk0, iv kk1, iv kk2, rv be, iv (own_ex C k 2).1.toInt32, .unset] [])) target
        exact kt
      have hs2 : own_ex C k 3 = own_ex C k 2 := own_ex0 C k 2 (hz2.mp hb2)
      rw [hs2]
      exact ⟨T100, h100, _, X100, e100, N100, Z100, Vw, Vs, Vi, Ve, g109⟩
    · have g110 : own_Go p e below s₁ (entryFrame m #[(.int p0), (.int p1), (.long q0), (.long q1), (.long q2)] maxLocals) T100 (mkF m 244 #[iv p0, iv p1, .val (.long q0), .second, .val (.long q1), .second, .val (.long q2), .second, iv u0, iv u1, iv u2, iv ct, iv cn, rv bw, rv bs, rv bi, iv kk0, iv kk1, iv kk2, rv be, iv (own_ex C k 2).1.toInt32, .unset] [(.int (u2.toUInt32.toUInt16.toUInt32.toInt32)), (.int (own_ex C k 2).1.toInt32), (.ref be)]) := by
        intro target kt
        refine g108 target ?_
        refine XS.ifNo X100.here hx rfl (hb hby at_234) rfl (XT.i0_eq_f hb2) ?_
        show Steps p.tables e below (T100.setTop (mkF m 237 #[iv p0, iv p1, .val (.long q0), .second, .val (.long q1), .second, .val (.long q2), .second, iv u0, iv u1, iv u2, iv ct, iv cn, rv bw, rv bs, rv bi, iv kk0, iv kk1, iv kk2, rv be, iv (own_ex C k 2).1.toInt32, .unset] [])) target
        refine XS.aload X100.here hx rfl (hb hby at_237) rfl rfl ?_
        show Steps p.tables e below (T100.setTop (mkF m 239 #[iv p0, iv p1, .val (.long q0), .second, .val (.long q1), .second, .val (.long q2), .second, iv u0, iv u1, iv u2, iv ct, iv cn, rv bw, rv bs, rv bi, iv kk0, iv kk1, iv kk2, rv be, iv (own_ex C k 2).1.toInt32, .unset] [(.ref be)])) target
        refine XS.iload X100.here hx rfl (hb hby at_239) rfl ?_
        show Steps p.tables e below (T100.setTop (mkF m 241 #[iv p0, iv p1, .val (.long q0), .second, .val (.long q1), .second, .val (.long q2), .second, iv u0, iv u1, iv u2, iv ct, iv cn, rv bw, rv bs, rv bi, iv kk0, iv kk1, iv kk2, rv be, iv (own_ex C k 2).1.toInt32, .unset] [(.int (own_ex C k 2).1.toInt32), (.ref be)])) target
        refine XS.iload X100.here hx rfl (hb hby at_241) rfl ?_
        show Steps p.tables e below (T100.setTop (mkF m 243 #[iv p0, iv p1, .val (.long q0), .second, .val (.long q1), .second, .val (.long q2), .second, iv u0, iv u1, iv u2, iv ct, iv cn, rv bw, rv bs, rv bi, iv kk0, iv kk1, iv kk2, rv be, iv (own_ex C k 2).1.toInt32, .unset] [(.int u2), (.int (own_ex C k 2).1.toInt32), (.ref be)])) target
        refine XT.i2c X100.here hx rfl (hb hby at_243) rfl ?_
        show Steps p.tables e below (T100.setTop (mkF m 244 #[iv p0, iv p1, .val (.long q0), .second, .val (.long q1), .second, .val (.long q2), .second, iv u0, iv u1, iv u2, iv ct, iv cn, rv bw, rv bs, rv bi, iv kk0, iv kk1, iv kk2, rv be, iv (own_ex C k 2).1.toInt32, .unset] [(.int (u2.toUInt32.toUInt16.toUInt32.toInt32)), (.int (own_ex C k 2).1.toInt32), (.ref be)])) target
        exact kt
      have hle : (own_ex C k 2).1 ≤ 2 := own_exle C k 2
      have hpt : (own_ex C k 2).1.toInt32.toNatClampNeg = (own_ex C k 2).1 := own_tn (by omega)
      obtain ⟨ce, Ae, Se, He⟩ := Ve
      obtain ⟨T111, h111, X111, e111, W111, st111⟩ := stC X100 hx hZ e100 Ae (j := (own_ex C k 2).1.toInt32) (own_inb Se hpt (own_nn (by omega)) (by omega)) (g := (mkF m 244 #[iv p0, iv p1, .val (.long q0), .second, .val (.long q1), .second, .val (.long q2), .second, iv u0, iv u1, iv u2, iv ct, iv cn, rv bw, rv bs, rv bi, iv kk0, iv kk1, iv kk2, rv be, iv (own_ex C k 2).1.toInt32, .unset] [(.int (u2.toUInt32.toUInt16.toUInt32.toInt32)), (.int (own_ex C k 2).1.toInt32), (.ref be)])) rfl rfl (hb hby at_244)
      have g112 : own_Go p e below s₁ (entryFrame m #[(.int p0), (.int p1), (.long q0), (.long q1), (.long q2)] maxLocals) T111 (mkF m 245 #[iv p0, iv p1, .val (.long q0), .second, .val (.long q1), .second, .val (.long q2), .second, iv u0, iv u1, iv u2, iv ct, iv cn, rv bw, rv bs, rv bi, iv kk0, iv kk1, iv kk2, rv be, iv (own_ex C k 2).1.toInt32, .unset] []) := fun target kt => g110 target (st111 target kt)
      have N111 := Fr.snoc X111 N100 g_be
      have Z111 : n0 ≤ h111.size := Nat.le_trans Z100 (Keep.of_wr W111).1
      rw [hpt, own_i2c c2, own_narc c2, ← C2] at W111
      have hone : k 2 = 1 := by have := ho2; have : k 2 ≠ 0 := fun h => hb2 (hz2.mpr h); omega
      have Ve := own_congr (own_set Ae Se He W111 (by omega)) (fun j _ => own_ex1 C k 2 hone j)
      have g113 : own_Go p e below s₁ (entryFrame m #[(.int p0), (.int p1), (.long q0), (.long q1), (.long q2)] maxLocals) T111 (mkF m 248 #[iv p0, iv p1, .val (.long q0), .second, .val (.long q1), .second, .val (.long q2), .second, iv u0, iv u1, iv u2, iv ct, iv cn, rv bw, rv bs, rv bi, iv kk0, iv kk1, iv kk2, rv be, iv ((own_ex C k 2).1.toInt32 + (1 : Int32)), .unset] []) := by
        intro target kt
        refine g112 target ?_
        refine XT.iincV X111.here hx rfl (1 : Int32) (hb hby at_245) rfl rfl (l' := #[iv p0, iv p1, .val (.long q0), .second, .val (.long q1), .second, .val (.long q2), .second, iv u0, iv u1, iv u2, iv ct, iv cn, rv bw, rv bs, rv bi, iv kk0, iv kk1, iv kk2, rv be, iv ((own_ex C k 2).1.toInt32 + (1 : Int32)), .unset]) rfl ?_
        show Steps p.tables e below (T111.setTop (mkF m 248 #[iv p0, iv p1, .val (.long q0), .second, .val (.long q1), .second, .val (.long q2), .second, iv u0, iv u1, iv u2, iv ct, iv cn, rv bw, rv bs, rv bi, iv kk0, iv kk1, iv kk2, rv be, iv ((own_ex C k 2).1.toInt32 + (1 : Int32)), .unset] [])) target
        exact kt
      rw [own_one, ← own_exs C k 2 hone] at g113
      exact ⟨T111, h111, _, X111, e111, N111, Z111, Vw.other W111 nwe, Vs.other W111 nse, Vi.other W111 nie, Ve, g113⟩
  have g114 : own_Go p e below s₁ (entryFrame m #[(.int p0), (.int p1), (.long q0), (.long q1), (.long q2)] maxLocals) T107 (mkF m 258 #[iv p0, iv p1, .val (.long q0), .second, .val (.long q1), .second, .val (.long q2), .second, iv u0, iv u1, iv u2, iv ct, iv cn, rv bw, rv bs, rv bi, iv kk0, iv kk1, iv kk2, rv be, iv (own_ex C k 3).1.toInt32, .unset] [(.ref bi), (.int cn), (.int ct), (.ref bs), (.ref bw)]) := by
    intro target kt
    refine g107 target ?_
    refine XS.aload X107.here hx rfl (hb hby at_248) rfl rfl ?_
    show Steps p.tables e below (T107.setTop (mkF m 250 #[iv p0, iv p1, .val (.long q0), .second, .val (.long q1), .second, .val (.long q2), .second, iv u0, iv u1, iv u2, iv ct, iv cn, rv bw, rv bs, rv bi, iv kk0, iv kk1, iv kk2, rv be, iv (own_ex C k 3).1.toInt32, .unset] [(.ref bw)])) target
    refine XS.aload X107.here hx rfl (hb hby at_250) rfl rfl ?_
    show Steps p.tables e below (T107.setTop (mkF m 252 #[iv p0, iv p1, .val (.long q0), .second, .val (.long q1), .second, .val (.long q2), .second, iv u0, iv u1, iv u2, iv ct, iv cn, rv bw, rv bs, rv bi, iv kk0, iv kk1, iv kk2, rv be, iv (own_ex C k 3).1.toInt32, .unset] [(.ref bs), (.ref bw)])) target
    refine XS.iload X107.here hx rfl (hb hby at_252) rfl ?_
    show Steps p.tables e below (T107.setTop (mkF m 254 #[iv p0, iv p1, .val (.long q0), .second, .val (.long q1), .second, .val (.long q2), .second, iv u0, iv u1, iv u2, iv ct, iv cn, rv bw, rv bs, rv bi, iv kk0, iv kk1, iv kk2, rv be, iv (own_ex C k 3).1.toInt32, .unset] [(.int ct), (.ref bs), (.ref bw)])) target
    refine XS.iload X107.here hx rfl (hb hby at_254) rfl ?_
    show Steps p.tables e below (T107.setTop (mkF m 256 #[iv p0, iv p1, .val (.long q0), .second, .val (.long q1), .second, .val (.long q2), .second, iv u0, iv u1, iv u2, iv ct, iv cn, rv bw, rv bs, rv bi, iv kk0, iv kk1, iv kk2, rv be, iv (own_ex C k 3).1.toInt32, .unset] [(.int cn), (.int ct), (.ref bs), (.ref bw)])) target
    refine XS.aload X107.here hx rfl (hb hby at_256) rfl rfl ?_
    show Steps p.tables e below (T107.setTop (mkF m 258 #[iv p0, iv p1, .val (.long q0), .second, .val (.long q1), .second, .val (.long q2), .second, iv u0, iv u1, iv u2, iv ct, iv cn, rv bw, rv bs, rv bi, iv kk0, iv kk1, iv kk2, rv be, iv (own_ex C k 3).1.toInt32, .unset] [(.ref bi), (.int cn), (.int ct), (.ref bs), (.ref bw)])) target
    exact kt
  obtain ⟨_, _, ⟨T115, L115, k115, n115⟩, -, X115, ⟨Lc115, hQ115, l115, y115, z115⟩, st115⟩ := Jvm.LawKit.callS X107 hx (y := (⟨"com/example/bitloom/bitloom/BitmapContainer", "filter", "([J[CIZ[C)I"⟩ : MethodName)) hown (mvT hZ (hw _ (List.mem_of_getElem? (i := 3) rfl))) (mvT hZ (hw _ (List.mem_of_getElem? (i := 4) rfl))) (mvT hZ (hw _ (List.mem_of_getElem? (i := 5) rfl))) (mvT hZ (hw _ (List.mem_of_getElem? (i := 6) rfl))) (by decide) (backOf (W := 0) (rmF l Z a0 hw [] bw bs ct cn bi G C (fun _ => (0 : Int32)) cnt k h107 n0 Z107 Vw Vs Vi hC hcnt hct hk hcn nwi nsi g_bi) hZ (hw _ (List.mem_of_getElem? (i := 6) rfl)) (hw _ (List.mem_of_getElem? (i := 5) rfl)) (by decide) (by decide)) (g := (mkF m 258 #[iv p0, iv p1, .val (.long q0), .second, .val (.long q1), .second, .val (.long q2), .second, iv u0, iv u1, iv u2, iv ct, iv cn, rv bw, rv bs, rv bi, iv kk0, iv kk1, iv kk2, rv be, iv (own_ex C k 3).1.toInt32, .unset] [(.ref bi), (.int cn), (.int ct), (.ref bs), (.ref bw)])) rfl (by rw [hml]; rfl) (argsL := [(.ref bw), (.ref bs), (.int ct), (.int cn), (.ref bi)]) (rest := []) (lenOf pd_1 rfl) rfl (by show 2 * 0 + _ ≤ _; exact Nat.le_of_eq rfl) (hb hby at_258) (fun _ _ => ⟨rfl, e107, (by decide : 4 + 0 ≤ _), (by decide : 1033 + 0 ≤ _)⟩)
  dsimp only [Pt.U, Pt.locs, Pt.cells, Pt.slots] at X115 l115 y115 z115 st115 hQ115
  subst l115 y115 z115
  obtain ⟨rfl, Nq115, K115, Vf⟩ := hQ115
  have N115 := Fr.app N107 Nq115
  have g116 : own_Go p e below s₁ (entryFrame m #[(.int p0), (.int p1), (.long q0), (.long q1), (.long q2)] maxLocals) T115 (mkF m 261 #[iv p0, iv p1, .val (.long q0), .second, .val (.long q1), .second, .val (.long q2), .second, iv u0, iv u1, iv u2, iv ct, iv cn, rv bw, rv bs, rv bi, iv kk0, iv kk1, iv kk2, rv be, iv (own_ex C k 3).1.toInt32, .unset] [(.int (own_fl C k (fun _ => (0 : Int32)) cnt).1.toInt32)]) := fun target kt => g114 target (st115 target kt)
  have Ve := Ve.keep K115 (ninS (Ne.symm nie) nin0)
  obtain ⟨hN, hF⟩ := own_agree C k cnt hcnt (fun i hi => by rw [ek]; exact own_koff G C cn cnt i hi) (fun i => by rw [ek]; exact own_kle G C cn cnt i)
  obtain ⟨N, eN⟩ : ∃ N, N = (own_ex C k 3).1 := ⟨_, rfl⟩
  have hN3 : N ≤ 3 := by rw [eN]; exact own_exle C k 3
  have g117 : own_Go p e below s₁ (entryFrame m #[(.int p0), (.int p1), (.long q0), (.long q1), (.long q2)] maxLocals) T115 (mkF m 263 #[iv p0, iv p1, .val (.long q0), .second, .val (.long q1), .second, .val (.long q2), .second, iv u0, iv u1, iv u2, iv ct, iv cn, rv bw, rv bs, rv bi, iv kk0, iv kk1, iv kk2, rv be, iv (own_ex C k 3).1.toInt32, iv (own_fl C k (fun _ => (0 : Int32)) cnt).1.toInt32] []) := by
    intro target kt
    refine g116 target ?_
    refine XS.istore X115.here hx rfl (hb hby at_261) rfl (l' := #[iv p0, iv p1, .val (.long q0), .second, .val (.long q1), .second, .val (.long q2), .second, iv u0, iv u1, iv u2, iv ct, iv cn, rv bw, rv bs, rv bi, iv kk0, iv kk1, iv kk2, rv be, iv (own_ex C k 3).1.toInt32, iv (own_fl C k (fun _ => (0 : Int32)) cnt).1.toInt32]) rfl ?_
    show Steps p.tables e below (T115.setTop (mkF m 263 #[iv p0, iv p1, .val (.long q0), .second, .val (.long q1), .second, .val (.long q2), .second, iv u0, iv u1, iv u2, iv ct, iv cn, rv bw, rv bs, rv bi, iv kk0, iv kk1, iv kk2, rv be, iv (own_ex C k 3).1.toInt32, iv (own_fl C k (fun _ => (0 : Int32)) cnt).1.toInt32] [])) target
    exact kt
  rw [hN, ← eN] at g117
  rw [← eN] at hF
  obtain ⟨ci, Bi, Si, Hi⟩ := Vf
  obtain ⟨ce, Be, Se, He⟩ := Ve
  have g118 : own_Go p e below s₁ (entryFrame m #[(.int p0), (.int p1), (.long q0), (.long q1), (.long q2)] maxLocals) T115 (mkF m 274 #[iv p0, iv p1, .val (.long q0), .second, .val (.long q1), .second, .val (.long q2), .second, iv u0, iv u1, iv u2, iv ct, iv cn, rv bw, rv bs, rv bi, iv kk0, iv kk1, iv kk2, rv be, iv N.toInt32, iv N.toInt32] [(.int N.toInt32)]) := by
    intro target kt
    refine g117 target ?_
    refine XS.iload X115.here hx rfl (hb hby at_263) rfl ?_
    show Steps p.tables e below (T115.setTop (mkF m 265 #[iv p0, iv p1, .val (.long q0), .second, .val (.long q1), .second, .val (.long q2), .second, iv u0, iv u1, iv u2, iv ct, iv cn, rv bw, rv bs, rv bi, iv kk0, iv kk1, iv kk2, rv be, iv N.toInt32, iv N.toInt32] [(.int N.toInt32)])) target
    refine XS.iload X115.here hx rfl (hb hby at_265) rfl ?_
    show Steps p.tables e below (T115.setTop (mkF m 267 #[iv p0, iv p1, .val (.long q0), .second, .val (.long q1), .second, .val (.long q2), .second, iv u0, iv u1, iv u2, iv ct, iv cn, rv bw, rv bs, rv bi, iv kk0, iv kk1, iv kk2, rv be, iv N.toInt32, iv N.toInt32] [(.int N.toInt32), (.int N.toInt32)])) target
    refine XS.icmpYes X115.here hx rfl (pc0 := 267) (pc' := 272) rfl (hb hby at_267) rfl (XT.ii_eq_t rfl) (by decide) (by decide) ?_
    show Steps p.tables e below (T115.setTop (mkF m 272 #[iv p0, iv p1, .val (.long q0), .second, .val (.long q1), .second, .val (.long q2), .second, iv u0, iv u1, iv u2, iv ct, iv cn, rv bw, rv bs, rv bi, iv kk0, iv kk1, iv kk2, rv be, iv N.toInt32, iv N.toInt32] [])) target
    refine XS.iload X115.here hx rfl (hb hby at_272) rfl ?_
    show Steps p.tables e below (T115.setTop (mkF m 274 #[iv p0, iv p1, .val (.long q0), .second, .val (.long q1), .second, .val (.long q2), .second, iv u0, iv u1, iv u2, iv ct, iv cn, rv bw, rv bs, rv bi, iv kk0, iv kk1, iv kk2, rv be, iv N.toInt32, iv N.toInt32] [(.int N.toInt32)])) target
    exact kt
  obtain h | h | h | h : N = 0 ∨ N = 1 ∨ N = 2 ∨ N = 3 := by omega
  · subst h
    have g119 : own_Go p e below s₁ (entryFrame m #[(.int p0), (.int p1), (.long q0), (.long q1), (.long q2)] maxLocals) T115 (mkF m 329 #[iv p0, iv p1, .val (.long q0), .second, .val (.long q1), .second, .val (.long q2), .second, iv u0, iv u1, iv u2, iv ct, iv cn, rv bw, rv bs, rv bi, iv kk0, iv kk1, iv kk2, rv be, iv (0 : Int32), iv (0 : Int32)] [(.int (1 : Int32))]) := by
      intro target kt
      refine g118 target ?_
      refine XS.ifYes X115.here hx rfl (pc0 := 274) (pc' := 290) rfl (hb hby at_274) rfl (XT.i0_le_t (by decide)) (by decide) (by decide) ?_
      show Steps p.tables e below (T115.setTop (mkF m 290 #[iv p0, iv p1, .val (.long q0), .second, .val (.long q1), .second, .val (.long q2), .second, iv u0, iv u1, iv u2, iv ct, iv cn, rv bw, rv bs, rv bi, iv kk0, iv kk1, iv kk2, rv be, iv (0 : Int32), iv (0 : Int32)] [])) target
      refine XS.iload X115.here hx rfl (hb hby at_290) rfl ?_
      show Steps p.tables e below (T115.setTop (mkF m 292 #[iv p0, iv p1, .val (.long q0), .second, .val (.long q1), .second, .val (.long q2), .second, iv u0, iv u1, iv u2, iv ct, iv cn, rv bw, rv bs, rv bi, iv kk0, iv kk1, iv kk2, rv be, iv (0 : Int32), iv (0 : Int32)] [(.int (0 : Int32))])) target
      refine XT.iconstV X115.here hx rfl (1 : Int32) (hb hby at_292) rfl ?_
      show Steps p.tables e below (T115.setTop (mkF m 293 #[iv p0, iv p1, .val (.long q0), .second, .val (.long q1), .second, .val (.long q2), .second, iv u0, iv u1, iv u2, iv ct, iv cn, rv bw, rv bs, rv bi, iv kk0, iv kk1, iv kk2, rv be, iv (0 : Int32), iv (0 : Int32)] [(.int (1 : Int32)), (.int (0 : Int32))])) target
      refine XS.icmpYes X115.here hx rfl (pc0 := 293) (pc' := 309) rfl (hb hby at_293) rfl (XT.ii_le_t (by decide)) (by decide) (by decide) ?_
      show Steps p.tables e below (T115.setTop (mkF m 309 #[iv p0, iv p1, .val (.long q0), .second, .val (.long q1), .second, .val (.long q2), .second, iv u0, iv u1, iv u2, iv ct, iv cn, rv bw, rv bs, rv bi, iv kk0, iv kk1, iv kk2, rv be, iv (0 : Int32), iv (0 : Int32)] [])) target
      refine XS.iload X115.here hx rfl (hb hby at_309) rfl ?_
      show Steps p.tables e below (T115.setTop (mkF m 311 #[iv p0, iv p1, .val (.long q0), .second, .val (.long q1), .second, .val (.long q2), .second, iv u0, iv u1, iv u2, iv ct, iv cn, rv bw, rv bs, rv bi, iv kk0, iv kk1, iv kk2, rv be, iv (0 : Int32), iv (0 : Int32)] [(.int (0 : Int32))])) target
      refine XT.iconstV X115.here hx rfl (2 : Int32) (hb hby at_311) rfl ?_
      show Steps p.tables e below (T115.setTop (mkF m 312 #[iv p0, iv p1, .val (.long q0), .second, .val (.long q1), .second, .val (.long q2), .second, iv u0, iv u1, iv u2, iv ct, iv cn, rv bw, rv bs, rv bi, iv kk0, iv kk1, iv kk2, rv be, iv (0 : Int32), iv (0 : Int32)] [(.int (2 : Int32)), (.int (0 : Int32))])) target
      refine XS.icmpYes X115.here hx rfl (pc0 := 312) (pc' := 328) rfl (hb hby at_312) rfl (XT.ii_le_t (by decide)) (by decide) (by decide) ?_
      show Steps p.tables e below (T115.setTop (mkF m 328 #[iv p0, iv p1, .val (.long q0), .second, .val (.long q1), .second, .val (.long q2), .second, iv u0, iv u1, iv u2, iv ct, iv cn, rv bw, rv bs, rv bi, iv kk0, iv kk1, iv kk2, rv be, iv (0 : Int32), iv (0 : Int32)] [])) target
      refine XT.iconstV X115.here hx rfl (1 : Int32) (hb hby at_328) rfl ?_
      show Steps p.tables e below (T115.setTop (mkF m 329 #[iv p0, iv p1, .val (.long q0), .second, .val (.long q1), .second, .val (.long q2), .second, iv u0, iv u1, iv u2, iv ct, iv cn, rv bw, rv bs, rv bi, iv kk0, iv kk1, iv kk2, rv be, iv (0 : Int32), iv (0 : Int32)] [(.int (1 : Int32))])) target
      exact kt
    obtain ⟨fs, hr, hrun, hended, hW, hsame⟩ := X115.leave (v := some (.int (nar .boolean (1 : Int32)))) (fun h => by rw [Bd.returns] at h; cases h)
    refine ⟨_, _, g119 _ ?_, hrun, hended, _, _, rfl, ?_, ⟨_, rfl⟩, hW, hsame.mono (by decide) (by decide)⟩
    · exact retN X115 hx (t := .boolean) Bd.returns (by simp) (hb hby at_329) hr
    · show Q_rm0 Z p0 p1 q0 q1 q2  h0 n0 _ T115.heap _
      exact ⟨rfl, N115⟩
  · subst h
    have g120 : own_Go p e below s₁ (entryFrame m #[(.int p0), (.int p1), (.long q0), (.long q1), (.long q2)] maxLocals) T115 (mkF m 329 #[iv p0, iv p1, .val (.long q0), .second, .val (.long q1), .second, .val (.long q2), .second, iv u0, iv u1, iv u2, iv ct, iv cn, rv bw, rv bs, rv bi, iv kk0, iv kk1, iv kk2, rv be, iv (1 : Int32), iv (1 : Int32)] [(.int (1 : Int32))]) := by
      intro target kt
      refine g118 target ?_
      refine XS.ifNo X115.here hx rfl (hb hby at_274) rfl (XT.i0_le_f (by decide)) ?_
      show Steps p.tables e below (T115.setTop (mkF m 277 #[iv p0, iv p1, .val (.long q0), .second, .val (.long q1), .second, .val (.long q2), .second, iv u0, iv u1, iv u2, iv ct, iv cn, rv bw, rv bs, rv bi, iv kk0, iv kk1, iv kk2, rv be, iv (1 : Int32), iv (1 : Int32)] [])) target
      refine XS.aload X115.here hx rfl (hb hby at_277) rfl rfl ?_
      show Steps p.tables e below (T115.setTop (mkF m 279 #[iv p0, iv p1, .val (.long q0), .second, .val (.long q1), .second, .val (.long q2), .second, iv u0, iv u1, iv u2, iv ct, iv cn, rv bw, rv bs, rv bi, iv kk0, iv kk1, iv kk2, rv be, iv (1 : Int32), iv (1 : Int32)] [(.ref bi)])) target
      refine XT.iconstV X115.here hx rfl (0 : Int32) (hb hby at_279) rfl ?_
      show Steps p.tables e below (T115.setTop (mkF m 280 #[iv p0, iv p1, .val (.long q0), .second, .val (.long q1), .second, .val (.long q2), .second, iv u0, iv u1, iv u2, iv ct, iv cn, rv bw, rv bs, rv bi, iv kk0, iv kk1, iv kk2, rv be, iv (1 : Int32), iv (1 : Int32)] [(.int (0 : Int32)), (.ref bi)])) target
      refine X115.caload hx (j := (0 : Int32)) (v := (.int ((own_fl C k (fun _ => (0 : Int32)) cnt).2 0))) Bi.1 (State.isArrayOf_alike hZ.alike Bi.2.1) Bi.2.2 (by rw [Si]; decide) (Hi 0 (by decide)) (g := (mkF m 280 #[iv p0, iv p1, .val (.long q0), .second, .val (.long q1), .second, .val (.long q2), .second, iv u0, iv u1, iv u2, iv ct, iv cn, rv bw, rv bs, rv bi, iv kk0, iv kk1, iv kk2, rv be, iv (1 : Int32), iv (1 : Int32)] [(.int (0 : Int32)), (.ref bi)])) rfl rfl (hb hby at_280) _ ?_
      show Steps p.tables e below (T115.setTop (mkF m 281 #[iv p0, iv p1, .val (.long q0), .second, .val (.long q1), .second, .val (.long q2), .second, iv u0, iv u1, iv u2, iv ct, iv cn, rv bw, rv bs, rv bi, iv kk0, iv kk1, iv kk2, rv be, iv (1 : Int32), iv (1 : Int32)] [(.int ((own_fl C k (fun _ => (0 : Int32)) cnt).2 0))])) target
      refine XS.aload X115.here hx rfl (hb hby at_281) rfl rfl ?_
      show Steps p.tables e below (T115.setTop (mkF m 283 #[iv p0, iv p1, .val (.long q0), .second, .val (.long q1), .second, .val (.long q2), .second, iv u0, iv u1, iv u2, iv ct, iv cn, rv bw, rv bs, rv bi, iv kk0, iv kk1, iv kk2, rv be, iv (1 : Int32), iv (1 : Int32)] [(.ref be), (.int ((own_fl C k (fun _ => (0 : Int32)) cnt).2 0))])) target
      refine XT.iconstV X115.here hx rfl (0 : Int32) (hb hby at_283) rfl ?_
      show Steps p.tables e below (T115.setTop (mkF m 284 #[iv p0, iv p1, .val (.long q0), .second, .val (.long q1), .second, .val (.long q2), .second, iv u0, iv u1, iv u2, iv ct, iv cn, rv bw, rv bs, rv bi, iv kk0, iv kk1, iv kk2, rv be, iv (1 : Int32), iv (1 : Int32)] [(.int (0 : Int32)), (.ref be), (.int ((own_fl C k (fun _ => (0 : Int32)) cnt).2 0))])) target
      refine X115.caload hx (j := (0 : Int32)) (v := (.int ((own_ex C k 3).2 0))) Be.1 (State.isArrayOf_alike hZ.alike Be.2.1) Be.2.2 (by rw [Se]; decide) (He 0 (by decide)) (g := (mkF m 284 #[iv p0, iv p1, .val (.long q0), .second, .val (.long q1), .second, .val (.long q2), .second, iv u0, iv u1, iv u2, iv ct, iv cn, rv bw, rv bs, rv bi, iv kk0, iv kk1, iv kk2, rv be, iv (1 : Int32), iv (1 : Int32)] [(.int (0 : Int32)), (.ref be), (.int ((own_fl C k (fun _ => (0 : Int32)) cnt).2 0))])) rfl rfl (hb hby at_284) _ ?_
      show Steps p.tables e below (T115.setTop (mkF m 285 #[iv p0, iv p1, .val (.long q0), .second, .val (.long q1), .second, .val (.long q2), .second, iv u0, iv u1, iv u2, iv ct, iv cn, rv bw, rv bs, rv bi, iv kk0, iv kk1, iv kk2, rv be, iv (1 : Int32), iv (1 : Int32)] [(.int ((own_ex C k 3).2 0)), (.int ((own_fl C k (fun _ => (0 : Int32)) cnt).2 0))])) target
      refine XS.icmpYes X115.here hx rfl (pc0 := 285) (pc' := 290) rfl (hb hby at_285) rfl (XT.ii_eq_t (hF 0 (by decide))) (by decide) (by decide) ?_
      show Steps p.tables e below (T115.setTop (mkF m 290 #[iv p0, iv p1, .val (.long q0), .second, .val (.long q1), .second, .val (.long q2), .second, iv u0, iv u1, iv u2, iv ct, iv cn, rv bw, rv bs, rv bi, iv kk0, iv kk1, iv kk2, rv be, iv (1 : Int32), iv (1 : Int32)] [])) target
      refine XS.iload X115.here hx rfl (hb hby at_290) rfl ?_
      show Steps p.tables e below (T115.setTop (mkF m 292 #[iv p0, iv p1, .val (.long q0), .second, .val (.long q1), .second, .val (.long q2), .second, iv u0, iv u1, iv u2, iv ct, iv cn, rv bw, rv bs, rv bi, iv kk0, iv kk1, iv kk2, rv be, iv (1 : Int32), iv (1 : Int32)] [(.int (1 : Int32))])) target
      refine XT.iconstV X115.here hx rfl (1 : Int32) (hb hby at_292) rfl ?_
      show Steps p.tables e below (T115.setTop (mkF m 293 #[iv p0, iv p1, .val (.long q0), .second, .val (.long q1), .second, .val (.long q2), .second, iv u0, iv u1, iv u2, iv ct, iv cn, rv bw, rv bs, rv bi, iv kk0, iv kk1, iv kk2, rv be, iv (1 : Int32), iv (1 : Int32)] [(.int (1 : Int32)), (.int (1 : Int32))])) target
      refine XS.icmpYes X115.here hx rfl (pc0 := 293) (pc' := 309) rfl (hb hby at_293) rfl (XT.ii_le_t (by decide)) (by decide) (by decide) ?_
      show Steps p.tables e below (T115.setTop (mkF m 309 #[iv p0, iv p1, .val (.long q0), .second, .val (.long q1), .second, .val (.long q2), .second, iv u0, iv u1, iv u2, iv ct, iv cn, rv bw, rv bs, rv bi, iv kk0, iv kk1, iv kk2, rv be, iv (1 : Int32), iv (1 : Int32)] [])) target
      refine XS.iload X115.here hx rfl (hb hby at_309) rfl ?_
      show Steps p.tables e below (T115.setTop (mkF m 311 #[iv p0, iv p1, .val (.long q0), .second, .val (.long q1), .second, .val (.long q2), .second, iv u0, iv u1, iv u2, iv ct, iv cn, rv bw, rv bs, rv bi, iv kk0, iv kk1, iv kk2, rv be, iv (1 : Int32), iv (1 : Int32)] [(.int (1 : Int32))])) target
      refine XT.iconstV X115.here hx rfl (2 : Int32) (hb hby at_311) rfl ?_
      show Steps p.tables e below (T115.setTop (mkF m 312 #[iv p0, iv p1, .val (.long q0), .second, .val (.long q1), .second, .val (.long q2), .second, iv u0, iv u1, iv u2, iv ct, iv cn, rv bw, rv bs, rv bi, iv kk0, iv kk1, iv kk2, rv be, iv (1 : Int32), iv (1 : Int32)] [(.int (2 : Int32)), (.int (1 : Int32))])) target
      refine XS.icmpYes X115.here hx rfl (pc0 := 312) (pc' := 328) rfl (hb hby at_312) rfl (XT.ii_le_t (by decide)) (by decide) (by decide) ?_
      show Steps p.tables e below (T115.setTop (mkF m 328 #[iv p0, iv p1, .val (.long q0), .second, .val (.long q1), .second, .val (.long q2), .second, iv u0, iv u1, iv u2, iv ct, iv cn, rv bw, rv bs, rv bi, iv kk0, iv kk1, iv kk2, rv be, iv (1 : Int32), iv (1 : Int32)] [])) target
      refine XT.iconstV X115.here hx rfl (1 : Int32) (hb hby at_328) rfl ?_
      show Steps p.tables e below (T115.setTop (mkF m 329 #[iv p0, iv p1, .val (.long q0), .second, .val (.long q1), .second, .val (.long q2), .second, iv u0, iv u1, iv u2, iv ct, iv cn, rv bw, rv bs, rv bi, iv kk0, iv kk1, iv kk2, rv be, iv (1 : Int32), iv (1 : Int32)] [(.int (1 : Int32))])) target
      exact kt
    obtain ⟨fs, hr, hrun, hended, hW, hsame⟩ := X115.leave (v := some (.int (nar .boolean (1 : Int32)))) (fun h => by rw [Bd.returns] at h; cases h)
    refine ⟨_, _, g120 _ ?_, hrun, hended, _, _, rfl, ?_, ⟨_, rfl⟩, hW, hsame.mono (by decide) (by decide)⟩
    · exact retN X115 hx (t := .boolean) Bd.returns (by simp) (hb hby at_329) hr
    · show Q_rm0 Z p0 p1 q0 q1 q2  h0 n0 _ T115.heap _
      exact ⟨rfl, N115⟩
  · subst h
    have g121 : own_Go p e below s₁ (entryFrame m #[(.int p0), (.int p1), (.long q0), (.long q1), (.long q2)] maxLocals) T115 (mkF m 329 #[iv p0, iv p1, .val (.long q0), .second, .val (.long q1), .second, .val (.long q2), .second, iv u0, iv u1, iv u2, iv ct, iv cn, rv bw, rv bs, rv bi, iv kk0, iv kk1, iv kk2, rv be, iv (2 : Int32), iv (2 : Int32)] [(.int (1 : Int32))]) := by
      intro target kt
      refine g118 target ?_
      refine XS.ifNo X115.here hx rfl (hb hby at_274) rfl (XT.i0_le_f (by decide)) ?_
      show Steps p.tables e below (T115.setTop (mkF m 277 #[iv p0, iv p1, .val (.long q0), .second, .val (.long q1), .second, .val (.long q2), .second, iv u0, iv u1, iv u2, iv ct, iv cn, rv bw, rv bs, rv bi, iv kk0, iv kk1, iv kk2, rv be, iv (2 : Int32), iv (2 : Int32)] [])) target
      refine XS.aload X115.here hx rfl (hb hby at_277) rfl rfl ?_
      show Steps p.tables e below (T115.setTop (mkF m 279 #[iv p0, iv p1, .val (.long q0), .second, .val (.long q1), .second, .val (.long q2), .second, iv u0, iv u1, iv u2, iv ct, iv cn, rv bw, rv bs, rv bi, iv kk0, iv kk1, iv kk2, rv be, iv (2 : Int32), iv (2 : Int32)] [(.ref bi)])) target
      refine XT.iconstV X115.here hx rfl (0 : Int32) (hb hby at_279) rfl ?_
      show Steps p.tables e below (T115.setTop (mkF m 280 #[iv p0, iv p1, .val (.long q0), .second, .val (.long q1), .second, .val (.long q2), .second, iv u0, iv u1, iv u2, iv ct, iv cn, rv bw, rv bs, rv bi, iv kk0, iv kk1, iv kk2, rv be, iv (2 : Int32), iv (2 : Int32)] [(.int (0 : Int32)), (.ref bi)])) target
      refine X115.caload hx (j := (0 : Int32)) (v := (.int ((own_fl C k (fun _ => (0 : Int32)) cnt).2 0))) Bi.1 (State.isArrayOf_alike hZ.alike Bi.2.1) Bi.2.2 (by rw [Si]; decide) (Hi 0 (by decide)) (g := (mkF m 280 #[iv p0, iv p1, .val (.long q0), .second, .val (.long q1), .second, .val (.long q2), .second, iv u0, iv u1, iv u2, iv ct, iv cn, rv bw, rv bs, rv bi, iv kk0, iv kk1, iv kk2, rv be, iv (2 : Int32), iv (2 : Int32)] [(.int (0 : Int32)), (.ref bi)])) rfl rfl (hb hby at_280) _ ?_
      show Steps p.tables e below (T115.setTop (mkF m 281 #[iv p0, iv p1, .val (.long q0), .second, .val (.long q1), .second, .val (.long q2), .second, iv u0, iv u1, iv u2, iv ct, iv cn, rv bw, rv bs, rv bi, iv kk0, iv kk1, iv kk2, rv be, iv (2 : Int32), iv (2 : Int32)] [(.int ((own_fl C k (fun _ => (0 : Int32)) cnt).2 0))])) target
      refine XS.aload X115.here hx rfl (hb hby at_281) rfl rfl ?_
      show Steps p.tables e below (T115.setTop (mkF m 283 #[iv p0, iv p1, .val (.long q0), .second, .val (.long q1), .second, .val (.long q2), .second, iv u0, iv u1, iv u2, iv ct, iv cn, rv bw, rv bs, rv bi, iv kk0, iv kk1, iv kk2, rv be, iv (2 : Int32), iv (2 : Int32)] [(.ref be), (.int ((own_fl C k (fun _ => (0 : Int32)) cnt).2 0))])) target
      refine XT.iconstV X115.here hx rfl (0 : Int32) (hb hby at_283) rfl ?_
      show Steps p.tables e below (T115.setTop (mkF m 284 #[iv p0, iv p1, .val (.long q0), .second, .val (.long q1), .second, .val (.long q2), .second, iv u0, iv u1, iv u2, iv ct, iv cn, rv bw, rv bs, rv bi, iv kk0, iv kk1, iv kk2, rv be, iv (2 : Int32), iv (2 : Int32)] [(.int (0 : Int32)), (.ref be), (.int ((own_fl C k (fun _ => (0 : Int32)) cnt).2 0))])) target
      refine X115.caload hx (j := (0 : Int32)) (v := (.int ((own_ex C k 3).2 0))) Be.1 (State.isArrayOf_alike hZ.alike Be.2.1) Be.2.2 (by rw [Se]; decide) (He 0 (by decide)) (g := (mkF m 284 #[iv p0, iv p1, .val (.long q0), .second, .val (.long q1), .second, .val (.long q2), .second, iv u0, iv u1, iv u2, iv ct, iv cn, rv bw, rv bs, rv bi, iv kk0, iv kk1, iv kk2, rv be, iv (2 : Int32), iv (2 : Int32)] [(.int (0 : Int32)), (.ref be), (.int ((own_fl C k (fun _ => (0 : Int32)) cnt).2 0))])) rfl rfl (hb hby at_284) _ ?_
      show Steps p.tables e below (T115.setTop (mkF m 285 #[iv p0, iv p1, .val (.long q0), .second, .val (.long q1), .second, .val (.long q2), .second, iv u0, iv u1, iv u2, iv ct, iv cn, rv bw, rv bs, rv bi, iv kk0, iv kk1, iv kk2, rv be, iv (2 : Int32), iv (2 : Int32)] [(.int ((own_ex C k 3).2 0)), (.int ((own_fl C k (fun _ => (0 : Int32)) cnt).2 0))])) target
      refine XS.icmpYes X115.here hx rfl (pc0 := 285) (pc' := 290) rfl (hb hby at_285) rfl (XT.ii_eq_t (hF 0 (by decide))) (by decide) (by decide) ?_
      show Steps p.tables e below (T115.setTop (mkF m 290 #[iv p0, iv p1, .val (.long q0), .second, .val (.long q1), .second, .val (.long q2), .second, iv u0, iv u1, iv u2, iv ct, iv cn, rv bw, rv bs, rv bi, iv kk0, iv kk1, iv kk2, rv be, iv (2 : Int32), iv (2 : Int32)] [])) target
      refine XS.iload X115.here hx rfl (hb hby at_290) rfl ?_
      show Steps p.tables e below (T115.setTop (mkF m 292 #[iv p0, iv p1, .val (.long q0), .second, .val (.long q1), .second, .val (.long q2), .second, iv u0, iv u1, iv u2, iv ct, iv cn, rv bw, rv bs, rv bi, iv kk0, iv kk1, iv kk2, rv be, iv (2 : Int32), iv (2 : Int32)] [(.int (2 : Int32))])) target
      refine XT.iconstV X115.here hx rfl (1 : Int32) (hb hby at_292) rfl ?_
      show Steps p.tables e below (T115.setTop (mkF m 293 #[iv p0, iv p1, .val (.long q0), .second, .val (.long q1), .second, .val (.long q2), .second, iv u0, iv u1, iv u2, iv ct, iv cn, rv bw, rv bs, rv bi, iv kk0, iv kk1, iv kk2, rv be, iv (2 : Int32), iv (2 : Int32)] [(.int (1 : Int32)), (.int (2 : Int32))])) target
      refine XS.icmpNo X115.here hx rfl (hb hby at_293) rfl (XT.ii_le_f (by decide)) ?_
      show Steps p.tables e below (T115.setTop (mkF m 296 #[iv p0, iv p1, .val (.long q0), .second, .val (.long q1), .second, .val (.long q2), .second, iv u0, iv u1, iv u2, iv ct, iv cn, rv bw, rv bs, rv bi, iv kk0, iv kk1, iv kk2, rv be, iv (2 : Int32), iv (2 : Int32)] [])) target
      refine XS.aload X115.here hx rfl (hb hby at_296) rfl rfl ?_
      show Steps p.tables e below (T115.setTop (mkF m 298 #[iv p0, iv p1, .val (.long q0), .second, .val (.long q1), .second, .val (.long q2), .second, iv u0, iv u1, iv u2, iv ct, iv cn, rv bw, rv bs, rv bi, iv kk0, iv kk1, iv kk2, rv be, iv (2 : Int32), iv (2 : Int32)] [(.ref bi)])) target
      refine XT.iconstV X115.here hx rfl (1 : Int32) (hb hby at_298) rfl ?_
      show Steps p.tables e below (T115.setTop (mkF m 299 #[iv p0, iv p1, .val (.long q0), .second, .val (.long q1), .second, .val (.long q2), .second, iv u0, iv u1, iv u2, iv ct, iv cn, rv bw, rv bs, rv bi, iv kk0, iv kk1, iv kk2, rv be, iv (2 : Int32), iv (2 : Int32)] [(.int (1 : Int32)), (.ref bi)])) target
      refine X115.caload hx (j := (1 : Int32)) (v := (.int ((own_fl C k (fun _ => (0 : Int32)) cnt).2 1))) Bi.1 (State.isArrayOf_alike hZ.alike Bi.2.1) Bi.2.2 (by rw [Si]; decide) (Hi 1 (by decide)) (g := (mkF m 299 #[iv p0, iv p1, .val (.long q0), .second, .val (.long q1), .second, .val (.long q2), .second, iv u0, iv u1, iv u2, iv ct, iv cn, rv bw, rv bs, rv bi, iv kk0, iv kk1, iv kk2, rv be, iv (2 : Int32), iv (2 : Int32)] [(.int (1 : Int32)), (.ref bi)])) rfl rfl (hb hby at_299) _ ?_
      show Steps p.tables e below (T115.setTop (mkF m 300 #[iv p0, iv p1, .val (.long q0), .second, .val (.long q1), .second, .val (.long q2), .second, iv u0, iv u1, iv u2, iv ct, iv cn, rv bw, rv bs, rv bi, iv kk0, iv kk1, iv kk2, rv be, iv (2 : Int32), iv (2 : Int32)] [(.int ((own_fl C k (fun _ => (0 : Int32)) cnt).2 1))])) target
      refine XS.aload X115.here hx rfl (hb hby at_300) rfl rfl ?_
      show Steps p.tables e below (T115.setTop (mkF m 302 #[iv p0, iv p1, .val (.long q0), .second, .val (.long q1), .second, .val (.long q2), .second, iv u0, iv u1, iv u2, iv ct, iv cn, rv bw, rv bs, rv bi, iv kk0, iv kk1, iv kk2, rv be, iv (2 : Int32), iv (2 : Int32)] [(.ref be), (.int ((own_fl C k (fun _ => (0 : Int32)) cnt).2 1))])) target
      refine XT.iconstV X115.here hx rfl (1 : Int32) (hb hby at_302) rfl ?_
      show Steps p.tables e below (T115.setTop (mkF m 303 #[iv p0, iv p1, .val (.long q0), .second, .val (.long q1), .second, .val (.long q2), .second, iv u0, iv u1, iv u2, iv ct, iv cn, rv bw, rv bs, rv bi, iv kk0, iv kk1, iv kk2, rv be, iv (2 : Int32), iv (2 : Int32)] [(.int (1 : Int32)), (.ref be), (.int ((own_fl C k (fun _ => (0 : Int32)) cnt).2 1))])) target
      refine X115.caload hx (j := (1 : Int32)) (v := (.int ((own_ex C k 3).2 1))) Be.1 (State.isArrayOf_alike hZ.alike Be.2.1) Be.2.2 (by rw [Se]; decide) (He 1 (by decide)) (g := (mkF m 303 #[iv p0, iv p1, .val (.long q0), .second, .val (.long q1), .second, .val (.long q2), .second, iv u0, iv u1, iv u2, iv ct, iv cn, rv bw, rv bs, rv bi, iv kk0, iv kk1, iv kk2, rv be, iv (2 : Int32), iv (2 : Int32)] [(.int (1 : Int32)), (.ref be), (.int ((own_fl C k (fun _ => (0 : Int32)) cnt).2 1))])) rfl rfl (hb hby at_303) _ ?_
      show Steps p.tables e below (T115.setTop (mkF m 304 #[iv p0, iv p1, .val (.long q0), .second, .val (.long q1), .second, .val (.long q2), .second, iv u0, iv u1, iv u2, iv ct, iv cn, rv bw, rv bs, rv bi, iv kk0, iv kk1, iv kk2, rv be, iv (2 : Int32), iv (2 : Int32)] [(.int ((own_ex C k 3).2 1)), (.int ((own_fl C k (fun _ => (0 : Int32)) cnt).2 1))])) target
      refine XS.icmpYes X115.here hx rfl (pc0 := 304) (pc' := 309) rfl (hb hby at_304) rfl (XT.ii_eq_t (hF 1 (by decide))) (by decide) (by decide) ?_
      show Steps p.tables e below (T115.setTop (mkF m 309 #[iv p0, iv p1, .val (.long q0), .second, .val (.long q1), .second, .val (.long q2), .second, iv u0, iv u1, iv u2, iv ct, iv cn, rv bw, rv bs, rv bi, iv kk0, iv kk1, iv kk2, rv be, iv (2 : Int32), iv (2 : Int32)] [])) target
      refine XS.iload X115.here hx rfl (hb hby at_309) rfl ?_
      show Steps p.tables e below (T115.setTop (mkF m 311 #[iv p0, iv p1, .val (.long q0), .second, .val (.long q1), .second, .val (.long q2), .second, iv u0, iv u1, iv u2, iv ct, iv cn, rv bw, rv bs, rv bi, iv kk0, iv kk1, iv kk2, rv be, iv (2 : Int32), iv (2 : Int32)] [(.int (2 : Int32))])) target
      refine XT.iconstV X115.here hx rfl (2 : Int32) (hb hby at_311) rfl ?_
      show Steps p.tables e below (T115.setTop (mkF m 312 #[iv p0, iv p1, .val (.long q0), .second, .val (.long q1), .second, .val (.long q2), .second, iv u0, iv u1, iv u2, iv ct, iv cn, rv bw, rv bs, rv bi, iv kk0, iv kk1, iv kk2, rv be, iv (2 : Int32), iv (2 : Int32)] [(.int (2 : Int32)), (.int (2 : Int32))])) target
      refine XS.icmpYes X115.here hx rfl (pc0 := 312) (pc' := 328) rfl (hb hby at_312) rfl (XT.ii_le_t (by decide)) (by decide) (by decide) ?_
      show Steps p.tables e below (T115.setTop (mkF m 328 #[iv p0, iv p1, .val (.long q0), .second, .val (.long q1), .second, .val (.long q2), .second, iv u0, iv u1, iv u2, iv ct, iv cn, rv bw, rv bs, rv bi, iv kk0, iv kk1, iv kk2, rv be, iv (2 : Int32), iv (2 : Int32)] [])) target
      refine XT.iconstV X115.here hx rfl (1 : Int32) (hb hby at_328) rfl ?_
      show Steps p.tables e below (T115.setTop (mkF m 329 #[iv p0, iv p1, .val (.long q0), .second, .val (.long q1), .second, .val (.long q2), .second, iv u0, iv u1, iv u2, iv ct, iv cn, rv bw, rv bs, rv bi, iv kk0, iv kk1, iv kk2, rv be, iv (2 : Int32), iv (2 : Int32)] [(.int (1 : Int32))])) target
      exact kt
    obtain ⟨fs, hr, hrun, hended, hW, hsame⟩ := X115.leave (v := some (.int (nar .boolean (1 : Int32)))) (fun h => by rw [Bd.returns] at h; cases h)
    refine ⟨_, _, g121 _ ?_, hrun, hended, _, _, rfl, ?_, ⟨_, rfl⟩, hW, hsame.mono (by decide) (by decide)⟩
    · exact retN X115 hx (t := .boolean) Bd.returns (by simp) (hb hby at_329) hr
    · show Q_rm0 Z p0 p1 q0 q1 q2  h0 n0 _ T115.heap _
      exact ⟨rfl, N115⟩
  · subst h
    have g122 : own_Go p e below s₁ (entryFrame m #[(.int p0), (.int p1), (.long q0), (.long q1), (.long q2)] maxLocals) T115 (mkF m 329 #[iv p0, iv p1, .val (.long q0), .second, .val (.long q1), .second, .val (.long q2), .second, iv u0, iv u1, iv u2, iv ct, iv cn, rv bw, rv bs, rv bi, iv kk0, iv kk1, iv kk2, rv be, iv (3 : Int32), iv (3 : Int32)] [(.int (1 : Int32))]) := by
      intro target kt
      refine g118 target ?_
      refine XS.ifNo X115.here hx rfl (hb hby at_274) rfl (XT.i0_le_f (by decide)) ?_
      show Steps p.tables e below (T115.setTop (mkF m 277 #[iv p0, iv p1, .val (.long q0), .second, .val (.long q1), .second, .val (.long q2), .second, iv u0, iv u1, iv u2, iv ct, iv cn, rv bw, rv bs, rv bi, iv kk0, iv kk1, iv kk2, rv be, iv (3 : Int32), iv (3 : Int32)] [])) target
      refine XS.aload X115.here hx rfl (hb hby at_277) rfl rfl ?_
      show Steps p.tables e below (T115.setTop (mkF m 279 #[iv p0, iv p1, .val (.long q0), .second, .val (.long q1), .second, .val (.long q2), .second, iv u0, iv u1, iv u2, iv ct, iv cn, rv bw, rv bs, rv bi, iv kk0, iv kk1, iv kk2, rv be, iv (3 : Int32), iv (3 : Int32)] [(.ref bi)])) target
      refine XT.iconstV X115.here hx rfl (0 : Int32) (hb hby at_279) rfl ?_
      show Steps p.tables e below (T115.setTop (mkF m 280 #[iv p0, iv p1, .val (.long q0), .second, .val (.long q1), .second, .val (.long q2), .second, iv u0, iv u1, iv u2, iv ct, iv cn, rv bw, rv bs, rv bi, iv kk0, iv kk1, iv kk2, rv be, iv (3 : Int32), iv (3 : Int32)] [(.int (0 : Int32)), (.ref bi)])) target
      refine X115.caload hx (j := (0 : Int32)) (v := (.int ((own_fl C k (fun _ => (0 : Int32)) cnt).2 0))) Bi.1 (State.isArrayOf_alike hZ.alike Bi.2.1) Bi.2.2 (by rw [Si]; decide) (Hi 0 (by decide)) (g := (mkF m 280 #[iv p0, iv p1, .val (.long q0), .second, .val (.long q1), .second, .val (.long q2), .second, iv u0, iv u1, iv u2, iv ct, iv cn, rv bw, rv bs, rv bi, iv kk0, iv kk1, iv kk2, rv be, iv (3 : Int32), iv (3 : Int32)] [(.int (0 : Int32)), (.ref bi)])) rfl rfl (hb hby at_280) _ ?_
      show Steps p.tables e below (T115.setTop (mkF m 281 #[iv p0, iv p1, .val (.long q0), .second, .val (.long q1), .second, .val (.long q2), .second, iv u0, iv u1, iv u2, iv ct, iv cn, rv bw, rv bs, rv bi, iv kk0, iv kk1, iv kk2, rv be, iv (3 : Int32), iv (3 : Int32)] [(.int ((own_fl C k (fun _ => (0 : Int32)) cnt).2 0))])) target
      refine XS.aload X115.here hx rfl (hb hby at_281) rfl rfl ?_
      show Steps p.tables e below (T115.setTop (mkF m 283 #[iv p0, iv p1, .val (.long q0), .second, .val (.long q1), .second, .val (.long q2), .second, iv u0, iv u1, iv u2, iv ct, iv cn, rv bw, rv bs, rv bi, iv kk0, iv kk1, iv kk2, rv be, iv (3 : Int32), iv (3 : Int32)] [(.ref be), (.int ((own_fl C k (fun _ => (0 : Int32)) cnt).2 0))])) target
      refine XT.iconstV X115.here hx rfl (0 : Int32) (hb hby at_283) rfl ?_
      show Steps p.tables e below (T115.setTop (mkF m 284 #[iv p0, iv p1, .val (.long q0), .second, .val (.long q1), .second, .val (.long q2), .second, iv u0, iv u1, iv u2, iv ct, iv cn, rv bw, rv bs, rv bi, iv kk0, iv kk1, iv kk2, rv be, iv (3 : Int32), iv (3 : Int32)] [(.int (0 : Int32)), (.ref be), (.int ((own_fl C k (fun _ => (0 : Int32)) cnt).2 0))])) target
      refine X115.caload hx (j := (0 : Int32)) (v := (.int ((own_ex C k 3).2 0))) Be.1 (State.isArrayOf_alike hZ.alike Be.2.1) Be.2.2 (by rw [Se]; decide) (He 0 (by decide)) (g := (mkF m 284 #[iv p0, iv p1, .val (.long q0), .second, .val (.long q1), .second, .val (.long q2), .second, iv u0, iv u1, iv u2, iv ct, iv cn, rv bw, rv bs, rv bi, iv kk0, iv kk1, iv kk2, rv be, iv (3 : Int32), iv (3 : Int32)] [(.int (0 : Int32)), (.ref be), (.int ((own_fl C k (fun _ => (0 : Int32)) cnt).2 0))])) rfl rfl (hb hby at_284) _ ?_
      show Steps p.tables e below (T115.setTop (mkF m 285 #[iv p0, iv p1, .val (.long q0), .second, .val (.long q1), .second, .val (.long q2), .second, iv u0, iv u1, iv u2, iv ct, iv cn, rv bw, rv bs, rv bi, iv kk0, iv kk1, iv kk2, rv be, iv (3 : Int32), iv (3 : Int32)] [(.int ((own_ex C k 3).2 0)), (.int ((own_fl C k (fun _ => (0 : Int32)) cnt).2 0))])) target
      refine XS.icmpYes X115.here hx rfl (pc0 := 285) (pc' := 290) rfl (hb hby at_285) rfl (XT.ii_eq_t (hF 0 (by decide))) (by decide) (by decide) ?_
      show Steps p.tables e below (T115.setTop (mkF m 290 #[iv p0, iv p1, .val (.long q0), .second, .val (.long q1), .second, .val (.long q2), .second, iv u0, iv u1, iv u2, iv ct, iv cn, rv bw, rv bs, rv bi, iv kk0, iv kk1, iv kk2, rv be, iv (3 : Int32), iv (3 : Int32)] [])) target
      refine XS.iload X115.here hx rfl (hb hby at_290) rfl ?_
      show Steps p.tables e below (T115.setTop (mkF m 292 #[iv p0, iv p1, .val (.long q0), .second, .val (.long q1), .second, .val (.long q2), .second, iv u0, iv u1, iv u2, iv ct, iv cn, rv bw, rv bs, rv bi, iv kk0, iv kk1, iv kk2, rv be, iv (3 : Int32), iv (3 : Int32)] [(.int (3 : Int32))])) target
      refine XT.iconstV X115.here hx rfl (1 : Int32) (hb hby at_292) rfl ?_
      show Steps p.tables e below (T115.setTop (mkF m 293 #[iv p0, iv p1, .val (.long q0), .second, .val (.long q1), .second, .val (.long q2), .second, iv u0, iv u1, iv u2, iv ct, iv cn, rv bw, rv bs, rv bi, iv kk0, iv kk1, iv kk2, rv be, iv (3 : Int32), iv (3 : Int32)] [(.int (1 : Int32)), (.int (3 : Int32))])) target
      refine XS.icmpNo X115.here hx rfl (hb hby at_293) rfl (XT.ii_le_f (by decide)) ?_
      show Steps p.tables e below (T115.setTop (mkF m 296 #[iv p0, iv p1, .val (.long q0), .second, .val (.long q1), .second, .val (.long q2), .second, iv u0, iv u1, iv u2, iv ct, iv cn, rv bw, rv bs, rv bi, iv kk0, iv kk1, iv kk2, rv be, iv (3 : Int32), iv (3 : Int32)] [])) target
      refine XS.aload X115.here hx rfl (hb hby at_296) rfl rfl ?_
      show Steps p.tables e below (T115.setTop (mkF m 298 #[iv p0, iv p1, .val (.long q0), .second, .val (.long q1), .second, .val (.long q2), .second, iv u0, iv u1, iv u2, iv ct, iv cn, rv bw, rv bs, rv bi, iv kk0, iv kk1, iv kk2, rv be, iv (3 : Int32), iv (3 : Int32)] [(.ref bi)])) target
      refine XT.iconstV X115.here hx rfl (1 : Int32) (hb hby at_298) rfl ?_
      show Steps p.tables e below (T115.setTop (mkF m 299 #[iv p0, iv p1, .val (.long q0), .second, .val (.long q1), .second, .val (.long q2), .second, iv u0, iv u1, iv u2, iv ct, iv cn, rv bw, rv bs, rv bi, iv kk0, iv kk1, iv kk2, rv be, iv (3 : Int32), iv (3 : Int32)] [(.int (1 : Int32)), (.ref bi)])) target
      refine X115.caload hx (j := (1 : Int32)) (v := (.int ((own_fl C k (fun _ => (0 : Int32)) cnt).2 1))) Bi.1 (State.isArrayOf_alike hZ.alike Bi.2.1) Bi.2.2 (by rw [Si]; decide) (Hi 1 (by decide)) (g := (mkF m 299 #[iv p0, iv p1, .val (.long q0), .second, .val (.long q1), .second, .val (.long q2), .second, iv u0, iv u1, iv u2, iv ct, iv cn, rv bw, rv bs, rv bi, iv kk0, iv kk1, iv kk2, rv be, iv (3 : Int32), iv (3 : Int32)] [(.int (1 : Int32)), (.ref bi)])) rfl rfl (hb hby at_299) _ ?_
      show Steps p.tables e below (T115.setTop (mkF m 300 #[iv p0, iv p1, .val (.long q0), .second, .val (.long q1), .second, .val (.long q2), .second, iv u0, iv u1, iv u2, iv ct, iv cn, rv bw, rv bs, rv bi, iv kk0, iv kk1, iv kk2, rv be, iv (3 : Int32), iv (3 : Int32)] [(.int ((own_fl C k (fun _ => (0 : Int32)) cnt).2 1))])) target
      refine XS.aload X115.here hx rfl (hb hby at_300) rfl rfl ?_
      show Steps p.tables e below (T115.setTop (mkF m 302 #[iv p0, iv p1, .val (.long q0), .second, .val (.long q1), .second, .val (.long q2), .second, iv u0, iv u1, iv u2, iv ct, iv cn, rv bw, rv bs, rv bi, iv kk0, iv kk1, iv kk2, rv be, iv (3 : Int32), iv (3 : Int32)] [(.ref be), (.int ((own_fl C k (fun _ => (0 : Int32)) cnt).2 1))])) target
      refine XT.iconstV X115.here hx rfl (1 : Int32) (hb hby at_302) rfl ?_
      show Steps p.tables e below (T115.setTop (mkF m 303 #[iv p0, iv p1, .val (.long q0), .second, .val (.long q1), .second, .val (.long q2), .second, iv u0, iv u1, iv u2, iv ct, iv cn, rv bw, rv bs, rv bi, iv kk0, iv kk1, iv kk2, rv be, iv (3 : Int32), iv (3 : Int32)] [(.int (1 : Int32)), (.ref be), (.int ((own_fl C k (fun _ => (0 : Int32)) cnt).2 1))])) target
      refine X115.caload hx (j := (1 : Int32)) (v := (.int ((own_ex C k 3).2 1))) Be.1 (State.isArrayOf_alike hZ.alike Be.2.1) Be.2.2 (by rw [Se]; decide) (He 1 (by decide)) (g := (mkF m 303 #[iv p0, iv p1, .val (.long q0), .second, .val (.long q1), .second, .val (.long q2), .second, iv u0, iv u1, iv u2, iv ct, iv cn, rv bw, rv bs, rv bi, iv kk0, iv kk1, iv kk2, rv be, iv (3 : Int32), iv (3 : Int32)] [(.int (1 : Int32)), (.ref be), (.int ((own_fl C k (fun _ => (0 : Int32)) cnt).2 1))])) rfl rfl (hb hby at_303) _ ?_
      show Steps p.tables e below (T115.setTop (mkF m 304 #[iv p0, iv p1, .val (.long q0), .second, .val (.long q1), .second, .val (.long q2), .second, iv u0, iv u1, iv u2, iv ct, iv cn, rv bw, rv bs, rv bi, iv kk0, iv kk1, iv kk2, rv be, iv (3 : Int32), iv (3 : Int32)] [(.int ((own_ex C k 3).2 1)), (.int ((own_fl C k (fun _ => (0 : Int32)) cnt).2 1))])) target
      refine XS.icmpYes X115.here hx rfl (pc0 := 304) (pc' := 309) rfl (hb hby at_304) rfl (XT.ii_eq_t (hF 1 (by decide))) (by decide) (by decide) ?_
      show Steps p.tables e below (T115.setTop (mkF m 309 #[iv p0, iv p1, .val (.long q0), .second, .val (.long q1), .second, .val (.long q2), .second, iv u0, iv u1, iv u2, iv ct, iv cn, rv bw, rv bs, rv bi, iv kk0, iv kk1, iv kk2, rv be, iv (3 : Int32), iv (3 : Int32)] [])) target
      refine XS.iload X115.here hx rfl (hb hby at_309) rfl ?_
      show Steps p.tables e below (T115.setTop (mkF m 311 #[iv p0, iv p1, .val (.long q0), .second, .val (.long q1), .second, .val (.long q2), .second, iv u0, iv u1, iv u2, iv ct, iv cn, rv bw, rv bs, rv bi, iv kk0, iv kk1, iv kk2, rv be, iv (3 : Int32), iv (3 : Int32)] [(.int (3 : Int32))])) target
      refine XT.iconstV X115.here hx rfl (2 : Int32) (hb hby at_311) rfl ?_
      show Steps p.tables e below (T115.setTop (mkF m 312 #[iv p0, iv p1, .val (.long q0), .second, .val (.long q1), .second, .val (.long q2), .second, iv u0, iv u1, iv u2, iv ct, iv cn, rv bw, rv bs, rv bi, iv kk0, iv kk1, iv kk2, rv be, iv (3 : Int32), iv (3 : Int32)] [(.int (2 : Int32)), (.int (3 : Int32))])) target
      refine XS.icmpNo X115.here hx rfl (hb hby at_312) rfl (XT.ii_le_f (by decide)) ?_
      show Steps p.tables e below (T115.setTop (mkF m 315 #[iv p0, iv p1, .val (.long q0), .second, .val (.long q1), .second, .val (.long q2), .second, iv u0, iv u1, iv u2, iv ct, iv cn, rv bw, rv bs, rv bi, iv kk0, iv kk1, iv kk2, rv be, iv (3 : Int32), iv (3 : Int32)] [])) target
      refine XS.aload X115.here hx rfl (hb hby at_315) rfl rfl ?_
      show Steps p.tables e below (T115.setTop (mkF m 317 #[iv p0, iv p1, .val (.long q0), .second, .val (.long q1), .second, .val (.long q2), .second, iv u0, iv u1, iv u2, iv ct, iv cn, rv bw, rv bs, rv bi, iv kk0, iv kk1, iv kk2, rv be, iv (3 : Int32), iv (3 : Int32)] [(.ref bi)])) target
      refine XT.iconstV X115.here hx rfl (2 : Int32) (hb hby at_317) rfl ?_
      show Steps p.tables e below (T115.setTop (mkF m 318 #[iv p0, iv p1, .val (.long q0), .second, .val (.long q1), .second, .val (.long q2), .second, iv u0, iv u1, iv u2, iv ct, iv cn, rv bw, rv bs, rv bi, iv kk0, iv kk1, iv kk2, rv be, iv (3 : Int32), iv (3 : Int32)] [(.int (2 : Int32)), (.ref bi)])) target
      refine X115.caload hx (j := (2 : Int32)) (v := (.int ((own_fl C k (fun _ => (0 : Int32)) cnt).2 2))) Bi.1 (State.isArrayOf_alike hZ.alike Bi.2.1) Bi.2.2 (by rw [Si]; decide) (Hi 2 (by decide)) (g := (mkF m 318 #[iv p0, iv p1, .val (.long q0), .second, .val (.long q1), .second, .val (.long q2), .second, iv u0, iv u1, iv u2, iv ct, iv cn, rv bw, rv bs, rv bi, iv kk0, iv kk1, iv kk2, rv be, iv (3 : Int32), iv (3 : Int32)] [(.int (2 : Int32)), (.ref bi)])) rfl rfl (hb hby at_318) _ ?_
      show Steps p.tables e below (T115.setTop (mkF m 319 #[iv p0, iv p1, .val (.long q0), .second, .val (.long q1), .second, .val (.long q2), .second, iv u0, iv u1, iv u2, iv ct, iv cn, rv bw, rv bs, rv bi, iv kk0, iv kk1, iv kk2, rv be, iv (3 : Int32), iv (3 : Int32)] [(.int ((own_fl C k (fun _ => (0 : Int32)) cnt).2 2))])) target
      refine XS.aload X115.here hx rfl (hb hby at_319) rfl rfl ?_
      show Steps p.tables e below (T115.setTop (mkF m 321 #[iv p0, iv p1, .val (.long q0), .second, .val (.long q1), .second, .val (.long q2), .second, iv u0, iv u1, iv u2, iv ct, iv cn, rv bw, rv bs, rv bi, iv kk0, iv kk1, iv kk2, rv be, iv (3 : Int32), iv (3 : Int32)] [(.ref be), (.int ((own_fl C k (fun _ => (0 : Int32)) cnt).2 2))])) target
      refine XT.iconstV X115.here hx rfl (2 : Int32) (hb hby at_321) rfl ?_
      show Steps p.tables e below (T115.setTop (mkF m 322 #[iv p0, iv p1, .val (.long q0), .second, .val (.long q1), .second, .val (.long q2), .second, iv u0, iv u1, iv u2, iv ct, iv cn, rv bw, rv bs, rv bi, iv kk0, iv kk1, iv kk2, rv be, iv (3 : Int32), iv (3 : Int32)] [(.int (2 : Int32)), (.ref be), (.int ((own_fl C k (fun _ => (0 : Int32)) cnt).2 2))])) target
      refine X115.caload hx (j := (2 : Int32)) (v := (.int ((own_ex C k 3).2 2))) Be.1 (State.isArrayOf_alike hZ.alike Be.2.1) Be.2.2 (by rw [Se]; decide) (He 2 (by decide)) (g := (mkF m 322 #[iv p0, iv p1, .val (.long q0), .second, .val (.long q1), .second, .val (.long q2), .second, iv u0, iv u1, iv u2, iv ct, iv cn, rv bw, rv bs, rv bi, iv kk0, iv kk1, iv kk2, rv be, iv (3 : Int32), iv (3 : Int32)] [(.int (2 : Int32)), (.ref be), (.int ((own_fl C k (fun _ => (0 : Int32)) cnt).2 2))])) rfl rfl (hb hby at_322) _ ?_
      show Steps p.tables e below (T115.setTop (mkF m 323 #[iv p0, iv p1, .val (.long q0), .second, .val (.long q1), .second, .val (.long q2), .second, iv u0, iv u1, iv u2, iv ct, iv cn, rv bw, rv bs, rv bi, iv kk0, iv kk1, iv kk2, rv be, iv (3 : Int32), iv (3 : Int32)] [(.int ((own_ex C k 3).2 2)), (.int ((own_fl C k (fun _ => (0 : Int32)) cnt).2 2))])) target
      refine XS.icmpYes X115.here hx rfl (pc0 := 323) (pc' := 328) rfl (hb hby at_323) rfl (XT.ii_eq_t (hF 2 (by decide))) (by decide) (by decide) ?_
      show Steps p.tables e below (T115.setTop (mkF m 328 #[iv p0, iv p1, .val (.long q0), .second, .val (.long q1), .second, .val (.long q2), .second, iv u0, iv u1, iv u2, iv ct, iv cn, rv bw, rv bs, rv bi, iv kk0, iv kk1, iv kk2, rv be, iv (3 : Int32), iv (3 : Int32)] [])) target
      refine XT.iconstV X115.here hx rfl (1 : Int32) (hb hby at_328) rfl ?_
      show Steps p.tables e below (T115.setTop (mkF m 329 #[iv p0, iv p1, .val (.long q0), .second, .val (.long q1), .second, .val (.long q2), .second, iv u0, iv u1, iv u2, iv ct, iv cn, rv bw, rv bs, rv bi, iv kk0, iv kk1, iv kk2, rv be, iv (3 : Int32), iv (3 : Int32)] [(.int (1 : Int32))])) target
      exact kt
    obtain ⟨fs, hr, hrun, hended, hW, hsame⟩ := X115.leave (v := some (.int (nar .boolean (1 : Int32)))) (fun h => by rw [Bd.returns] at h; cases h)
    refine ⟨_, _, g122 _ ?_, hrun, hended, _, _, rfl, ?_, ⟨_, rfl⟩, hW, hsame.mono (by decide) (by decide)⟩
    · exact retN X115 hx (t := .boolean) Bd.returns (by simp) (hb hby at_329) hr
    · show Q_rm0 Z p0 p1 q0 q1 q2  h0 n0 _ T115.heap _
      exact ⟨rfl, N115⟩
set_option maxRecDepth 65536 in
set_option maxHeartbeats 40000000 in
theorem comes_1 {Post : Tables → Env → Array Value → State → Outcome → State → Prop} (hpost : ∀ tb e args s v u, (limb_1_1.after args s (.returned v) u = true ∧ limb_1_2.after args s (.returned v) u = true ∧ True) → FrameEnd s (.returned v) u (Jvm.fieldLocs frame_1_writes args s ++ Jvm.arrayLocs frame_1_arrays args s ++ Jvm.staticLocs frame_1_statics s) 16 2176 → Post tb e args s (.returned v) u) :
    ArmFor flags0 classFile x code maxLocals ret World_1 tables_1 room_1 Calls_1 rest_1 Pre_1 Post := by
  intro l hfl _ _ p e ha hc hk s m args below hf hA hF happ hP
  obtain ⟨hcalls, hrest, hpre⟩ := hP
  obtain ⟨-, -, -, hnamed, -, -, -, hat⟩ := (Spec.applies_iff hf).mp happ
  obtain ⟨hg, hn⟩ := and_e (Cond.before_iff.mp (show (Jvm.Cond.and given_1 narrow_1).before args s = true from hpre))
  obtain ⟨hcnt, hs0⟩ := and_e hg
  obtain ⟨ha0, hs1⟩ := and_e hs0
  obtain ⟨ha1, hs2⟩ := and_e hs1
  obtain ⟨ha2, hs3⟩ := and_e hs2
  obtain ⟨ha3, hs4⟩ := and_e hs3
  have ha4 := hs4
  obtain ⟨w0, w1, w2, w3, w4, rfl⟩ : ∃ w0 w1 w2 w3 w4 : Value, args = #[w0, w1, w2, w3, w4] := by
    have hs : args.size = 5 := by simpa [Cond.value, given_1] using hcnt
    obtain ⟨L⟩ := args
    match L, hs with
    | [w0, w1, w2, w3, w4], _ => exact ⟨w0, w1, w2, w3, w4, rfl⟩
  have hw := fun d (hd : d ∈ tables_1) => atoms_spec (ws := Jvm.Cond.code x code maxLocals ret :: tables_1) hat d (List.mem_cons_of_mem _ hd)
  have hfit : Fit s := fun {y c} hc i hi => by
    obtain ⟨ha, rfl⟩ := Array.getElem?_eq_some_iff.mp hc
    have q := List.all_eq_true.mp ((Array.all_eq_true_iff_forall_mem.mp hF) _ (Array.getElem_mem ha)) i (List.mem_range.mpr hi)
    simpa [Array.getElem?_eq_getElem hi] using q
  obtain ⟨i0, ei0⟩ := is_v ha0
  obtain rfl : w0 = (.int i0) := Option.some.inj ei0
  obtain ⟨i1, ei1⟩ := is_v ha1
  obtain rfl : w1 = (.int i1) := Option.some.inj ei1
  obtain ⟨i2, ei2⟩ := isL_v ha2
  obtain rfl : w2 = (.long i2) := Option.some.inj ei2
  obtain ⟨i3, ei3⟩ := isL_v ha3
  obtain rfl : w3 = (.long i3) := Option.some.inj ei3
  obtain ⟨i4, ei4⟩ := isL_v ha4
  obtain rfl : w4 = (.long i4) := Option.some.inj ei4
  obtain ⟨n, o, h1, h2, h3, _, L, rfl, ⟨rfl, N⟩, hq⟩ := rm0 l s _ hw tables_1 i0 i1 i2 i3 i4  s.heap s.heap.size (Nat.le_refl _)  p e ha hc hk s m _ below hf ((Spec.applies_iff_loose hf).mp happ).1 ⟨rfl, State.Warmed39.refl s, rfl⟩ trivial
  refine ⟨n, _, h1, h2, h3, hpost _ _ _ _ _ _ ⟨Cond.after_iff.mpr rfl, Cond.after_iff.mpr (eq_i res_at (Term.int_eval (1)) rfl), trivial⟩ ⟨hq.1, hq.2.1, (hq.2.2.sift fun y hy => Or.inr (N y hy)).mono (by decide) (by decide)⟩⟩
theorem main_1_1 : Claimed_1_1 := comes_1 fun _ _ _ _ _ _ h hF => ⟨h.1, hF⟩
theorem main_1_2 : Claimed_1_2 := comes_1 fun _ _ _ _ _ _ h hF => ⟨h.2.1, hF⟩
end Jvm.Pilot.@@N@@
namespace Jvm.Pilot.@@N@@
open Jvm Jvm.ClassFile Sem Op Lib Jvm.Free Jvm.Stand Jvm.Pilot.@@N@@.Jvm.D
/-! MADE BY PROGRAM (witnessworld.py) out of the Statement's table words and the real class files: 14 classes; the members and pool entries that the words name. The judged class is class 1, her method 1. -/
namespace start1
open Jvm.ClassFile
def u (s : String) : CpInfo := .utf8 (stringToUtf16 s)
/-- a pool by its gaps: so many unusable entries, then the entry; so many at the end -/
def gap : Nat → List CpInfo → List CpInfo
  | 0, r => r
  | n + 1, r => .unusable :: gap n r
def poolList (es : List (Nat × CpInfo)) (last : Nat) : List CpInfo := es.foldr (fun e r => gap e.1 (e.2 :: r)) (gap last [])
def pool (es : List (Nat × CpInfo)) (last : Nat) : Array CpInfo := ⟨poolList es last⟩
def fileOf (pool : Array CpInfo) (this : Nat) (attrs : Array Attribute := #[]) (ms : Array MethodInfo := #[]) (fl : Nat := 33) (sup : Nat := 0) (ifs : Array Nat := #[]) (fds : Array FieldInfo := #[]) : ClassFile where
  minorVersion := 0
  majorVersion := 65
  constantPool := pool
  accessFlags := fl
  thisClass := this
  superClass := sup
  interfaces := ifs
  fields := fds
  methods := ms
  attributes := attrs
def plain (name : String) (sup : Option ClassId) : Class where
  name := name
  kind := .ordinary
  loader := none
  accessFlags := 33
  super := sup
  interfaces := #[]
  cf := none
  fields := #[]
  methods := #[]
  instanceTypes := #[]
  staticTypes := #[]
  resolved := #[]
  callSites := []
  init := .initialized
  statics := none
  mirror := none

def pool0 : Array CpInfo := pool [(5, u "<init>"), (0, u "()V"), (1, .class_ 10), (1, u "java/lang/Object")] 113

def k0m0 : Method := { name := "<init>", desc := "()V", sig := { parameters := [], returnType := none }, accessFlags := 1, code := none }
/-- java/lang/Object -/
def k0 : Class := { plain "java/lang/Object" none with
  accessFlags := 33
  interfaces := #[]
  cf := some (fileOf pool0 8 #[] #[{ accessFlags := 1, nameIndex := 5, descriptorIndex := 6, attributes := #[] }] 33 0 #[] #[])
  fields := #[]
  methods := #[k0m0]
  instanceTypes := #[]
  staticTypes := #[]
  resolved := Array.replicate 124 none
  statics := none }

def pool1 : Array CpInfo := pool [(2, .class_ 4), (1, u "java/lang/Object"), (0, u "<init>"), (0, u "()V"), (0, .integer 65535), (0, .class_ 9), (0, u "com/example/bitloom/bitloom/BitmapContainer"), (0, .methodref 11 12), (0, .class_ 13), (0, .nameAndType 14 15), (0, u "com/example/bitloom/bitloom/BitmapContainerFilterPinLaw"), (0, u "held"), (0, u "([JI)Z"), (0, .methodref 8 17), (0, .nameAndType 18 19), (0, u "filter"), (0, u "([J[CIZ[C)I"), (2, u "law"), (0, u "(IIJJJ)Z")] 7

def k1m0 : Method := { name := "<init>", desc := "()V", sig := { parameters := [], returnType := none }, accessFlags := 1, code := none }
def k1c1 : Code := { maxStack := 6, maxLocals := 22, code := code, exceptionTable := #[], attributes := #[] }
def k1m1 : Method := { name := "law", desc := "(IIJJJ)Z", sig := { parameters := [.int, .int, .long, .long, .long], returnType := some .boolean }, accessFlags := 9, code := some k1c1 }
def k1c2 : Code := { maxStack := 6, maxLocals := 2, code := method_3_code, exceptionTable := #[], attributes := #[] }
def k1m2 : Method := { name := "held", desc := "([JI)Z", sig := { parameters := [(.array .long), .int], returnType := some .boolean }, accessFlags := 10, code := some k1c2 }
/-- com/example/bitloom/bitloom/BitmapContainerFilterPinLaw -/
def k1 : Class := { plain "com/example/bitloom/bitloom/BitmapContainerFilterPinLaw" (some 0) with
  accessFlags := 49
  interfaces := #[]
  cf := some (fileOf pool1 11 #[] #[{ accessFlags := 1, nameIndex := 5, descriptorIndex := 6, attributes := #[] }, { accessFlags := 9, nameIndex := 22, descriptorIndex := 23, attributes := #[] }, { accessFlags := 10, nameIndex := 14, descriptorIndex := 15, attributes := #[] }] 49 2 #[] #[])
  fields := #[]
  methods := #[k1m0, k1m1, k1m2]
  instanceTypes := #[]
  staticTypes := #[]
  resolved := Array.replicate 31 none
  statics := none }

def pool2 : Array CpInfo := pool [(2, .class_ 4), (1, u "java/lang/Object"), (0, u "<init>"), (0, u "()V"), (1, .class_ 10), (1, u "com/example/bitloom/bitloom/Container"), (0, u "cardinality"), (0, u "C"), (204, u "NOT_IN_PLACE"), (0, u "I"), (41, .class_ 261), (0, u "com/example/bitloom/bitloom/Container$AscendingCursor"), (0, .class_ 263), (0, u "com/example/bitloom/bitloom/Container$Cursor")] 3

def k2m0 : Method := { name := "<init>", desc := "()V", sig := { parameters := [], returnType := none }, accessFlags := 0, code := none }
/-- com/example/bitloom/bitloom/Container -/
def k2 : Class := { plain "com/example/bitloom/bitloom/Container" (some 0) with
  accessFlags := 1056
  interfaces := #[]
  cf := some (fileOf pool2 8 #[.nestMembers #[260, 262]] #[{ accessFlags := 0, nameIndex := 5, descriptorIndex := 6, attributes := #[] }] 1056 2 #[] #[{ accessFlags := 0, nameIndex := 11, descriptorIndex := 12, attributes := #[] }, { accessFlags := 24, nameIndex := 217, descriptorIndex := 218, attributes := #[] }])
  fields := #[{ name := "cardinality", type := .char, accessFlags := 0, slot := 0, constantValue := 0 }, { name := "NOT_IN_PLACE", type := .int, accessFlags := 24, slot := 0, constantValue := 0 }]
  methods := #[k2m0]
  instanceTypes := #[.char]
  staticTypes := #[.int]
  resolved := Array.replicate 267 none
  statics := none }

def pool3 : Array CpInfo := pool [(3, .class_ 4), (0, u "com/example/bitloom/bitloom/BitmapContainer"), (9, .class_ 16), (1, u "com/example/bitloom/bitloom/Container"), (3, u "words"), (0, u "Ljava/lang/Object;"), (5, u "[J"), (52, u "ONE_BIT"), (13, u "partCounts"), (9, u "ASKED_ONCE"), (16, .class_ 122), (0, u "com/example/bitloom/bitloom/BitmapContainer$WordCursor"), (3, .class_ 127), (0, u "com/example/bitloom/bitloom/BitmapContainer$1"), (104, u "BIT_AT_RANK_IN_BYTE"), (0, u "[B"), (45, u "filter"), (0, u "([J[CIZ[C)I"), (78, u "WORD_COUNT"), (0, u "I"), (2, u "SIZE_IN_BYTES"), (1, u "PART_WORDS"), (1, u "PARTS"), (1, u "QUARTER_WORDS"), (1, u "QUARTER_COUNT_BITS"), (1, u "QUARTER_COUNT_MASK"), (1, u "ONE_IN_EACH_QUARTER_COUNT"), (0, u "J"), (0, u "SAMPLED_PART_AT"), (1, u "QUARTER_COUNTS"), (0, u "SAMPLE_BITS"), (2, u "BEFORE_PART_AT"), (1, u "BELOW_BEFORE_PART"), (0, u "PARTS_PAST_SAMPLE"), (1, u "PAST_LAST_PART"), (0, u "CHANGED_AT"), (1, u "CHANGED"), (0, u "BLOCK_PARTS"), (0, u "BLOCKS"), (0, u "MOVED_AT"), (1, u "ENTRIES"), (1, u "GROUP_WORDS"), (1, u "RANKED_RANGE_WORDS"), (0, u "VALUES_AT_ONCE"), (0, u "FEW_VALUES")] 69

def k3c0 : Code := { maxStack := 5, maxLocals := 10, code := prog_15_method_58_code, exceptionTable := #[], attributes := #[] }
def k3m0 : Method := { name := "filter", desc := "([J[CIZ[C)I", sig := { parameters := [(.array .long), (.array .char), .int, .boolean, (.array .char)], returnType := some .int }, accessFlags := 8, code := some k3c0 }
/-- com/example/bitloom/bitloom/BitmapContainer -/
def k3 : Class := { plain "com/example/bitloom/bitloom/BitmapContainer" (some 2) with
  accessFlags := 48
  interfaces := #[]
  cf := some (fileOf pool3 3 #[.nestMembers #[121, 126]] #[{ accessFlags := 8, nameIndex := 279, descriptorIndex := 280, attributes := #[] }] 48 14 #[] #[{ accessFlags := 24, nameIndex := 359, descriptorIndex := 360, attributes := #[] }, { accessFlags := 24, nameIndex := 363, descriptorIndex := 360, attributes := #[] }, { accessFlags := 26, nameIndex := 80, descriptorIndex := 27, attributes := #[] }, { accessFlags := 26, nameIndex := 365, descriptorIndex := 360, attributes := #[] }, { accessFlags := 26, nameIndex := 367, descriptorIndex := 360, attributes := #[] }, { accessFlags := 26, nameIndex := 369, descriptorIndex := 360, attributes := #[] }, { accessFlags := 26, nameIndex := 371, descriptorIndex := 360, attributes := #[] }, { accessFlags := 26, nameIndex := 373, descriptorIndex := 360, attributes := #[] }, { accessFlags := 26, nameIndex := 375, descriptorIndex := 376, attributes := #[] }, { accessFlags := 26, nameIndex := 377, descriptorIndex := 360, attributes := #[] }, { accessFlags := 26, nameIndex := 379, descriptorIndex := 376, attributes := #[] }, { accessFlags := 26, nameIndex := 380, descriptorIndex := 376, attributes := #[] }, { accessFlags := 26, nameIndex := 383, descriptorIndex := 360, attributes := #[] }, { accessFlags := 26, nameIndex := 385, descriptorIndex := 376, attributes := #[] }, { accessFlags := 26, nameIndex := 386, descriptorIndex := 360, attributes := #[] }, { accessFlags := 26, nameIndex := 388, descriptorIndex := 376, attributes := #[] }, { accessFlags := 26, nameIndex := 389, descriptorIndex := 360, attributes := #[] }, { accessFlags := 26, nameIndex := 391, descriptorIndex := 376, attributes := #[] }, { accessFlags := 26, nameIndex := 392, descriptorIndex := 360, attributes := #[] }, { accessFlags := 26, nameIndex := 393, descriptorIndex := 360, attributes := #[] }, { accessFlags := 26, nameIndex := 394, descriptorIndex := 360, attributes := #[] }, { accessFlags := 26, nameIndex := 396, descriptorIndex := 360, attributes := #[] }, { accessFlags := 26, nameIndex := 398, descriptorIndex := 360, attributes := #[] }, { accessFlags := 26, nameIndex := 400, descriptorIndex := 360, attributes := #[] }, { accessFlags := 26, nameIndex := 232, descriptorIndex := 233, attributes := #[] }, { accessFlags := 26, nameIndex := 401, descriptorIndex := 360, attributes := #[] }, { accessFlags := 26, nameIndex := 402, descriptorIndex := 360, attributes := #[] }, { accessFlags := 26, nameIndex := 104, descriptorIndex := 27, attributes := #[] }, { accessFlags := 2, nameIndex := 20, descriptorIndex := 21, attributes := #[] }, { accessFlags := 66, nameIndex := 94, descriptorIndex := 27, attributes := #[] }])
  fields := #[{ name := "WORD_COUNT", type := .int, accessFlags := 24, slot := 0, constantValue := 0 }, { name := "SIZE_IN_BYTES", type := .int, accessFlags := 24, slot := 1, constantValue := 0 }, { name := "ONE_BIT", type := (.array .long), accessFlags := 26, slot := 2, constantValue := 0 }, { name := "PART_WORDS", type := .int, accessFlags := 26, slot := 3, constantValue := 0 }, { name := "PARTS", type := .int, accessFlags := 26, slot := 4, constantValue := 0 }, { name := "QUARTER_WORDS", type := .int, accessFlags := 26, slot := 5, constantValue := 0 }, { name := "QUARTER_COUNT_BITS", type := .int, accessFlags := 26, slot := 6, constantValue := 0 }, { name := "QUARTER_COUNT_MASK", type := .int, accessFlags := 26, slot := 7, constantValue := 0 }, { name := "ONE_IN_EACH_QUARTER_COUNT", type := .long, accessFlags := 26, slot := 8, constantValue := 0 }, { name := "SAMPLED_PART_AT", type := .int, accessFlags := 26, slot := 9, constantValue := 0 }, { name := "QUARTER_COUNTS", type := .long, accessFlags := 26, slot := 10, constantValue := 0 }, { name := "SAMPLE_BITS", type := .long, accessFlags := 26, slot := 11, constantValue := 0 }, { name := "BEFORE_PART_AT", type := .int, accessFlags := 26, slot := 12, constantValue := 0 }, { name := "BELOW_BEFORE_PART", type := .long, accessFlags := 26, slot := 13, constantValue := 0 }, { name := "PARTS_PAST_SAMPLE", type := .int, accessFlags := 26, slot := 14, constantValue := 0 }, { name := "PAST_LAST_PART", type := .long, accessFlags := 26, slot := 15, constantValue := 0 }, { name := "CHANGED_AT", type := .int, accessFlags := 26, slot := 16, constantValue := 0 }, { name := "CHANGED", type := .long, accessFlags := 26, slot := 17, constantValue := 0 }, { name := "BLOCK_PARTS", type := .int, accessFlags := 26, slot := 18, constantValue := 0 }, { name := "BLOCKS", type := .int, accessFlags := 26, slot := 19, constantValue := 0 }, { name := "MOVED_AT", type := .int, accessFlags := 26, slot := 20, constantValue := 0 }, { name := "ENTRIES", type := .int, accessFlags := 26, slot := 21, constantValue := 0 }, { name := "GROUP_WORDS", type := .int, accessFlags := 26, slot := 22, constantValue := 0 }, { name := "RANKED_RANGE_WORDS", type := .int, accessFlags := 26, slot := 23, constantValue := 0 }, { name := "BIT_AT_RANK_IN_BYTE", type := (.array .byte), accessFlags := 26, slot := 24, constantValue := 0 }, { name := "VALUES_AT_ONCE", type := .int, accessFlags := 26, slot := 25, constantValue := 0 }, { name := "FEW_VALUES", type := .int, accessFlags := 26, slot := 26, constantValue := 0 }, { name := "ASKED_ONCE", type := (.array .long), accessFlags := 26, slot := 27, constantValue := 0 }, { name := "words", type := (.object "java/lang/Object"), accessFlags := 2, slot := 1, constantValue := 0 }, { name := "partCounts", type := (.array .long), accessFlags := 66, slot := 2, constantValue := 0 }]
  methods := #[k3m0]
  instanceTypes := #[.char, (.object "java/lang/Object"), (.array .long)]
  staticTypes := #[.int, .int, (.array .long), .int, .int, .int, .int, .int, .long, .int, .long, .long, .int, .long, .int, .long, .int, .long, .int, .int, .int, .int, .int, .int, (.array .byte), .int, .int, (.array .long)]
  resolved := Array.replicate 472 none
  statics := none }

def pool4 : Array CpInfo := pool [(1, u "java/lang/Cloneable"), (0, .class_ 1), (0, u "java/lang/Object"), (0, .class_ 3)] 3

/-- java/lang/Cloneable -/
def k4 : Class := { plain "java/lang/Cloneable" (some 0) with
  accessFlags := 1537
  interfaces := #[]
  cf := some (fileOf pool4 2 #[] #[] 1537 4 #[] #[])
  fields := #[]
  methods := #[]
  instanceTypes := #[]
  staticTypes := #[]
  resolved := Array.replicate 8 none
  statics := none }

def pool5 : Array CpInfo := pool [(1, u "java/io/Serializable"), (0, .class_ 1), (0, u "java/lang/Object"), (0, .class_ 3)] 3

/-- java/io/Serializable -/
def k5 : Class := { plain "java/io/Serializable" (some 0) with
  accessFlags := 1537
  interfaces := #[]
  cf := some (fileOf pool5 2 #[] #[] 1537 4 #[] #[])
  fields := #[]
  methods := #[]
  instanceTypes := #[]
  staticTypes := #[]
  resolved := Array.replicate 8 none
  statics := none }

/-- the primitive byte -/
def k6 : Class := { plain "byte" none with kind := .primitive 'B', accessFlags := 0x411 }
/-- [B -/
def k7 : Class := { plain "[B" (some 0) with kind := .array 6 .byte, interfaces := #[4, 5], accessFlags := 1041 }

/-- the primitive char -/
def k8 : Class := { plain "char" none with kind := .primitive 'C', accessFlags := 0x411 }
/-- [C -/
def k9 : Class := { plain "[C" (some 0) with kind := .array 8 .char, interfaces := #[4, 5], accessFlags := 1041 }

/-- the primitive int -/
def k10 : Class := { plain "int" none with kind := .primitive 'I', accessFlags := 0x411 }
/-- [I -/
def k11 : Class := { plain "[I" (some 0) with kind := .array 10 .int, interfaces := #[4, 5], accessFlags := 1041 }

/-- the primitive long -/
def k12 : Class := { plain "long" none with kind := .primitive 'J', accessFlags := 0x411 }
/-- [J -/
def k13 : Class := { plain "[J" (some 0) with kind := .array 12 .long, interfaces := #[4, 5], accessFlags := 1041 }

def heap : Heap := #[]
def classes : Array Class := #[k0, k1, k2, k3, k4, k5, k6, k7, k8, k9, k10, k11, k12, k13]
def interned : List (Array UInt16 × Addr) := []
def slotsUsed : Nat := 0
def theMethod : MethodId := ⟨1, 1⟩
def args0 : Array Value := #[.int 5, .int 6, .long 7, .long 8, .long 9]
def aboutOver (below : List Frame) : State where
  vm := { classes := classes, interned := interned.toArray }
  heap := heap
  slotsUsed := slotsUsed
  threads := #[{ frames := .invoking theMethod args0 :: below }]
def below0 : List Frame := [.native { method := ⟨0, 0⟩, args := #[] }]
def about1 : State := aboutOver below0
def p0 : Program := .bare "" "" ""
def e0 : Env := launch0.env 0 0 0
theorem w_frames : about1.frames = Frame.invoking theMethod args0 :: below0 := rfl
set_option maxRecDepth 65536 in
theorem w_args : argsFit about1.vm theMethod args0 = true := by decide +kernel
set_option maxRecDepth 65536 in
theorem w_heap : heapFits about1 = true := by decide +kernel
set_option maxRecDepth 65536 in
theorem w_runnable : about1.curStatus? = some .runnable := by decide +kernel
set_option maxRecDepth 65536 in
theorem w_alone : about1.alone = true := by decide +kernel
set_option maxRecDepth 65536 in
theorem w_named : about1.methodNamed? x = some theMethod := by decide +kernel
set_option maxRecDepth 65536 in
theorem w_hears : about1.hears theMethod below0 = true := by decide +kernel
set_option maxRecDepth 65536 in
theorem w_ripe : about1.ripe theMethod args0 below0 = true := by decide +kernel
theorem w_running : about1.status = .running := rfl
set_option maxRecDepth 65536 in
theorem w_room : about1.hasRoom e0.platform room_1 = true :=
  launch0.hasRoom_least _ room_1 (by decide +kernel) (by decide +kernel) (by decide +kernel) (by decide +kernel) (by decide +kernel) (by decide +kernel)
theorem allAtoms_all (ts : List Jvm.Cond) (a : Array Jvm.Value) (st : Jvm.State) : (allAtoms ts).before a st = ts.all (fun c => c.before a st) := by
  induction ts with
  | nil => rfl
  | cons c t ih =>
    show (Jvm.Cond.and c (allAtoms t)).before a st = _
    rw [Jvm.Cond.before_and, ih, List.all_cons]
def words1 : List Jvm.Cond := Jvm.Cond.code x code maxLocals ret :: tables_1
/-- a 'code' word, met by the world's own term for the bytes: nothing is compared byte by byte -/
theorem code_word {y : MethodName} {bytes : ByteArray} {mx : Nat} {rt : Option FieldType} {a : Array Value} {s : State} {m : MethodId} {meth : Method} {c : Code} (h1 : s.methodNamed? y = some m) (h2 : s.vm.method? m = some meth) (h3 : meth.code = some c) (h4 : c.code = bytes)
    (h5 : (c.maxLocals == mx && c.exceptionTable.isEmpty && decide (c.maxStack ≤ mostOperands) && decide (meth.sig.returnType = rt) && !meth.locks && decide (parseMethodDescriptor y.desc = some meth.sig)) = true) : (Jvm.Cond.code y bytes mx rt).before a s = true := by
  simp only [Bool.and_eq_true, beq_iff_eq, Bool.not_eq_true', decide_eq_true_eq] at h5
  obtain ⟨⟨⟨⟨⟨g1, g2⟩, g3⟩, g4⟩, g5⟩, g6⟩ := h5
  simp [Cond.before, Cond.holds, Cond.value, h1, h2, h3, h4, g1, g2, g3, g4, g5, g6]
def isCode : Jvm.Cond → Bool
  | .code _ _ _ _ => true
  | _ => false
theorem all_split {L : List Jvm.Cond} {P : Jvm.Cond → Bool} (h1 : L.all (fun c => isCode c || P c) = true) (h2 : ∀ c ∈ L.filter isCode, P c = true) : L.all P = true := by
  refine List.all_eq_true.mpr fun c hc => ?_
  have h := List.all_eq_true.mp h1 c hc
  rcases Bool.eq_false_or_eq_true (isCode c) with hi | hi
  · exact h2 c (List.mem_filter.mpr ⟨hc, hi⟩)
  · simpa [hi] using h
set_option maxRecDepth 65536 in
theorem w_c0 : (Jvm.Cond.code x code maxLocals ret).before args0 about1 = true := code_word (m := ⟨1, 1⟩) (meth := k1m1) (c := k1c1) (by decide +kernel) rfl rfl rfl (by decide +kernel)
set_option maxRecDepth 65536 in
theorem w_c1 : (Jvm.Cond.code ({ cls := "com/example/bitloom/bitloom/BitmapContainer", name := "filter", desc := "([J[CIZ[C)I" } : Jvm.MethodName) prog_15_method_58_code (10 : Nat) (Option.some Jvm.ClassFile.FieldType.int)).before args0 about1 = true := code_word (m := ⟨3, 0⟩) (meth := k3m0) (c := k3c0) (by decide +kernel) rfl rfl rfl (by decide +kernel)
set_option maxRecDepth 65536 in
theorem w_c2 : (Jvm.Cond.code ({ cls := "com/example/bitloom/bitloom/BitmapContainerFilterPinLaw", name := "held", desc := "([JI)Z" } : Jvm.MethodName) method_3_code (2 : Nat) (Option.some Jvm.ClassFile.FieldType.boolean)).before args0 about1 = true := code_word (m := ⟨1, 2⟩) (meth := k1m2) (c := k1c2) (by decide +kernel) rfl rfl rfl (by decide +kernel)
def codes1 : List Jvm.Cond := [Jvm.Cond.code x code maxLocals ret, Jvm.Cond.code ({ cls := "com/example/bitloom/bitloom/BitmapContainer", name := "filter", desc := "([J[CIZ[C)I" } : Jvm.MethodName) prog_15_method_58_code (10 : Nat) (Option.some Jvm.ClassFile.FieldType.int), Jvm.Cond.code ({ cls := "com/example/bitloom/bitloom/BitmapContainerFilterPinLaw", name := "held", desc := "([JI)Z" } : Jvm.MethodName) method_3_code (2 : Nat) (Option.some Jvm.ClassFile.FieldType.boolean)]
set_option maxRecDepth 65536 in
theorem codes_eq : words1.filter isCode = codes1 := rfl
theorem w_codes : ∀ c ∈ words1.filter isCode, c.before args0 about1 = true := by
  rw [codes_eq]
  intro c hc
  simp only [codes1, List.mem_cons, List.not_mem_nil, or_false] at hc
  rcases hc with rfl | rfl | rfl
  · exact w_c0
  · exact w_c1
  · exact w_c2
set_option maxRecDepth 65536 in
theorem w_t1 : words1.all (fun c => isCode c || c.before args0 about1) = true := by decide +kernel
theorem w_tables : (allAtoms (Jvm.Cond.code x code maxLocals ret :: tables_1)).before args0 about1 = true := by
  rw [allAtoms_all]
  show words1.all (fun c => c.before args0 about1) = true
  refine all_split ?_ w_codes
  rw [w_t1]
set_option maxRecDepth 65536 in
theorem w_case : (Jvm.Cond.and given_1 narrow_1).before args0 about1 = true := by decide +kernel
theorem w_applies : (headSpec (Jvm.Cond.code x code maxLocals ret :: tables_1) room_1).applies x e0.platform about1 = true :=
  (Spec.applies_iff w_frames).mpr ⟨w_running, w_runnable, w_alone, w_named, w_hears, w_ripe, w_room, w_tables⟩
theorem atStart : AtStart classFile x code maxLocals ret World_1 tables_1 room_1 Calls_1 rest_1 Pre_1 launch0 p0 e0 about1 theMethod args0 below0 :=
  ⟨lists_1, trivial, launch0.admits_env _ _ _, launch0.least_env, fairChoices_fair.cas, fairChoices_fair.clock, w_frames, w_args, w_heap, w_applies, trivial, trivial, w_case⟩
end start1
theorem witness_1 : WitnessClaimed_1 := ⟨start1.p0, start1.e0, start1.about1, start1.theMethod, start1.args0, start1.below0, start1.atStart⟩
end Jvm.Pilot.@@N@@
