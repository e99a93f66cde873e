import JvmDerived
import JvmDerived.Pilot.@@N@@Statement
import JvmDerived.Pilot.@@N@@Code
set_option linter.unusedVariables false
set_option linter.unusedSimpArgs false
namespace Jvm.RoadKit
open Sem ClassFile Op Lib Jvm.Stand Jvm.Free Jvm.LawKit
section New
variable {p : Program} {l : Launch} {e : Env} {R : Room} {s : State} {m : MethodId} {args : Array Value} {below : List Frame} {meth : Method} {c : Code} {T : State} {locs : List Loc} {cells slots : Nat}
theorem retI (X : Stand p l e R s m args below meth c T locs cells slots) (hx : p.tables.exec = Jvm.exec) {pc : Nat} {Ls : Array Slot} {z : Int32} {rest : List Value} (hret : meth.sig.returnType = some .int) (hd : decode c.code pc = .ok (.ireturn, 1)) {fs : List Frame}
    (hl : ∀ (f : JFrame) (acts : List Action), f.method = m → f.locked = none → f.entered = [] → (doReturn e (T.setTop f) acts (some (.int z))).1 = T.setFrames fs) : Steps p.tables e below (T.setTop (mkF m pc Ls (.int z :: rest))) (T.setFrames fs) := by
  have hm' : T.vm.method? m = some meth := X.method'
  have hn : narrow .int (.int z) = .int z := rfl
  show Steps p.tables e below (T.setTop { method := m, pc := pc, locals := Ls, stack := _ :: rest, locked := none }) _
  jvm_step X.here [X.here.top, hx, hd, hm', hret, hn]
  first | (intro acts; rw [hl _ acts rfl rfl rfl]) | rw [hl _ _ rfl rfl rfl]
  exact Steps.refl _
end New
end Jvm.RoadKit
namespace Jvm.Pilot.@@N@@
open Jvm Jvm.ClassFile Sem Op Lib Jvm.Free Jvm.Stand Jvm.LawKit Jvm.RoadKit Bundle Jvm.Pilot.@@N@@.Jvm.D
/-- whoever reaches a target from the frame F of T reaches it from the frame F0 of T0 -/
def own_Go (p : Program) (e : Env) (below : List Frame) (T0 : State) (F0 : JFrame) (T : State) (F : JFrame) : Prop := ∀ target, Steps p.tables e below (T.setTop F) target → Steps p.tables e below (T0.setTop F0) target
theorem own_Go.refl {p : Program} {e : Env} {below : List Frame} {T : State} {F : JFrame} : own_Go p e below T F T F := fun _ k => k
theorem own_Go.trans {p : Program} {e : Env} {below : List Frame} {T0 T1 T2 : State} {F0 F1 F2 : JFrame} (a : own_Go p e below T0 F0 T1 F1) (b : own_Go p e below T1 F1 T2 F2) : own_Go p e below T0 F0 T2 F2 := fun t k => a t (b t k)

theorem pd_0 : parseMethodDescriptor "(I)I" = some ⟨[.int], some .int⟩ := by decide +kernel
theorem pd_1 : parseMethodDescriptor "(JID)I" = some ⟨[.long, .int, .double], some .int⟩ := by decide +kernel
/-! an array whose n places hold f 0 .. f (n - 1) -/
def own_Ar (Z : State) (h : Heap) (a : Addr) (ty : FieldType) (n : Nat) (f : Nat → Value) : Prop := ∃ cl : Cell, Arr Z h a cl ty ∧ cl.slots.size = n ∧ ∀ j, j < n → cl.slots[j]? = some (f j)
section OwnArr
variable {Z : State} {h h' : Heap} {a b : Addr} {ty : FieldType} {n i : Nat} {f g : Nat → Value} {v : Value} {cl : Cell}
theorem own_new {k : ClassId} {z : Int32} (A : Arr Z h a (newA k ty z) ty) (hz : z.toNatClampNeg = n) : own_Ar Z h a ty n (fun _ => defaultValue ty) := by
  refine ⟨_, A, by rw [sz_new, hz], fun j hj => ?_⟩
  show (Array.replicate z.toNatClampNeg (defaultValue ty))[j]? = _
  rw [hz, Array.getElem?_replicate, if_pos hj]
theorem own_set (A : Arr Z h a cl ty) (S : cl.slots.size = n) (H : ∀ j, j < n → cl.slots[j]? = some (f j)) (W : Wr h h' a i v) (hi : i < n) : own_Ar Z h' a ty n (fun j => if j = i then v else f j) := by
  refine ⟨_, A.same W, by rw [sz_set, S], fun j hj => ?_⟩
  show (cl.slots.setIfInBounds i v)[j]? = some (if j = i then v else f j)
  rw [Array.getElem?_setIfInBounds]
  by_cases h : j = i
  · subst h
    rw [if_pos rfl, if_pos (by omega), if_pos rfl]
  · rw [if_neg (fun q => h q.symm), if_neg h]
    exact H j hj
theorem own_congr (V : own_Ar Z h a ty n f) (q : ∀ j, j < n → f j = g j) : own_Ar Z h a ty n g := by
  obtain ⟨c, A, S, H⟩ := V
  exact ⟨c, A, S, fun j hj => by rw [H j hj, q j hj]⟩
theorem own_Ar.ext (V : own_Ar Z h a ty n f) (E : Ext h h') : own_Ar Z h' a ty n f := by
  obtain ⟨c, A, r⟩ := V
  exact ⟨c, A.ext E, r⟩
theorem own_Ar.other (V : own_Ar Z h a ty n f) (W : Wr h h' b i v) (q : a ≠ b) : own_Ar Z h' a ty n f := by
  obtain ⟨c, A, r⟩ := V
  exact ⟨c, A.other W q, r⟩
theorem own_Ar.keep {ws : List Addr} (V : own_Ar Z h a ty n f) (K : Keep h h' ws) (q : a ∉ ws) : own_Ar Z h' a ty n f := by
  obtain ⟨c, A, r⟩ := V
  exact ⟨c, ⟨K.2.1 a c A.1 q, A.2⟩, r⟩
theorem own_Ar.lt (V : own_Ar Z h a ty n f) : a < h.size := by
  obtain ⟨c, A, -⟩ := V
  exact A.lt
theorem own_setC {f : Nat → Int32} {y : Int32} (A : Arr Z h a cl ty) (S : cl.slots.size = n) (H : ∀ j, j < n → cl.slots[j]? = some (.int (f j))) (W : Wr h h' a i (.int y)) (hi : i < n) : own_Ar Z h' a ty n (fun j => .int ((fun j => if j = i then y else f j) j)) :=
  own_congr (own_set A S H W hi) (fun j _ => by dsimp only; split <;> rfl)
theorem own_setL {f : Nat → Int64} {y : Int64} (A : Arr Z h a cl .long) (S : cl.slots.size = n) (H : ∀ j, j < n → cl.slots[j]? = some (.long (f j))) (W : Wr h h' a i (.long y)) (hi : i < n) : ∃ g : Nat → Int64, own_Ar Z h' a .long n (fun j => .long (g j)) :=
  ⟨fun j => if j = i then y else f j, own_congr (own_set A S H W hi) (fun j _ => by dsimp only; split <;> rfl)⟩
theorem own_inb {j : Int32} (S : cl.slots.size = n) (hj : j.toNatClampNeg = i) (hn : ¬ j < 0) (hi : i < n) : ¬ (j < 0 ∨ cl.slots.size ≤ j.toNatClampNeg) := fun q => q.elim hn (fun q => by omega)
end OwnArr
/-! plain laws on doubles: one rounding moves a magnitude by at most its 2^53-th part -/
open Jvm.Free.Fl
theorem own_d0 : FP.dconst0 = FP.l2d 0 := by decide +kernel
theorem own_d1 : FP.dconst1 = FP.l2d 1 := by decide +kernel
theorem own_fin {x : UInt64} (h : Fin64 x) : ∃ s c q, FP.Core.val64 x = .fin s c q := fin64_core.mp h
theorem own_rr {A c : Nat} {e q E : Int} {t : Bool} (hA : 0 < A) (hE : E ≤ e) (h52 : 2 ^ 52 ≤ A * 2 ^ (e - E).toNat) (hEq : FP.Core.b64.qmin < E) (h : FP.Core.roundRatio FP.Core.b64 false A 1 e = .fin t c q) :
    t = false ∧ E ≤ q ∧ 9007199254740992 * (c * 2 ^ (q - E).toNat) ≤ 9007199254740993 * (A * 2 ^ (e - E).toNat) ∧ 9007199254740991 * (A * 2 ^ (e - E).toNat) ≤ 9007199254740992 * (c * 2 ^ (q - E).toNat) := by
  have hp : FP.Core.b64.p = 53 := rfl
  have hb := FP.Core.quantum_below (f := FP.Core.b64) (B := 1) hA (by decide) e
  have hn := FP.Core.quantum_not_below (f := FP.Core.b64) (B := 1) hA (by decide) e
  have hle := FP.Core.nearest_units_le (f := FP.Core.b64) (B := 1) hA (by decide) e
  have hs := FP.Core.nearest_spec (FP.Core.unitsNum A e (FP.Core.quantum FP.Core.b64 A 1 e)) (FP.Core.unitsDen 1 e (FP.Core.quantum FP.Core.b64 A 1 e)) (FP.Core.unitsDen_pos (by decide) _ _)
  unfold FP.Core.roundRatio at h
  rw [if_neg (by omega)] at h
  unfold FP.Core.roundAt at h
  generalize FP.Core.quantum FP.Core.b64 A 1 e = r at h hb hn hle hs
  rw [hp] at hb hn
  have hEr : E ≤ r := by
    have h1 : ¬ FP.Core.Below A 1 (((52 : Nat) : Int) - ((e - E).toNat : Nat)) := by
      rw [FP.Core.below_iff]
      omega
    have h2 := FP.Core.lt_of_below h1 hb
    omega
  have hu : 2 ^ 52 * FP.Core.unitsDen 1 e r ≤ FP.Core.unitsNum A e r := by
    rcases hn with hn | hn
    · omega
    · have h3 : ¬ FP.Core.Below A 1 (r - e + ((52 : Nat) : Int)) := by
        have e1 : r - e + (((53 : Nat) : Int) - 1) = r - e + ((52 : Nat) : Int) := by omega
        rw [e1] at hn
        exact hn
      rw [← FP.Core.units_below] at h3
      omega
  obtain ⟨s1, s2⟩ := FP.Core.settle_value FP.Core.good_b64 hle h hEr
  have hqr : r ≤ q := by
    unfold FP.Core.settle FP.Core.bound at h
    split at h <;> split at h <;> first | (injection h with _ _ h1; omega) | cases h
  unfold FP.Core.inUnits at s2
  refine ⟨s1, by omega, ?_⟩
  rw [s2]
  obtain ⟨g1, g2, -⟩ := hs
  have hX : A * 2 ^ (e - E).toNat * FP.Core.unitsDen 1 e r = FP.Core.unitsNum A e r * 2 ^ (r - E).toNat := by
    unfold FP.Core.unitsDen FP.Core.unitsNum
    rw [Nat.one_mul, Nat.mul_assoc, Nat.mul_assoc, ← Nat.pow_add, ← Nat.pow_add]
    congr 2
    omega
  have hD := FP.Core.unitsDen_pos (B := 1) (by decide) e r
  generalize FP.Core.unitsDen 1 e r = Dn at *
  generalize FP.Core.unitsNum A e r = Nu at *
  generalize FP.Core.nearest Nu Dn = M at *
  generalize A * 2 ^ (e - E).toNat = X at *
  generalize 2 ^ (r - E).toNat = P at *
  have k1 : 9007199254740992 * (M * Dn) ≤ 9007199254740993 * Nu := by
    rw [Nat.mul_assoc] at g2
    generalize M * Dn = y at *
    omega
  have k2 : 9007199254740991 * Nu ≤ 9007199254740992 * (M * Dn) := by
    rw [Nat.add_mul, Nat.one_mul, Nat.mul_assoc] at g1
    generalize M * Dn = y at *
    omega
  constructor
  · refine Nat.le_of_mul_le_mul_right ?_ hD
    have e1 : 9007199254740992 * (M * P) * Dn = 9007199254740992 * (M * Dn) * P := by ac_rfl
    have e2 : 9007199254740993 * X * Dn = 9007199254740993 * Nu * P := by rw [Nat.mul_assoc, hX]; ac_rfl
    rw [e1, e2]
    exact Nat.mul_le_mul_right P k1
  · refine Nat.le_of_mul_le_mul_right ?_ hD
    have e1 : 9007199254740992 * (M * P) * Dn = 9007199254740992 * (M * Dn) * P := by ac_rfl
    have e2 : 9007199254740991 * X * Dn = 9007199254740991 * Nu * P := by rw [Nat.mul_assoc, hX]; ac_rfl
    rw [e1, e2]
    exact Nat.mul_le_mul_right P k2
theorem own_trunc {c : Nat} {q : Int} (hq : -132 ≤ q) : FP.Core.truncate false c q = (((c * 2 ^ (q - -132).toNat) / 2 ^ 132 : Nat) : Int) := by
  show (((c * 2 ^ q.toNat) / 2 ^ (-q).toNat : Nat) : Int) = _
  congr 1
  by_cases h : 0 ≤ q
  · rw [show (-q).toNat = 0 by omega, Nat.pow_zero, Nat.div_one, show (q - -132).toNat = q.toNat + 132 by omega, Nat.pow_add, ← Nat.mul_assoc, Nat.mul_div_cancel _ (Nat.two_pow_pos 132)]
  · have e : (2 : Nat) ^ 132 = 2 ^ (-q).toNat * 2 ^ (q - -132).toNat := by
      rw [← Nat.pow_add]
      congr 1
      omega
    rw [show q.toNat = 0 by omega, Nat.pow_zero, Nat.mul_one, e, Nat.mul_div_mul_right _ _ (Nat.two_pow_pos _)]
theorem own_d2l (x : Int64) (hx : 0 < x.toInt) (rc : UInt64) (c2 : Nat) (hv : FP.Core.val64 rc = .fin false c2 (-80)) (hc : 2 ^ 52 ≤ c2) (hm : Mag64 1088 rc) :
    ∃ N1 N3 : Nat, 9007199254740992 * N1 ≤ 9007199254740993 * (x.toInt.toNat * 2 ^ 52) ∧ 9007199254740991 * (x.toInt.toNat * 2 ^ 52) ≤ 9007199254740992 * N1 ∧ 9007199254740992 * N3 ≤ 9007199254740993 * (N1 * c2) ∧ 9007199254740991 * (N1 * c2) ≤ 9007199254740992 * N3 ∧ (N3 / 2 ^ 132 < 9223372036854775808 → (FP.d2l (FP.dmul (FP.l2d x) rc)).toInt = ((N3 / 2 ^ 132 : Nat) : Int)) := by
  obtain ⟨s1, c1, e1, v1⟩ := own_fin (l2d_fin x)
  have hd : decide (x.toInt < 0) = false := by
    rw [decide_eq_false_iff_not]
    omega
  have r1 : FP.Core.roundRatio FP.Core.b64 (decide (x.toInt < 0)) x.toInt.natAbs 1 0 = .fin s1 c1 e1 := by
    rw [← v1, show FP.l2d x = FP.Core.l2d x from rfl, FP.Core.val64_l2d]
    rfl
  rw [hd] at r1
  have hn : x.toInt.natAbs = x.toInt.toNat := by omega
  rw [hn] at r1
  have hpos : 0 < x.toInt.toNat := by omega
  obtain ⟨t1, t2, t3, t4⟩ := own_rr (E := -52) hpos (by decide) (by show 2 ^ 52 ≤ x.toInt.toNat * 2 ^ 52; exact Nat.le_mul_of_pos_left _ hpos) (by decide) r1
  subst t1
  have h52 : ((0 : Int) - -52).toNat = 52 := by decide
  rw [h52] at t3 t4
  have hN1 : 0 < c1 * 2 ^ (e1 - -52).toNat := by
    rcases Nat.eq_zero_or_pos (c1 * 2 ^ (e1 - -52).toNat) with h0 | h0
    · rw [h0] at t4
      have : 0 < x.toInt.toNat * 2 ^ 52 := Nat.mul_pos hpos (Nat.two_pow_pos _)
      omega
    · exact h0
  have fD : Fin64 (FP.dmul (FP.l2d x) rc) := (dmul_mag (l2d_mag x) hm (by decide) (by decide)).fin (by decide)
  obtain ⟨s3, c3, e3, v3⟩ := own_fin fD
  have r3 : FP.Core.roundRatio FP.Core.b64 (false != false) (c1 * c2) 1 (e1 + -80) = .fin s3 c3 e3 := by
    rw [← v3, show FP.dmul (FP.l2d x) rc = FP.Core.dmul (FP.l2d x) rc from rfl, FP.Core.val64_dmul, v1, hv]
    rfl
  have hc1 : 0 < c1 := by
    rcases Nat.eq_zero_or_pos c1 with h0 | h0
    · rw [h0, Nat.zero_mul] at hN1
      omega
    · exact h0
  have hcc : c1 * c2 * 2 ^ (e1 + -80 - -132).toNat = c1 * 2 ^ (e1 - -52).toNat * c2 := by
    rw [show e1 + -80 - -132 = e1 - -52 by omega]
    ac_rfl
  obtain ⟨u1, u2, u3, u4⟩ := own_rr (E := -132) (Nat.mul_pos hc1 (by omega)) (by omega) (by rw [hcc]; exact Nat.le_trans hc (Nat.le_mul_of_pos_left _ hN1)) (by decide) r3
  subst u1
  rw [hcc] at u3 u4
  refine ⟨c1 * 2 ^ (e1 - -52).toNat, c3 * 2 ^ (e3 - -132).toNat, t3, t4, u3, u4, fun hlt => ?_⟩
  have ht := own_trunc (c := c3) u2
  have e : FP.d2l (FP.dmul (FP.l2d x) rc) = Int64.ofInt (max (-2 ^ 63) (min (2 ^ 63 - 1) (FP.Core.truncate false c3 e3))) := by
    show FP.Core.toL (FP.Core.val64 (FP.dmul (FP.l2d x) rc)) = _
    rw [v3]
    rfl
  rw [e, ht]
  generalize c3 * 2 ^ (e3 - -132).toNat / 2 ^ 132 = y at *
  rw [Int64.toInt_ofInt]
  have hy : max (-2 ^ 63) (min (2 ^ 63 - 1) (y : Int)) = y := by omega
  rw [hy]
  exact XT.bmod64 ⟨by omega, by omega⟩
def own_isP (p : Int32) : Prop := p = (268435399 : Int32) ∨ p = (268435367 : Int32) ∨ p = (268435361 : Int32) ∨ p = (268435337 : Int32) ∨ p = (268435331 : Int32) ∨ p = (268435313 : Int32) ∨ p = (268435291 : Int32) ∨ p = (268435273 : Int32) ∨ p = (268435243 : Int32) ∨ p = (268435183 : Int32)
def own_rc (p : Int32) : UInt64 := FP.ddiv (FP.l2d 1) (FP.i2d p)
theorem own_v268435399 : FP.Core.val64 (own_rc (268435399 : Int32)) = .fin false 4503600583672011 (-80) := by decide +kernel
theorem own_m268435399 : Mag64 1088 (own_rc (268435399 : Int32)) := by unfold Mag64; decide +kernel
theorem own_z268435399 : FP.d2l (FP.dmul (FP.l2d 0) (own_rc (268435399 : Int32))) = 0 := by decide +kernel
theorem own_v268435367 : FP.Core.val64 (own_rc (268435367 : Int32)) = .fin false 4503601120543215 (-80) := by decide +kernel
theorem own_m268435367 : Mag64 1088 (own_rc (268435367 : Int32)) := by unfold Mag64; decide +kernel
theorem own_z268435367 : FP.d2l (FP.dmul (FP.l2d 0) (own_rc (268435367 : Int32))) = 0 := by decide +kernel
theorem own_v268435361 : FP.Core.val64 (own_rc (268435361 : Int32)) = .fin false 4503601221206580 (-80) := by decide +kernel
theorem own_m268435361 : Mag64 1088 (own_rc (268435361 : Int32)) := by unfold Mag64; decide +kernel
theorem own_z268435361 : FP.d2l (FP.dmul (FP.l2d 0) (own_rc (268435361 : Int32))) = 0 := by decide +kernel
theorem own_v268435337 : FP.Core.val64 (own_rc (268435337 : Int32)) = .fin false 4503601623860085 (-80) := by decide +kernel
theorem own_m268435337 : Mag64 1088 (own_rc (268435337 : Int32)) := by unfold Mag64; decide +kernel
theorem own_z268435337 : FP.d2l (FP.dmul (FP.l2d 0) (own_rc (268435337 : Int32))) = 0 := by decide +kernel
theorem own_v268435331 : FP.Core.val64 (own_rc (268435331 : Int32)) = .fin false 4503601724523473 (-80) := by decide +kernel
theorem own_m268435331 : Mag64 1088 (own_rc (268435331 : Int32)) := by unfold Mag64; decide +kernel
theorem own_z268435331 : FP.d2l (FP.dmul (FP.l2d 0) (own_rc (268435331 : Int32))) = 0 := by decide +kernel
theorem own_v268435313 : FP.Core.val64 (own_rc (268435313 : Int32)) = .fin false 4503602026513662 (-80) := by decide +kernel
theorem own_m268435313 : Mag64 1088 (own_rc (268435313 : Int32)) := by unfold Mag64; decide +kernel
theorem own_z268435313 : FP.d2l (FP.dmul (FP.l2d 0) (own_rc (268435313 : Int32))) = 0 := by decide +kernel
theorem own_v268435291 : FP.Core.val64 (own_rc (268435291 : Int32)) = .fin false 4503602395612838 (-80) := by decide +kernel
theorem own_m268435291 : Mag64 1088 (own_rc (268435291 : Int32)) := by unfold Mag64; decide +kernel
theorem own_z268435291 : FP.d2l (FP.dmul (FP.l2d 0) (own_rc (268435291 : Int32))) = 0 := by decide +kernel
theorem own_v268435273 : FP.Core.val64 (own_rc (268435273 : Int32)) = .fin false 4503602697603117 (-80) := by decide +kernel
theorem own_m268435273 : Mag64 1088 (own_rc (268435273 : Int32)) := by unfold Mag64; decide +kernel
theorem own_z268435273 : FP.d2l (FP.dmul (FP.l2d 0) (own_rc (268435273 : Int32))) = 0 := by decide +kernel
theorem own_v268435243 : FP.Core.val64 (own_rc (268435243 : Int32)) = .fin false 4503603200920340 (-80) := by decide +kernel
theorem own_m268435243 : Mag64 1088 (own_rc (268435243 : Int32)) := by unfold Mag64; decide +kernel
theorem own_z268435243 : FP.d2l (FP.dmul (FP.l2d 0) (own_rc (268435243 : Int32))) = 0 := by decide +kernel
theorem own_v268435183 : FP.Core.val64 (own_rc (268435183 : Int32)) = .fin false 4503604207555122 (-80) := by decide +kernel
theorem own_m268435183 : Mag64 1088 (own_rc (268435183 : Int32)) := by unfold Mag64; decide +kernel
theorem own_z268435183 : FP.d2l (FP.dmul (FP.l2d 0) (own_rc (268435183 : Int32))) = 0 := by decide +kernel
/-- the quotient by the reciprocal is right, or one off -/
def own_near (x : Int64) (p : Int32) : Prop := ∃ z : Int, (FP.d2l (FP.dmul (FP.l2d x) (own_rc p))).toInt = z ∧ z ≤ x.toInt / p.toInt + 1 ∧ x.toInt / p.toInt ≤ z + 1
theorem own_n268435399 (x : Int64) (hx : 0 ≤ x.toInt) : own_near x (268435399 : Int32) := by
  have hp : (268435399 : Int32).toInt = 268435399 := by decide
  by_cases h0 : x.toInt = 0
  · have : x = 0 := Int64.toInt_inj.mp h0
    subst this
    refine ⟨0, by rw [own_z268435399]; rfl, ?_, ?_⟩ <;> rw [hp, h0] <;> decide
  · obtain ⟨N1, N3, h1, h2, h3, h4, h5⟩ := own_d2l x (by omega) _ 4503600583672011 own_v268435399 (by decide) own_m268435399
    have hl := x.toInt_lt
    obtain ⟨y, hy⟩ : ∃ y : Nat, x.toInt = y := ⟨x.toInt.toNat, by omega⟩
    rw [hy] at hl h1 h2
    rw [Int.toNat_natCast] at h1 h2
    have hlt : y < 9223372036854775808 := by omega
    refine ⟨_, h5 (by omega), ?_, ?_⟩ <;> rw [hp, hy] <;> omega
theorem own_n268435367 (x : Int64) (hx : 0 ≤ x.toInt) : own_near x (268435367 : Int32) := by
  have hp : (268435367 : Int32).toInt = 268435367 := by decide
  by_cases h0 : x.toInt = 0
  · have : x = 0 := Int64.toInt_inj.mp h0
    subst this
    refine ⟨0, by rw [own_z268435367]; rfl, ?_, ?_⟩ <;> rw [hp, h0] <;> decide
  · obtain ⟨N1, N3, h1, h2, h3, h4, h5⟩ := own_d2l x (by omega) _ 4503601120543215 own_v268435367 (by decide) own_m268435367
    have hl := x.toInt_lt
    obtain ⟨y, hy⟩ : ∃ y : Nat, x.toInt = y := ⟨x.toInt.toNat, by omega⟩
    rw [hy] at hl h1 h2
    rw [Int.toNat_natCast] at h1 h2
    have hlt : y < 9223372036854775808 := by omega
    refine ⟨_, h5 (by omega), ?_, ?_⟩ <;> rw [hp, hy] <;> omega
theorem own_n268435361 (x : Int64) (hx : 0 ≤ x.toInt) : own_near x (268435361 : Int32) := by
  have hp : (268435361 : Int32).toInt = 268435361 := by decide
  by_cases h0 : x.toInt = 0
  · have : x = 0 := Int64.toInt_inj.mp h0
    subst this
    refine ⟨0, by rw [own_z268435361]; rfl, ?_, ?_⟩ <;> rw [hp, h0] <;> decide
  · obtain ⟨N1, N3, h1, h2, h3, h4, h5⟩ := own_d2l x (by omega) _ 4503601221206580 own_v268435361 (by decide) own_m268435361
    have hl := x.toInt_lt
    obtain ⟨y, hy⟩ : ∃ y : Nat, x.toInt = y := ⟨x.toInt.toNat, by omega⟩
    rw [hy] at hl h1 h2
    rw [Int.toNat_natCast] at h1 h2
    have hlt : y < 9223372036854775808 := by omega
    refine ⟨_, h5 (by omega), ?_, ?_⟩ <;> rw [hp, hy] <;> omega
theorem own_n268435337 (x : Int64) (hx : 0 ≤ x.toInt) : own_near x (268435337 : Int32) := by
  have hp : (268435337 : Int32).toInt = 268435337 := by decide
  by_cases h0 : x.toInt = 0
  · have : x = 0 := Int64.toInt_inj.mp h0
    subst this
    refine ⟨0, by rw [own_z268435337]; rfl, ?_, ?_⟩ <;> rw [hp, h0] <;> decide
  · obtain ⟨N1, N3, h1, h2, h3, h4, h5⟩ := own_d2l x (by omega) _ 4503601623860085 own_v268435337 (by decide) own_m268435337
    have hl := x.toInt_lt
    obtain ⟨y, hy⟩ : ∃ y : Nat, x.toInt = y := ⟨x.toInt.toNat, by omega⟩
    rw [hy] at hl h1 h2
    rw [Int.toNat_natCast] at h1 h2
    have hlt : y < 9223372036854775808 := by omega
    refine ⟨_, h5 (by omega), ?_, ?_⟩ <;> rw [hp, hy] <;> omega
theorem own_n268435331 (x : Int64) (hx : 0 ≤ x.toInt) : own_near x (268435331 : Int32) := by
  have hp : (268435331 : Int32).toInt = 268435331 := by decide
  by_cases h0 : x.toInt = 0
  · have : x = 0 := Int64.toInt_inj.mp h0
    subst this
    refine ⟨0, by rw [own_z268435331]; rfl, ?_, ?_⟩ <;> rw [hp, h0] <;> decide
  · obtain ⟨N1, N3, h1, h2, h3, h4, h5⟩ := own_d2l x (by omega) _ 4503601724523473 own_v268435331 (by decide) own_m268435331
    have hl := x.toInt_lt
    obtain ⟨y, hy⟩ : ∃ y : Nat, x.toInt = y := ⟨x.toInt.toNat, by omega⟩
    rw [hy] at hl h1 h2
    rw [Int.toNat_natCast] at h1 h2
    have hlt : y < 9223372036854775808 := by omega
    refine ⟨_, h5 (by omega), ?_, ?_⟩ <;> rw [hp, hy] <;> omega
theorem own_n268435313 (x : Int64) (hx : 0 ≤ x.toInt) : own_near x (268435313 : Int32) := by
  have hp : (268435313 : Int32).toInt = 268435313 := by decide
  by_cases h0 : x.toInt = 0
  · have : x = 0 := Int64.toInt_inj.mp h0
    subst this
    refine ⟨0, by rw [own_z268435313]; rfl, ?_, ?_⟩ <;> rw [hp, h0] <;> decide
  · obtain ⟨N1, N3, h1, h2, h3, h4, h5⟩ := own_d2l x (by omega) _ 4503602026513662 own_v268435313 (by decide) own_m268435313
    have hl := x.toInt_lt
    obtain ⟨y, hy⟩ : ∃ y : Nat, x.toInt = y := ⟨x.toInt.toNat, by omega⟩
    rw [hy] at hl h1 h2
    rw [Int.toNat_natCast] at h1 h2
    have hlt : y < 9223372036854775808 := by omega
    refine ⟨_, h5 (by omega), ?_, ?_⟩ <;> rw [hp, hy] <;> omega
theorem own_n268435291 (x : Int64) (hx : 0 ≤ x.toInt) : own_near x (268435291 : Int32) := by
  have hp : (268435291 : Int32).toInt = 268435291 := by decide
  by_cases h0 : x.toInt = 0
  · have : x = 0 := Int64.toInt_inj.mp h0
    subst this
    refine ⟨0, by rw [own_z268435291]; rfl, ?_, ?_⟩ <;> rw [hp, h0] <;> decide
  · obtain ⟨N1, N3, h1, h2, h3, h4, h5⟩ := own_d2l x (by omega) _ 4503602395612838 own_v268435291 (by decide) own_m268435291
    have hl := x.toInt_lt
    obtain ⟨y, hy⟩ : ∃ y : Nat, x.toInt = y := ⟨x.toInt.toNat, by omega⟩
    rw [hy] at hl h1 h2
    rw [Int.toNat_natCast] at h1 h2
    have hlt : y < 9223372036854775808 := by omega
    refine ⟨_, h5 (by omega), ?_, ?_⟩ <;> rw [hp, hy] <;> omega
theorem own_n268435273 (x : Int64) (hx : 0 ≤ x.toInt) : own_near x (268435273 : Int32) := by
  have hp : (268435273 : Int32).toInt = 268435273 := by decide
  by_cases h0 : x.toInt = 0
  · have : x = 0 := Int64.toInt_inj.mp h0
    subst this
    refine ⟨0, by rw [own_z268435273]; rfl, ?_, ?_⟩ <;> rw [hp, h0] <;> decide
  · obtain ⟨N1, N3, h1, h2, h3, h4, h5⟩ := own_d2l x (by omega) _ 4503602697603117 own_v268435273 (by decide) own_m268435273
    have hl := x.toInt_lt
    obtain ⟨y, hy⟩ : ∃ y : Nat, x.toInt = y := ⟨x.toInt.toNat, by omega⟩
    rw [hy] at hl h1 h2
    rw [Int.toNat_natCast] at h1 h2
    have hlt : y < 9223372036854775808 := by omega
    refine ⟨_, h5 (by omega), ?_, ?_⟩ <;> rw [hp, hy] <;> omega
theorem own_n268435243 (x : Int64) (hx : 0 ≤ x.toInt) : own_near x (268435243 : Int32) := by
  have hp : (268435243 : Int32).toInt = 268435243 := by decide
  by_cases h0 : x.toInt = 0
  · have : x = 0 := Int64.toInt_inj.mp h0
    subst this
    refine ⟨0, by rw [own_z268435243]; rfl, ?_, ?_⟩ <;> rw [hp, h0] <;> decide
  · obtain ⟨N1, N3, h1, h2, h3, h4, h5⟩ := own_d2l x (by omega) _ 4503603200920340 own_v268435243 (by decide) own_m268435243
    have hl := x.toInt_lt
    obtain ⟨y, hy⟩ : ∃ y : Nat, x.toInt = y := ⟨x.toInt.toNat, by omega⟩
    rw [hy] at hl h1 h2
    rw [Int.toNat_natCast] at h1 h2
    have hlt : y < 9223372036854775808 := by omega
    refine ⟨_, h5 (by omega), ?_, ?_⟩ <;> rw [hp, hy] <;> omega
theorem own_n268435183 (x : Int64) (hx : 0 ≤ x.toInt) : own_near x (268435183 : Int32) := by
  have hp : (268435183 : Int32).toInt = 268435183 := by decide
  by_cases h0 : x.toInt = 0
  · have : x = 0 := Int64.toInt_inj.mp h0
    subst this
    refine ⟨0, by rw [own_z268435183]; rfl, ?_, ?_⟩ <;> rw [hp, h0] <;> decide
  · obtain ⟨N1, N3, h1, h2, h3, h4, h5⟩ := own_d2l x (by omega) _ 4503604207555122 own_v268435183 (by decide) own_m268435183
    have hl := x.toInt_lt
    obtain ⟨y, hy⟩ : ∃ y : Nat, x.toInt = y := ⟨x.toInt.toNat, by omega⟩
    rw [hy] at hl h1 h2
    rw [Int.toNat_natCast] at h1 h2
    have hlt : y < 9223372036854775808 := by omega
    refine ⟨_, h5 (by omega), ?_, ?_⟩ <;> rw [hp, hy] <;> omega
theorem own_nears (x : Int64) (hx : 0 ≤ x.toInt) (p : Int32) (h : own_isP p) : own_near x p := by
  rcases h with rfl | rfl | rfl | rfl | rfl | rfl | rfl | rfl | rfl | rfl
  · exact own_n268435399 x hx
  · exact own_n268435367 x hx
  · exact own_n268435361 x hx
  · exact own_n268435337 x hx
  · exact own_n268435331 x hx
  · exact own_n268435313 x hx
  · exact own_n268435291 x hx
  · exact own_n268435273 x hx
  · exact own_n268435243 x hx
  · exact own_n268435183 x hx
theorem own_rcM (p : Int32) (h : own_isP p) : Mag64 1088 (own_rc p) := by
  rcases h with rfl | rfl | rfl | rfl | rfl | rfl | rfl | rfl | rfl | rfl
  · exact own_m268435399
  · exact own_m268435367
  · exact own_m268435361
  · exact own_m268435337
  · exact own_m268435331
  · exact own_m268435313
  · exact own_m268435291
  · exact own_m268435273
  · exact own_m268435243
  · exact own_m268435183
theorem own_pb {p : Int32} (h : own_isP p) : 268435183 ≤ p.toInt ∧ p.toInt ≤ 268435399 := by
  rcases h with rfl | rfl | rfl | rfl | rfl | rfl | rfl | rfl | rfl | rfl <;> decide
/-- the remainder, put right -/
theorem own_rem {x q : Int64} {p : Int32} {P z : Int} (hp : p.toInt = P) (h1 : 268435183 ≤ P) (h2 : P ≤ 268435399) (hx : 0 ≤ x.toInt) (hq : q.toInt = z) (hz : z = x.toInt / P + 1 ∨ z = x.toInt / P ∨ z = x.toInt / P - 1) :
    (x - q * p.toInt64).toInt = x.toInt - z * P ∧ 0 ≤ x.toInt % P ∧ x.toInt % P < P ∧ (z = x.toInt / P + 1 → x.toInt - z * P = x.toInt % P - P) ∧ (z = x.toInt / P → x.toInt - z * P = x.toInt % P) ∧ (z = x.toInt / P - 1 → x.toInt - z * P = x.toInt % P + P) := by
  have hp2 : p.toInt64.toInt = P := by rw [Int32.toInt_toInt64, hp]
  have hd := Int.mul_ediv_add_emod x.toInt P
  have m1 := Int.emod_nonneg x.toInt (b := P) (by omega)
  have m2 := Int.emod_lt_of_pos x.toInt (b := P) (by omega)
  have c1 := c_lmul q p.toInt64
  have c2 := c_lsub x (q * p.toInt64)
  rw [hq, hp2] at c1
  have q1 : z = x.toInt / P + 1 → x.toInt - z * P = x.toInt % P - P := by
    intro h; rw [h, Int.add_mul, Int.one_mul, Int.mul_comm]; omega
  have q2 : z = x.toInt / P → x.toInt - z * P = x.toInt % P := by
    intro h; rw [h, Int.mul_comm]; omega
  have q3 : z = x.toInt / P - 1 → x.toInt - z * P = x.toInt % P + P := by
    intro h; rw [h, Int.sub_mul, Int.one_mul, Int.mul_comm]; omega
  refine ⟨?_, m1, m2, q1, q2, q3⟩
  have r1 := rng64 (x - q * p.toInt64)
  have hb : -P ≤ x.toInt - z * P ∧ x.toInt - z * P < 2 * P := by
    rcases hz with h | h | h
    · have := q1 h; omega
    · have := q2 h; omega
    · have := q3 h; omega
  generalize z * P = w at *
  omega
def own_tab (j : Nat) : Int32 := if j = 0 then (268435399 : Int32) else if j = 1 then (268435367 : Int32) else if j = 2 then (268435361 : Int32) else if j = 3 then (268435337 : Int32) else if j = 4 then (268435331 : Int32) else if j = 5 then (268435313 : Int32) else if j = 6 then (268435291 : Int32) else if j = 7 then (268435273 : Int32) else if j = 8 then (268435243 : Int32) else (268435183 : Int32)
theorem own_tabP (j : Nat) : own_isP (own_tab j) := by
  unfold own_tab own_isP
  repeat' split
  all_goals simp
theorem own_ix10 (k : Int32) : ((k &&& (2147483647 : Int32)) % (10 : Int32)).toNatClampNeg < 10 ∧ ¬ ((k &&& (2147483647 : Int32)) % (10 : Int32)) < 0 := by
  have h := c_mask k 2147483647 31 (by decide) (by decide)
  have h2 := (c_irem (k &&& (2147483647 : Int32)) 10 10 rfl).1 (by rw [h]; omega)
  rw [h] at h2
  refine ⟨by rw [Int32.toNatClampNeg, h2]; omega, ?_⟩
  rw [Int32.lt_iff_toInt_lt, h2, show (0 : Int32).toInt = 0 from rfl]
  omega
theorem own_xflag (w : Int64) (r p : Int32) (h : own_isP p) : 0 ≤ ((w &&& (34359738367 : Int64)) * p.toInt64 + ((r &&& (2147483647 : Int32)) % p).toInt64).toInt := by
  obtain ⟨p1, p2⟩ := own_pb h
  have h1 := c_maskL w 34359738367 35 (by decide) (by decide)
  have h2 := c_mask r 2147483647 31 (by decide) (by decide)
  have h3 := (c_irem (r &&& (2147483647 : Int32)) p p.toInt rfl).1 (by rw [h2]; omega)
  have hp : p.toInt64.toInt = p.toInt := Int32.toInt_toInt64 p
  have m1 := Int.emod_nonneg (r &&& (2147483647 : Int32)).toInt (b := p.toInt) (by omega)
  have m2 := Int.emod_lt_of_pos (r &&& (2147483647 : Int32)).toInt (b := p.toInt) (by omega)
  have h5 : 0 ≤ (w &&& (34359738367 : Int64)).toInt ∧ (w &&& (34359738367 : Int64)).toInt ≤ 34359738367 := by rw [h1]; omega
  have h6 : 0 ≤ (w &&& (34359738367 : Int64)).toInt * p.toInt := Int.mul_nonneg h5.1 (by omega)
  have h7 : (w &&& (34359738367 : Int64)).toInt * p.toInt ≤ 34359738367 * 268435399 := Int.mul_le_mul h5.2 p2 (by omega) (by decide)
  have e1 : ((w &&& (34359738367 : Int64)) * p.toInt64).toInt = (w &&& (34359738367 : Int64)).toInt * p.toInt := by
    rw [XT.mul64 (by rw [hp]; constructor <;> omega), hp]
  have e2 : ((r &&& (2147483647 : Int32)) % p).toInt64.toInt = ((r &&& (2147483647 : Int32)).toInt) % p.toInt := by rw [Int32.toInt_toInt64, h3]
  rw [XT.add64 (by rw [e1, e2]; constructor <;> omega), e1, e2]
  omega
theorem own_xmask (w : Int64) : 0 ≤ (w &&& (9223372036854775807 : Int64)).toInt := by
  rw [c_maskL w 9223372036854775807 63 (by decide) (by decide)]
  omega
theorem own_pnz {p : Int32} (h : own_isP p) : p ≠ 0 := fun q => by
  have := own_pb h
  rw [q, show (0 : Int32).toInt = 0 from rfl] at this
  omega
theorem own_pnzL {p : Int32} (h : own_isP p) : p.toInt64 ≠ 0 := fun q => by
  have := own_pb h
  have h2 := congrArg Int64.toInt q
  rw [Int32.toInt_toInt64, show (0 : Int64).toInt = 0 from rfl] at h2
  omega
theorem own_got {x : Int64} {p r : Int32} (h : own_isP p) (hx : 0 ≤ x.toInt) (hr : r.toInt = x.toInt % p.toInt) : r.toInt64 = x % p.toInt64 := by
  apply Int64.toInt_inj.mp
  rw [Int32.toInt_toInt64, hr, Int64.toInt_mod, Int32.toInt_toInt64, Int.tmod_eq_emod_of_nonneg hx]
section OwnRem
variable {p : Program} {l : Launch} {e : Env} {R : Room} {s : State} {m : MethodId} {args : Array Value} {below : List Frame} {meth : Method} {c : Code} {T : State} {locs : List Loc} {cells slots : Nat}
theorem own_irem {g : JFrame} {target : State} (X : Stand p l e R s m args below meth c T locs cells slots) (hx : p.tables.exec = Jvm.exec) (hg : g.method = m) {x y : Int32} {rest : List Value} (hd : decode c.code g.pc = .ok (.irem, 1)) (hs : g.stack = .int y :: .int x :: rest) (hy : y ≠ 0)
    (hr : Steps p.tables e below (T.setTop { g with pc := g.pc + 1, stack := .int (x % y) :: rest }) target) : Steps p.tables e below (T.setTop g) target := iremM X hx hg hd hs hy hr
theorem own_lrem {g : JFrame} {target : State} (X : Stand p l e R s m args below meth c T locs cells slots) (hx : p.tables.exec = Jvm.exec) (hg : g.method = m) {x y : Int64} {rest : List Value} (hd : decode c.code g.pc = .ok (.lrem, 1)) (hs : g.stack = .long y :: .long x :: rest) (hy : y ≠ 0)
    (hr : Steps p.tables e below (T.setTop { g with pc := g.pc + 1, stack := .long (x % y) :: rest }) target) : Steps p.tables e below (T.setTop g) target := by
  refine XT.lrem X.here hx hg hd hs hy ?_
  rw [lrem_mod]
  exact hr
end OwnRem

theorem d1_0 : decode method_2_code 0 = .ok (.bipush 10, 2) := by decide +kernel
theorem d1_2 : decode method_2_code 2 = .ok (.newarray .int, 2) := by decide +kernel
theorem d1_4 : decode method_2_code 4 = .ok (.dup, 1) := by decide +kernel
theorem d1_5 : decode method_2_code 5 = .ok (.iconst 0, 1) := by decide +kernel
theorem d1_6 : decode method_2_code 6 = .ok (.ldc 7, 2) := by decide +kernel
theorem d1_8 : decode method_2_code 8 = .ok (.iastore, 1) := by decide +kernel
theorem d1_9 : decode method_2_code 9 = .ok (.dup, 1) := by decide +kernel
theorem d1_10 : decode method_2_code 10 = .ok (.iconst 1, 1) := by decide +kernel
theorem d1_11 : decode method_2_code 11 = .ok (.ldc 8, 2) := by decide +kernel
theorem d1_13 : decode method_2_code 13 = .ok (.iastore, 1) := by decide +kernel
theorem d1_14 : decode method_2_code 14 = .ok (.dup, 1) := by decide +kernel
theorem d1_15 : decode method_2_code 15 = .ok (.iconst 2, 1) := by decide +kernel
theorem d1_16 : decode method_2_code 16 = .ok (.ldc 9, 2) := by decide +kernel
theorem d1_18 : decode method_2_code 18 = .ok (.iastore, 1) := by decide +kernel
theorem d1_19 : decode method_2_code 19 = .ok (.dup, 1) := by decide +kernel
theorem d1_20 : decode method_2_code 20 = .ok (.iconst 3, 1) := by decide +kernel
theorem d1_21 : decode method_2_code 21 = .ok (.ldc 10, 2) := by decide +kernel
theorem d1_23 : decode method_2_code 23 = .ok (.iastore, 1) := by decide +kernel
theorem d1_24 : decode method_2_code 24 = .ok (.dup, 1) := by decide +kernel
theorem d1_25 : decode method_2_code 25 = .ok (.iconst 4, 1) := by decide +kernel
theorem d1_26 : decode method_2_code 26 = .ok (.ldc 11, 2) := by decide +kernel
theorem d1_28 : decode method_2_code 28 = .ok (.iastore, 1) := by decide +kernel
theorem d1_29 : decode method_2_code 29 = .ok (.dup, 1) := by decide +kernel
theorem d1_30 : decode method_2_code 30 = .ok (.iconst 5, 1) := by decide +kernel
theorem d1_31 : decode method_2_code 31 = .ok (.ldc 12, 2) := by decide +kernel
theorem d1_33 : decode method_2_code 33 = .ok (.iastore, 1) := by decide +kernel
theorem d1_34 : decode method_2_code 34 = .ok (.dup, 1) := by decide +kernel
theorem d1_35 : decode method_2_code 35 = .ok (.bipush 6, 2) := by decide +kernel
theorem d1_37 : decode method_2_code 37 = .ok (.ldc 13, 2) := by decide +kernel
theorem d1_39 : decode method_2_code 39 = .ok (.iastore, 1) := by decide +kernel
theorem d1_40 : decode method_2_code 40 = .ok (.dup, 1) := by decide +kernel
theorem d1_41 : decode method_2_code 41 = .ok (.bipush 7, 2) := by decide +kernel
theorem d1_43 : decode method_2_code 43 = .ok (.ldc 14, 2) := by decide +kernel
theorem d1_45 : decode method_2_code 45 = .ok (.iastore, 1) := by decide +kernel
theorem d1_46 : decode method_2_code 46 = .ok (.dup, 1) := by decide +kernel
theorem d1_47 : decode method_2_code 47 = .ok (.bipush 8, 2) := by decide +kernel
theorem d1_49 : decode method_2_code 49 = .ok (.ldc 15, 2) := by decide +kernel
theorem d1_51 : decode method_2_code 51 = .ok (.iastore, 1) := by decide +kernel
theorem d1_52 : decode method_2_code 52 = .ok (.dup, 1) := by decide +kernel
theorem d1_53 : decode method_2_code 53 = .ok (.bipush 9, 2) := by decide +kernel
theorem d1_55 : decode method_2_code 55 = .ok (.ldc 16, 2) := by decide +kernel
theorem d1_57 : decode method_2_code 57 = .ok (.iastore, 1) := by decide +kernel
theorem d1_58 : decode method_2_code 58 = .ok (.astore_n 1, 1) := by decide +kernel
theorem d1_59 : decode method_2_code 59 = .ok (.aload_n 1, 1) := by decide +kernel
theorem d1_60 : decode method_2_code 60 = .ok (.iload_n 0, 1) := by decide +kernel
theorem d1_61 : decode method_2_code 61 = .ok (.ldc 17, 2) := by decide +kernel
theorem d1_63 : decode method_2_code 63 = .ok (.iand, 1) := by decide +kernel
theorem d1_64 : decode method_2_code 64 = .ok (.bipush 10, 2) := by decide +kernel
theorem d1_66 : decode method_2_code 66 = .ok (.irem, 1) := by decide +kernel
theorem d1_67 : decode method_2_code 67 = .ok (.iaload, 1) := by decide +kernel
theorem d1_68 : decode method_2_code 68 = .ok (.ireturn, 1) := by decide +kernel
theorem pn_rmPr : plainName "com/example/dichotome/dichotome/algebra/PrimeBasisReducePinLaw" = true := by first | (simp [plainName, overriddenIn]; done) | decide +kernel
theorem ef_rmPr (m : MethodId) (p0 : Int32) : entryFrame m #[(.int p0)] 2 = mkF m 0 #[iv p0, .unset] [] := by first | (simp [entryFrame, mkF, argsToLocals, Value.category]; done) | rfl
def Q_rmPr (Z : State) (p0 : Int32)  (h0 : Heap) (n0 : Nat) (v : Option Value) (h : Heap) (L : List Loc) : Prop := ∃ d : Int32, v = some (.int d) ∧ own_isP d ∧ Fr n0 L ∧ Keep h0 h []
set_option maxRecDepth 65536 in
set_option maxHeartbeats 40000000 in
theorem rmPr (l : Launch) (Z : State) (a0 : Array Value) (hw : ∀ d ∈ tables_1, d.before a0 Z = true) (ws : List Jvm.Cond) (p0 : Int32)  (h0 : Heap) (n0 : Nat) (Z0 : n0 ≤ h0.size)  :
    MetFree l (⟨"com/example/dichotome/dichotome/algebra/PrimeBasisReducePinLaw", "prime", "(I)I"⟩ : MethodName) (head1 (Jvm.Cond.code (⟨"com/example/dichotome/dichotome/algebra/PrimeBasisReducePinLaw", "prime", "(I)I"⟩ : MethodName) method_2_code 2 (some .int) :: ws) ({ frames := 0, cells := 1, slots := 10, locals := 0 } : Room)) (fun a U => a = #[(.int p0)] ∧ Z.Warmed39 U.vm ∧ U.heap = h0) (fun _ _ _ _ _ => True) (fun _ U o U' => ∃ v L, o = .returned v ∧ Q_rmPr Z p0  h0 n0 v U'.heap L ∧ FrameEnd U o U' L ({ frames := 0, cells := 1, slots := 10, locals := 0 } : Room).cells ({ frames := 0, cells := 1, slots := 10, locals := 0 } : Room).slots) := by
  refine MetFree.of_bodySF (plainFor_of_name pn_rmPr) hisR ?_
  intro p e s m args below meth c s₁ Bd hml0 hP hK
  obtain ⟨rfl, hZ, hh⟩ := hP
  have hx := Bd.exec
  have hby := Bd.bytes
  have hml : c.maxLocals = 2 := hml0
  have hown : s.vm.findClass "com/example/dichotome/dichotome/algebra/PrimeBasisReducePinLaw" = some m.cls := findClass_of_methodNamed Bd.named
  have hnm := (name_of_methodNamed Bd.named Bd.method).1
  have X0 : Stand p l e ({ frames := 0, cells := 1, slots := 10, locals := 0 } : Room) s m #[(.int p0)] below meth c s₁ [] 0 0 := Stand.of_body Bd
  have e0 : s₁.heap = h0 := by rw [← hh, Bd.state]; rfl
  have N0 := Fr.nil n0
  have g0 : own_Go p e below s₁ (entryFrame m #[(.int p0)] 2) s₁ (mkF m 0 #[iv p0, .unset] []) := fun t k => castTop (ef_rmPr m p0) k
  have g1 : own_Go p e below s₁ (entryFrame m #[(.int p0)] 2) s₁ (mkF m 2 #[iv p0, .unset] [(.int (10 : Int32))]) := by
    intro target kt
    refine g0 target ?_
    refine XT.bipushV X0.here hx rfl (10 : Int32) (hb hby d1_0) rfl ?_
    show Steps p.tables e below (s₁.setTop (mkF m 2 #[iv p0, .unset] [(.int (10 : Int32))])) target
    exact kt
  obtain ⟨T2, h2, k2, X2, e2, E2, A2, st2⟩ := newP X0 hx hZ (hw _ (List.mem_of_getElem? (i := 4) rfl)) e0 (g := (mkF m 2 #[iv p0, .unset] [(.int (10 : Int32))])) rfl (hb hby d1_2) rfl (by decide) (cap := 10) (by decide) (by decide) (by decide) (by decide)
  obtain ⟨b1, ga2⟩ : ∃ z, z = h0.size := ⟨_, rfl⟩
  rw [← ga2] at A2 st2
  have Z2 : n0 ≤ h2.size := Nat.le_trans Z0 E2.1
  have g_b1 : n0 ≤ b1 := Nat.le_trans Z0 (Nat.le_of_eq ga2.symm)
  have g3 : own_Go p e below s₁ (entryFrame m #[(.int p0)] 2) T2 (mkF m 4 #[iv p0, .unset] [(.ref b1)]) := fun target kt => g1 target (st2 target kt)
  have V0 : own_Ar Z h2 b1 .int 10 (fun j => .int ((fun _ => (0 : Int32)) j)) := own_new A2 (by decide)
  have K0 : Keep h0 h2 [] := (Keep.refl h0 []).ext E2
  have sb : h0.size ≤ b1 := Nat.le_of_eq ga2.symm
  obtain ⟨c0, B0, S0, H0⟩ := V0
  have g4 : own_Go p e below s₁ (entryFrame m #[(.int p0)] 2) T2 (mkF m 8 #[iv p0, .unset] [(.int (268435399 : Int32)), (.int (0 : Int32)), (.ref b1), (.ref b1)]) := by
    intro target kt
    refine g3 target ?_
    refine XS.dup X2.here hx rfl (hb hby d1_4) rfl rfl ?_
    show Steps p.tables e below (T2.setTop (mkF m 5 #[iv p0, .unset] [(.ref b1), (.ref b1)])) target
    refine XT.iconstV X2.here hx rfl (0 : Int32) (hb hby d1_5) rfl ?_
    show Steps p.tables e below (T2.setTop (mkF m 6 #[iv p0, .unset] [(.int (0 : Int32)), (.ref b1), (.ref b1)])) target
    refine X2.ldcI hx hown (mvT hZ (hw _ (List.mem_of_getElem? (i := 5) rfl))) rfl (hb hby d1_6) ?_
    show Steps p.tables e below (T2.setTop (mkF m 8 #[iv p0, .unset] [(.int (268435399 : Int32)), (.int (0 : Int32)), (.ref b1), (.ref b1)])) target
    exact kt
  obtain ⟨T5, h5, X5, e5, W5, st5⟩ := stI X2 hx hZ e2 B0 (j := (0 : Int32)) (by rw [S0]; decide) (g := (mkF m 8 #[iv p0, .unset] [(.int (268435399 : Int32)), (.int (0 : Int32)), (.ref b1), (.ref b1)])) rfl rfl (hb hby d1_8)
  have g6 : own_Go p e below s₁ (entryFrame m #[(.int p0)] 2) T5 (mkF m 9 #[iv p0, .unset] [(.ref b1)]) := fun target kt => g4 target (st5 target kt)
  have N5 := Fr.snoc X5 N0 g_b1
  have Z5 : n0 ≤ h5.size := Nat.le_trans Z2 (Keep.of_wr W5).1
  have V1 := own_setC B0 S0 H0 W5 (by decide)
  have K1 := K0.wr W5 (Or.inr sb)
  obtain ⟨c1, B1, S1, H1⟩ := V1
  have g7 : own_Go p e below s₁ (entryFrame m #[(.int p0)] 2) T5 (mkF m 13 #[iv p0, .unset] [(.int (268435367 : Int32)), (.int (1 : Int32)), (.ref b1), (.ref b1)]) := by
    intro target kt
    refine g6 target ?_
    refine XS.dup X5.here hx rfl (hb hby d1_9) rfl rfl ?_
    show Steps p.tables e below (T5.setTop (mkF m 10 #[iv p0, .unset] [(.ref b1), (.ref b1)])) target
    refine XT.iconstV X5.here hx rfl (1 : Int32) (hb hby d1_10) rfl ?_
    show Steps p.tables e below (T5.setTop (mkF m 11 #[iv p0, .unset] [(.int (1 : Int32)), (.ref b1), (.ref b1)])) target
    refine X5.ldcI hx hown (mvT hZ (hw _ (List.mem_of_getElem? (i := 6) rfl))) rfl (hb hby d1_11) ?_
    show Steps p.tables e below (T5.setTop (mkF m 13 #[iv p0, .unset] [(.int (268435367 : Int32)), (.int (1 : Int32)), (.ref b1), (.ref b1)])) target
    exact kt
  obtain ⟨T8, h8, X8, e8, W8, st8⟩ := stI X5 hx hZ e5 B1 (j := (1 : Int32)) (by rw [S1]; decide) (g := (mkF m 13 #[iv p0, .unset] [(.int (268435367 : Int32)), (.int (1 : Int32)), (.ref b1), (.ref b1)])) rfl rfl (hb hby d1_13)
  have g9 : own_Go p e below s₁ (entryFrame m #[(.int p0)] 2) T8 (mkF m 14 #[iv p0, .unset] [(.ref b1)]) := fun target kt => g7 target (st8 target kt)
  have N8 := Fr.snoc X8 N5 g_b1
  have Z8 : n0 ≤ h8.size := Nat.le_trans Z5 (Keep.of_wr W8).1
  have V2 := own_setC B1 S1 H1 W8 (by decide)
  have K2 := K1.wr W8 (Or.inr sb)
  obtain ⟨c2, B2, S2, H2⟩ := V2
  have g10 : own_Go p e below s₁ (entryFrame m #[(.int p0)] 2) T8 (mkF m 18 #[iv p0, .unset] [(.int (268435361 : Int32)), (.int (2 : Int32)), (.ref b1), (.ref b1)]) := by
    intro target kt
    refine g9 target ?_
    refine XS.dup X8.here hx rfl (hb hby d1_14) rfl rfl ?_
    show Steps p.tables e below (T8.setTop (mkF m 15 #[iv p0, .unset] [(.ref b1), (.ref b1)])) target
    refine XT.iconstV X8.here hx rfl (2 : Int32) (hb hby d1_15) rfl ?_
    show Steps p.tables e below (T8.setTop (mkF m 16 #[iv p0, .unset] [(.int (2 : Int32)), (.ref b1), (.ref b1)])) target
    refine X8.ldcI hx hown (mvT hZ (hw _ (List.mem_of_getElem? (i := 7) rfl))) rfl (hb hby d1_16) ?_
    show Steps p.tables e below (T8.setTop (mkF m 18 #[iv p0, .unset] [(.int (268435361 : Int32)), (.int (2 : Int32)), (.ref b1), (.ref b1)])) target
    exact kt
  obtain ⟨T11, h11, X11, e11, W11, st11⟩ := stI X8 hx hZ e8 B2 (j := (2 : Int32)) (by rw [S2]; decide) (g := (mkF m 18 #[iv p0, .unset] [(.int (268435361 : Int32)), (.int (2 : Int32)), (.ref b1), (.ref b1)])) rfl rfl (hb hby d1_18)
  have g12 : own_Go p e below s₁ (entryFrame m #[(.int p0)] 2) T11 (mkF m 19 #[iv p0, .unset] [(.ref b1)]) := fun target kt => g10 target (st11 target kt)
  have N11 := Fr.snoc X11 N8 g_b1
  have Z11 : n0 ≤ h11.size := Nat.le_trans Z8 (Keep.of_wr W11).1
  have V3 := own_setC B2 S2 H2 W11 (by decide)
  have K3 := K2.wr W11 (Or.inr sb)
  obtain ⟨c3, B3, S3, H3⟩ := V3
  have g13 : own_Go p e below s₁ (entryFrame m #[(.int p0)] 2) T11 (mkF m 23 #[iv p0, .unset] [(.int (268435337 : Int32)), (.int (3 : Int32)), (.ref b1), (.ref b1)]) := by
    intro target kt
    refine g12 target ?_
    refine XS.dup X11.here hx rfl (hb hby d1_19) rfl rfl ?_
    show Steps p.tables e below (T11.setTop (mkF m 20 #[iv p0, .unset] [(.ref b1), (.ref b1)])) target
    refine XT.iconstV X11.here hx rfl (3 : Int32) (hb hby d1_20) rfl ?_
    show Steps p.tables e below (T11.setTop (mkF m 21 #[iv p0, .unset] [(.int (3 : Int32)), (.ref b1), (.ref b1)])) target
    refine X11.ldcI hx hown (mvT hZ (hw _ (List.mem_of_getElem? (i := 8) rfl))) rfl (hb hby d1_21) ?_
    show Steps p.tables e below (T11.setTop (mkF m 23 #[iv p0, .unset] [(.int (268435337 : Int32)), (.int (3 : Int32)), (.ref b1), (.ref b1)])) target
    exact kt
  obtain ⟨T14, h14, X14, e14, W14, st14⟩ := stI X11 hx hZ e11 B3 (j := (3 : Int32)) (by rw [S3]; decide) (g := (mkF m 23 #[iv p0, .unset] [(.int (268435337 : Int32)), (.int (3 : Int32)), (.ref b1), (.ref b1)])) rfl rfl (hb hby d1_23)
  have g15 : own_Go p e below s₁ (entryFrame m #[(.int p0)] 2) T14 (mkF m 24 #[iv p0, .unset] [(.ref b1)]) := fun target kt => g13 target (st14 target kt)
  have N14 := Fr.snoc X14 N11 g_b1
  have Z14 : n0 ≤ h14.size := Nat.le_trans Z11 (Keep.of_wr W14).1
  have V4 := own_setC B3 S3 H3 W14 (by decide)
  have K4 := K3.wr W14 (Or.inr sb)
  obtain ⟨c4, B4, S4, H4⟩ := V4
  have g16 : own_Go p e below s₁ (entryFrame m #[(.int p0)] 2) T14 (mkF m 28 #[iv p0, .unset] [(.int (268435331 : Int32)), (.int (4 : Int32)), (.ref b1), (.ref b1)]) := by
    intro target kt
    refine g15 target ?_
    refine XS.dup X14.here hx rfl (hb hby d1_24) rfl rfl ?_
    show Steps p.tables e below (T14.setTop (mkF m 25 #[iv p0, .unset] [(.ref b1), (.ref b1)])) target
    refine XT.iconstV X14.here hx rfl (4 : Int32) (hb hby d1_25) rfl ?_
    show Steps p.tables e below (T14.setTop (mkF m 26 #[iv p0, .unset] [(.int (4 : Int32)), (.ref b1), (.ref b1)])) target
    refine X14.ldcI hx hown (mvT hZ (hw _ (List.mem_of_getElem? (i := 9) rfl))) rfl (hb hby d1_26) ?_
    show Steps p.tables e below (T14.setTop (mkF m 28 #[iv p0, .unset] [(.int (268435331 : Int32)), (.int (4 : Int32)), (.ref b1), (.ref b1)])) target
    exact kt
  obtain ⟨T17, h17, X17, e17, W17, st17⟩ := stI X14 hx hZ e14 B4 (j := (4 : Int32)) (by rw [S4]; decide) (g := (mkF m 28 #[iv p0, .unset] [(.int (268435331 : Int32)), (.int (4 : Int32)), (.ref b1), (.ref b1)])) rfl rfl (hb hby d1_28)
  have g18 : own_Go p e below s₁ (entryFrame m #[(.int p0)] 2) T17 (mkF m 29 #[iv p0, .unset] [(.ref b1)]) := fun target kt => g16 target (st17 target kt)
  have N17 := Fr.snoc X17 N14 g_b1
  have Z17 : n0 ≤ h17.size := Nat.le_trans Z14 (Keep.of_wr W17).1
  have V5 := own_setC B4 S4 H4 W17 (by decide)
  have K5 := K4.wr W17 (Or.inr sb)
  obtain ⟨c5, B5, S5, H5⟩ := V5
  have g19 : own_Go p e below s₁ (entryFrame m #[(.int p0)] 2) T17 (mkF m 33 #[iv p0, .unset] [(.int (268435313 : Int32)), (.int (5 : Int32)), (.ref b1), (.ref b1)]) := by
    intro target kt
    refine g18 target ?_
    refine XS.dup X17.here hx rfl (hb hby d1_29) rfl rfl ?_
    show Steps p.tables e below (T17.setTop (mkF m 30 #[iv p0, .unset] [(.ref b1), (.ref b1)])) target
    refine XT.iconstV X17.here hx rfl (5 : Int32) (hb hby d1_30) rfl ?_
    show Steps p.tables e below (T17.setTop (mkF m 31 #[iv p0, .unset] [(.int (5 : Int32)), (.ref b1), (.ref b1)])) target
    refine X17.ldcI hx hown (mvT hZ (hw _ (List.mem_of_getElem? (i := 10) rfl))) rfl (hb hby d1_31) ?_
    show Steps p.tables e below (T17.setTop (mkF m 33 #[iv p0, .unset] [(.int (268435313 : Int32)), (.int (5 : Int32)), (.ref b1), (.ref b1)])) target
    exact kt
  obtain ⟨T20, h20, X20, e20, W20, st20⟩ := stI X17 hx hZ e17 B5 (j := (5 : Int32)) (by rw [S5]; decide) (g := (mkF m 33 #[iv p0, .unset] [(.int (268435313 : Int32)), (.int (5 : Int32)), (.ref b1), (.ref b1)])) rfl rfl (hb hby d1_33)
  have g21 : own_Go p e below s₁ (entryFrame m #[(.int p0)] 2) T20 (mkF m 34 #[iv p0, .unset] [(.ref b1)]) := fun target kt => g19 target (st20 target kt)
  have N20 := Fr.snoc X20 N17 g_b1
  have Z20 : n0 ≤ h20.size := Nat.le_trans Z17 (Keep.of_wr W20).1
  have V6 := own_setC B5 S5 H5 W20 (by decide)
  have K6 := K5.wr W20 (Or.inr sb)
  obtain ⟨c6, B6, S6, H6⟩ := V6
  have g22 : own_Go p e below s₁ (entryFrame m #[(.int p0)] 2) T20 (mkF m 39 #[iv p0, .unset] [(.int (268435291 : Int32)), (.int (6 : Int32)), (.ref b1), (.ref b1)]) := by
    intro target kt
    refine g21 target ?_
    refine XS.dup X20.here hx rfl (hb hby d1_34) rfl rfl ?_
    show Steps p.tables e below (T20.setTop (mkF m 35 #[iv p0, .unset] [(.ref b1), (.ref b1)])) target
    refine XT.bipushV X20.here hx rfl (6 : Int32) (hb hby d1_35) rfl ?_
    show Steps p.tables e below (T20.setTop (mkF m 37 #[iv p0, .unset] [(.int (6 : Int32)), (.ref b1), (.ref b1)])) target
    refine X20.ldcI hx hown (mvT hZ (hw _ (List.mem_of_getElem? (i := 11) rfl))) rfl (hb hby d1_37) ?_
    show Steps p.tables e below (T20.setTop (mkF m 39 #[iv p0, .unset] [(.int (268435291 : Int32)), (.int (6 : Int32)), (.ref b1), (.ref b1)])) target
    exact kt
  obtain ⟨T23, h23, X23, e23, W23, st23⟩ := stI X20 hx hZ e20 B6 (j := (6 : Int32)) (by rw [S6]; decide) (g := (mkF m 39 #[iv p0, .unset] [(.int (268435291 : Int32)), (.int (6 : Int32)), (.ref b1), (.ref b1)])) rfl rfl (hb hby d1_39)
  have g24 : own_Go p e below s₁ (entryFrame m #[(.int p0)] 2) T23 (mkF m 40 #[iv p0, .unset] [(.ref b1)]) := fun target kt => g22 target (st23 target kt)
  have N23 := Fr.snoc X23 N20 g_b1
  have Z23 : n0 ≤ h23.size := Nat.le_trans Z20 (Keep.of_wr W23).1
  have V7 := own_setC B6 S6 H6 W23 (by decide)
  have K7 := K6.wr W23 (Or.inr sb)
  obtain ⟨c7, B7, S7, H7⟩ := V7
  have g25 : own_Go p e below s₁ (entryFrame m #[(.int p0)] 2) T23 (mkF m 45 #[iv p0, .unset] [(.int (268435273 : Int32)), (.int (7 : Int32)), (.ref b1), (.ref b1)]) := by
    intro target kt
    refine g24 target ?_
    refine XS.dup X23.here hx rfl (hb hby d1_40) rfl rfl ?_
    show Steps p.tables e below (T23.setTop (mkF m 41 #[iv p0, .unset] [(.ref b1), (.ref b1)])) target
    refine XT.bipushV X23.here hx rfl (7 : Int32) (hb hby d1_41) rfl ?_
    show Steps p.tables e below (T23.setTop (mkF m 43 #[iv p0, .unset] [(.int (7 : Int32)), (.ref b1), (.ref b1)])) target
    refine X23.ldcI hx hown (mvT hZ (hw _ (List.mem_of_getElem? (i := 12) rfl))) rfl (hb hby d1_43) ?_
    show Steps p.tables e below (T23.setTop (mkF m 45 #[iv p0, .unset] [(.int (268435273 : Int32)), (.int (7 : Int32)), (.ref b1), (.ref b1)])) target
    exact kt
  obtain ⟨T26, h26, X26, e26, W26, st26⟩ := stI X23 hx hZ e23 B7 (j := (7 : Int32)) (by rw [S7]; decide) (g := (mkF m 45 #[iv p0, .unset] [(.int (268435273 : Int32)), (.int (7 : Int32)), (.ref b1), (.ref b1)])) rfl rfl (hb hby d1_45)
  have g27 : own_Go p e below s₁ (entryFrame m #[(.int p0)] 2) T26 (mkF m 46 #[iv p0, .unset] [(.ref b1)]) := fun target kt => g25 target (st26 target kt)
  have N26 := Fr.snoc X26 N23 g_b1
  have Z26 : n0 ≤ h26.size := Nat.le_trans Z23 (Keep.of_wr W26).1
  have V8 := own_setC B7 S7 H7 W26 (by decide)
  have K8 := K7.wr W26 (Or.inr sb)
  obtain ⟨c8, B8, S8, H8⟩ := V8
  have g28 : own_Go p e below s₁ (entryFrame m #[(.int p0)] 2) T26 (mkF m 51 #[iv p0, .unset] [(.int (268435243 : Int32)), (.int (8 : Int32)), (.ref b1), (.ref b1)]) := by
    intro target kt
    refine g27 target ?_
    refine XS.dup X26.here hx rfl (hb hby d1_46) rfl rfl ?_
    show Steps p.tables e below (T26.setTop (mkF m 47 #[iv p0, .unset] [(.ref b1), (.ref b1)])) target
    refine XT.bipushV X26.here hx rfl (8 : Int32) (hb hby d1_47) rfl ?_
    show Steps p.tables e below (T26.setTop (mkF m 49 #[iv p0, .unset] [(.int (8 : Int32)), (.ref b1), (.ref b1)])) target
    refine X26.ldcI hx hown (mvT hZ (hw _ (List.mem_of_getElem? (i := 13) rfl))) rfl (hb hby d1_49) ?_
    show Steps p.tables e below (T26.setTop (mkF m 51 #[iv p0, .unset] [(.int (268435243 : Int32)), (.int (8 : Int32)), (.ref b1), (.ref b1)])) target
    exact kt
  obtain ⟨T29, h29, X29, e29, W29, st29⟩ := stI X26 hx hZ e26 B8 (j := (8 : Int32)) (by rw [S8]; decide) (g := (mkF m 51 #[iv p0, .unset] [(.int (268435243 : Int32)), (.int (8 : Int32)), (.ref b1), (.ref b1)])) rfl rfl (hb hby d1_51)
  have g30 : own_Go p e below s₁ (entryFrame m #[(.int p0)] 2) T29 (mkF m 52 #[iv p0, .unset] [(.ref b1)]) := fun target kt => g28 target (st29 target kt)
  have N29 := Fr.snoc X29 N26 g_b1
  have Z29 : n0 ≤ h29.size := Nat.le_trans Z26 (Keep.of_wr W29).1
  have V9 := own_setC B8 S8 H8 W29 (by decide)
  have K9 := K8.wr W29 (Or.inr sb)
  obtain ⟨c9, B9, S9, H9⟩ := V9
  have g31 : own_Go p e below s₁ (entryFrame m #[(.int p0)] 2) T29 (mkF m 57 #[iv p0, .unset] [(.int (268435183 : Int32)), (.int (9 : Int32)), (.ref b1), (.ref b1)]) := by
    intro target kt
    refine g30 target ?_
    refine XS.dup X29.here hx rfl (hb hby d1_52) rfl rfl ?_
    show Steps p.tables e below (T29.setTop (mkF m 53 #[iv p0, .unset] [(.ref b1), (.ref b1)])) target
    refine XT.bipushV X29.here hx rfl (9 : Int32) (hb hby d1_53) rfl ?_
    show Steps p.tables e below (T29.setTop (mkF m 55 #[iv p0, .unset] [(.int (9 : Int32)), (.ref b1), (.ref b1)])) target
    refine X29.ldcI hx hown (mvT hZ (hw _ (List.mem_of_getElem? (i := 14) rfl))) rfl (hb hby d1_55) ?_
    show Steps p.tables e below (T29.setTop (mkF m 57 #[iv p0, .unset] [(.int (268435183 : Int32)), (.int (9 : Int32)), (.ref b1), (.ref b1)])) target
    exact kt
  obtain ⟨T32, h32, X32, e32, W32, st32⟩ := stI X29 hx hZ e29 B9 (j := (9 : Int32)) (by rw [S9]; decide) (g := (mkF m 57 #[iv p0, .unset] [(.int (268435183 : Int32)), (.int (9 : Int32)), (.ref b1), (.ref b1)])) rfl rfl (hb hby d1_57)
  have g33 : own_Go p e below s₁ (entryFrame m #[(.int p0)] 2) T32 (mkF m 58 #[iv p0, .unset] [(.ref b1)]) := fun target kt => g31 target (st32 target kt)
  have N32 := Fr.snoc X32 N29 g_b1
  have Z32 : n0 ≤ h32.size := Nat.le_trans Z29 (Keep.of_wr W32).1
  have V10 := own_setC B9 S9 H9 W32 (by decide)
  have K10 := K9.wr W32 (Or.inr sb)
  have VT : own_Ar Z h32 b1 .int 10 (fun j => .int (own_tab j)) := own_congr V10 (by
    intro j hj
    obtain h | h | h | h | h | h | h | h | h | h : j = 0 ∨ j = 1 ∨ j = 2 ∨ j = 3 ∨ j = 4 ∨ j = 5 ∨ j = 6 ∨ j = 7 ∨ j = 8 ∨ j = 9 := by omega
    all_goals (subst h; rfl))
  obtain ⟨ct, Bt, St, Ht⟩ := VT
  obtain ⟨i1, i2⟩ := own_ix10 p0
  have g34 : own_Go p e below s₁ (entryFrame m #[(.int p0)] 2) T32 (mkF m 68 #[iv p0, rv b1] [(.int (own_tab ((p0 &&& (2147483647 : Int32)) % (10 : Int32)).toNatClampNeg))]) := by
    intro target kt
    refine g33 target ?_
    refine XS.astoreN X32.here hx rfl (hb hby d1_58) rfl rfl (l' := #[iv p0, rv b1]) rfl ?_
    show Steps p.tables e below (T32.setTop (mkF m 59 #[iv p0, rv b1] [])) target
    refine XS.aloadN X32.here hx rfl (hb hby d1_59) rfl rfl ?_
    show Steps p.tables e below (T32.setTop (mkF m 60 #[iv p0, rv b1] [(.ref b1)])) target
    refine XS.iloadN X32.here hx rfl (hb hby d1_60) rfl ?_
    show Steps p.tables e below (T32.setTop (mkF m 61 #[iv p0, rv b1] [(.int p0), (.ref b1)])) target
    refine X32.ldcI hx hown (mvT hZ (hw _ (List.mem_of_getElem? (i := 15) rfl))) rfl (hb hby d1_61) ?_
    show Steps p.tables e below (T32.setTop (mkF m 63 #[iv p0, rv b1] [(.int (2147483647 : Int32)), (.int p0), (.ref b1)])) target
    refine XS.iand X32.here hx rfl (hb hby d1_63) rfl ?_
    show Steps p.tables e below (T32.setTop (mkF m 64 #[iv p0, rv b1] [(.int (p0 &&& (2147483647 : Int32))), (.ref b1)])) target
    refine XT.bipushV X32.here hx rfl (10 : Int32) (hb hby d1_64) rfl ?_
    show Steps p.tables e below (T32.setTop (mkF m 66 #[iv p0, rv b1] [(.int (10 : Int32)), (.int (p0 &&& (2147483647 : Int32))), (.ref b1)])) target
    refine own_irem X32 hx rfl (hb hby d1_66) rfl (by decide) ?_
    show Steps p.tables e below (T32.setTop (mkF m 67 #[iv p0, rv b1] [(.int ((p0 &&& (2147483647 : Int32)) % (10 : Int32))), (.ref b1)])) target
    refine X32.iaload hx (j := ((p0 &&& (2147483647 : Int32)) % (10 : Int32))) (v := (.int (own_tab ((p0 &&& (2147483647 : Int32)) % (10 : Int32)).toNatClampNeg))) (by rw [e32]; exact Bt.1) (State.isArrayOf_alike hZ.alike Bt.2.1) Bt.2.2 (own_inb St rfl i2 i1) (Ht _ i1) (g := (mkF m 67 #[iv p0, rv b1] [(.int ((p0 &&& (2147483647 : Int32)) % (10 : Int32))), (.ref b1)])) rfl rfl (hb hby d1_67) _ ?_
    show Steps p.tables e below (T32.setTop (mkF m 68 #[iv p0, rv b1] [(.int (own_tab ((p0 &&& (2147483647 : Int32)) % (10 : Int32)).toNatClampNeg))])) target
    exact kt
  obtain ⟨fs, hr, hrun, hended, hW, hsame⟩ := X32.leave (v := some (.int (own_tab ((p0 &&& (2147483647 : Int32)) % (10 : Int32)).toNatClampNeg))) (fun h => by rw [Bd.returns] at h; cases h)
  refine ⟨_, _, g34 _ ?_, hrun, hended, _, _, rfl, ?_, ⟨_, rfl⟩, hW, hsame.mono (by decide) (by decide)⟩
  · exact retI X32 hx Bd.returns (hb hby d1_68) hr
  · show Q_rmPr Z p0  h0 n0 _ T32.heap _
    rw [e32]
    exact ⟨_, rfl, own_tabP _, N32, K10⟩
theorem d2_0 : decode prog_76_method_12_code 0 = .ok (.lload_n 0, 1) := by decide +kernel
theorem d2_1 : decode prog_76_method_12_code 1 = .ok (.lload_n 0, 1) := by decide +kernel
theorem d2_2 : decode prog_76_method_12_code 2 = .ok (.l2d, 1) := by decide +kernel
theorem d2_3 : decode prog_76_method_12_code 3 = .ok (.dload_n 3, 1) := by decide +kernel
theorem d2_4 : decode prog_76_method_12_code 4 = .ok (.dmul, 1) := by decide +kernel
theorem d2_5 : decode prog_76_method_12_code 5 = .ok (.d2l, 1) := by decide +kernel
theorem d2_6 : decode prog_76_method_12_code 6 = .ok (.iload_n 2, 1) := by decide +kernel
theorem d2_7 : decode prog_76_method_12_code 7 = .ok (.i2l, 1) := by decide +kernel
theorem d2_8 : decode prog_76_method_12_code 8 = .ok (.lmul, 1) := by decide +kernel
theorem d2_9 : decode prog_76_method_12_code 9 = .ok (.lsub, 1) := by decide +kernel
theorem d2_10 : decode prog_76_method_12_code 10 = .ok (.lstore 5, 2) := by decide +kernel
theorem d2_12 : decode prog_76_method_12_code 12 = .ok (.lload 5, 2) := by decide +kernel
theorem d2_14 : decode prog_76_method_12_code 14 = .ok (.lconst 0, 1) := by decide +kernel
theorem d2_15 : decode prog_76_method_12_code 15 = .ok (.lcmp, 1) := by decide +kernel
theorem d2_16 : decode prog_76_method_12_code 16 = .ok (.ifCond .ge 13, 3) := by decide +kernel
theorem d2_19 : decode prog_76_method_12_code 19 = .ok (.lload 5, 2) := by decide +kernel
theorem d2_21 : decode prog_76_method_12_code 21 = .ok (.iload_n 2, 1) := by decide +kernel
theorem d2_22 : decode prog_76_method_12_code 22 = .ok (.i2l, 1) := by decide +kernel
theorem d2_23 : decode prog_76_method_12_code 23 = .ok (.ladd, 1) := by decide +kernel
theorem d2_24 : decode prog_76_method_12_code 24 = .ok (.lstore 5, 2) := by decide +kernel
theorem d2_26 : decode prog_76_method_12_code 26 = .ok (.goto 18, 3) := by decide +kernel
theorem d2_29 : decode prog_76_method_12_code 29 = .ok (.lload 5, 2) := by decide +kernel
theorem d2_31 : decode prog_76_method_12_code 31 = .ok (.iload_n 2, 1) := by decide +kernel
theorem d2_32 : decode prog_76_method_12_code 32 = .ok (.i2l, 1) := by decide +kernel
theorem d2_33 : decode prog_76_method_12_code 33 = .ok (.lcmp, 1) := by decide +kernel
theorem d2_34 : decode prog_76_method_12_code 34 = .ok (.ifCond .lt 10, 3) := by decide +kernel
theorem d2_37 : decode prog_76_method_12_code 37 = .ok (.lload 5, 2) := by decide +kernel
theorem d2_39 : decode prog_76_method_12_code 39 = .ok (.iload_n 2, 1) := by decide +kernel
theorem d2_40 : decode prog_76_method_12_code 40 = .ok (.i2l, 1) := by decide +kernel
theorem d2_41 : decode prog_76_method_12_code 41 = .ok (.lsub, 1) := by decide +kernel
theorem d2_42 : decode prog_76_method_12_code 42 = .ok (.lstore 5, 2) := by decide +kernel
theorem d2_44 : decode prog_76_method_12_code 44 = .ok (.lload 5, 2) := by decide +kernel
theorem d2_46 : decode prog_76_method_12_code 46 = .ok (.l2i, 1) := by decide +kernel
theorem d2_47 : decode prog_76_method_12_code 47 = .ok (.ireturn, 1) := by decide +kernel
theorem pn_rmRed : plainName "com/example/dichotome/dichotome/algebra/PrimeBasis" = true := by first | (simp [plainName, overriddenIn]; done) | decide +kernel
theorem ef_rmRed (m : MethodId) (q1 : Int64) (p2 : Int32) (d3 : UInt64) : entryFrame m #[(.long q1), (.int p2), (.double d3)] 7 = mkF m 0 #[.val (.long q1), .second, iv p2, .val (.double d3), .second, .unset, .unset] [] := by first | (simp [entryFrame, mkF, argsToLocals, Value.category]; done) | rfl
def Q_rmRed (Z : State) (q1 : Int64) (p2 : Int32) (d3 : UInt64)  (h0 : Heap) (n0 : Nat) (v : Option Value) (h : Heap) (L : List Loc) : Prop := ∃ r : Int32, v = some (.int r) ∧ r.toInt = q1.toInt % p2.toInt ∧ Fr n0 L ∧ h = h0
set_option maxRecDepth 65536 in
set_option maxHeartbeats 40000000 in
theorem rmRed (l : Launch) (Z : State) (a0 : Array Value) (hw : ∀ d ∈ tables_1, d.before a0 Z = true) (ws : List Jvm.Cond) (q1 : Int64) (p2 : Int32) (d3 : UInt64)  (h0 : Heap) (n0 : Nat) (Z0 : n0 ≤ h0.size) (hx0 : 0 ≤ q1.toInt) (hP : own_isP p2) (hd3 : d3 = own_rc p2) :
    MetFree l (⟨"com/example/dichotome/dichotome/algebra/PrimeBasis", "reduce", "(JID)I"⟩ : MethodName) (head1 (Jvm.Cond.code (⟨"com/example/dichotome/dichotome/algebra/PrimeBasis", "reduce", "(JID)I"⟩ : MethodName) prog_76_method_12_code 7 (some .int) :: ws) ({ frames := 0, cells := 0, slots := 0, locals := 0 } : Room)) (fun a U => a = #[(.long q1), (.int p2), (.double d3)] ∧ Z.Warmed39 U.vm ∧ U.heap = h0) (fun _ _ _ _ _ => True) (fun _ U o U' => ∃ v L, o = .returned v ∧ Q_rmRed Z q1 p2 d3  h0 n0 v U'.heap L ∧ FrameEnd U o U' L ({ frames := 0, cells := 0, slots := 0, locals := 0 } : Room).cells ({ frames := 0, cells := 0, slots := 0, locals := 0 } : Room).slots) := by
  refine MetFree.of_bodySF (plainFor_of_name pn_rmRed) hisR ?_
  intro p e s m args below meth c s₁ Bd hml0 hP hK
  obtain ⟨rfl, hZ, hh⟩ := hP
  have hx := Bd.exec
  have hby := Bd.bytes
  have hml : c.maxLocals = 7 := hml0
  have hown : s.vm.findClass "com/example/dichotome/dichotome/algebra/PrimeBasis" = some m.cls := findClass_of_methodNamed Bd.named
  have hnm := (name_of_methodNamed Bd.named Bd.method).1
  have X0 : Stand p l e ({ frames := 0, cells := 0, slots := 0, locals := 0 } : Room) s m #[(.long q1), (.int p2), (.double d3)] below meth c s₁ [] 0 0 := Stand.of_body Bd
  have e0 : s₁.heap = h0 := by rw [← hh, Bd.state]; rfl
  have N0 := Fr.nil n0
  have g0 : own_Go p e below s₁ (entryFrame m #[(.long q1), (.int p2), (.double d3)] 7) s₁ (mkF m 0 #[.val (.long q1), .second, iv p2, .val (.double d3), .second, .unset, .unset] []) := fun t k => castTop (ef_rmRed m q1 p2 d3) k
  have fD : Fin64 (FP.dmul (FP.l2d q1) d3) := by rw [hd3]; exact (dmul_mag (l2d_mag q1) (own_rcM p2 hP) (by decide) (by decide)).fin (by decide)
  have g35 : own_Go p e below s₁ (entryFrame m #[(.long q1), (.int p2), (.double d3)] 7) s₁ (mkF m 12 #[.val (.long q1), .second, iv p2, .val (.double d3), .second, .val (.long (q1 - ((FP.d2l (FP.dmul (FP.l2d q1) d3)) * (p2.toInt64)))), .second] []) := by
    intro target kt
    refine g0 target ?_
    refine XT.lloadN X0.here hx rfl (hb hby d2_0) rfl ?_
    show Steps p.tables e below (s₁.setTop (mkF m 1 #[.val (.long q1), .second, iv p2, .val (.double d3), .second, .unset, .unset] [(.long q1)])) target
    refine XT.lloadN X0.here hx rfl (hb hby d2_1) rfl ?_
    show Steps p.tables e below (s₁.setTop (mkF m 2 #[.val (.long q1), .second, iv p2, .val (.double d3), .second, .unset, .unset] [(.long q1), (.long q1)])) target
    refine XS.l2dS X0.here hx rfl (hb hby d2_2) rfl rfl ?_
    show Steps p.tables e below (s₁.setTop (mkF m 3 #[.val (.long q1), .second, iv p2, .val (.double d3), .second, .unset, .unset] [(.double (FP.l2d q1)), (.long q1)])) target
    refine XS.dloadN X0.here hx rfl (hb hby d2_3) rfl ?_
    show Steps p.tables e below (s₁.setTop (mkF m 4 #[.val (.long q1), .second, iv p2, .val (.double d3), .second, .unset, .unset] [(.double d3), (.double (FP.l2d q1)), (.long q1)])) target
    refine XS.dmulS X0.here hx rfl (hb hby d2_4) rfl fD.noNaN rfl ?_
    show Steps p.tables e below (s₁.setTop (mkF m 5 #[.val (.long q1), .second, iv p2, .val (.double d3), .second, .unset, .unset] [(.double (FP.dmul (FP.l2d q1) d3)), (.long q1)])) target
    refine XS.d2lS X0.here hx rfl (hb hby d2_5) rfl rfl ?_
    show Steps p.tables e below (s₁.setTop (mkF m 6 #[.val (.long q1), .second, iv p2, .val (.double d3), .second, .unset, .unset] [(.long (FP.d2l (FP.dmul (FP.l2d q1) d3))), (.long q1)])) target
    refine XS.iloadN X0.here hx rfl (hb hby d2_6) rfl ?_
    show Steps p.tables e below (s₁.setTop (mkF m 7 #[.val (.long q1), .second, iv p2, .val (.double d3), .second, .unset, .unset] [(.int p2), (.long (FP.d2l (FP.dmul (FP.l2d q1) d3))), (.long q1)])) target
    refine XT.i2l X0.here hx rfl (hb hby d2_7) rfl ?_
    show Steps p.tables e below (s₁.setTop (mkF m 8 #[.val (.long q1), .second, iv p2, .val (.double d3), .second, .unset, .unset] [(.long (p2.toInt64)), (.long (FP.d2l (FP.dmul (FP.l2d q1) d3))), (.long q1)])) target
    refine XT.lmul X0.here hx rfl (hb hby d2_8) rfl ?_
    show Steps p.tables e below (s₁.setTop (mkF m 9 #[.val (.long q1), .second, iv p2, .val (.double d3), .second, .unset, .unset] [(.long ((FP.d2l (FP.dmul (FP.l2d q1) d3)) * (p2.toInt64))), (.long q1)])) target
    refine XT.lsub X0.here hx rfl (hb hby d2_9) rfl ?_
    show Steps p.tables e below (s₁.setTop (mkF m 10 #[.val (.long q1), .second, iv p2, .val (.double d3), .second, .unset, .unset] [(.long (q1 - ((FP.d2l (FP.dmul (FP.l2d q1) d3)) * (p2.toInt64))))])) target
    refine XT.lstore X0.here hx rfl (hb hby d2_10) rfl (l' := #[.val (.long q1), .second, iv p2, .val (.double d3), .second, .val (.long (q1 - ((FP.d2l (FP.dmul (FP.l2d q1) d3)) * (p2.toInt64)))), .second]) rfl ?_
    show Steps p.tables e below (s₁.setTop (mkF m 12 #[.val (.long q1), .second, iv p2, .val (.double d3), .second, .val (.long (q1 - ((FP.d2l (FP.dmul (FP.l2d q1) d3)) * (p2.toInt64)))), .second] [])) target
    exact kt
  obtain ⟨rm, e_rm⟩ : ∃ z : Int64, z = (q1 - ((FP.d2l (FP.dmul (FP.l2d q1) d3)) * (p2.toInt64))) := ⟨_, rfl⟩
  rw [← e_rm] at g35
  obtain ⟨z, hz, z1, z2⟩ := own_nears q1 hx0 p2 hP
  rw [← hd3] at hz
  obtain ⟨pb1, pb2⟩ := own_pb hP
  have zc : z = q1.toInt / p2.toInt + 1 ∨ z = q1.toInt / p2.toInt ∨ z = q1.toInt / p2.toInt - 1 := by omega
  obtain ⟨y0, y1, y2, y3, y4, y5⟩ := own_rem rfl pb1 pb2 hx0 hz zc
  rw [← e_rm] at y0
  have hp2 : p2.toInt64.toInt = p2.toInt := Int32.toInt_toInt64 p2
  obtain ⟨r2, hm43, g43⟩ : ∃ (r2 : Int64), (r2 = (if rm < (0 : Int64) then (rm + (p2.toInt64)) else (if rm < (p2.toInt64) then rm else (rm - (p2.toInt64))))) ∧ own_Go p e below s₁ (entryFrame m #[(.long q1), (.int p2), (.double d3)] 7) s₁ (mkF m 44 #[.val (.long q1), .second, iv p2, .val (.double d3), .second, .val (.long r2), .second] []) := by
    have g36 : own_Go p e below s₁ (entryFrame m #[(.long q1), (.int p2), (.double d3)] 7) s₁ (mkF m 16 #[.val (.long q1), .second, iv p2, .val (.double d3), .second, .val (.long rm), .second] [(.int (XT.cmpL rm (0 : Int64)))]) := by
      intro target kt
      refine g35 target ?_
      refine XT.lload X0.here hx rfl (hb hby d2_12) rfl ?_
      show Steps p.tables e below (s₁.setTop (mkF m 14 #[.val (.long q1), .second, iv p2, .val (.double d3), .second, .val (.long rm), .second] [(.long rm)])) target
      refine XT.lconstV X0.here hx rfl (0 : Int64) (hb hby d2_14) rfl ?_
      show Steps p.tables e below (s₁.setTop (mkF m 15 #[.val (.long q1), .second, iv p2, .val (.double d3), .second, .val (.long rm), .second] [(.long (0 : Int64)), (.long rm)])) target
      refine XT.lcmp X0.here hx rfl (hb hby d2_15) rfl ?_
      show Steps p.tables e below (s₁.setTop (mkF m 16 #[.val (.long q1), .second, iv p2, .val (.double d3), .second, .val (.long rm), .second] [(.int (XT.cmpL rm (0 : Int64)))])) target
      exact kt
    by_cases hc37 : rm < (0 : Int64)
    · have g38 : own_Go p e below s₁ (entryFrame m #[(.long q1), (.int p2), (.double d3)] 7) s₁ (mkF m 44 #[.val (.long q1), .second, iv p2, .val (.double d3), .second, .val (.long (rm + (p2.toInt64))), .second] []) := by
        intro target kt
        refine g36 target ?_
        refine XS.ifNo X0.here hx rfl (hb hby d2_16) rfl (XT.ll_ge_f hc37) ?_
        show Steps p.tables e below (s₁.setTop (mkF m 19 #[.val (.long q1), .second, iv p2, .val (.double d3), .second, .val (.long rm), .second] [])) target
        refine XT.lload X0.here hx rfl (hb hby d2_19) rfl ?_
        show Steps p.tables e below (s₁.setTop (mkF m 21 #[.val (.long q1), .second, iv p2, .val (.double d3), .second, .val (.long rm), .second] [(.long rm)])) target
        refine XS.iloadN X0.here hx rfl (hb hby d2_21) rfl ?_
        show Steps p.tables e below (s₁.setTop (mkF m 22 #[.val (.long q1), .second, iv p2, .val (.double d3), .second, .val (.long rm), .second] [(.int p2), (.long rm)])) target
        refine XT.i2l X0.here hx rfl (hb hby d2_22) rfl ?_
        show Steps p.tables e below (s₁.setTop (mkF m 23 #[.val (.long q1), .second, iv p2, .val (.double d3), .second, .val (.long rm), .second] [(.long (p2.toInt64)), (.long rm)])) target
        refine XT.ladd X0.here hx rfl (hb hby d2_23) rfl ?_
        show Steps p.tables e below (s₁.setTop (mkF m 24 #[.val (.long q1), .second, iv p2, .val (.double d3), .second, .val (.long rm), .second] [(.long (rm + (p2.toInt64)))])) target
        refine XT.lstore X0.here hx rfl (hb hby d2_24) rfl (l' := #[.val (.long q1), .second, iv p2, .val (.double d3), .second, .val (.long (rm + (p2.toInt64))), .second]) rfl ?_
        show Steps p.tables e below (s₁.setTop (mkF m 26 #[.val (.long q1), .second, iv p2, .val (.double d3), .second, .val (.long (rm + (p2.toInt64))), .second] [])) target
        refine XS.goto X0.here hx rfl (pc0 := 26) (pc' := 44) rfl (hb hby d2_26) (by decide) (by decide) ?_
        show Steps p.tables e below (s₁.setTop (mkF m 44 #[.val (.long q1), .second, iv p2, .val (.double d3), .second, .val (.long (rm + (p2.toInt64))), .second] [])) target
        exact kt
      exact ⟨(rm + (p2.toInt64)), (by simp only [if_pos hc37]), g38⟩
    · have g39 : own_Go p e below s₁ (entryFrame m #[(.long q1), (.int p2), (.double d3)] 7) s₁ (mkF m 34 #[.val (.long q1), .second, iv p2, .val (.double d3), .second, .val (.long rm), .second] [(.int (XT.cmpL rm (p2.toInt64)))]) := by
        intro target kt
        refine g36 target ?_
        refine XS.ifYes X0.here hx rfl (pc0 := 16) (pc' := 29) rfl (hb hby d2_16) rfl (XT.ll_ge_t hc37) (by decide) (by decide) ?_
        show Steps p.tables e below (s₁.setTop (mkF m 29 #[.val (.long q1), .second, iv p2, .val (.double d3), .second, .val (.long rm), .second] [])) target
        refine XT.lload X0.here hx rfl (hb hby d2_29) rfl ?_
        show Steps p.tables e below (s₁.setTop (mkF m 31 #[.val (.long q1), .second, iv p2, .val (.double d3), .second, .val (.long rm), .second] [(.long rm)])) target
        refine XS.iloadN X0.here hx rfl (hb hby d2_31) rfl ?_
        show Steps p.tables e below (s₁.setTop (mkF m 32 #[.val (.long q1), .second, iv p2, .val (.double d3), .second, .val (.long rm), .second] [(.int p2), (.long rm)])) target
        refine XT.i2l X0.here hx rfl (hb hby d2_32) rfl ?_
        show Steps p.tables e below (s₁.setTop (mkF m 33 #[.val (.long q1), .second, iv p2, .val (.double d3), .second, .val (.long rm), .second] [(.long (p2.toInt64)), (.long rm)])) target
        refine XT.lcmp X0.here hx rfl (hb hby d2_33) rfl ?_
        show Steps p.tables e below (s₁.setTop (mkF m 34 #[.val (.long q1), .second, iv p2, .val (.double d3), .second, .val (.long rm), .second] [(.int (XT.cmpL rm (p2.toInt64)))])) target
        exact kt
      by_cases hc40 : rm < (p2.toInt64)
      · have g41 : own_Go p e below s₁ (entryFrame m #[(.long q1), (.int p2), (.double d3)] 7) s₁ (mkF m 44 #[.val (.long q1), .second, iv p2, .val (.double d3), .second, .val (.long rm), .second] []) := by
          intro target kt
          refine g39 target ?_
          refine XS.ifYes X0.here hx rfl (pc0 := 34) (pc' := 44) rfl (hb hby d2_34) rfl (XT.ll_lt_t hc40) (by decide) (by decide) ?_
          show Steps p.tables e below (s₁.setTop (mkF m 44 #[.val (.long q1), .second, iv p2, .val (.double d3), .second, .val (.long rm), .second] [])) target
          exact kt
        exact ⟨rm, (by simp only [if_neg hc37, if_pos hc40]), g41⟩
      · have g42 : own_Go p e below s₁ (entryFrame m #[(.long q1), (.int p2), (.double d3)] 7) s₁ (mkF m 44 #[.val (.long q1), .second, iv p2, .val (.double d3), .second, .val (.long (rm - (p2.toInt64))), .second] []) := by
          intro target kt
          refine g39 target ?_
          refine XS.ifNo X0.here hx rfl (hb hby d2_34) rfl (XT.ll_lt_f hc40) ?_
          show Steps p.tables e below (s₁.setTop (mkF m 37 #[.val (.long q1), .second, iv p2, .val (.double d3), .second, .val (.long rm), .second] [])) target
          refine XT.lload X0.here hx rfl (hb hby d2_37) rfl ?_
          show Steps p.tables e below (s₁.setTop (mkF m 39 #[.val (.long q1), .second, iv p2, .val (.double d3), .second, .val (.long rm), .second] [(.long rm)])) target
          refine XS.iloadN X0.here hx rfl (hb hby d2_39) rfl ?_
          show Steps p.tables e below (s₁.setTop (mkF m 40 #[.val (.long q1), .second, iv p2, .val (.double d3), .second, .val (.long rm), .second] [(.int p2), (.long rm)])) target
          refine XT.i2l X0.here hx rfl (hb hby d2_40) rfl ?_
          show Steps p.tables e below (s₁.setTop (mkF m 41 #[.val (.long q1), .second, iv p2, .val (.double d3), .second, .val (.long rm), .second] [(.long (p2.toInt64)), (.long rm)])) target
          refine XT.lsub X0.here hx rfl (hb hby d2_41) rfl ?_
          show Steps p.tables e below (s₁.setTop (mkF m 42 #[.val (.long q1), .second, iv p2, .val (.double d3), .second, .val (.long rm), .second] [(.long (rm - (p2.toInt64)))])) target
          refine XT.lstore X0.here hx rfl (hb hby d2_42) rfl (l' := #[.val (.long q1), .second, iv p2, .val (.double d3), .second, .val (.long (rm - (p2.toInt64))), .second]) rfl ?_
          show Steps p.tables e below (s₁.setTop (mkF m 44 #[.val (.long q1), .second, iv p2, .val (.double d3), .second, .val (.long (rm - (p2.toInt64))), .second] [])) target
          exact kt
        exact ⟨(rm - (p2.toInt64)), (by simp only [if_neg hc37, if_neg hc40]), g42⟩
  have hr2 : r2.toInt = q1.toInt % p2.toInt := by
    rw [hm43]
    rcases zc with h | h | h
    · have hv := y3 h
      rw [if_pos (by rw [Int64.lt_iff_toInt_lt, y0, show (0 : Int64).toInt = 0 from rfl]; omega), XT.add64 (by rw [y0, hp2]; constructor <;> omega), y0, hp2]
      omega
    · have hv := y4 h
      rw [if_neg (by rw [Int64.lt_iff_toInt_lt, y0, show (0 : Int64).toInt = 0 from rfl]; omega), if_pos (by rw [Int64.lt_iff_toInt_lt, y0, hp2]; omega), y0]
      omega
    · have hv := y5 h
      rw [if_neg (by rw [Int64.lt_iff_toInt_lt, y0, show (0 : Int64).toInt = 0 from rfl]; omega), if_neg (by rw [Int64.lt_iff_toInt_lt, y0, hp2]; omega), XT.sub64 (by rw [y0, hp2]; constructor <;> omega), y0, hp2]
      omega
  have g44 : own_Go p e below s₁ (entryFrame m #[(.long q1), (.int p2), (.double d3)] 7) s₁ (mkF m 47 #[.val (.long q1), .second, iv p2, .val (.double d3), .second, .val (.long r2), .second] [(.int (r2.toInt32))]) := by
    intro target kt
    refine g43 target ?_
    refine XT.lload X0.here hx rfl (hb hby d2_44) rfl ?_
    show Steps p.tables e below (s₁.setTop (mkF m 46 #[.val (.long q1), .second, iv p2, .val (.double d3), .second, .val (.long r2), .second] [(.long r2)])) target
    refine XT.l2i X0.here hx rfl (hb hby d2_46) rfl ?_
    show Steps p.tables e below (s₁.setTop (mkF m 47 #[.val (.long q1), .second, iv p2, .val (.double d3), .second, .val (.long r2), .second] [(.int (r2.toInt32))])) target
    exact kt
  obtain ⟨fs, hr, hrun, hended, hW, hsame⟩ := X0.leave (v := some (.int (r2.toInt32))) (fun h => by rw [Bd.returns] at h; cases h)
  refine ⟨_, _, g44 _ ?_, hrun, hended, _, _, rfl, ?_, ⟨_, rfl⟩, hW, hsame.mono (by decide) (by decide)⟩
  · exact retI X0 hx Bd.returns (hb hby d2_47) hr
  · show Q_rmRed Z q1 p2 d3  h0 n0 _ s₁.heap _
    rw [e0]
    exact ⟨_, rfl, by rw [XT.narrowInt (by rw [hr2]; constructor <;> omega), hr2], N0, rfl⟩
theorem pn_rm0 : plainName "com/example/dichotome/dichotome/algebra/PrimeBasisReducePinLaw" = true := by first | (simp [plainName, overriddenIn]; done) | decide +kernel
theorem ef_rm0 (m : MethodId) (p0 : Int32) (q1 : Int64) (q2 : Int64) (p3 : Int32) (p4 : Int32) : entryFrame m #[(.int p0), (.long q1), (.long q2), (.int p3), (.int p4)] maxLocals = mkF m 0 #[iv p0, .val (.long q1), .second, .val (.long q2), .second, iv p3, iv p4, .unset, .unset, .unset, .unset, .unset, .unset, .unset, .unset, .unset] [] := by first | (simp [entryFrame, mkF, argsToLocals, Value.category, maxLocals]; done) | rfl
def Q_rm0 (Z : State) (p0 : Int32) (q1 : Int64) (q2 : Int64) (p3 : Int32) (p4 : Int32)  (h0 : Heap) (n0 : Nat) (v : Option Value) (h : Heap) (L : List Loc) : Prop := v = some (.int (1 : Int32)) ∧ Fr n0 L
set_option maxRecDepth 65536 in
set_option maxHeartbeats 40000000 in
theorem rm0 (l : Launch) (Z : State) (a0 : Array Value) (hw : ∀ d ∈ tables_1, d.before a0 Z = true) (ws : List Jvm.Cond) (p0 : Int32) (q1 : Int64) (q2 : Int64) (p3 : Int32) (p4 : Int32)  (h0 : Heap) (n0 : Nat) (Z0 : n0 ≤ h0.size)  :
    MetFree l x (head1 (Jvm.Cond.code x code maxLocals ret :: ws) room_1) (fun a U => a = #[(.int p0), (.long q1), (.long q2), (.int p3), (.int p4)] ∧ Z.Warmed39 U.vm ∧ U.heap = h0) (fun _ _ _ _ _ => True) (fun _ U o U' => ∃ v L, o = .returned v ∧ Q_rm0 Z p0 q1 q2 p3 p4  h0 n0 v U'.heap L ∧ FrameEnd U o U' L room_1.cells room_1.slots) := by
  refine MetFree.of_bodySF (plainFor_of_name pn_rm0) hisR ?_
  intro p e s m args below meth c s₁ Bd hml0 hP hK
  obtain ⟨rfl, hZ, hh⟩ := hP
  have hx := Bd.exec
  have hby := Bd.bytes
  have hml : c.maxLocals = 16 := hml0
  have hown : s.vm.findClass "com/example/dichotome/dichotome/algebra/PrimeBasisReducePinLaw" = some m.cls := findClass_of_methodNamed Bd.named
  have hnm := (name_of_methodNamed Bd.named Bd.method).1
  have X0 : Stand p l e room_1 s m #[(.int p0), (.long q1), (.long q2), (.int p3), (.int p4)] below meth c s₁ [] 0 0 := Stand.of_body Bd
  have e0 : s₁.heap = h0 := by rw [← hh, Bd.state]; rfl
  have N0 := Fr.nil n0
  have g0 : own_Go p e below s₁ (entryFrame m #[(.int p0), (.long q1), (.long q2), (.int p3), (.int p4)] maxLocals) s₁ (mkF m 0 #[iv p0, .val (.long q1), .second, .val (.long q2), .second, iv p3, iv p4, .unset, .unset, .unset, .unset, .unset, .unset, .unset, .unset, .unset] []) := fun t k => castTop (ef_rm0 m p0 q1 q2 p3 p4) k
  have g45 : own_Go p e below s₁ (entryFrame m #[(.int p0), (.long q1), (.long q2), (.int p3), (.int p4)] maxLocals) s₁ (mkF m 1 #[iv p0, .val (.long q1), .second, .val (.long q2), .second, iv p3, iv p4, .unset, .unset, .unset, .unset, .unset, .unset, .unset, .unset, .unset] [(.int p0)]) := by
    intro target kt
    refine g0 target ?_
    refine XS.iloadN X0.here hx rfl (hb hby at_0) rfl ?_
    show Steps p.tables e below (s₁.setTop (mkF m 1 #[iv p0, .val (.long q1), .second, .val (.long q2), .second, iv p3, iv p4, .unset, .unset, .unset, .unset, .unset, .unset, .unset, .unset, .unset] [(.int p0)])) target
    exact kt
  obtain ⟨_, _, ⟨T46, L46, k46, n46⟩, -, X46, ⟨Lc46, hQ46, l46, y46, z46⟩, st46⟩ := Jvm.LawKit.callS X0 hx (y := (⟨"com/example/dichotome/dichotome/algebra/PrimeBasisReducePinLaw", "prime", "(I)I"⟩ : MethodName)) hown (mvT hZ (hw _ (List.mem_of_getElem? (i := 0) rfl))) (mvT hZ (hw _ (List.mem_of_getElem? (i := 1) rfl))) (mvT hZ (hw _ (List.mem_of_getElem? (i := 2) rfl))) (mvT hZ (hw _ (List.mem_of_getElem? (i := 3) rfl))) (by decide) (backOf (W := 0) (rmPr l Z a0 hw [] p0 h0 n0 Z0) hZ (hw _ (List.mem_of_getElem? (i := 3) rfl)) (hw _ (List.mem_of_getElem? (i := 2) rfl)) (by decide) (by decide)) (g := (mkF m 1 #[iv p0, .val (.long q1), .second, .val (.long q2), .second, iv p3, iv p4, .unset, .unset, .unset, .unset, .unset, .unset, .unset, .unset, .unset] [(.int p0)])) rfl (by rw [hml]; rfl) (argsL := [(.int p0)]) (rest := []) (lenOf pd_0 rfl) rfl (by show 2 * 0 + _ ≤ _; exact Nat.le_of_eq rfl) (hb hby at_1) (fun _ _ => ⟨rfl, e0, (by decide : 0 + 1 ≤ _), (by decide : 0 + 10 ≤ _)⟩)
  dsimp only [Pt.U, Pt.locs, Pt.cells, Pt.slots] at X46 l46 y46 z46 st46 hQ46
  subst l46 y46 z46
  obtain ⟨pr, rfl, hP, Nq46, K46⟩ := hQ46
  have N46 := Fr.app N0 Nq46
  have g47 : own_Go p e below s₁ (entryFrame m #[(.int p0), (.long q1), (.long q2), (.int p3), (.int p4)] maxLocals) T46 (mkF m 4 #[iv p0, .val (.long q1), .second, .val (.long q2), .second, iv p3, iv p4, .unset, .unset, .unset, .unset, .unset, .unset, .unset, .unset, .unset] [(.int pr)]) := fun target kt => g45 target (st46 target kt)
  have Z46 : n0 ≤ T46.heap.size := Nat.le_trans Z0 K46.1
  obtain ⟨hp, ehp⟩ : ∃ z, z = T46.heap := ⟨_, rfl⟩
  rw [← ehp] at Z46
  have g48 : own_Go p e below s₁ (entryFrame m #[(.int p0), (.long q1), (.long q2), (.int p3), (.int p4)] maxLocals) T46 (mkF m 17 #[iv p0, .val (.long q1), .second, .val (.long q2), .second, iv p3, iv p4, iv pr, .val (.double (FP.ddiv (FP.l2d 1) (FP.i2d pr))), .second, .unset, .unset, .unset, .unset, .unset, .unset] [(.int (p4 &&& (1 : Int32)))]) := by
    intro target kt
    refine g47 target ?_
    refine XS.istore X46.here hx rfl (hb hby at_4) rfl (l' := #[iv p0, .val (.long q1), .second, .val (.long q2), .second, iv p3, iv p4, iv pr, .unset, .unset, .unset, .unset, .unset, .unset, .unset, .unset]) rfl ?_
    show Steps p.tables e below (T46.setTop (mkF m 6 #[iv p0, .val (.long q1), .second, .val (.long q2), .second, iv p3, iv p4, iv pr, .unset, .unset, .unset, .unset, .unset, .unset, .unset, .unset] [])) target
    refine XS.dconst1 X46.here hx rfl (hb hby at_6) own_d1 ?_
    show Steps p.tables e below (T46.setTop (mkF m 7 #[iv p0, .val (.long q1), .second, .val (.long q2), .second, iv p3, iv p4, iv pr, .unset, .unset, .unset, .unset, .unset, .unset, .unset, .unset] [(.double (FP.l2d 1))])) target
    refine XS.iload X46.here hx rfl (hb hby at_7) rfl ?_
    show Steps p.tables e below (T46.setTop (mkF m 9 #[iv p0, .val (.long q1), .second, .val (.long q2), .second, iv p3, iv p4, iv pr, .unset, .unset, .unset, .unset, .unset, .unset, .unset, .unset] [(.int pr), (.double (FP.l2d 1))])) target
    refine XS.i2dS X46.here hx rfl (hb hby at_9) rfl rfl ?_
    show Steps p.tables e below (T46.setTop (mkF m 10 #[iv p0, .val (.long q1), .second, .val (.long q2), .second, iv p3, iv p4, iv pr, .unset, .unset, .unset, .unset, .unset, .unset, .unset, .unset] [(.double (FP.i2d pr)), (.double (FP.l2d 1))])) target
    refine XS.ddivS X46.here hx rfl (hb hby at_10) rfl (ddiv_out (l2d_fin 1).noNaN (i2d_fin _) (i2d_nz (own_pnz hP))) rfl ?_
    show Steps p.tables e below (T46.setTop (mkF m 11 #[iv p0, .val (.long q1), .second, .val (.long q2), .second, iv p3, iv p4, iv pr, .unset, .unset, .unset, .unset, .unset, .unset, .unset, .unset] [(.double (FP.ddiv (FP.l2d 1) (FP.i2d pr)))])) target
    refine XS.dstore X46.here hx rfl (hb hby at_11) rfl (l' := #[iv p0, .val (.long q1), .second, .val (.long q2), .second, iv p3, iv p4, iv pr, .val (.double (FP.ddiv (FP.l2d 1) (FP.i2d pr))), .second, .unset, .unset, .unset, .unset, .unset, .unset]) rfl ?_
    show Steps p.tables e below (T46.setTop (mkF m 13 #[iv p0, .val (.long q1), .second, .val (.long q2), .second, iv p3, iv p4, iv pr, .val (.double (FP.ddiv (FP.l2d 1) (FP.i2d pr))), .second, .unset, .unset, .unset, .unset, .unset, .unset] [])) target
    refine XS.iload X46.here hx rfl (hb hby at_13) rfl ?_
    show Steps p.tables e below (T46.setTop (mkF m 15 #[iv p0, .val (.long q1), .second, .val (.long q2), .second, iv p3, iv p4, iv pr, .val (.double (FP.ddiv (FP.l2d 1) (FP.i2d pr))), .second, .unset, .unset, .unset, .unset, .unset, .unset] [(.int p4)])) target
    refine XT.iconstV X46.here hx rfl (1 : Int32) (hb hby at_15) rfl ?_
    show Steps p.tables e below (T46.setTop (mkF m 16 #[iv p0, .val (.long q1), .second, .val (.long q2), .second, iv p3, iv p4, iv pr, .val (.double (FP.ddiv (FP.l2d 1) (FP.i2d pr))), .second, .unset, .unset, .unset, .unset, .unset, .unset] [(.int (1 : Int32)), (.int p4)])) target
    refine XS.iand X46.here hx rfl (hb hby at_16) rfl ?_
    show Steps p.tables e below (T46.setTop (mkF m 17 #[iv p0, .val (.long q1), .second, .val (.long q2), .second, iv p3, iv p4, iv pr, .val (.double (FP.ddiv (FP.l2d 1) (FP.i2d pr))), .second, .unset, .unset, .unset, .unset, .unset, .unset] [(.int (p4 &&& (1 : Int32)))])) target
    exact kt
  by_cases hfl : (p4 &&& (1 : Int32)) = 0
  · have hx0 : 0 ≤ ((q1 &&& (9223372036854775807 : Int64))).toInt := own_xmask q1
    have g49 : own_Go p e below s₁ (entryFrame m #[(.int p0), (.long q1), (.long q2), (.int p3), (.int p4)] maxLocals) T46 (mkF m 59 #[iv p0, .val (.long q1), .second, .val (.long q2), .second, iv p3, iv p4, iv pr, .val (.double (FP.ddiv (FP.l2d 1) (FP.i2d pr))), .second, .val (.long (q1 &&& (9223372036854775807 : Int64))), .second, .unset, .unset, .unset, .unset] []) := by
      intro target kt
      refine g48 target ?_
      refine XS.ifYes X46.here hx rfl (pc0 := 17) (pc' := 52) rfl (hb hby at_17) rfl (XT.i0_eq_t hfl) (by decide) (by decide) ?_
      show Steps p.tables e below (T46.setTop (mkF m 52 #[iv p0, .val (.long q1), .second, .val (.long q2), .second, iv p3, iv p4, iv pr, .val (.double (FP.ddiv (FP.l2d 1) (FP.i2d pr))), .second, .unset, .unset, .unset, .unset, .unset, .unset] [])) target
      refine XT.lloadN X46.here hx rfl (hb hby at_52) rfl ?_
      show Steps p.tables e below (T46.setTop (mkF m 53 #[iv p0, .val (.long q1), .second, .val (.long q2), .second, iv p3, iv p4, iv pr, .val (.double (FP.ddiv (FP.l2d 1) (FP.i2d pr))), .second, .unset, .unset, .unset, .unset, .unset, .unset] [(.long q1)])) target
      refine X46.ldc2J hx hown (mvT hZ (hw _ (List.mem_of_getElem? (i := 16) rfl))) rfl (hb hby at_53) ?_
      show Steps p.tables e below (T46.setTop (mkF m 56 #[iv p0, .val (.long q1), .second, .val (.long q2), .second, iv p3, iv p4, iv pr, .val (.double (FP.ddiv (FP.l2d 1) (FP.i2d pr))), .second, .unset, .unset, .unset, .unset, .unset, .unset] [(.long (9223372036854775807 : Int64)), (.long q1)])) target
      refine XT.land X46.here hx rfl (hb hby at_56) rfl ?_
      show Steps p.tables e below (T46.setTop (mkF m 57 #[iv p0, .val (.long q1), .second, .val (.long q2), .second, iv p3, iv p4, iv pr, .val (.double (FP.ddiv (FP.l2d 1) (FP.i2d pr))), .second, .unset, .unset, .unset, .unset, .unset, .unset] [(.long (q1 &&& (9223372036854775807 : Int64)))])) target
      refine XT.lstore X46.here hx rfl (hb hby at_57) rfl (l' := #[iv p0, .val (.long q1), .second, .val (.long q2), .second, iv p3, iv p4, iv pr, .val (.double (FP.ddiv (FP.l2d 1) (FP.i2d pr))), .second, .val (.long (q1 &&& (9223372036854775807 : Int64))), .second, .unset, .unset, .unset, .unset]) rfl ?_
      show Steps p.tables e below (T46.setTop (mkF m 59 #[iv p0, .val (.long q1), .second, .val (.long q2), .second, iv p3, iv p4, iv pr, .val (.double (FP.ddiv (FP.l2d 1) (FP.i2d pr))), .second, .val (.long (q1 &&& (9223372036854775807 : Int64))), .second, .unset, .unset, .unset, .unset] [])) target
      exact kt
    obtain ⟨xx, e_xx⟩ : ∃ z : Int64, z = (q1 &&& (9223372036854775807 : Int64)) := ⟨_, rfl⟩
    rw [← e_xx] at g49
    rw [← e_xx] at hx0
    have g50 : own_Go p e below s₁ (entryFrame m #[(.int p0), (.long q1), (.long q2), (.int p3), (.int p4)] maxLocals) T46 (mkF m 65 #[iv p0, .val (.long q1), .second, .val (.long q2), .second, iv p3, iv p4, iv pr, .val (.double (FP.ddiv (FP.l2d 1) (FP.i2d pr))), .second, .val (.long xx), .second, .unset, .unset, .unset, .unset] [(.double (FP.ddiv (FP.l2d 1) (FP.i2d pr))), (.int pr), (.long xx)]) := by
      intro target kt
      refine g49 target ?_
      refine XT.lload X46.here hx rfl (hb hby at_59) rfl ?_
      show Steps p.tables e below (T46.setTop (mkF m 61 #[iv p0, .val (.long q1), .second, .val (.long q2), .second, iv p3, iv p4, iv pr, .val (.double (FP.ddiv (FP.l2d 1) (FP.i2d pr))), .second, .val (.long xx), .second, .unset, .unset, .unset, .unset] [(.long xx)])) target
      refine XS.iload X46.here hx rfl (hb hby at_61) rfl ?_
      show Steps p.tables e below (T46.setTop (mkF m 63 #[iv p0, .val (.long q1), .second, .val (.long q2), .second, iv p3, iv p4, iv pr, .val (.double (FP.ddiv (FP.l2d 1) (FP.i2d pr))), .second, .val (.long xx), .second, .unset, .unset, .unset, .unset] [(.int pr), (.long xx)])) target
      refine XS.dload X46.here hx rfl (hb hby at_63) rfl ?_
      show Steps p.tables e below (T46.setTop (mkF m 65 #[iv p0, .val (.long q1), .second, .val (.long q2), .second, iv p3, iv p4, iv pr, .val (.double (FP.ddiv (FP.l2d 1) (FP.i2d pr))), .second, .val (.long xx), .second, .unset, .unset, .unset, .unset] [(.double (FP.ddiv (FP.l2d 1) (FP.i2d pr))), (.int pr), (.long xx)])) target
      exact kt
    obtain ⟨_, _, ⟨T51, L51, k51, n51⟩, -, X51, ⟨Lc51, hQ51, l51, y51, z51⟩, st51⟩ := Jvm.LawKit.callS X46 hx (y := (⟨"com/example/dichotome/dichotome/algebra/PrimeBasis", "reduce", "(JID)I"⟩ : MethodName)) hown (mvT hZ (hw _ (List.mem_of_getElem? (i := 17) rfl))) (mvT hZ (hw _ (List.mem_of_getElem? (i := 18) rfl))) (mvT hZ (hw _ (List.mem_of_getElem? (i := 19) rfl))) (mvT hZ (hw _ (List.mem_of_getElem? (i := 20) rfl))) (by decide) (backOf (W := 0) (rmRed l Z a0 hw [] xx pr (FP.ddiv (FP.l2d 1) (FP.i2d pr)) hp n0 Z46 hx0 hP rfl) hZ (hw _ (List.mem_of_getElem? (i := 20) rfl)) (hw _ (List.mem_of_getElem? (i := 19) rfl)) (by decide) (by decide)) (g := (mkF m 65 #[iv p0, .val (.long q1), .second, .val (.long q2), .second, iv p3, iv p4, iv pr, .val (.double (FP.ddiv (FP.l2d 1) (FP.i2d pr))), .second, .val (.long xx), .second, .unset, .unset, .unset, .unset] [(.double (FP.ddiv (FP.l2d 1) (FP.i2d pr))), (.int pr), (.long xx)])) rfl (by rw [hml]; rfl) (argsL := [(.long xx), (.int pr), (.double (FP.ddiv (FP.l2d 1) (FP.i2d pr)))]) (rest := []) (lenOf pd_1 rfl) rfl (by show 2 * 0 + _ ≤ _; exact Nat.le_of_eq rfl) (hb hby at_65) (fun _ _ => ⟨rfl, ehp.symm, (by decide : 1 + 0 ≤ _), (by decide : 10 + 0 ≤ _)⟩)
    dsimp only [Pt.U, Pt.locs, Pt.cells, Pt.slots] at X51 l51 y51 z51 st51 hQ51
    subst l51 y51 z51
    obtain ⟨rr, rfl, hrr, Nq51, eq51⟩ := hQ51
    have N51 := Fr.app N46 Nq51
    have g52 : own_Go p e below s₁ (entryFrame m #[(.int p0), (.long q1), (.long q2), (.int p3), (.int p4)] maxLocals) T51 (mkF m 68 #[iv p0, .val (.long q1), .second, .val (.long q2), .second, iv p3, iv p4, iv pr, .val (.double (FP.ddiv (FP.l2d 1) (FP.i2d pr))), .second, .val (.long xx), .second, .unset, .unset, .unset, .unset] [(.int rr)]) := fun target kt => g50 target (st51 target kt)
    have g53 : own_Go p e below s₁ (entryFrame m #[(.int p0), (.long q1), (.long q2), (.int p3), (.int p4)] maxLocals) T51 (mkF m 88 #[iv p0, .val (.long q1), .second, .val (.long q2), .second, iv p3, iv p4, iv pr, .val (.double (FP.ddiv (FP.l2d 1) (FP.i2d pr))), .second, .val (.long xx), .second, iv rr, .unset, .unset, .unset] [(.int (1 : Int32))]) := by
      intro target kt
      refine g52 target ?_
      refine XS.istore X51.here hx rfl (hb hby at_68) rfl (l' := #[iv p0, .val (.long q1), .second, .val (.long q2), .second, iv p3, iv p4, iv pr, .val (.double (FP.ddiv (FP.l2d 1) (FP.i2d pr))), .second, .val (.long xx), .second, iv rr, .unset, .unset, .unset]) rfl ?_
      show Steps p.tables e below (T51.setTop (mkF m 70 #[iv p0, .val (.long q1), .second, .val (.long q2), .second, iv p3, iv p4, iv pr, .val (.double (FP.ddiv (FP.l2d 1) (FP.i2d pr))), .second, .val (.long xx), .second, iv rr, .unset, .unset, .unset] [])) target
      refine XS.iload X51.here hx rfl (hb hby at_70) rfl ?_
      show Steps p.tables e below (T51.setTop (mkF m 72 #[iv p0, .val (.long q1), .second, .val (.long q2), .second, iv p3, iv p4, iv pr, .val (.double (FP.ddiv (FP.l2d 1) (FP.i2d pr))), .second, .val (.long xx), .second, iv rr, .unset, .unset, .unset] [(.int rr)])) target
      refine XT.i2l X51.here hx rfl (hb hby at_72) rfl ?_
      show Steps p.tables e below (T51.setTop (mkF m 73 #[iv p0, .val (.long q1), .second, .val (.long q2), .second, iv p3, iv p4, iv pr, .val (.double (FP.ddiv (FP.l2d 1) (FP.i2d pr))), .second, .val (.long xx), .second, iv rr, .unset, .unset, .unset] [(.long (rr.toInt64))])) target
      refine XT.lload X51.here hx rfl (hb hby at_73) rfl ?_
      show Steps p.tables e below (T51.setTop (mkF m 75 #[iv p0, .val (.long q1), .second, .val (.long q2), .second, iv p3, iv p4, iv pr, .val (.double (FP.ddiv (FP.l2d 1) (FP.i2d pr))), .second, .val (.long xx), .second, iv rr, .unset, .unset, .unset] [(.long xx), (.long (rr.toInt64))])) target
      refine XS.iload X51.here hx rfl (hb hby at_75) rfl ?_
      show Steps p.tables e below (T51.setTop (mkF m 77 #[iv p0, .val (.long q1), .second, .val (.long q2), .second, iv p3, iv p4, iv pr, .val (.double (FP.ddiv (FP.l2d 1) (FP.i2d pr))), .second, .val (.long xx), .second, iv rr, .unset, .unset, .unset] [(.int pr), (.long xx), (.long (rr.toInt64))])) target
      refine XT.i2l X51.here hx rfl (hb hby at_77) rfl ?_
      show Steps p.tables e below (T51.setTop (mkF m 78 #[iv p0, .val (.long q1), .second, .val (.long q2), .second, iv p3, iv p4, iv pr, .val (.double (FP.ddiv (FP.l2d 1) (FP.i2d pr))), .second, .val (.long xx), .second, iv rr, .unset, .unset, .unset] [(.long (pr.toInt64)), (.long xx), (.long (rr.toInt64))])) target
      refine own_lrem X51 hx rfl (hb hby at_78) rfl (own_pnzL hP) ?_
      show Steps p.tables e below (T51.setTop (mkF m 79 #[iv p0, .val (.long q1), .second, .val (.long q2), .second, iv p3, iv p4, iv pr, .val (.double (FP.ddiv (FP.l2d 1) (FP.i2d pr))), .second, .val (.long xx), .second, iv rr, .unset, .unset, .unset] [(.long (xx % (pr.toInt64))), (.long (rr.toInt64))])) target
      refine XT.lcmp X51.here hx rfl (hb hby at_79) rfl ?_
      show Steps p.tables e below (T51.setTop (mkF m 80 #[iv p0, .val (.long q1), .second, .val (.long q2), .second, iv p3, iv p4, iv pr, .val (.double (FP.ddiv (FP.l2d 1) (FP.i2d pr))), .second, .val (.long xx), .second, iv rr, .unset, .unset, .unset] [(.int (XT.cmpL (rr.toInt64) (xx % (pr.toInt64))))])) target
      refine XS.ifNo X51.here hx rfl (hb hby at_80) rfl (XT.ll_ne_f (own_got hP hx0 hrr)) ?_
      show Steps p.tables e below (T51.setTop (mkF m 83 #[iv p0, .val (.long q1), .second, .val (.long q2), .second, iv p3, iv p4, iv pr, .val (.double (FP.ddiv (FP.l2d 1) (FP.i2d pr))), .second, .val (.long xx), .second, iv rr, .unset, .unset, .unset] [])) target
      refine XT.iconstV X51.here hx rfl (1 : Int32) (hb hby at_83) rfl ?_
      show Steps p.tables e below (T51.setTop (mkF m 84 #[iv p0, .val (.long q1), .second, .val (.long q2), .second, iv p3, iv p4, iv pr, .val (.double (FP.ddiv (FP.l2d 1) (FP.i2d pr))), .second, .val (.long xx), .second, iv rr, .unset, .unset, .unset] [(.int (1 : Int32))])) target
      refine XS.goto X51.here hx rfl (pc0 := 84) (pc' := 88) rfl (hb hby at_84) (by decide) (by decide) ?_
      show Steps p.tables e below (T51.setTop (mkF m 88 #[iv p0, .val (.long q1), .second, .val (.long q2), .second, iv p3, iv p4, iv pr, .val (.double (FP.ddiv (FP.l2d 1) (FP.i2d pr))), .second, .val (.long xx), .second, iv rr, .unset, .unset, .unset] [(.int (1 : Int32))])) target
      exact kt
    obtain ⟨fs, hr, hrun, hended, hW, hsame⟩ := X51.leave (v := some (.int (nar .boolean (1 : Int32)))) (fun h => by rw [Bd.returns] at h; cases h)
    refine ⟨_, _, g53 _ ?_, hrun, hended, _, _, rfl, ?_, ⟨_, rfl⟩, hW, hsame.mono (by decide) (by decide)⟩
    · exact retN X51 hx (t := .boolean) Bd.returns (by simp) (hb hby at_88) hr
    · show Q_rm0 Z p0 q1 q2 p3 p4  h0 n0 _ T51.heap _
      rw [eq51]
      exact ⟨rfl, N51⟩
  · have hx0 : 0 ≤ ((((q2 &&& (34359738367 : Int64)) * (pr.toInt64)) + (((p3 &&& (2147483647 : Int32)) % pr).toInt64))).toInt := own_xflag q2 p3 pr hP
    have g54 : own_Go p e below s₁ (entryFrame m #[(.int p0), (.long q1), (.long q2), (.int p3), (.int p4)] maxLocals) T46 (mkF m 59 #[iv p0, .val (.long q1), .second, .val (.long q2), .second, iv p3, iv p4, iv pr, .val (.double (FP.ddiv (FP.l2d 1) (FP.i2d pr))), .second, .val (.long (((q2 &&& (34359738367 : Int64)) * (pr.toInt64)) + (((p3 &&& (2147483647 : Int32)) % pr).toInt64))), .second, .val (.long (q2 &&& (34359738367 : Int64))), .second, .val (.long (((p3 &&& (2147483647 : Int32)) % pr).toInt64)), .second] []) := by
      intro target kt
      refine g48 target ?_
      refine XS.ifNo X46.here hx rfl (hb hby at_17) rfl (XT.i0_eq_f hfl) ?_
      show Steps p.tables e below (T46.setTop (mkF m 20 #[iv p0, .val (.long q1), .second, .val (.long q2), .second, iv p3, iv p4, iv pr, .val (.double (FP.ddiv (FP.l2d 1) (FP.i2d pr))), .second, .unset, .unset, .unset, .unset, .unset, .unset] [])) target
      refine XT.lloadN X46.here hx rfl (hb hby at_20) rfl ?_
      show Steps p.tables e below (T46.setTop (mkF m 21 #[iv p0, .val (.long q1), .second, .val (.long q2), .second, iv p3, iv p4, iv pr, .val (.double (FP.ddiv (FP.l2d 1) (FP.i2d pr))), .second, .unset, .unset, .unset, .unset, .unset, .unset] [(.long q2)])) target
      refine X46.ldc2J hx hown (mvT hZ (hw _ (List.mem_of_getElem? (i := 21) rfl))) rfl (hb hby at_21) ?_
      show Steps p.tables e below (T46.setTop (mkF m 24 #[iv p0, .val (.long q1), .second, .val (.long q2), .second, iv p3, iv p4, iv pr, .val (.double (FP.ddiv (FP.l2d 1) (FP.i2d pr))), .second, .unset, .unset, .unset, .unset, .unset, .unset] [(.long (34359738367 : Int64)), (.long q2)])) target
      refine XT.land X46.here hx rfl (hb hby at_24) rfl ?_
      show Steps p.tables e below (T46.setTop (mkF m 25 #[iv p0, .val (.long q1), .second, .val (.long q2), .second, iv p3, iv p4, iv pr, .val (.double (FP.ddiv (FP.l2d 1) (FP.i2d pr))), .second, .unset, .unset, .unset, .unset, .unset, .unset] [(.long (q2 &&& (34359738367 : Int64)))])) target
      refine XT.lstore X46.here hx rfl (hb hby at_25) rfl (l' := #[iv p0, .val (.long q1), .second, .val (.long q2), .second, iv p3, iv p4, iv pr, .val (.double (FP.ddiv (FP.l2d 1) (FP.i2d pr))), .second, .unset, .unset, .val (.long (q2 &&& (34359738367 : Int64))), .second, .unset, .unset]) rfl ?_
      show Steps p.tables e below (T46.setTop (mkF m 27 #[iv p0, .val (.long q1), .second, .val (.long q2), .second, iv p3, iv p4, iv pr, .val (.double (FP.ddiv (FP.l2d 1) (FP.i2d pr))), .second, .unset, .unset, .val (.long (q2 &&& (34359738367 : Int64))), .second, .unset, .unset] [])) target
      refine XS.iload X46.here hx rfl (hb hby at_27) rfl ?_
      show Steps p.tables e below (T46.setTop (mkF m 29 #[iv p0, .val (.long q1), .second, .val (.long q2), .second, iv p3, iv p4, iv pr, .val (.double (FP.ddiv (FP.l2d 1) (FP.i2d pr))), .second, .unset, .unset, .val (.long (q2 &&& (34359738367 : Int64))), .second, .unset, .unset] [(.int p3)])) target
      refine X46.ldcI hx hown (mvT hZ (hw _ (List.mem_of_getElem? (i := 15) rfl))) rfl (hb hby at_29) ?_
      show Steps p.tables e below (T46.setTop (mkF m 31 #[iv p0, .val (.long q1), .second, .val (.long q2), .second, iv p3, iv p4, iv pr, .val (.double (FP.ddiv (FP.l2d 1) (FP.i2d pr))), .second, .unset, .unset, .val (.long (q2 &&& (34359738367 : Int64))), .second, .unset, .unset] [(.int (2147483647 : Int32)), (.int p3)])) target
      refine XS.iand X46.here hx rfl (hb hby at_31) rfl ?_
      show Steps p.tables e below (T46.setTop (mkF m 32 #[iv p0, .val (.long q1), .second, .val (.long q2), .second, iv p3, iv p4, iv pr, .val (.double (FP.ddiv (FP.l2d 1) (FP.i2d pr))), .second, .unset, .unset, .val (.long (q2 &&& (34359738367 : Int64))), .second, .unset, .unset] [(.int (p3 &&& (2147483647 : Int32)))])) target
      refine XS.iload X46.here hx rfl (hb hby at_32) rfl ?_
      show Steps p.tables e below (T46.setTop (mkF m 34 #[iv p0, .val (.long q1), .second, .val (.long q2), .second, iv p3, iv p4, iv pr, .val (.double (FP.ddiv (FP.l2d 1) (FP.i2d pr))), .second, .unset, .unset, .val (.long (q2 &&& (34359738367 : Int64))), .second, .unset, .unset] [(.int pr), (.int (p3 &&& (2147483647 : Int32)))])) target
      refine own_irem X46 hx rfl (hb hby at_34) rfl (own_pnz hP) ?_
      show Steps p.tables e below (T46.setTop (mkF m 35 #[iv p0, .val (.long q1), .second, .val (.long q2), .second, iv p3, iv p4, iv pr, .val (.double (FP.ddiv (FP.l2d 1) (FP.i2d pr))), .second, .unset, .unset, .val (.long (q2 &&& (34359738367 : Int64))), .second, .unset, .unset] [(.int ((p3 &&& (2147483647 : Int32)) % pr))])) target
      refine XT.i2l X46.here hx rfl (hb hby at_35) rfl ?_
      show Steps p.tables e below (T46.setTop (mkF m 36 #[iv p0, .val (.long q1), .second, .val (.long q2), .second, iv p3, iv p4, iv pr, .val (.double (FP.ddiv (FP.l2d 1) (FP.i2d pr))), .second, .unset, .unset, .val (.long (q2 &&& (34359738367 : Int64))), .second, .unset, .unset] [(.long (((p3 &&& (2147483647 : Int32)) % pr).toInt64))])) target
      refine XT.lstore X46.here hx rfl (hb hby at_36) rfl (l' := #[iv p0, .val (.long q1), .second, .val (.long q2), .second, iv p3, iv p4, iv pr, .val (.double (FP.ddiv (FP.l2d 1) (FP.i2d pr))), .second, .unset, .unset, .val (.long (q2 &&& (34359738367 : Int64))), .second, .val (.long (((p3 &&& (2147483647 : Int32)) % pr).toInt64)), .second]) rfl ?_
      show Steps p.tables e below (T46.setTop (mkF m 38 #[iv p0, .val (.long q1), .second, .val (.long q2), .second, iv p3, iv p4, iv pr, .val (.double (FP.ddiv (FP.l2d 1) (FP.i2d pr))), .second, .unset, .unset, .val (.long (q2 &&& (34359738367 : Int64))), .second, .val (.long (((p3 &&& (2147483647 : Int32)) % pr).toInt64)), .second] [])) target
      refine XT.lload X46.here hx rfl (hb hby at_38) rfl ?_
      show Steps p.tables e below (T46.setTop (mkF m 40 #[iv p0, .val (.long q1), .second, .val (.long q2), .second, iv p3, iv p4, iv pr, .val (.double (FP.ddiv (FP.l2d 1) (FP.i2d pr))), .second, .unset, .unset, .val (.long (q2 &&& (34359738367 : Int64))), .second, .val (.long (((p3 &&& (2147483647 : Int32)) % pr).toInt64)), .second] [(.long (q2 &&& (34359738367 : Int64)))])) target
      refine XS.iload X46.here hx rfl (hb hby at_40) rfl ?_
      show Steps p.tables e below (T46.setTop (mkF m 42 #[iv p0, .val (.long q1), .second, .val (.long q2), .second, iv p3, iv p4, iv pr, .val (.double (FP.ddiv (FP.l2d 1) (FP.i2d pr))), .second, .unset, .unset, .val (.long (q2 &&& (34359738367 : Int64))), .second, .val (.long (((p3 &&& (2147483647 : Int32)) % pr).toInt64)), .second] [(.int pr), (.long (q2 &&& (34359738367 : Int64)))])) target
      refine XT.i2l X46.here hx rfl (hb hby at_42) rfl ?_
      show Steps p.tables e below (T46.setTop (mkF m 43 #[iv p0, .val (.long q1), .second, .val (.long q2), .second, iv p3, iv p4, iv pr, .val (.double (FP.ddiv (FP.l2d 1) (FP.i2d pr))), .second, .unset, .unset, .val (.long (q2 &&& (34359738367 : Int64))), .second, .val (.long (((p3 &&& (2147483647 : Int32)) % pr).toInt64)), .second] [(.long (pr.toInt64)), (.long (q2 &&& (34359738367 : Int64)))])) target
      refine XT.lmul X46.here hx rfl (hb hby at_43) rfl ?_
      show Steps p.tables e below (T46.setTop (mkF m 44 #[iv p0, .val (.long q1), .second, .val (.long q2), .second, iv p3, iv p4, iv pr, .val (.double (FP.ddiv (FP.l2d 1) (FP.i2d pr))), .second, .unset, .unset, .val (.long (q2 &&& (34359738367 : Int64))), .second, .val (.long (((p3 &&& (2147483647 : Int32)) % pr).toInt64)), .second] [(.long ((q2 &&& (34359738367 : Int64)) * (pr.toInt64)))])) target
      refine XT.lload X46.here hx rfl (hb hby at_44) rfl ?_
      show Steps p.tables e below (T46.setTop (mkF m 46 #[iv p0, .val (.long q1), .second, .val (.long q2), .second, iv p3, iv p4, iv pr, .val (.double (FP.ddiv (FP.l2d 1) (FP.i2d pr))), .second, .unset, .unset, .val (.long (q2 &&& (34359738367 : Int64))), .second, .val (.long (((p3 &&& (2147483647 : Int32)) % pr).toInt64)), .second] [(.long (((p3 &&& (2147483647 : Int32)) % pr).toInt64)), (.long ((q2 &&& (34359738367 : Int64)) * (pr.toInt64)))])) target
      refine XT.ladd X46.here hx rfl (hb hby at_46) rfl ?_
      show Steps p.tables e below (T46.setTop (mkF m 47 #[iv p0, .val (.long q1), .second, .val (.long q2), .second, iv p3, iv p4, iv pr, .val (.double (FP.ddiv (FP.l2d 1) (FP.i2d pr))), .second, .unset, .unset, .val (.long (q2 &&& (34359738367 : Int64))), .second, .val (.long (((p3 &&& (2147483647 : Int32)) % pr).toInt64)), .second] [(.long (((q2 &&& (34359738367 : Int64)) * (pr.toInt64)) + (((p3 &&& (2147483647 : Int32)) % pr).toInt64)))])) target
      refine XT.lstore X46.here hx rfl (hb hby at_47) rfl (l' := #[iv p0, .val (.long q1), .second, .val (.long q2), .second, iv p3, iv p4, iv pr, .val (.double (FP.ddiv (FP.l2d 1) (FP.i2d pr))), .second, .val (.long (((q2 &&& (34359738367 : Int64)) * (pr.toInt64)) + (((p3 &&& (2147483647 : Int32)) % pr).toInt64))), .second, .val (.long (q2 &&& (34359738367 : Int64))), .second, .val (.long (((p3 &&& (2147483647 : Int32)) % pr).toInt64)), .second]) rfl ?_
      show Steps p.tables e below (T46.setTop (mkF m 49 #[iv p0, .val (.long q1), .second, .val (.long q2), .second, iv p3, iv p4, iv pr, .val (.double (FP.ddiv (FP.l2d 1) (FP.i2d pr))), .second, .val (.long (((q2 &&& (34359738367 : Int64)) * (pr.toInt64)) + (((p3 &&& (2147483647 : Int32)) % pr).toInt64))), .second, .val (.long (q2 &&& (34359738367 : Int64))), .second, .val (.long (((p3 &&& (2147483647 : Int32)) % pr).toInt64)), .second] [])) target
      refine XS.goto X46.here hx rfl (pc0 := 49) (pc' := 59) rfl (hb hby at_49) (by decide) (by decide) ?_
      show Steps p.tables e below (T46.setTop (mkF m 59 #[iv p0, .val (.long q1), .second, .val (.long q2), .second, iv p3, iv p4, iv pr, .val (.double (FP.ddiv (FP.l2d 1) (FP.i2d pr))), .second, .val (.long (((q2 &&& (34359738367 : Int64)) * (pr.toInt64)) + (((p3 &&& (2147483647 : Int32)) % pr).toInt64))), .second, .val (.long (q2 &&& (34359738367 : Int64))), .second, .val (.long (((p3 &&& (2147483647 : Int32)) % pr).toInt64)), .second] [])) target
      exact kt
    obtain ⟨xx, e_xx⟩ : ∃ z : Int64, z = (((q2 &&& (34359738367 : Int64)) * (pr.toInt64)) + (((p3 &&& (2147483647 : Int32)) % pr).toInt64)) := ⟨_, rfl⟩
    rw [← e_xx] at g54
    rw [← e_xx] at hx0
    have g55 : own_Go p e below s₁ (entryFrame m #[(.int p0), (.long q1), (.long q2), (.int p3), (.int p4)] maxLocals) T46 (mkF m 65 #[iv p0, .val (.long q1), .second, .val (.long q2), .second, iv p3, iv p4, iv pr, .val (.double (FP.ddiv (FP.l2d 1) (FP.i2d pr))), .second, .val (.long xx), .second, .val (.long (q2 &&& (34359738367 : Int64))), .second, .val (.long (((p3 &&& (2147483647 : Int32)) % pr).toInt64)), .second] [(.double (FP.ddiv (FP.l2d 1) (FP.i2d pr))), (.int pr), (.long xx)]) := by
      intro target kt
      refine g54 target ?_
      refine XT.lload X46.here hx rfl (hb hby at_59) rfl ?_
      show Steps p.tables e below (T46.setTop (mkF m 61 #[iv p0, .val (.long q1), .second, .val (.long q2), .second, iv p3, iv p4, iv pr, .val (.double (FP.ddiv (FP.l2d 1) (FP.i2d pr))), .second, .val (.long xx), .second, .val (.long (q2 &&& (34359738367 : Int64))), .second, .val (.long (((p3 &&& (2147483647 : Int32)) % pr).toInt64)), .second] [(.long xx)])) target
      refine XS.iload X46.here hx rfl (hb hby at_61) rfl ?_
      show Steps p.tables e below (T46.setTop (mkF m 63 #[iv p0, .val (.long q1), .second, .val (.long q2), .second, iv p3, iv p4, iv pr, .val (.double (FP.ddiv (FP.l2d 1) (FP.i2d pr))), .second, .val (.long xx), .second, .val (.long (q2 &&& (34359738367 : Int64))), .second, .val (.long (((p3 &&& (2147483647 : Int32)) % pr).toInt64)), .second] [(.int pr), (.long xx)])) target
      refine XS.dload X46.here hx rfl (hb hby at_63) rfl ?_
      show Steps p.tables e below (T46.setTop (mkF m 65 #[iv p0, .val (.long q1), .second, .val (.long q2), .second, iv p3, iv p4, iv pr, .val (.double (FP.ddiv (FP.l2d 1) (FP.i2d pr))), .second, .val (.long xx), .second, .val (.long (q2 &&& (34359738367 : Int64))), .second, .val (.long (((p3 &&& (2147483647 : Int32)) % pr).toInt64)), .second] [(.double (FP.ddiv (FP.l2d 1) (FP.i2d pr))), (.int pr), (.long xx)])) target
      exact kt
    obtain ⟨_, _, ⟨T56, L56, k56, n56⟩, -, X56, ⟨Lc56, hQ56, l56, y56, z56⟩, st56⟩ := Jvm.LawKit.callS X46 hx (y := (⟨"com/example/dichotome/dichotome/algebra/PrimeBasis", "reduce", "(JID)I"⟩ : MethodName)) hown (mvT hZ (hw _ (List.mem_of_getElem? (i := 17) rfl))) (mvT hZ (hw _ (List.mem_of_getElem? (i := 18) rfl))) (mvT hZ (hw _ (List.mem_of_getElem? (i := 19) rfl))) (mvT hZ (hw _ (List.mem_of_getElem? (i := 20) rfl))) (by decide) (backOf (W := 0) (rmRed l Z a0 hw [] xx pr (FP.ddiv (FP.l2d 1) (FP.i2d pr)) hp n0 Z46 hx0 hP rfl) hZ (hw _ (List.mem_of_getElem? (i := 20) rfl)) (hw _ (List.mem_of_getElem? (i := 19) rfl)) (by decide) (by decide)) (g := (mkF m 65 #[iv p0, .val (.long q1), .second, .val (.long q2), .second, iv p3, iv p4, iv pr, .val (.double (FP.ddiv (FP.l2d 1) (FP.i2d pr))), .second, .val (.long xx), .second, .val (.long (q2 &&& (34359738367 : Int64))), .second, .val (.long (((p3 &&& (2147483647 : Int32)) % pr).toInt64)), .second] [(.double (FP.ddiv (FP.l2d 1) (FP.i2d pr))), (.int pr), (.long xx)])) rfl (by rw [hml]; rfl) (argsL := [(.long xx), (.int pr), (.double (FP.ddiv (FP.l2d 1) (FP.i2d pr)))]) (rest := []) (lenOf pd_1 rfl) rfl (by show 2 * 0 + _ ≤ _; exact Nat.le_of_eq rfl) (hb hby at_65) (fun _ _ => ⟨rfl, ehp.symm, (by decide : 1 + 0 ≤ _), (by decide : 10 + 0 ≤ _)⟩)
    dsimp only [Pt.U, Pt.locs, Pt.cells, Pt.slots] at X56 l56 y56 z56 st56 hQ56
    subst l56 y56 z56
    obtain ⟨rr, rfl, hrr, Nq56, eq56⟩ := hQ56
    have N56 := Fr.app N46 Nq56
    have g57 : own_Go p e below s₁ (entryFrame m #[(.int p0), (.long q1), (.long q2), (.int p3), (.int p4)] maxLocals) T56 (mkF m 68 #[iv p0, .val (.long q1), .second, .val (.long q2), .second, iv p3, iv p4, iv pr, .val (.double (FP.ddiv (FP.l2d 1) (FP.i2d pr))), .second, .val (.long xx), .second, .val (.long (q2 &&& (34359738367 : Int64))), .second, .val (.long (((p3 &&& (2147483647 : Int32)) % pr).toInt64)), .second] [(.int rr)]) := fun target kt => g55 target (st56 target kt)
    have g58 : own_Go p e below s₁ (entryFrame m #[(.int p0), (.long q1), (.long q2), (.int p3), (.int p4)] maxLocals) T56 (mkF m 88 #[iv p0, .val (.long q1), .second, .val (.long q2), .second, iv p3, iv p4, iv pr, .val (.double (FP.ddiv (FP.l2d 1) (FP.i2d pr))), .second, .val (.long xx), .second, iv rr, .unset, .val (.long (((p3 &&& (2147483647 : Int32)) % pr).toInt64)), .second] [(.int (1 : Int32))]) := by
      intro target kt
      refine g57 target ?_
      refine XS.istore X56.here hx rfl (hb hby at_68) rfl (l' := #[iv p0, .val (.long q1), .second, .val (.long q2), .second, iv p3, iv p4, iv pr, .val (.double (FP.ddiv (FP.l2d 1) (FP.i2d pr))), .second, .val (.long xx), .second, iv rr, .unset, .val (.long (((p3 &&& (2147483647 : Int32)) % pr).toInt64)), .second]) rfl ?_
      show Steps p.tables e below (T56.setTop (mkF m 70 #[iv p0, .val (.long q1), .second, .val (.long q2), .second, iv p3, iv p4, iv pr, .val (.double (FP.ddiv (FP.l2d 1) (FP.i2d pr))), .second, .val (.long xx), .second, iv rr, .unset, .val (.long (((p3 &&& (2147483647 : Int32)) % pr).toInt64)), .second] [])) target
      refine XS.iload X56.here hx rfl (hb hby at_70) rfl ?_
      show Steps p.tables e below (T56.setTop (mkF m 72 #[iv p0, .val (.long q1), .second, .val (.long q2), .second, iv p3, iv p4, iv pr, .val (.double (FP.ddiv (FP.l2d 1) (FP.i2d pr))), .second, .val (.long xx), .second, iv rr, .unset, .val (.long (((p3 &&& (2147483647 : Int32)) % pr).toInt64)), .second] [(.int rr)])) target
      refine XT.i2l X56.here hx rfl (hb hby at_72) rfl ?_
      show Steps p.tables e below (T56.setTop (mkF m 73 #[iv p0, .val (.long q1), .second, .val (.long q2), .second, iv p3, iv p4, iv pr, .val (.double (FP.ddiv (FP.l2d 1) (FP.i2d pr))), .second, .val (.long xx), .second, iv rr, .unset, .val (.long (((p3 &&& (2147483647 : Int32)) % pr).toInt64)), .second] [(.long (rr.toInt64))])) target
      refine XT.lload X56.here hx rfl (hb hby at_73) rfl ?_
      show Steps p.tables e below (T56.setTop (mkF m 75 #[iv p0, .val (.long q1), .second, .val (.long q2), .second, iv p3, iv p4, iv pr, .val (.double (FP.ddiv (FP.l2d 1) (FP.i2d pr))), .second, .val (.long xx), .second, iv rr, .unset, .val (.long (((p3 &&& (2147483647 : Int32)) % pr).toInt64)), .second] [(.long xx), (.long (rr.toInt64))])) target
      refine XS.iload X56.here hx rfl (hb hby at_75) rfl ?_
      show Steps p.tables e below (T56.setTop (mkF m 77 #[iv p0, .val (.long q1), .second, .val (.long q2), .second, iv p3, iv p4, iv pr, .val (.double (FP.ddiv (FP.l2d 1) (FP.i2d pr))), .second, .val (.long xx), .second, iv rr, .unset, .val (.long (((p3 &&& (2147483647 : Int32)) % pr).toInt64)), .second] [(.int pr), (.long xx), (.long (rr.toInt64))])) target
      refine XT.i2l X56.here hx rfl (hb hby at_77) rfl ?_
      show Steps p.tables e below (T56.setTop (mkF m 78 #[iv p0, .val (.long q1), .second, .val (.long q2), .second, iv p3, iv p4, iv pr, .val (.double (FP.ddiv (FP.l2d 1) (FP.i2d pr))), .second, .val (.long xx), .second, iv rr, .unset, .val (.long (((p3 &&& (2147483647 : Int32)) % pr).toInt64)), .second] [(.long (pr.toInt64)), (.long xx), (.long (rr.toInt64))])) target
      refine own_lrem X56 hx rfl (hb hby at_78) rfl (own_pnzL hP) ?_
      show Steps p.tables e below (T56.setTop (mkF m 79 #[iv p0, .val (.long q1), .second, .val (.long q2), .second, iv p3, iv p4, iv pr, .val (.double (FP.ddiv (FP.l2d 1) (FP.i2d pr))), .second, .val (.long xx), .second, iv rr, .unset, .val (.long (((p3 &&& (2147483647 : Int32)) % pr).toInt64)), .second] [(.long (xx % (pr.toInt64))), (.long (rr.toInt64))])) target
      refine XT.lcmp X56.here hx rfl (hb hby at_79) rfl ?_
      show Steps p.tables e below (T56.setTop (mkF m 80 #[iv p0, .val (.long q1), .second, .val (.long q2), .second, iv p3, iv p4, iv pr, .val (.double (FP.ddiv (FP.l2d 1) (FP.i2d pr))), .second, .val (.long xx), .second, iv rr, .unset, .val (.long (((p3 &&& (2147483647 : Int32)) % pr).toInt64)), .second] [(.int (XT.cmpL (rr.toInt64) (xx % (pr.toInt64))))])) target
      refine XS.ifNo X56.here hx rfl (hb hby at_80) rfl (XT.ll_ne_f (own_got hP hx0 hrr)) ?_
      show Steps p.tables e below (T56.setTop (mkF m 83 #[iv p0, .val (.long q1), .second, .val (.long q2), .second, iv p3, iv p4, iv pr, .val (.double (FP.ddiv (FP.l2d 1) (FP.i2d pr))), .second, .val (.long xx), .second, iv rr, .unset, .val (.long (((p3 &&& (2147483647 : Int32)) % pr).toInt64)), .second] [])) target
      refine XT.iconstV X56.here hx rfl (1 : Int32) (hb hby at_83) rfl ?_
      show Steps p.tables e below (T56.setTop (mkF m 84 #[iv p0, .val (.long q1), .second, .val (.long q2), .second, iv p3, iv p4, iv pr, .val (.double (FP.ddiv (FP.l2d 1) (FP.i2d pr))), .second, .val (.long xx), .second, iv rr, .unset, .val (.long (((p3 &&& (2147483647 : Int32)) % pr).toInt64)), .second] [(.int (1 : Int32))])) target
      refine XS.goto X56.here hx rfl (pc0 := 84) (pc' := 88) rfl (hb hby at_84) (by decide) (by decide) ?_
      show Steps p.tables e below (T56.setTop (mkF m 88 #[iv p0, .val (.long q1), .second, .val (.long q2), .second, iv p3, iv p4, iv pr, .val (.double (FP.ddiv (FP.l2d 1) (FP.i2d pr))), .second, .val (.long xx), .second, iv rr, .unset, .val (.long (((p3 &&& (2147483647 : Int32)) % pr).toInt64)), .second] [(.int (1 : Int32))])) target
      exact kt
    obtain ⟨fs, hr, hrun, hended, hW, hsame⟩ := X56.leave (v := some (.int (nar .boolean (1 : Int32)))) (fun h => by rw [Bd.returns] at h; cases h)
    refine ⟨_, _, g58 _ ?_, hrun, hended, _, _, rfl, ?_, ⟨_, rfl⟩, hW, hsame.mono (by decide) (by decide)⟩
    · exact retN X56 hx (t := .boolean) Bd.returns (by simp) (hb hby at_88) hr
    · show Q_rm0 Z p0 q1 q2 p3 p4  h0 n0 _ T56.heap _
      rw [eq56]
      exact ⟨rfl, N56⟩
set_option maxRecDepth 65536 in
set_option maxHeartbeats 40000000 in
theorem comes_1 {Post : Tables → Env → Array Value → State → Outcome → State → Prop} (hpost : ∀ tb e args s v u, (limb_1_1.after args s (.returned v) u = true ∧ limb_1_2.after args s (.returned v) u = true ∧ True) → FrameEnd s (.returned v) u (Jvm.fieldLocs frame_1_writes args s ++ Jvm.arrayLocs frame_1_arrays args s ++ Jvm.staticLocs frame_1_statics s) 16 128 → Post tb e args s (.returned v) u) :
    ArmFor flags0 classFile x code maxLocals ret World_1 tables_1 room_1 Calls_1 rest_1 Pre_1 Post := by
  intro l hfl _ _ p e ha hc hk s m args below hf hA hF happ hP
  obtain ⟨hcalls, hrest, hpre⟩ := hP
  obtain ⟨-, -, -, hnamed, -, -, -, hat⟩ := (Spec.applies_iff hf).mp happ
  obtain ⟨hg, hn⟩ := and_e (Cond.before_iff.mp (show (Jvm.Cond.and given_1 narrow_1).before args s = true from hpre))
  obtain ⟨hcnt, hs0⟩ := and_e hg
  obtain ⟨ha0, hs1⟩ := and_e hs0
  obtain ⟨ha1, hs2⟩ := and_e hs1
  obtain ⟨ha2, hs3⟩ := and_e hs2
  obtain ⟨ha3, hs4⟩ := and_e hs3
  have ha4 := hs4
  obtain ⟨w0, w1, w2, w3, w4, rfl⟩ : ∃ w0 w1 w2 w3 w4 : Value, args = #[w0, w1, w2, w3, w4] := by
    have hs : args.size = 5 := by simpa [Cond.value, given_1] using hcnt
    obtain ⟨L⟩ := args
    match L, hs with
    | [w0, w1, w2, w3, w4], _ => exact ⟨w0, w1, w2, w3, w4, rfl⟩
  have hw := fun d (hd : d ∈ tables_1) => atoms_spec (ws := Jvm.Cond.code x code maxLocals ret :: tables_1) hat d (List.mem_cons_of_mem _ hd)
  have hfit : Fit s := fun {y c} hc i hi => by
    obtain ⟨ha, rfl⟩ := Array.getElem?_eq_some_iff.mp hc
    have q := List.all_eq_true.mp ((Array.all_eq_true_iff_forall_mem.mp hF) _ (Array.getElem_mem ha)) i (List.mem_range.mpr hi)
    simpa [Array.getElem?_eq_getElem hi] using q
  obtain ⟨i0, ei0⟩ := is_v ha0
  obtain rfl : w0 = (.int i0) := Option.some.inj ei0
  obtain ⟨i1, ei1⟩ := isL_v ha1
  obtain rfl : w1 = (.long i1) := Option.some.inj ei1
  obtain ⟨i2, ei2⟩ := isL_v ha2
  obtain rfl : w2 = (.long i2) := Option.some.inj ei2
  obtain ⟨i3, ei3⟩ := is_v ha3
  obtain rfl : w3 = (.int i3) := Option.some.inj ei3
  obtain ⟨i4, ei4⟩ := is_v ha4
  obtain rfl : w4 = (.int i4) := Option.some.inj ei4
  obtain ⟨n, o, h1, h2, h3, _, L, rfl, ⟨rfl, N⟩, hq⟩ := rm0 l s _ hw tables_1 i0 i1 i2 i3 i4  s.heap s.heap.size (Nat.le_refl _)  p e ha hc hk s m _ below hf ((Spec.applies_iff_loose hf).mp happ).1 ⟨rfl, State.Warmed39.refl s, rfl⟩ trivial
  refine ⟨n, _, h1, h2, h3, hpost _ _ _ _ _ _ ⟨Cond.after_iff.mpr rfl, Cond.after_iff.mpr (eq_i res_at (Term.int_eval (1)) rfl), trivial⟩ ⟨hq.1, hq.2.1, (hq.2.2.sift fun y hy => Or.inr (N y hy)).mono (by decide) (by decide)⟩⟩
theorem main_1_1 : Claimed_1_1 := comes_1 fun _ _ _ _ _ _ h hF => ⟨h.1, hF⟩
theorem main_1_2 : Claimed_1_2 := comes_1 fun _ _ _ _ _ _ h hF => ⟨h.2.1, hF⟩
end Jvm.Pilot.@@N@@
namespace Jvm.Pilot.@@N@@
open Jvm Jvm.ClassFile Sem Op Lib Jvm.Free Jvm.Stand Jvm.Pilot.@@N@@.Jvm.D
/-! MADE BY PROGRAM (witnessworld.py) out of the Statement's table words and the real class files: 9 classes; the members and pool entries that the words name. The judged class is class 1, her method 2. -/
namespace start1
open Jvm.ClassFile
def u (s : String) : CpInfo := .utf8 (stringToUtf16 s)
/-- a pool by its gaps: so many unusable entries, then the entry; so many at the end -/
def gap : Nat → List CpInfo → List CpInfo
  | 0, r => r
  | n + 1, r => .unusable :: gap n r
def poolList (es : List (Nat × CpInfo)) (last : Nat) : List CpInfo := es.foldr (fun e r => gap e.1 (e.2 :: r)) (gap last [])
def pool (es : List (Nat × CpInfo)) (last : Nat) : Array CpInfo := ⟨poolList es last⟩
def fileOf (pool : Array CpInfo) (this : Nat) (attrs : Array Attribute := #[]) (ms : Array MethodInfo := #[]) (fl : Nat := 33) (sup : Nat := 0) (ifs : Array Nat := #[]) (fds : Array FieldInfo := #[]) : ClassFile where
  minorVersion := 0
  majorVersion := 65
  constantPool := pool
  accessFlags := fl
  thisClass := this
  superClass := sup
  interfaces := ifs
  fields := fds
  methods := ms
  attributes := attrs
def plain (name : String) (sup : Option ClassId) : Class where
  name := name
  kind := .ordinary
  loader := none
  accessFlags := 33
  super := sup
  interfaces := #[]
  cf := none
  fields := #[]
  methods := #[]
  instanceTypes := #[]
  staticTypes := #[]
  resolved := #[]
  callSites := []
  init := .initialized
  statics := none
  mirror := none

def pool0 : Array CpInfo := pool [(5, u "<init>"), (0, u "()V"), (1, .class_ 10), (1, u "java/lang/Object")] 113

def k0m0 : Method := { name := "<init>", desc := "()V", sig := { parameters := [], returnType := none }, accessFlags := 1, code := none }
/-- java/lang/Object -/
def k0 : Class := { plain "java/lang/Object" none with
  accessFlags := 33
  interfaces := #[]
  cf := some (fileOf pool0 8 #[] #[{ accessFlags := 1, nameIndex := 5, descriptorIndex := 6, attributes := #[] }] 33 0 #[] #[])
  fields := #[]
  methods := #[k0m0]
  instanceTypes := #[]
  staticTypes := #[]
  resolved := Array.replicate 124 none
  statics := none }

def pool1 : Array CpInfo := pool [(2, .class_ 4), (1, u "java/lang/Object"), (0, u "<init>"), (0, u "()V"), (0, .integer 268435399), (0, .integer 268435367), (0, .integer 268435361), (0, .integer 268435337), (0, .integer 268435331), (0, .integer 268435313), (0, .integer 268435291), (0, .integer 268435273), (0, .integer 268435243), (0, .integer 268435183), (0, .integer 2147483647), (0, .methodref 19 20), (0, .class_ 21), (0, .nameAndType 22 23), (0, u "com/example/dichotome/dichotome/algebra/PrimeBasisReducePinLaw"), (0, u "prime"), (0, u "(I)I"), (0, .long 34359738367), (3, .long 9223372036854775807), (1, .methodref 31 32), (0, .class_ 33), (0, .nameAndType 34 35), (0, u "com/example/dichotome/dichotome/algebra/PrimeBasis"), (0, u "reduce"), (0, u "(JID)I"), (2, u "law"), (0, u "(IJJII)Z")] 3

def k1m0 : Method := { name := "<init>", desc := "()V", sig := { parameters := [], returnType := none }, accessFlags := 1, code := none }
def k1c1 : Code := { maxStack := 4, maxLocals := 2, code := method_2_code, exceptionTable := #[], attributes := #[] }
def k1m1 : Method := { name := "prime", desc := "(I)I", sig := { parameters := [.int], returnType := some .int }, accessFlags := 10, code := some k1c1 }
def k1c2 : Code := { maxStack := 6, maxLocals := 16, code := code, exceptionTable := #[], attributes := #[] }
def k1m2 : Method := { name := "law", desc := "(IJJII)Z", sig := { parameters := [.int, .long, .long, .int, .int], returnType := some .boolean }, accessFlags := 9, code := some k1c2 }
/-- com/example/dichotome/dichotome/algebra/PrimeBasisReducePinLaw -/
def k1 : Class := { plain "com/example/dichotome/dichotome/algebra/PrimeBasisReducePinLaw" (some 0) with
  accessFlags := 49
  interfaces := #[]
  cf := some (fileOf pool1 19 #[] #[{ accessFlags := 1, nameIndex := 5, descriptorIndex := 6, attributes := #[] }, { accessFlags := 10, nameIndex := 22, descriptorIndex := 23, attributes := #[] }, { accessFlags := 9, nameIndex := 38, descriptorIndex := 39, attributes := #[] }] 49 2 #[] #[])
  fields := #[]
  methods := #[k1m0, k1m1, k1m2]
  instanceTypes := #[]
  staticTypes := #[]
  resolved := Array.replicate 43 none
  statics := none }

def pool2 : Array CpInfo := pool [(2, .class_ 4), (1, u "java/lang/Object"), (3, .class_ 10), (1, u "com/example/dichotome/dichotome/algebra/PrimeBasis"), (0, u "primes"), (0, u "[I"), (2, u "reciprocals"), (0, u "[D"), (5, u "Ljava/math/BigInteger;"), (10, u "zero"), (2, u "product"), (6, u "largest"), (11, u "BASES"), (0, u "Ljava/util/List;"), (39, u "PRIMES"), (61, u "radix"), (53, .class_ 214), (1, u "com/example/dichotome/dichotome/algebra/PrimeBasis$Radix"), (8, u "reduce"), (0, u "(JID)I"), (9, u "Lcom/example/dichotome/dichotome/algebra/PrimeBasis$Radix;"), (12, u "BITS"), (0, u "I"), (2, u "TERMS"), (1, u "MAX_PRIMES")] 42

def k2c0 : Code := { maxStack := 6, maxLocals := 7, code := prog_76_method_12_code, exceptionTable := #[], attributes := #[] }
def k2m0 : Method := { name := "reduce", desc := "(JID)I", sig := { parameters := [.long, .int, .double], returnType := some .int }, accessFlags := 8, code := some k2c0 }
/-- com/example/dichotome/dichotome/algebra/PrimeBasis -/
def k2 : Class := { plain "com/example/dichotome/dichotome/algebra/PrimeBasis" (some 0) with
  accessFlags := 48
  interfaces := #[]
  cf := some (fileOf pool2 8 #[.nestMembers #[212]] #[{ accessFlags := 8, nameIndex := 223, descriptorIndex := 224, attributes := #[] }] 48 2 #[] #[{ accessFlags := 24, nameIndex := 247, descriptorIndex := 248, attributes := #[] }, { accessFlags := 24, nameIndex := 251, descriptorIndex := 248, attributes := #[] }, { accessFlags := 24, nameIndex := 253, descriptorIndex := 248, attributes := #[] }, { accessFlags := 26, nameIndex := 96, descriptorIndex := 56, attributes := #[] }, { accessFlags := 26, nameIndex := 55, descriptorIndex := 56, attributes := #[] }, { accessFlags := 18, nameIndex := 11, descriptorIndex := 12, attributes := #[] }, { accessFlags := 18, nameIndex := 15, descriptorIndex := 16, attributes := #[] }, { accessFlags := 18, nameIndex := 33, descriptorIndex := 12, attributes := #[] }, { accessFlags := 18, nameIndex := 36, descriptorIndex := 22, attributes := #[] }, { accessFlags := 18, nameIndex := 43, descriptorIndex := 22, attributes := #[] }, { accessFlags := 66, nameIndex := 158, descriptorIndex := 234, attributes := #[] }])
  fields := #[{ name := "BITS", type := .int, accessFlags := 24, slot := 0, constantValue := 0 }, { name := "TERMS", type := .int, accessFlags := 24, slot := 1, constantValue := 0 }, { name := "MAX_PRIMES", type := .int, accessFlags := 24, slot := 2, constantValue := 0 }, { name := "PRIMES", type := (.object "java/util/List"), accessFlags := 26, slot := 3, constantValue := 0 }, { name := "BASES", type := (.object "java/util/List"), accessFlags := 26, slot := 4, constantValue := 0 }, { name := "primes", type := (.array .int), accessFlags := 18, slot := 0, constantValue := 0 }, { name := "reciprocals", type := (.array .double), accessFlags := 18, slot := 1, constantValue := 0 }, { name := "zero", type := (.array .int), accessFlags := 18, slot := 2, constantValue := 0 }, { name := "product", type := (.object "java/math/BigInteger"), accessFlags := 18, slot := 3, constantValue := 0 }, { name := "largest", type := (.object "java/math/BigInteger"), accessFlags := 18, slot := 4, constantValue := 0 }, { name := "radix", type := (.object "com/example/dichotome/dichotome/algebra/PrimeBasis$Radix"), accessFlags := 66, slot := 5, constantValue := 0 }]
  methods := #[k2m0]
  instanceTypes := #[(.array .int), (.array .double), (.array .int), (.object "java/math/BigInteger"), (.object "java/math/BigInteger"), (.object "com/example/dichotome/dichotome/algebra/PrimeBasis$Radix")]
  staticTypes := #[.int, .int, .int, (.object "java/util/List"), (.object "java/util/List")]
  resolved := Array.replicate 296 none
  statics := none }

def pool3 : Array CpInfo := pool [(1, u "java/lang/Cloneable"), (0, .class_ 1), (0, u "java/lang/Object"), (0, .class_ 3)] 3

/-- java/lang/Cloneable -/
def k3 : Class := { plain "java/lang/Cloneable" (some 0) with
  accessFlags := 1537
  interfaces := #[]
  cf := some (fileOf pool3 2 #[] #[] 1537 4 #[] #[])
  fields := #[]
  methods := #[]
  instanceTypes := #[]
  staticTypes := #[]
  resolved := Array.replicate 8 none
  statics := none }

def pool4 : Array CpInfo := pool [(1, u "java/io/Serializable"), (0, .class_ 1), (0, u "java/lang/Object"), (0, .class_ 3)] 3

/-- java/io/Serializable -/
def k4 : Class := { plain "java/io/Serializable" (some 0) with
  accessFlags := 1537
  interfaces := #[]
  cf := some (fileOf pool4 2 #[] #[] 1537 4 #[] #[])
  fields := #[]
  methods := #[]
  instanceTypes := #[]
  staticTypes := #[]
  resolved := Array.replicate 8 none
  statics := none }

/-- the primitive byte -/
def k5 : Class := { plain "byte" none with kind := .primitive 'B', accessFlags := 0x411 }
/-- [B -/
def k6 : Class := { plain "[B" (some 0) with kind := .array 5 .byte, interfaces := #[3, 4], accessFlags := 1041 }

/-- the primitive int -/
def k7 : Class := { plain "int" none with kind := .primitive 'I', accessFlags := 0x411 }
/-- [I -/
def k8 : Class := { plain "[I" (some 0) with kind := .array 7 .int, interfaces := #[3, 4], accessFlags := 1041 }

def heap : Heap := #[]
def classes : Array Class := #[k0, k1, k2, k3, k4, k5, k6, k7, k8]
def interned : List (Array UInt16 × Addr) := []
def slotsUsed : Nat := 0
def theMethod : MethodId := ⟨1, 2⟩
def args0 : Array Value := #[.int 5, .long 6, .long 7, .int 8, .int 9]
def aboutOver (below : List Frame) : State where
  vm := { classes := classes, interned := interned.toArray }
  heap := heap
  slotsUsed := slotsUsed
  threads := #[{ frames := .invoking theMethod args0 :: below }]
def below0 : List Frame := [.native { method := ⟨0, 0⟩, args := #[] }]
def about1 : State := aboutOver below0
def p0 : Program := .bare "" "" ""
def e0 : Env := launch0.env 0 0 0
theorem w_frames : about1.frames = Frame.invoking theMethod args0 :: below0 := rfl
set_option maxRecDepth 65536 in
theorem w_args : argsFit about1.vm theMethod args0 = true := by decide +kernel
set_option maxRecDepth 65536 in
theorem w_heap : heapFits about1 = true := by decide +kernel
set_option maxRecDepth 65536 in
theorem w_runnable : about1.curStatus? = some .runnable := by decide +kernel
set_option maxRecDepth 65536 in
theorem w_alone : about1.alone = true := by decide +kernel
set_option maxRecDepth 65536 in
theorem w_named : about1.methodNamed? x = some theMethod := by decide +kernel
set_option maxRecDepth 65536 in
theorem w_hears : about1.hears theMethod below0 = true := by decide +kernel
set_option maxRecDepth 65536 in
theorem w_ripe : about1.ripe theMethod args0 below0 = true := by decide +kernel
theorem w_running : about1.status = .running := rfl
set_option maxRecDepth 65536 in
theorem w_room : about1.hasRoom e0.platform room_1 = true :=
  launch0.hasRoom_least _ room_1 (by decide +kernel) (by decide +kernel) (by decide +kernel) (by decide +kernel) (by decide +kernel) (by decide +kernel)
theorem allAtoms_all (ts : List Jvm.Cond) (a : Array Jvm.Value) (st : Jvm.State) : (allAtoms ts).before a st = ts.all (fun c => c.before a st) := by
  induction ts with
  | nil => rfl
  | cons c t ih =>
    show (Jvm.Cond.and c (allAtoms t)).before a st = _
    rw [Jvm.Cond.before_and, ih, List.all_cons]
def words1 : List Jvm.Cond := Jvm.Cond.code x code maxLocals ret :: tables_1
/-- a 'code' word, met by the world's own term for the bytes: nothing is compared byte by byte -/
theorem code_word {y : MethodName} {bytes : ByteArray} {mx : Nat} {rt : Option FieldType} {a : Array Value} {s : State} {m : MethodId} {meth : Method} {c : Code} (h1 : s.methodNamed? y = some m) (h2 : s.vm.method? m = some meth) (h3 : meth.code = some c) (h4 : c.code = bytes)
    (h5 : (c.maxLocals == mx && c.exceptionTable.isEmpty && decide (c.maxStack ≤ mostOperands) && decide (meth.sig.returnType = rt) && !meth.locks && decide (parseMethodDescriptor y.desc = some meth.sig)) = true) : (Jvm.Cond.code y bytes mx rt).before a s = true := by
  simp only [Bool.and_eq_true, beq_iff_eq, Bool.not_eq_true', decide_eq_true_eq] at h5
  obtain ⟨⟨⟨⟨⟨g1, g2⟩, g3⟩, g4⟩, g5⟩, g6⟩ := h5
  simp [Cond.before, Cond.holds, Cond.value, h1, h2, h3, h4, g1, g2, g3, g4, g5, g6]
def isCode : Jvm.Cond → Bool
  | .code _ _ _ _ => true
  | _ => false
theorem all_split {L : List Jvm.Cond} {P : Jvm.Cond → Bool} (h1 : L.all (fun c => isCode c || P c) = true) (h2 : ∀ c ∈ L.filter isCode, P c = true) : L.all P = true := by
  refine List.all_eq_true.mpr fun c hc => ?_
  have h := List.all_eq_true.mp h1 c hc
  rcases Bool.eq_false_or_eq_true (isCode c) with hi | hi
  · exact h2 c (List.mem_filter.mpr ⟨hc, hi⟩)
  · simpa [hi] using h
set_option maxRecDepth 65536 in
theorem w_c0 : (Jvm.Cond.code x code maxLocals ret).before args0 about1 = true := code_word (m := ⟨1, 2⟩) (meth := k1m2) (c := k1c2) (by decide +kernel) rfl rfl rfl (by decide +kernel)
set_option maxRecDepth 65536 in
theorem w_c1 : (Jvm.Cond.code ({ cls := "com/example/dichotome/dichotome/algebra/PrimeBasisReducePinLaw", name := "prime", desc := "(I)I" } : Jvm.MethodName) method_2_code (2 : Nat) (Option.some Jvm.ClassFile.FieldType.int)).before args0 about1 = true := code_word (m := ⟨1, 1⟩) (meth := k1m1) (c := k1c1) (by decide +kernel) rfl rfl rfl (by decide +kernel)
set_option maxRecDepth 65536 in
theorem w_c2 : (Jvm.Cond.code ({ cls := "com/example/dichotome/dichotome/algebra/PrimeBasis", name := "reduce", desc := "(JID)I" } : Jvm.MethodName) prog_76_method_12_code (7 : Nat) (Option.some Jvm.ClassFile.FieldType.int)).before args0 about1 = true := code_word (m := ⟨2, 0⟩) (meth := k2m0) (c := k2c0) (by decide +kernel) rfl rfl rfl (by decide +kernel)
def codes1 : List Jvm.Cond := [Jvm.Cond.code x code maxLocals ret, Jvm.Cond.code ({ cls := "com/example/dichotome/dichotome/algebra/PrimeBasisReducePinLaw", name := "prime", desc := "(I)I" } : Jvm.MethodName) method_2_code (2 : Nat) (Option.some Jvm.ClassFile.FieldType.int), Jvm.Cond.code ({ cls := "com/example/dichotome/dichotome/algebra/PrimeBasis", name := "reduce", desc := "(JID)I" } : Jvm.MethodName) prog_76_method_12_code (7 : Nat) (Option.some Jvm.ClassFile.FieldType.int)]
set_option maxRecDepth 65536 in
theorem codes_eq : words1.filter isCode = codes1 := rfl
theorem w_codes : ∀ c ∈ words1.filter isCode, c.before args0 about1 = true := by
  rw [codes_eq]
  intro c hc
  simp only [codes1, List.mem_cons, List.not_mem_nil, or_false] at hc
  rcases hc with rfl | rfl | rfl
  · exact w_c0
  · exact w_c1
  · exact w_c2
set_option maxRecDepth 65536 in
theorem w_t1 : words1.all (fun c => isCode c || c.before args0 about1) = true := by decide +kernel
theorem w_tables : (allAtoms (Jvm.Cond.code x code maxLocals ret :: tables_1)).before args0 about1 = true := by
  rw [allAtoms_all]
  show words1.all (fun c => c.before args0 about1) = true
  refine all_split ?_ w_codes
  rw [w_t1]
set_option maxRecDepth 65536 in
theorem w_case : (Jvm.Cond.and given_1 narrow_1).before args0 about1 = true := by decide +kernel
theorem w_applies : (headSpec (Jvm.Cond.code x code maxLocals ret :: tables_1) room_1).applies x e0.platform about1 = true :=
  (Spec.applies_iff w_frames).mpr ⟨w_running, w_runnable, w_alone, w_named, w_hears, w_ripe, w_room, w_tables⟩
theorem atStart : AtStart classFile x code maxLocals ret World_1 tables_1 room_1 Calls_1 rest_1 Pre_1 launch0 p0 e0 about1 theMethod args0 below0 :=
  ⟨lists_1, trivial, launch0.admits_env _ _ _, launch0.least_env, fairChoices_fair.cas, fairChoices_fair.clock, w_frames, w_args, w_heap, w_applies, trivial, trivial, w_case⟩
end start1
theorem witness_1 : WitnessClaimed_1 := ⟨start1.p0, start1.e0, start1.about1, start1.theMethod, start1.args0, start1.below0, start1.atStart⟩
end Jvm.Pilot.@@N@@
