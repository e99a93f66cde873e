import JvmDerived
import JvmDerived.Pilot.@@N@@Statement
import JvmDerived.Pilot.@@N@@Code
set_option linter.unusedVariables false
set_option linter.unusedSimpArgs false
namespace Jvm.RoadKit
open Sem ClassFile Op Lib Jvm.Stand Jvm.Free Jvm.LawKit
section New
variable {p : Program} {l : Launch} {e : Env} {R : Room} {s : State} {m : MethodId} {args : Array Value} {below : List Frame} {meth : Method} {c : Code} {T : State} {locs : List Loc} {cells slots : Nat}
theorem retI (X : Stand p l e R s m args below meth c T locs cells slots) (hx : p.tables.exec = Jvm.exec) {pc : Nat} {Ls : Array Slot} {z : Int32} {rest : List Value} (hret : meth.sig.returnType = some .int) (hd : decode c.code pc = .ok (.ireturn, 1)) {fs : List Frame}
    (hl : ∀ (f : JFrame) (acts : List Action), f.method = m → f.locked = none → f.entered = [] → (doReturn e (T.setTop f) acts (some (.int z))).1 = T.setFrames fs) : Steps p.tables e below (T.setTop (mkF m pc Ls (.int z :: rest))) (T.setFrames fs) := by
  have hm' : T.vm.method? m = some meth := X.method'
  have hn : narrow .int (.int z) = .int z := rfl
  show Steps p.tables e below (T.setTop { method := m, pc := pc, locals := Ls, stack := _ :: rest, locked := none }) _
  jvm_step X.here [X.here.top, hx, hd, hm', hret, hn]
  first | (intro acts; rw [hl _ acts rfl rfl rfl]) | rw [hl _ _ rfl rfl rfl]
  exact Steps.refl _
end New
end Jvm.RoadKit
namespace Jvm.Pilot.@@N@@
open Jvm Jvm.ClassFile Sem Op Lib Jvm.Free Jvm.Stand Jvm.LawKit Jvm.RoadKit Bundle Jvm.Pilot.@@N@@.Jvm.D
/-- whoever reaches a target from the frame F of T reaches it from the frame F0 of T0 -/
def own_Go (p : Program) (e : Env) (below : List Frame) (T0 : State) (F0 : JFrame) (T : State) (F : JFrame) : Prop := ∀ target, Steps p.tables e below (T.setTop F) target → Steps p.tables e below (T0.setTop F0) target
theorem own_Go.refl {p : Program} {e : Env} {below : List Frame} {T : State} {F : JFrame} : own_Go p e below T F T F := fun _ k => k
theorem own_Go.trans {p : Program} {e : Env} {below : List Frame} {T0 T1 T2 : State} {F0 F1 F2 : JFrame} (a : own_Go p e below T0 F0 T1 F1) (b : own_Go p e below T1 F1 T2 F2) : own_Go p e below T0 F0 T2 F2 := fun t k => a t (b t k)

theorem pd_0 : parseMethodDescriptor "(JJ)D" = some ⟨[.long, .long], some .double⟩ := by decide +kernel
theorem pd_1 : parseMethodDescriptor "(DD)D" = some ⟨[.double, .double], some .double⟩ := by decide +kernel
theorem pd_2 : parseMethodDescriptor "()D" = some ⟨[], some .double⟩ := by decide +kernel
theorem pd_3 : parseMethodDescriptor "()V" = some ⟨[], none⟩ := by decide +kernel
theorem pd_4 : parseMethodDescriptor "(JI)V" = some ⟨[.long, .int], none⟩ := by decide +kernel
theorem pd_5 : parseMethodDescriptor "()Z" = some ⟨[], some .boolean⟩ := by decide +kernel
theorem own_selfsel {Z s : State} {a0 args : Array Value} {y : MethodName} {n : Nat} (hZ : Z.Warmed39 s.vm) (wi : (Jvm.Cond.instantiable y.cls n).before a0 Z = true) (wp : (Jvm.Cond.privateMethod y).before a0 Z = true) (wm : (Jvm.Cond.instanceMethod y).before a0 Z = true) (hy : y.cls ≠ "java/lang/invoke/MethodHandle" ∧ y.cls ≠ "java/lang/invoke/VarHandle") : (Jvm.Cond.selects y.cls y y).before args s = true := by
  have w1 : (Jvm.Cond.instantiable y.cls n).before args s = true := mvT hZ wi
  obtain ⟨c, k, h1, h2, -, h4, -, -⟩ := Cond.instantiable_spec w1
  rw [Bool.or_eq_false_iff] at h4
  exact selects_self_of_private h1 h2 h4.1 (Cond.privateMethod_at (mvP hZ wp (args := #[]))) (mvT hZ wm) hy
/-! plain laws on doubles -/
open Jvm.Free.Fl Jvm.Native.java_lang_Math.nans
theorem own_nn {x : UInt64} (h : NoNaN64 x) : FP.Core.val64 x ≠ .nan := of_decide_eq_false (show decide (FP.Core.decode FP.Core.b64 x.toNat = .nan) = false from noNaN64_no.mp h)
theorem own_d0 : FP.dconst0 = FP.l2d 0 := by decide +kernel
theorem own_d1 : FP.dconst1 = FP.l2d 1 := by decide +kernel
theorem own_mul1 (a : Int64) : FP.dmul (FP.l2d a) (FP.l2d 1) = FP.l2d a := by
  rw [← own_d1]
  exact FP.Core.dmul_one (own_nn (l2d_fin a).noNaN)
theorem own_1mul (a : Int64) : FP.dmul (FP.l2d 1) (FP.l2d a) = FP.l2d a := (FP.Core.dmul_comm _ _).trans (own_mul1 a)
def own_gr (x y : Int64) : UInt64 := if y = (0 : Int64) then FP.l2d 1 else FP.ddiv (FP.l2d x) (FP.l2d y)
def own_ex (a b c : Int64) : UInt64 := FP.dmul (FP.l2d a) (pick64 true (pick64 false (own_gr a b) (own_gr b c)) (FP.l2d 1))
def own_ma (x y : UInt64) : Int32 := if 0 < cmpValue (FP.dcmp x y) .g then (0 : Int32) else (1 : Int32)
theorem own_man (x y : UInt64) : nar .boolean (own_ma x y) = own_ma x y := by
  unfold own_ma
  split <;> rfl
def own_sh (gs : UInt64) (bn bm : Int64) (lm : Int32) (E : UInt64) : UInt64 := if lm = 0 then gs else (if 0 < cmpValue (FP.dcmp (FP.ddiv E (FP.i2d lm)) (FP.ddiv (FP.dmul (4611686018427387904 : UInt64) (FP.l2d bn)) (FP.l2d bm))) .g then (4593671619917905920 : UInt64) else gs)
theorem own_grM (x y : Int64) : Mag64 1089 (own_gr x y) := by
  unfold own_gr
  split
  · exact (l2d_mag 1).mono (by decide)
  · exact (ddiv_mag (l2d_mag x) (l2d_big (by assumption)) (by decide) (by decide)).mono (by decide)
theorem own_pickM (a b c : Int64) : Mag64 1089 (pick64 true (pick64 false (own_gr a b) (own_gr b c)) (FP.l2d 1)) :=
  pick64_mag (pick64_mag (own_grM a b) (own_grM b c)) ((l2d_mag 1).mono (by decide))
theorem own_exM (a b c : Int64) : Mag64 1155 (own_ex a b c) := (dmul_mag (l2d_mag a) (own_pickM a b c) (by decide) (by decide)).mono (by decide)
theorem own_shM {gs : UInt64} (h : Mag64 1088 gs) (bn bm : Int64) (lm : Int32) (E : UInt64) : Mag64 1088 (own_sh gs bn bm lm E) := by
  unfold own_sh
  split
  · exact h
  · split
    · unfold Mag64; decide
    · exact h
theorem own_twoF : Fin64 (4611686018427387904 : UInt64) := by unfold Fin64; decide
theorem own_shbF {gs : UInt64} (h : Mag64 1088 gs) (bn bm : Int64) (lm : Int32) (E : UInt64) (q : Int64) : Fin64 (FP.dmul (own_sh gs bn bm lm E) (FP.l2d q)) :=
  (dmul_mag (own_shM h bn bm lm E) (l2d_mag q) (by decide) (by decide)).fin (by decide)
/-! which of two doubles is picked -/
theorem own_11 : FP.dcmp (FP.l2d 1) (FP.l2d 1) = some .eq := by decide +kernel
theorem own_s1 : (FP.l2d 1 >>> 63 == 1) = false := by decide +kernel
theorem own_clip (x : UInt64) : pick64 true (pick64 false x (FP.l2d 1)) (FP.l2d 1) = FP.l2d 1 := by
  have h1 : pick64 true (FP.l2d 1) (FP.l2d 1) = FP.l2d 1 := by unfold pick64; rw [own_11, own_s1]; rfl
  rcases hx : FP.dcmp x (FP.l2d 1) with _ | (_ | _ | _)
  · by_cases hs : (x >>> 63 == 1) = true
    · have e : pick64 false x (FP.l2d 1) = x := by unfold pick64; rw [hx, hs]; rfl
      rw [e]; unfold pick64; rw [hx, hs]; rfl
    · have hs' : (x >>> 63 == 1) = false := by simpa using hs
      have e : pick64 false x (FP.l2d 1) = FP.l2d 1 := by unfold pick64; rw [hx, hs']; rfl
      rw [e, h1]
  · have e : pick64 false x (FP.l2d 1) = x := by unfold pick64; rw [hx]; rfl
    rw [e]; unfold pick64; rw [hx]; rfl
  · by_cases hs : (x >>> 63 == 1) = true
    · have e : pick64 false x (FP.l2d 1) = x := by unfold pick64; rw [hx, hs]; rfl
      rw [e]; unfold pick64; rw [hx, hs]; rfl
    · have hs' : (x >>> 63 == 1) = false := by simpa using hs
      have e : pick64 false x (FP.l2d 1) = FP.l2d 1 := by unfold pick64; rw [hx, hs']; rfl
      rw [e, h1]
  · have e : pick64 false x (FP.l2d 1) = FP.l2d 1 := by unfold pick64; rw [hx]; rfl
    rw [e, h1]
theorem own_exc (a b : Int64) : own_ex a b 0 = FP.l2d a := by
  unfold own_ex
  have e : own_gr b 0 = FP.l2d 1 := if_pos rfl
  rw [e, own_clip, own_mul1]
theorem own_min {x y : UInt64} (hs : (x >>> 63 == 1) = false) (hx : NoNaN64 x) (hy : NoNaN64 y) : pick64 false x y = (if cmpValue (FP.dcmp x y) .g < 0 then x else y) := by
  unfold pick64
  rcases hc : FP.dcmp x y with _ | (_ | _ | _)
  · exfalso
    rcases (FP.Core.dcmp_none x y).mp hc with h | h
    · exact own_nn hx h
    · exact own_nn hy h
  · rfl
  · rw [hs]; rfl
  · rfl
theorem own_sign {x : UInt64} {c : Nat} {q : Int} (h : FP.Core.val64 x = .fin false c q) : (x >>> 63 == 1) = false := by
  have hS : FP.Core.fieldS FP.Core.b64 x.toNat = false := by
    unfold FP.Core.val64 FP.Core.decode at h
    split at h
    · split at h <;> cases h
    · split at h
      · injection h
      · injection h
  unfold FP.Core.fieldS at hS
  rw [beq_eq_false_iff_ne] at hS
  have ht : FP.Core.b64.tails = 4503599627370496 := by decide
  have he : FP.Core.b64.exps = 2048 := by decide
  rw [ht, he] at hS
  have hl := x.toNat_lt
  rw [beq_eq_false_iff_ne]
  intro hh
  have h2 := congrArg UInt64.toNat hh
  rw [UInt64.toNat_shiftRight] at h2
  have e1 : (1 : UInt64).toNat = 1 := rfl
  have e63 : (63 : UInt64).toNat % 64 = 63 := rfl
  rw [e1, e63, Nat.shiftRight_eq_div_pow] at h2
  omega
theorem own_fin {x : UInt64} (h : Fin64 x) : ∃ s c q, FP.Core.val64 x = .fin s c q := by
  have h1 := fin64_core.mp h
  unfold FP.Core.DFin at h1
  exact h1
theorem own_rrs {f : FP.Core.Fmt} {s t : Bool} {A B c : Nat} {e q : Int} (h : FP.Core.roundRatio f s A B e = .fin t c q) : t = s := by
  unfold FP.Core.roundRatio at h
  split at h
  · injection h with h1; exact h1.symm
  · unfold FP.Core.roundAt FP.Core.settle FP.Core.bound at h
    split at h <;> split at h <;> first | (injection h with h1; exact h1.symm) | cases h
theorem own_l2dv {x : Int64} (hx : 0 ≤ x.toInt) : ∃ c q, FP.Core.val64 (FP.l2d x) = .fin false c q := by
  obtain ⟨s, c, q, h⟩ := own_fin (l2d_fin x)
  have h2 := h
  rw [show FP.l2d x = FP.Core.l2d x from rfl, FP.Core.val64_l2d] at h2
  have hd : decide (x.toInt < 0) = false := by simpa using hx
  have h3 : FP.Core.roundRatio FP.Core.b64 (decide (x.toInt < 0)) x.toInt.natAbs 1 0 = .fin s c q := h2
  rw [hd] at h3
  have := own_rrs h3
  subst this
  exact ⟨c, q, h⟩
theorem own_grS {x y : Int64} (hx : 0 ≤ x.toInt) (hy : 0 ≤ y.toInt) : (own_gr x y >>> 63 == 1) = false := by
  by_cases h0 : y = 0
  · unfold own_gr
    rw [if_pos h0]
    exact own_s1
  · obtain ⟨s, c, q, h⟩ := own_fin ((own_grM x y).fin (by decide))
    have e : own_gr x y = FP.ddiv (FP.l2d x) (FP.l2d y) := if_neg h0
    rw [e] at h ⊢
    obtain ⟨c1, q1, v1⟩ := own_l2dv hx
    obtain ⟨c2, q2, v2⟩ := own_l2dv hy
    have h2 := h
    rw [show FP.ddiv (FP.l2d x) (FP.l2d y) = FP.Core.ddiv (FP.l2d x) (FP.l2d y) from rfl, FP.Core.val64_ddiv, v1, v2] at h2
    have h3 : (if c2 = 0 then (if c1 = 0 then FP.Core.Datum.nan else .inf (false != false)) else FP.Core.roundRatio FP.Core.b64 (false != false) c1 c2 (q1 - q2)) = .fin s c q := h2
    split at h3
    · split at h3 <;> cases h3
    · have := own_rrs h3
      have hs : s = false := this
      subst hs
      exact own_sign h
theorem own_cmpE {a b : Int} (h : compare a b = .eq) : a = b := by
  have h2 : compareOfLessAndEq a b = .eq := h
  unfold compareOfLessAndEq at h2
  split at h2
  · cases h2
  · split at h2
    · assumption
    · cases h2
theorem own_eq1 {x : UInt64} (hf : Fin64 x) (h : FP.dcmp x (FP.l2d 1) = some .eq) : x = FP.l2d 1 := by
  obtain ⟨s, c, q, hv⟩ := own_fin hf
  have h1 : FP.Core.val64 (FP.l2d 1) = .fin false (2 ^ 52) (-52) := by rw [← own_d1]; exact FP.Core.val64_dconst1
  have hc : FP.Core.order (FP.Core.val64 x) (FP.Core.val64 (FP.l2d 1)) = some .eq := h
  rw [hv, h1] at hc
  have he : FP.Core.signed s (FP.Core.inUnits c q (min q (-52))) = FP.Core.signed false (FP.Core.inUnits (2 ^ 52) (-52) (min q (-52))) := own_cmpE (Option.some.inj hc)
  unfold FP.Core.inUnits at he
  have hsf : s = false := by
    cases s with
    | false => rfl
    | true =>
      exfalso
      have hp : 0 < 2 ^ 52 * 2 ^ ((-52 : Int) - min q (-52)).toNat := Nat.mul_pos (by decide) (Nat.two_pow_pos _)
      have he' : -((c * 2 ^ (q - min q (-52)).toNat : Nat) : Int) = ((2 ^ 52 * 2 ^ ((-52 : Int) - min q (-52)).toNat : Nat) : Int) := he
      omega
  subst hsf
  have hn : c * 2 ^ (q - min q (-52)).toNat = 2 ^ 52 * 2 ^ ((-52 : Int) - min q (-52)).toNat := by
    have he' : ((c * 2 ^ (q - min q (-52)).toNat : Nat) : Int) = ((2 ^ 52 * 2 ^ ((-52 : Int) - min q (-52)).toNat : Nat) : Int) := he
    exact Int.ofNat_inj.mp he'
  have hw : c * 2 ^ q.toNat = 2 ^ (-q).toNat := by
    by_cases h0 : q < -52
    · rw [show min q (-52) = q by omega, show (q - q).toNat = 0 by omega, ← Nat.pow_add, show 52 + ((-52 : Int) - q).toNat = (-q).toNat by omega] at hn
      rw [show q.toNat = 0 by omega]
      exact hn
    · rw [show min q (-52) = -52 by omega, show ((-52 : Int) - -52).toNat = 0 by omega, Nat.pow_zero, Nat.mul_one] at hn
      by_cases h2 : q < 0
      · rw [show q.toNat = 0 by omega, Nat.pow_zero, Nat.mul_one]
        have e : (2 : Nat) ^ 52 = 2 ^ (-q).toNat * 2 ^ (q - -52).toNat := by rw [← Nat.pow_add]; congr 1; omega
        rw [e] at hn
        exact Nat.eq_of_mul_eq_mul_right (Nat.two_pow_pos _) hn
      · rw [show (-q).toNat = 0 by omega, Nat.pow_zero]
        have e : (2 : Nat) ^ (q - -52).toNat = 2 ^ q.toNat * 2 ^ 52 := by rw [← Nat.pow_add]; congr 1; omega
        rw [e, ← Nat.mul_assoc] at hn
        have hn' : c * 2 ^ q.toNat * 2 ^ 52 = 1 * 2 ^ 52 := by rw [hn, Nat.one_mul]
        exact Nat.eq_of_mul_eq_mul_right (Nat.two_pow_pos _) hn'
  have w1 : FP.Core.Whole 1 (.fin false c q) := by
    show ((c * 2 ^ q.toNat : Nat) : Int) = 1 * ((2 ^ (-q).toNat : Nat) : Int)
    rw [hw, Int.one_mul]
  have w2 : FP.Core.Whole 1 (.fin false (2 ^ 52) (-52)) := by
    show ((2 ^ 52 * 2 ^ (-52 : Int).toNat : Nat) : Int) = 1 * ((2 ^ (-(-52 : Int)).toNat : Nat) : Int)
    decide
  have f1 := FP.Core.val64_fits x
  have f2 := FP.Core.val64_fits (FP.l2d 1)
  rw [hv] at f1
  rw [h1] at f2
  have := FP.Core.whole_unique FP.Core.good_b64 (by decide) w1 w2 f1 f2
  refine FP.Core.val64_inj (by rw [hv]; intro z; cases z) ?_
  rw [hv, h1, this]
theorem own_max {x : UInt64} (hf : Fin64 x) (hs : (x >>> 63 == 1) = false) : pick64 true x (FP.l2d 1) = (if 0 < cmpValue (FP.dcmp x (FP.l2d 1)) .l then x else FP.l2d 1) := by
  unfold pick64
  rcases hc : FP.dcmp x (FP.l2d 1) with _ | (_ | _ | _)
  · exfalso
    rcases (FP.Core.dcmp_none x _).mp hc with h | h
    · exact own_nn hf.noNaN h
    · exact own_nn (l2d_fin 1).noNaN h
  · rfl
  · rw [hs]
    exact own_eq1 hf hc
  · rfl
theorem own_pickS {g : Bool} {x y : UInt64} (hx : (x >>> 63 == 1) = false) (hy : (y >>> 63 == 1) = false) : (pick64 g x y >>> 63 == 1) = false := by
  rcases pick64_or g x y with h | h <;> rw [h] <;> assumption
/-- the law's own reckoning of the layer's time is the method's -/
theorem own_e3 {a b c : Int64} (ha : 0 ≤ a.toInt) (hb : 0 ≤ b.toInt) (hc : 0 ≤ c.toInt) {g m : UInt64} (hg : g = (if cmpValue (FP.dcmp (own_gr a b) (own_gr b c)) .g < 0 then own_gr a b else own_gr b c)) (hm : m = (if 0 < cmpValue (FP.dcmp g (FP.l2d 1)) .l then g else FP.l2d 1)) : FP.dmul (FP.l2d a) m = own_ex a b c := by
  have f1 : Fin64 (own_gr a b) := (own_grM a b).fin (by decide)
  have f2 : Fin64 (own_gr b c) := (own_grM b c).fin (by decide)
  have e1 : pick64 false (own_gr a b) (own_gr b c) = g := by rw [hg]; exact own_min (own_grS ha hb) f1.noNaN f2.noNaN
  have fg : Fin64 g := by rw [← e1]; exact pick64_fin f1 f2
  have sg : (g >>> 63 == 1) = false := by rw [← e1]; exact own_pickS (own_grS ha hb) (own_grS hb hc)
  unfold own_ex
  rw [e1, own_max fg sg, hm]
theorem own_ma1 {a b : Int64} (ha : B53 a) (hb : B53 b) : own_ma (FP.l2d a) (FP.l2d b) = (if b < a then (0 : Int32) else (1 : Int32)) := by
  unfold own_ma
  rw [dcmpV_w ha hb]
  by_cases h : b < a
  · rw [if_pos h, if_pos ((lw_gt a b).mpr h)]
  · rw [if_neg h, if_neg (fun q => h ((lw_gt a b).mp q))]
def own_P (Z : State) (h : Heap) (a1 : Addr) (gs : UInt64) (bn bm : Int64) (ea : UInt64) (lm : Int32) (l0 l1 l2 : Int64) : Prop := Exa Z h a1 "com/example/ends_to_means/endstomeans/solver/ForwardPace" ∧ Fld Z h a1 "com/example/ends_to_means/endstomeans/solver/ForwardPace" "growingShare" "D" (.double gs) ∧ Fld Z h a1 "com/example/ends_to_means/endstomeans/solver/ForwardPace" "backwardNanos" "J" (.long bn) ∧ Fld Z h a1 "com/example/ends_to_means/endstomeans/solver/ForwardPace" "backwardMoves" "J" (.long bm) ∧ Fld Z h a1 "com/example/ends_to_means/endstomeans/solver/ForwardPace" "earnedNanos" "D" (.double ea) ∧ Fld Z h a1 "com/example/ends_to_means/endstomeans/solver/ForwardPace" "layerMoves" "I" (.int lm) ∧ Fld Z h a1 "com/example/ends_to_means/endstomeans/solver/ForwardPace" "lastLayerNanos" "J" (.long l0) ∧ Fld Z h a1 "com/example/ends_to_means/endstomeans/solver/ForwardPace" "layerBeforeNanos" "J" (.long l1) ∧ Fld Z h a1 "com/example/ends_to_means/endstomeans/solver/ForwardPace" "layerBeforeThatNanos" "J" (.long l2)
theorem d1_0 : decode prog_128_method_1_code 0 = .ok (.aload_n 0, 1) := by decide +kernel
theorem d1_1 : decode prog_128_method_1_code 1 = .ok (.invokespecial 1, 3) := by decide +kernel
theorem d1_4 : decode prog_128_method_1_code 4 = .ok (.aload_n 0, 1) := by decide +kernel
theorem d1_5 : decode prog_128_method_1_code 5 = .ok (.dconst 1, 1) := by decide +kernel
theorem d1_6 : decode prog_128_method_1_code 6 = .ok (.putfield 7, 3) := by decide +kernel
theorem d1_9 : decode prog_128_method_1_code 9 = .ok (.return_, 1) := by decide +kernel
theorem d3_0 : decode prog_128_method_3_code 0 = .ok (.aload_n 0, 1) := by decide +kernel
theorem d3_1 : decode prog_128_method_3_code 1 = .ok (.dup, 1) := by decide +kernel
theorem d3_2 : decode prog_128_method_3_code 2 = .ok (.getfield 23, 3) := by decide +kernel
theorem d3_5 : decode prog_128_method_3_code 5 = .ok (.lload_n 1, 1) := by decide +kernel
theorem d3_6 : decode prog_128_method_3_code 6 = .ok (.ladd, 1) := by decide +kernel
theorem d3_7 : decode prog_128_method_3_code 7 = .ok (.putfield 23, 3) := by decide +kernel
theorem d3_10 : decode prog_128_method_3_code 10 = .ok (.aload_n 0, 1) := by decide +kernel
theorem d3_11 : decode prog_128_method_3_code 11 = .ok (.dup, 1) := by decide +kernel
theorem d3_12 : decode prog_128_method_3_code 12 = .ok (.getfield 27, 3) := by decide +kernel
theorem d3_15 : decode prog_128_method_3_code 15 = .ok (.iload_n 3, 1) := by decide +kernel
theorem d3_16 : decode prog_128_method_3_code 16 = .ok (.i2l, 1) := by decide +kernel
theorem d3_17 : decode prog_128_method_3_code 17 = .ok (.ladd, 1) := by decide +kernel
theorem d3_18 : decode prog_128_method_3_code 18 = .ok (.putfield 27, 3) := by decide +kernel
theorem d3_21 : decode prog_128_method_3_code 21 = .ok (.aload_n 0, 1) := by decide +kernel
theorem d3_22 : decode prog_128_method_3_code 22 = .ok (.dup, 1) := by decide +kernel
theorem d3_23 : decode prog_128_method_3_code 23 = .ok (.getfield 30, 3) := by decide +kernel
theorem d3_26 : decode prog_128_method_3_code 26 = .ok (.aload_n 0, 1) := by decide +kernel
theorem d3_27 : decode prog_128_method_3_code 27 = .ok (.invokevirtual 33, 3) := by decide +kernel
theorem d3_30 : decode prog_128_method_3_code 30 = .ok (.lload_n 1, 1) := by decide +kernel
theorem d3_31 : decode prog_128_method_3_code 31 = .ok (.l2d, 1) := by decide +kernel
theorem d3_32 : decode prog_128_method_3_code 32 = .ok (.dmul, 1) := by decide +kernel
theorem d3_33 : decode prog_128_method_3_code 33 = .ok (.dadd, 1) := by decide +kernel
theorem d3_34 : decode prog_128_method_3_code 34 = .ok (.putfield 30, 3) := by decide +kernel
theorem d3_37 : decode prog_128_method_3_code 37 = .ok (.return_, 1) := by decide +kernel
theorem d4_0 : decode prog_128_method_7_code 0 = .ok (.aload_n 0, 1) := by decide +kernel
theorem d4_1 : decode prog_128_method_7_code 1 = .ok (.getfield 37, 3) := by decide +kernel
theorem d4_4 : decode prog_128_method_7_code 4 = .ok (.ifCond .eq 32, 3) := by decide +kernel
theorem d4_7 : decode prog_128_method_7_code 7 = .ok (.aload_n 0, 1) := by decide +kernel
theorem d4_8 : decode prog_128_method_7_code 8 = .ok (.invokevirtual 50, 3) := by decide +kernel
theorem d4_11 : decode prog_128_method_7_code 11 = .ok (.aload_n 0, 1) := by decide +kernel
theorem d4_12 : decode prog_128_method_7_code 12 = .ok (.getfield 37, 3) := by decide +kernel
theorem d4_15 : decode prog_128_method_7_code 15 = .ok (.i2d, 1) := by decide +kernel
theorem d4_16 : decode prog_128_method_7_code 16 = .ok (.ddiv, 1) := by decide +kernel
theorem d4_17 : decode prog_128_method_7_code 17 = .ok (.ldc2_w 13, 3) := by decide +kernel
theorem d4_20 : decode prog_128_method_7_code 20 = .ok (.aload_n 0, 1) := by decide +kernel
theorem d4_21 : decode prog_128_method_7_code 21 = .ok (.getfield 23, 3) := by decide +kernel
theorem d4_24 : decode prog_128_method_7_code 24 = .ok (.l2d, 1) := by decide +kernel
theorem d4_25 : decode prog_128_method_7_code 25 = .ok (.dmul, 1) := by decide +kernel
theorem d4_26 : decode prog_128_method_7_code 26 = .ok (.aload_n 0, 1) := by decide +kernel
theorem d4_27 : decode prog_128_method_7_code 27 = .ok (.getfield 27, 3) := by decide +kernel
theorem d4_30 : decode prog_128_method_7_code 30 = .ok (.l2d, 1) := by decide +kernel
theorem d4_31 : decode prog_128_method_7_code 31 = .ok (.ddiv, 1) := by decide +kernel
theorem d4_32 : decode prog_128_method_7_code 32 = .ok (.dcmp .g, 1) := by decide +kernel
theorem d4_33 : decode prog_128_method_7_code 33 = .ok (.ifCond .gt 7, 3) := by decide +kernel
theorem d4_36 : decode prog_128_method_7_code 36 = .ok (.iconst 1, 1) := by decide +kernel
theorem d4_37 : decode prog_128_method_7_code 37 = .ok (.goto 4, 3) := by decide +kernel
theorem d4_40 : decode prog_128_method_7_code 40 = .ok (.iconst 0, 1) := by decide +kernel
theorem d4_41 : decode prog_128_method_7_code 41 = .ok (.istore_n 1, 1) := by decide +kernel
theorem d4_42 : decode prog_128_method_7_code 42 = .ok (.iload_n 1, 1) := by decide +kernel
theorem d4_43 : decode prog_128_method_7_code 43 = .ok (.ifCond .eq 10, 3) := by decide +kernel
theorem d4_46 : decode prog_128_method_7_code 46 = .ok (.aload_n 0, 1) := by decide +kernel
theorem d4_47 : decode prog_128_method_7_code 47 = .ok (.getfield 7, 3) := by decide +kernel
theorem d4_50 : decode prog_128_method_7_code 50 = .ok (.goto 6, 3) := by decide +kernel
theorem d4_53 : decode prog_128_method_7_code 53 = .ok (.ldc2_w 53, 3) := by decide +kernel
theorem d4_56 : decode prog_128_method_7_code 56 = .ok (.dreturn, 1) := by decide +kernel
theorem d5_0 : decode prog_128_method_4_code 0 = .ok (.aload_n 0, 1) := by decide +kernel
theorem d5_1 : decode prog_128_method_4_code 1 = .ok (.dup, 1) := by decide +kernel
theorem d5_2 : decode prog_128_method_4_code 2 = .ok (.getfield 30, 3) := by decide +kernel
theorem d5_5 : decode prog_128_method_4_code 5 = .ok (.lload_n 1, 1) := by decide +kernel
theorem d5_6 : decode prog_128_method_4_code 6 = .ok (.l2d, 1) := by decide +kernel
theorem d5_7 : decode prog_128_method_4_code 7 = .ok (.dsub, 1) := by decide +kernel
theorem d5_8 : decode prog_128_method_4_code 8 = .ok (.putfield 30, 3) := by decide +kernel
theorem d5_11 : decode prog_128_method_4_code 11 = .ok (.aload_n 0, 1) := by decide +kernel
theorem d5_12 : decode prog_128_method_4_code 12 = .ok (.iload_n 3, 1) := by decide +kernel
theorem d5_13 : decode prog_128_method_4_code 13 = .ok (.putfield 37, 3) := by decide +kernel
theorem d5_16 : decode prog_128_method_4_code 16 = .ok (.aload_n 0, 1) := by decide +kernel
theorem d5_17 : decode prog_128_method_4_code 17 = .ok (.aload_n 0, 1) := by decide +kernel
theorem d5_18 : decode prog_128_method_4_code 18 = .ok (.getfield 41, 3) := by decide +kernel
theorem d5_21 : decode prog_128_method_4_code 21 = .ok (.putfield 44, 3) := by decide +kernel
theorem d5_24 : decode prog_128_method_4_code 24 = .ok (.aload_n 0, 1) := by decide +kernel
theorem d5_25 : decode prog_128_method_4_code 25 = .ok (.aload_n 0, 1) := by decide +kernel
theorem d5_26 : decode prog_128_method_4_code 26 = .ok (.getfield 47, 3) := by decide +kernel
theorem d5_29 : decode prog_128_method_4_code 29 = .ok (.putfield 41, 3) := by decide +kernel
theorem d5_32 : decode prog_128_method_4_code 32 = .ok (.aload_n 0, 1) := by decide +kernel
theorem d5_33 : decode prog_128_method_4_code 33 = .ok (.lload_n 1, 1) := by decide +kernel
theorem d5_34 : decode prog_128_method_4_code 34 = .ok (.putfield 47, 3) := by decide +kernel
theorem d5_37 : decode prog_128_method_4_code 37 = .ok (.return_, 1) := by decide +kernel
theorem d6_0 : decode prog_128_method_5_code 0 = .ok (.aload_n 0, 1) := by decide +kernel
theorem d6_1 : decode prog_128_method_5_code 1 = .ok (.invokevirtual 50, 3) := by decide +kernel
theorem d6_4 : decode prog_128_method_5_code 4 = .ok (.aload_n 0, 1) := by decide +kernel
theorem d6_5 : decode prog_128_method_5_code 5 = .ok (.getfield 30, 3) := by decide +kernel
theorem d6_8 : decode prog_128_method_5_code 8 = .ok (.dcmp .g, 1) := by decide +kernel
theorem d6_9 : decode prog_128_method_5_code 9 = .ok (.ifCond .gt 7, 3) := by decide +kernel
theorem d6_12 : decode prog_128_method_5_code 12 = .ok (.iconst 1, 1) := by decide +kernel
theorem d6_13 : decode prog_128_method_5_code 13 = .ok (.goto 4, 3) := by decide +kernel
theorem d6_16 : decode prog_128_method_5_code 16 = .ok (.iconst 0, 1) := by decide +kernel
theorem d6_17 : decode prog_128_method_5_code 17 = .ok (.ireturn, 1) := by decide +kernel
theorem d7_0 : decode prog_128_method_8_code 0 = .ok (.aload_n 0, 1) := by decide +kernel
theorem d7_1 : decode prog_128_method_8_code 1 = .ok (.getfield 47, 3) := by decide +kernel
theorem d7_4 : decode prog_128_method_8_code 4 = .ok (.aload_n 0, 1) := by decide +kernel
theorem d7_5 : decode prog_128_method_8_code 5 = .ok (.getfield 41, 3) := by decide +kernel
theorem d7_8 : decode prog_128_method_8_code 8 = .ok (.invokestatic 55, 3) := by decide +kernel
theorem d7_11 : decode prog_128_method_8_code 11 = .ok (.aload_n 0, 1) := by decide +kernel
theorem d7_12 : decode prog_128_method_8_code 12 = .ok (.getfield 41, 3) := by decide +kernel
theorem d7_15 : decode prog_128_method_8_code 15 = .ok (.aload_n 0, 1) := by decide +kernel
theorem d7_16 : decode prog_128_method_8_code 16 = .ok (.getfield 44, 3) := by decide +kernel
theorem d7_19 : decode prog_128_method_8_code 19 = .ok (.invokestatic 55, 3) := by decide +kernel
theorem d7_22 : decode prog_128_method_8_code 22 = .ok (.invokestatic 17, 3) := by decide +kernel
theorem d7_25 : decode prog_128_method_8_code 25 = .ok (.dstore_n 1, 1) := by decide +kernel
theorem d7_26 : decode prog_128_method_8_code 26 = .ok (.aload_n 0, 1) := by decide +kernel
theorem d7_27 : decode prog_128_method_8_code 27 = .ok (.getfield 47, 3) := by decide +kernel
theorem d7_30 : decode prog_128_method_8_code 30 = .ok (.l2d, 1) := by decide +kernel
theorem d7_31 : decode prog_128_method_8_code 31 = .ok (.dload_n 1, 1) := by decide +kernel
theorem d7_32 : decode prog_128_method_8_code 32 = .ok (.dconst 1, 1) := by decide +kernel
theorem d7_33 : decode prog_128_method_8_code 33 = .ok (.invokestatic 59, 3) := by decide +kernel
theorem d7_36 : decode prog_128_method_8_code 36 = .ok (.dmul, 1) := by decide +kernel
theorem d7_37 : decode prog_128_method_8_code 37 = .ok (.dreturn, 1) := by decide +kernel
theorem d8_0 : decode prog_128_method_9_code 0 = .ok (.lload_n 2, 1) := by decide +kernel
theorem d8_1 : decode prog_128_method_9_code 1 = .ok (.lconst 0, 1) := by decide +kernel
theorem d8_2 : decode prog_128_method_9_code 2 = .ok (.lcmp, 1) := by decide +kernel
theorem d8_3 : decode prog_128_method_9_code 3 = .ok (.ifCond .ne 7, 3) := by decide +kernel
theorem d8_6 : decode prog_128_method_9_code 6 = .ok (.dconst 1, 1) := by decide +kernel
theorem d8_7 : decode prog_128_method_9_code 7 = .ok (.goto 8, 3) := by decide +kernel
theorem d8_10 : decode prog_128_method_9_code 10 = .ok (.lload_n 0, 1) := by decide +kernel
theorem d8_11 : decode prog_128_method_9_code 11 = .ok (.l2d, 1) := by decide +kernel
theorem d8_12 : decode prog_128_method_9_code 12 = .ok (.lload_n 2, 1) := by decide +kernel
theorem d8_13 : decode prog_128_method_9_code 13 = .ok (.l2d, 1) := by decide +kernel
theorem d8_14 : decode prog_128_method_9_code 14 = .ok (.ddiv, 1) := by decide +kernel
theorem d8_15 : decode prog_128_method_9_code 15 = .ok (.dreturn, 1) := by decide +kernel
theorem pn_rmIni : plainName "com/example/ends_to_means/endstomeans/solver/ForwardPace" = true := by first | (simp [plainName, overriddenIn]; done) | decide +kernel
theorem ef_rmIni (m : MethodId) (a1 : Addr) : entryFrame m #[(.ref a1)] 1 = mkF m 0 #[rv a1] [] := by first | (simp [entryFrame, mkF, argsToLocals, Value.category]; done) | rfl
def Q_rmIni (Z : State) (a1 : Addr)  (h0 : Heap) (n0 : Nat) (v : Option Value) (h : Heap) (L : List Loc) : Prop := v = none ∧ Fr n0 L ∧ Keep h0 h [a1] ∧ own_P Z h a1 (FP.l2d 1) (0 : Int64) (0 : Int64) (FP.l2d 0) (0 : Int32) (0 : Int64) (0 : Int64) (0 : Int64)
set_option maxRecDepth 65536 in
set_option maxHeartbeats 40000000 in
theorem rmIni (l : Launch) (Z : State) (a0 : Array Value) (hw : ∀ d ∈ tables_1, d.before a0 Z = true) (ws : List Jvm.Cond) (a1 : Addr)  (h0 : Heap) (n0 : Nat) (Z0 : n0 ≤ h0.size) (E0 : Exa Z h0 a1 "com/example/ends_to_means/endstomeans/solver/ForwardPace") (f0_growingShare : Fld Z h0 a1 "com/example/ends_to_means/endstomeans/solver/ForwardPace" "growingShare" "D" (.double 0)) (f0_backwardNanos : Fld Z h0 a1 "com/example/ends_to_means/endstomeans/solver/ForwardPace" "backwardNanos" "J" (.long (0 : Int64))) (f0_backwardMoves : Fld Z h0 a1 "com/example/ends_to_means/endstomeans/solver/ForwardPace" "backwardMoves" "J" (.long (0 : Int64))) (f0_earnedNanos : Fld Z h0 a1 "com/example/ends_to_means/endstomeans/solver/ForwardPace" "earnedNanos" "D" (.double 0)) (f0_layerMoves : Fld Z h0 a1 "com/example/ends_to_means/endstomeans/solver/ForwardPace" "layerMoves" "I" (.int (0 : Int32))) (f0_lastLayerNanos : Fld Z h0 a1 "com/example/ends_to_means/endstomeans/solver/ForwardPace" "lastLayerNanos" "J" (.long (0 : Int64))) (f0_layerBeforeNanos : Fld Z h0 a1 "com/example/ends_to_means/endstomeans/solver/ForwardPace" "layerBeforeNanos" "J" (.long (0 : Int64))) (f0_layerBeforeThatNanos : Fld Z h0 a1 "com/example/ends_to_means/endstomeans/solver/ForwardPace" "layerBeforeThatNanos" "J" (.long (0 : Int64))) (ga : n0 ≤ a1) :
    MetFree l (⟨"com/example/ends_to_means/endstomeans/solver/ForwardPace", "<init>", "()V"⟩ : MethodName) (head1 (Jvm.Cond.code (⟨"com/example/ends_to_means/endstomeans/solver/ForwardPace", "<init>", "()V"⟩ : MethodName) prog_128_method_1_code 1 none :: ws) ({ frames := 1, cells := 0, slots := 0, locals := 12 } : Room)) (fun a U => a = #[(.ref a1)] ∧ Z.Warmed39 U.vm ∧ U.heap = h0) (fun _ _ _ _ _ => True) (fun _ U o U' => ∃ v L, o = .returned v ∧ Q_rmIni Z a1  h0 n0 v U'.heap L ∧ FrameEnd U o U' L ({ frames := 1, cells := 0, slots := 0, locals := 12 } : Room).cells ({ frames := 1, cells := 0, slots := 0, locals := 12 } : Room).slots) := by
  refine MetFree.of_bodySF (plainFor_of_name pn_rmIni) hisR ?_
  intro p e s m args below meth c s₁ Bd hml0 hP hK
  obtain ⟨rfl, hZ, hh⟩ := hP
  have hx := Bd.exec
  have hby := Bd.bytes
  have hml : c.maxLocals = 1 := hml0
  have hown : s.vm.findClass "com/example/ends_to_means/endstomeans/solver/ForwardPace" = some m.cls := findClass_of_methodNamed Bd.named
  have hnm := (name_of_methodNamed Bd.named Bd.method).1
  have X0 : Stand p l e ({ frames := 1, cells := 0, slots := 0, locals := 12 } : Room) s m #[(.ref a1)] below meth c s₁ [] 0 0 := Stand.of_body Bd
  have e0 : s₁.heap = h0 := by rw [← hh, Bd.state]; rfl
  have N0 := Fr.nil n0
  have g0 : own_Go p e below s₁ (entryFrame m #[(.ref a1)] 1) s₁ (mkF m 0 #[rv a1] []) := fun t k => castTop (ef_rmIni m a1) k
  have g1 : own_Go p e below s₁ (entryFrame m #[(.ref a1)] 1) s₁ (mkF m 1 #[rv a1] [(.ref a1)]) := by
    intro target kt
    refine g0 target ?_
    refine XS.aloadN X0.here hx rfl (hb hby d1_0) rfl rfl ?_
    show Steps p.tables e below (s₁.setTop (mkF m 1 #[rv a1] [(.ref a1)])) target
    exact kt
  obtain ⟨T2, X2, e2, st2⟩ := initO X0 hx hZ hown (hw _ (List.mem_of_getElem? (i := 10) rfl)) (hw _ (List.mem_of_getElem? (i := 11) rfl)) (hw _ (List.mem_of_getElem? (i := 12) rfl)) e0 (g := (mkF m 1 #[rv a1] [(.ref a1)])) rfl (by rw [hml]; rfl) rfl (hb hby d1_1) (by decide) (W := 0) (by show 2 * 0 + _ ≤ _; exact Nat.le_of_eq rfl) (by decide)
  have g3 : own_Go p e below s₁ (entryFrame m #[(.ref a1)] 1) T2 (mkF m 4 #[rv a1] []) := fun target kt => g1 target (st2 target kt)
  have g4 : own_Go p e below s₁ (entryFrame m #[(.ref a1)] 1) T2 (mkF m 6 #[rv a1] [(.double (FP.l2d 1)), (.ref a1)]) := by
    intro target kt
    refine g3 target ?_
    refine XS.aloadN X2.here hx rfl (hb hby d1_4) rfl rfl ?_
    show Steps p.tables e below (T2.setTop (mkF m 5 #[rv a1] [(.ref a1)])) target
    refine XS.dconst1 X2.here hx rfl (hb hby d1_5) own_d1 ?_
    show Steps p.tables e below (T2.setTop (mkF m 6 #[rv a1] [(.double (FP.l2d 1)), (.ref a1)])) target
    exact kt
  obtain ⟨T5, h5, X5, e5, W5, st5⟩ := putF X2 hx hZ hown (host := "") (Or.inl (hw _ (List.mem_of_getElem? (i := 13) rfl))) Via.refl e2 f0_growingShare E0 (Or.inl (hw _ (List.mem_of_getElem? (i := 14) rfl))) (hw _ (List.mem_of_getElem? (i := 5) rfl)) (ty := .double) (by decide) rfl rfl (g := (mkF m 6 #[rv a1] [(.double (FP.l2d 1)), (.ref a1)])) rfl rfl (hb hby d1_6)
  have g6 : own_Go p e below s₁ (entryFrame m #[(.ref a1)] 1) T5 (mkF m 9 #[rv a1] []) := fun target kt => g4 target (st5 target kt)
  have N5 := Fr.snoc X5 N0 ga
  have f5_growingShare := f0_growingShare.same W5
  have f5_backwardNanos := (f0_backwardNanos.other W5 (Or.inr (slot_ne (a0 := a0) (Or.inl (hw _ (List.mem_of_getElem? (i := 21) rfl))) (Or.inl (hw _ (List.mem_of_getElem? (i := 14) rfl))) (by decide) (t := .long) (t' := .double) (by decide) (by decide))))
  have f5_backwardMoves := (f0_backwardMoves.other W5 (Or.inr (slot_ne (a0 := a0) (Or.inl (hw _ (List.mem_of_getElem? (i := 23) rfl))) (Or.inl (hw _ (List.mem_of_getElem? (i := 14) rfl))) (by decide) (t := .long) (t' := .double) (by decide) (by decide))))
  have f5_earnedNanos := (f0_earnedNanos.other W5 (Or.inr (slot_ne (a0 := a0) (Or.inl (hw _ (List.mem_of_getElem? (i := 25) rfl))) (Or.inl (hw _ (List.mem_of_getElem? (i := 14) rfl))) (by decide) (t := .double) (t' := .double) (by decide) (by decide))))
  have f5_layerMoves := (f0_layerMoves.other W5 (Or.inr (slot_ne (a0 := a0) (Or.inl (hw _ (List.mem_of_getElem? (i := 31) rfl))) (Or.inl (hw _ (List.mem_of_getElem? (i := 14) rfl))) (by decide) (t := .int) (t' := .double) (by decide) (by decide))))
  have f5_lastLayerNanos := (f0_lastLayerNanos.other W5 (Or.inr (slot_ne (a0 := a0) (Or.inl (hw _ (List.mem_of_getElem? (i := 42) rfl))) (Or.inl (hw _ (List.mem_of_getElem? (i := 14) rfl))) (by decide) (t := .long) (t' := .double) (by decide) (by decide))))
  have f5_layerBeforeNanos := (f0_layerBeforeNanos.other W5 (Or.inr (slot_ne (a0 := a0) (Or.inl (hw _ (List.mem_of_getElem? (i := 38) rfl))) (Or.inl (hw _ (List.mem_of_getElem? (i := 14) rfl))) (by decide) (t := .long) (t' := .double) (by decide) (by decide))))
  have f5_layerBeforeThatNanos := (f0_layerBeforeThatNanos.other W5 (Or.inr (slot_ne (a0 := a0) (Or.inl (hw _ (List.mem_of_getElem? (i := 40) rfl))) (Or.inl (hw _ (List.mem_of_getElem? (i := 14) rfl))) (by decide) (t := .long) (t' := .double) (by decide) (by decide))))
  have E5 := E0.wr W5
  have K5 := (Keep.refl h0 [a1]).wr W5 (Or.inl (List.mem_of_getElem? (i := 0) rfl))
  have fz := Fld.zeroD f5_earnedNanos
  obtain ⟨fs, hr, hrun, hended, hW, hsame⟩ := X5.leave (v := none) (fun _ => rfl)
  refine ⟨_, _, g6 _ ?_, hrun, hended, _, _, rfl, ?_, ⟨_, rfl⟩, hW, hsame.mono (by decide) (by decide)⟩
  · exact X5.returnOut hx Bd.returns (hb hby d1_9) hr
  · show Q_rmIni Z a1  h0 n0 _ T5.heap _
    rw [e5]
    exact ⟨rfl, N5, K5, E5, f5_growingShare, f5_backwardNanos, f5_backwardMoves, fz, f5_layerMoves, f5_lastLayerNanos, f5_layerBeforeNanos, f5_layerBeforeThatNanos⟩
theorem pn_rmGr : plainName "com/example/ends_to_means/endstomeans/solver/ForwardPace" = true := by first | (simp [plainName, overriddenIn]; done) | decide +kernel
theorem ef_rmGr (m : MethodId) (q0 : Int64) (q1 : Int64) : entryFrame m #[(.long q0), (.long q1)] 4 = mkF m 0 #[.val (.long q0), .second, .val (.long q1), .second] [] := by first | (simp [entryFrame, mkF, argsToLocals, Value.category]; done) | rfl
def Q_rmGr (Z : State) (q0 : Int64) (q1 : Int64)  (h0 : Heap) (n0 : Nat) (v : Option Value) (h : Heap) (L : List Loc) : Prop := v = some (.double (own_gr q0 q1)) ∧ Fr n0 L ∧ h = h0
set_option maxRecDepth 65536 in
set_option maxHeartbeats 40000000 in
theorem rmGr (l : Launch) (Z : State) (a0 : Array Value) (hw : ∀ d ∈ tables_1, d.before a0 Z = true) (ws : List Jvm.Cond) (q0 : Int64) (q1 : Int64)  (h0 : Heap) (n0 : Nat) (Z0 : n0 ≤ h0.size)  :
    MetFree l (⟨"com/example/ends_to_means/endstomeans/solver/ForwardPace", "growth", "(JJ)D"⟩ : MethodName) (head1 (Jvm.Cond.code (⟨"com/example/ends_to_means/endstomeans/solver/ForwardPace", "growth", "(JJ)D"⟩ : MethodName) prog_128_method_9_code 4 (some .double) :: ws) ({ frames := 0, cells := 0, slots := 0, locals := 0 } : Room)) (fun a U => a = #[(.long q0), (.long q1)] ∧ Z.Warmed39 U.vm ∧ U.heap = h0) (fun _ _ _ _ _ => True) (fun _ U o U' => ∃ v L, o = .returned v ∧ Q_rmGr Z q0 q1  h0 n0 v U'.heap L ∧ FrameEnd U o U' L ({ frames := 0, cells := 0, slots := 0, locals := 0 } : Room).cells ({ frames := 0, cells := 0, slots := 0, locals := 0 } : Room).slots) := by
  refine MetFree.of_bodySF (plainFor_of_name pn_rmGr) hisR ?_
  intro p e s m args below meth c s₁ Bd hml0 hP hK
  obtain ⟨rfl, hZ, hh⟩ := hP
  have hx := Bd.exec
  have hby := Bd.bytes
  have hml : c.maxLocals = 4 := hml0
  have hown : s.vm.findClass "com/example/ends_to_means/endstomeans/solver/ForwardPace" = some m.cls := findClass_of_methodNamed Bd.named
  have hnm := (name_of_methodNamed Bd.named Bd.method).1
  have X0 : Stand p l e ({ frames := 0, cells := 0, slots := 0, locals := 0 } : Room) s m #[(.long q0), (.long q1)] below meth c s₁ [] 0 0 := Stand.of_body Bd
  have e0 : s₁.heap = h0 := by rw [← hh, Bd.state]; rfl
  have N0 := Fr.nil n0
  have g0 : own_Go p e below s₁ (entryFrame m #[(.long q0), (.long q1)] 4) s₁ (mkF m 0 #[.val (.long q0), .second, .val (.long q1), .second] []) := fun t k => castTop (ef_rmGr m q0 q1) k
  obtain ⟨rr, hm11, g11⟩ : ∃ (rr : UInt64), (rr = (if q1 = (0 : Int64) then (FP.l2d 1) else (FP.ddiv (FP.l2d q0) (FP.l2d q1)))) ∧ own_Go p e below s₁ (entryFrame m #[(.long q0), (.long q1)] 4) s₁ (mkF m 15 #[.val (.long q0), .second, .val (.long q1), .second] [(.double rr)]) := by
    have g7 : own_Go p e below s₁ (entryFrame m #[(.long q0), (.long q1)] 4) s₁ (mkF m 3 #[.val (.long q0), .second, .val (.long q1), .second] [(.int (XT.cmpL q1 (0 : Int64)))]) := by
      intro target kt
      refine g0 target ?_
      refine XT.lloadN X0.here hx rfl (hb hby d8_0) rfl ?_
      show Steps p.tables e below (s₁.setTop (mkF m 1 #[.val (.long q0), .second, .val (.long q1), .second] [(.long q1)])) target
      refine XT.lconstV X0.here hx rfl (0 : Int64) (hb hby d8_1) rfl ?_
      show Steps p.tables e below (s₁.setTop (mkF m 2 #[.val (.long q0), .second, .val (.long q1), .second] [(.long (0 : Int64)), (.long q1)])) target
      refine XT.lcmp X0.here hx rfl (hb hby d8_2) rfl ?_
      show Steps p.tables e below (s₁.setTop (mkF m 3 #[.val (.long q0), .second, .val (.long q1), .second] [(.int (XT.cmpL q1 (0 : Int64)))])) target
      exact kt
    by_cases hc8 : q1 = (0 : Int64)
    · have g9 : own_Go p e below s₁ (entryFrame m #[(.long q0), (.long q1)] 4) s₁ (mkF m 15 #[.val (.long q0), .second, .val (.long q1), .second] [(.double (FP.l2d 1))]) := by
        intro target kt
        refine g7 target ?_
        refine XS.ifNo X0.here hx rfl (hb hby d8_3) rfl (XT.ll_ne_f hc8) ?_
        show Steps p.tables e below (s₁.setTop (mkF m 6 #[.val (.long q0), .second, .val (.long q1), .second] [])) target
        refine XS.dconst1 X0.here hx rfl (hb hby d8_6) own_d1 ?_
        show Steps p.tables e below (s₁.setTop (mkF m 7 #[.val (.long q0), .second, .val (.long q1), .second] [(.double (FP.l2d 1))])) target
        refine XS.goto X0.here hx rfl (pc0 := 7) (pc' := 15) rfl (hb hby d8_7) (by decide) (by decide) ?_
        show Steps p.tables e below (s₁.setTop (mkF m 15 #[.val (.long q0), .second, .val (.long q1), .second] [(.double (FP.l2d 1))])) target
        exact kt
      exact ⟨(FP.l2d 1), (by simp only [if_pos hc8]), g9⟩
    · have g10 : own_Go p e below s₁ (entryFrame m #[(.long q0), (.long q1)] 4) s₁ (mkF m 15 #[.val (.long q0), .second, .val (.long q1), .second] [(.double (FP.ddiv (FP.l2d q0) (FP.l2d q1)))]) := by
        intro target kt
        refine g7 target ?_
        refine XS.ifYes X0.here hx rfl (pc0 := 3) (pc' := 10) rfl (hb hby d8_3) rfl (XT.ll_ne_t hc8) (by decide) (by decide) ?_
        show Steps p.tables e below (s₁.setTop (mkF m 10 #[.val (.long q0), .second, .val (.long q1), .second] [])) target
        refine XT.lloadN X0.here hx rfl (hb hby d8_10) rfl ?_
        show Steps p.tables e below (s₁.setTop (mkF m 11 #[.val (.long q0), .second, .val (.long q1), .second] [(.long q0)])) target
        refine XS.l2dS X0.here hx rfl (hb hby d8_11) rfl rfl ?_
        show Steps p.tables e below (s₁.setTop (mkF m 12 #[.val (.long q0), .second, .val (.long q1), .second] [(.double (FP.l2d q0))])) target
        refine XT.lloadN X0.here hx rfl (hb hby d8_12) rfl ?_
        show Steps p.tables e below (s₁.setTop (mkF m 13 #[.val (.long q0), .second, .val (.long q1), .second] [(.long q1), (.double (FP.l2d q0))])) target
        refine XS.l2dS X0.here hx rfl (hb hby d8_13) rfl rfl ?_
        show Steps p.tables e below (s₁.setTop (mkF m 14 #[.val (.long q0), .second, .val (.long q1), .second] [(.double (FP.l2d q1)), (.double (FP.l2d q0))])) target
        refine XS.ddivS X0.here hx rfl (hb hby d8_14) rfl (ddiv_out (l2d_fin _).noNaN (l2d_fin _) (l2d_nz hc8)) rfl ?_
        show Steps p.tables e below (s₁.setTop (mkF m 15 #[.val (.long q0), .second, .val (.long q1), .second] [(.double (FP.ddiv (FP.l2d q0) (FP.l2d q1)))])) target
        exact kt
      exact ⟨(FP.ddiv (FP.l2d q0) (FP.l2d q1)), (by simp only [if_neg hc8]), g10⟩
  obtain ⟨fs, hr, hrun, hended, hW, hsame⟩ := X0.leave (v := some (.double rr)) (fun h => by rw [Bd.returns] at h; cases h)
  refine ⟨_, _, g11 _ ?_, hrun, hended, _, _, rfl, ?_, ⟨_, rfl⟩, hW, hsame.mono (by decide) (by decide)⟩
  · exact retOut X0 hx Bd.returns rfl (Or.inr (Or.inr (Or.inl ⟨rfl, rfl, _, rfl⟩))) (hb hby d8_15) hr
  · show Q_rmGr Z q0 q1  h0 n0 _ s₁.heap _
    rw [e0]
    exact ⟨by rw [hm11]; rfl, N0, rfl⟩
theorem pn_rmEx : plainName "com/example/ends_to_means/endstomeans/solver/ForwardPace" = true := by first | (simp [plainName, overriddenIn]; done) | decide +kernel
theorem ef_rmEx (m : MethodId) (a1 : Addr) : entryFrame m #[(.ref a1)] 3 = mkF m 0 #[rv a1, .unset, .unset] [] := by first | (simp [entryFrame, mkF, argsToLocals, Value.category]; done) | rfl
def Q_rmEx (Z : State) (a1 : Addr) (gs : UInt64) (bn bm : Int64) (ea : UInt64) (lm : Int32) (l0 l1 l2 : Int64) (h0 : Heap) (n0 : Nat) (v : Option Value) (h : Heap) (L : List Loc) : Prop := v = some (.double (own_ex l0 l1 l2)) ∧ Fr n0 L ∧ h = h0
set_option maxRecDepth 65536 in
set_option maxHeartbeats 40000000 in
theorem rmEx (l : Launch) (Z : State) (a0 : Array Value) (hw : ∀ d ∈ tables_1, d.before a0 Z = true) (ws : List Jvm.Cond) (a1 : Addr) (gs : UInt64) (bn bm : Int64) (ea : UInt64) (lm : Int32) (l0 l1 l2 : Int64) (h0 : Heap) (n0 : Nat) (Z0 : n0 ≤ h0.size) (P1 : own_P Z h0 a1 gs bn bm ea lm l0 l1 l2) :
    MetFree l (⟨"com/example/ends_to_means/endstomeans/solver/ForwardPace", "expectedLayerNanos", "()D"⟩ : MethodName) (head1 (Jvm.Cond.code (⟨"com/example/ends_to_means/endstomeans/solver/ForwardPace", "expectedLayerNanos", "()D"⟩ : MethodName) prog_128_method_8_code 3 (some .double) :: ws) ({ frames := 1, cells := 0, slots := 0, locals := 20 } : Room)) (fun a U => a = #[(.ref a1)] ∧ Z.Warmed39 U.vm ∧ U.heap = h0) (fun _ _ _ _ _ => True) (fun _ U o U' => ∃ v L, o = .returned v ∧ Q_rmEx Z a1 gs bn bm ea lm l0 l1 l2 h0 n0 v U'.heap L ∧ FrameEnd U o U' L ({ frames := 1, cells := 0, slots := 0, locals := 20 } : Room).cells ({ frames := 1, cells := 0, slots := 0, locals := 20 } : Room).slots) := by
  refine MetFree.of_bodySF (plainFor_of_name pn_rmEx) hisR ?_
  intro p e s m args below meth c s₁ Bd hml0 hP hK
  obtain ⟨rfl, hZ, hh⟩ := hP
  have hx := Bd.exec
  have hby := Bd.bytes
  have hml : c.maxLocals = 3 := hml0
  have hown : s.vm.findClass "com/example/ends_to_means/endstomeans/solver/ForwardPace" = some m.cls := findClass_of_methodNamed Bd.named
  have hnm := (name_of_methodNamed Bd.named Bd.method).1
  have X0 : Stand p l e ({ frames := 1, cells := 0, slots := 0, locals := 20 } : Room) s m #[(.ref a1)] below meth c s₁ [] 0 0 := Stand.of_body Bd
  have e0 : s₁.heap = h0 := by rw [← hh, Bd.state]; rfl
  have N0 := Fr.nil n0
  have g0 : own_Go p e below s₁ (entryFrame m #[(.ref a1)] 3) s₁ (mkF m 0 #[rv a1, .unset, .unset] []) := fun t k => castTop (ef_rmEx m a1) k
  obtain ⟨E0, f0_growingShare, f0_backwardNanos, f0_backwardMoves, f0_earnedNanos, f0_layerMoves, f0_lastLayerNanos, f0_layerBeforeNanos, f0_layerBeforeThatNanos⟩ := id P1
  have fa : Fin64 (own_gr l0 l1) := (own_grM l0 l1).fin (by decide)
  have fb : Fin64 (own_gr l1 l2) := (own_grM l1 l2).fin (by decide)
  have g12 : own_Go p e below s₁ (entryFrame m #[(.ref a1)] 3) s₁ (mkF m 1 #[rv a1, .unset, .unset] [(.ref a1)]) := by
    intro target kt
    refine g0 target ?_
    refine XS.aloadN X0.here hx rfl (hb hby d7_0) rfl rfl ?_
    show Steps p.tables e below (s₁.setTop (mkF m 1 #[rv a1, .unset, .unset] [(.ref a1)])) target
    exact kt
  obtain ⟨T13, X13, e13, st13⟩ := getF X0 hx hZ hown (host := "") (Or.inl (hw _ (List.mem_of_getElem? (i := 41) rfl))) Via.refl e0 f0_lastLayerNanos (g := (mkF m 1 #[rv a1, .unset, .unset] [(.ref a1)])) rfl rfl (hb hby d7_1)
  have g14 : own_Go p e below s₁ (entryFrame m #[(.ref a1)] 3) T13 (mkF m 4 #[rv a1, .unset, .unset] [(.long l0)]) := fun target kt => g12 target (st13 target kt)
  have g15 : own_Go p e below s₁ (entryFrame m #[(.ref a1)] 3) T13 (mkF m 5 #[rv a1, .unset, .unset] [(.ref a1), (.long l0)]) := by
    intro target kt
    refine g14 target ?_
    refine XS.aloadN X13.here hx rfl (hb hby d7_4) rfl rfl ?_
    show Steps p.tables e below (T13.setTop (mkF m 5 #[rv a1, .unset, .unset] [(.ref a1), (.long l0)])) target
    exact kt
  obtain ⟨T16, X16, e16, st16⟩ := getF X13 hx hZ hown (host := "") (Or.inl (hw _ (List.mem_of_getElem? (i := 37) rfl))) Via.refl e13 f0_layerBeforeNanos (g := (mkF m 5 #[rv a1, .unset, .unset] [(.ref a1), (.long l0)])) rfl rfl (hb hby d7_5)
  have g17 : own_Go p e below s₁ (entryFrame m #[(.ref a1)] 3) T16 (mkF m 8 #[rv a1, .unset, .unset] [(.long l1), (.long l0)]) := fun target kt => g15 target (st16 target kt)
  obtain ⟨_, _, ⟨T18, L18, k18, n18⟩, -, X18, ⟨Lc18, hQ18, l18, y18, z18⟩, st18⟩ := Jvm.LawKit.callS X16 hx (y := (⟨"com/example/ends_to_means/endstomeans/solver/ForwardPace", "growth", "(JJ)D"⟩ : MethodName)) hown (mvT hZ (hw _ (List.mem_of_getElem? (i := 52) rfl))) (mvT hZ (hw _ (List.mem_of_getElem? (i := 53) rfl))) (mvT hZ (hw _ (List.mem_of_getElem? (i := 6) rfl))) (mvT hZ (hw _ (List.mem_of_getElem? (i := 54) rfl))) (by decide) (backOf (W := 0) (rmGr l Z a0 hw [] l0 l1 h0 n0 Z0) hZ (hw _ (List.mem_of_getElem? (i := 54) rfl)) (hw _ (List.mem_of_getElem? (i := 6) rfl)) (by decide) (by decide)) (g := (mkF m 8 #[rv a1, .unset, .unset] [(.long l1), (.long l0)])) rfl (by rw [hml]; rfl) (argsL := [(.long l0), (.long l1)]) (rest := []) (lenOf pd_0 rfl) rfl (by show 2 * 0 + _ ≤ _; exact Nat.le_of_eq rfl) (hb hby d7_8) (fun _ _ => ⟨rfl, e16, (by decide : 0 + 0 ≤ _), (by decide : 0 + 0 ≤ _)⟩)
  dsimp only [Pt.U, Pt.locs, Pt.cells, Pt.slots] at X18 l18 y18 z18 st18 hQ18
  subst l18 y18 z18
  obtain ⟨rfl, Nq18, eq18⟩ := hQ18
  have N18 := Fr.app N0 Nq18
  have g19 : own_Go p e below s₁ (entryFrame m #[(.ref a1)] 3) T18 (mkF m 11 #[rv a1, .unset, .unset] [(.double (own_gr l0 l1))]) := fun target kt => g17 target (st18 target kt)
  have g20 : own_Go p e below s₁ (entryFrame m #[(.ref a1)] 3) T18 (mkF m 12 #[rv a1, .unset, .unset] [(.ref a1), (.double (own_gr l0 l1))]) := by
    intro target kt
    refine g19 target ?_
    refine XS.aloadN X18.here hx rfl (hb hby d7_11) rfl rfl ?_
    show Steps p.tables e below (T18.setTop (mkF m 12 #[rv a1, .unset, .unset] [(.ref a1), (.double (own_gr l0 l1))])) target
    exact kt
  obtain ⟨T21, X21, e21, st21⟩ := getF X18 hx hZ hown (host := "") (Or.inl (hw _ (List.mem_of_getElem? (i := 37) rfl))) Via.refl eq18 f0_layerBeforeNanos (g := (mkF m 12 #[rv a1, .unset, .unset] [(.ref a1), (.double (own_gr l0 l1))])) rfl rfl (hb hby d7_12)
  have g22 : own_Go p e below s₁ (entryFrame m #[(.ref a1)] 3) T21 (mkF m 15 #[rv a1, .unset, .unset] [(.long l1), (.double (own_gr l0 l1))]) := fun target kt => g20 target (st21 target kt)
  have g23 : own_Go p e below s₁ (entryFrame m #[(.ref a1)] 3) T21 (mkF m 16 #[rv a1, .unset, .unset] [(.ref a1), (.long l1), (.double (own_gr l0 l1))]) := by
    intro target kt
    refine g22 target ?_
    refine XS.aloadN X21.here hx rfl (hb hby d7_15) rfl rfl ?_
    show Steps p.tables e below (T21.setTop (mkF m 16 #[rv a1, .unset, .unset] [(.ref a1), (.long l1), (.double (own_gr l0 l1))])) target
    exact kt
  obtain ⟨T24, X24, e24, st24⟩ := getF X21 hx hZ hown (host := "") (Or.inl (hw _ (List.mem_of_getElem? (i := 39) rfl))) Via.refl e21 f0_layerBeforeThatNanos (g := (mkF m 16 #[rv a1, .unset, .unset] [(.ref a1), (.long l1), (.double (own_gr l0 l1))])) rfl rfl (hb hby d7_16)
  have g25 : own_Go p e below s₁ (entryFrame m #[(.ref a1)] 3) T24 (mkF m 19 #[rv a1, .unset, .unset] [(.long l2), (.long l1), (.double (own_gr l0 l1))]) := fun target kt => g23 target (st24 target kt)
  obtain ⟨_, _, ⟨T26, L26, k26, n26⟩, -, X26, ⟨Lc26, hQ26, l26, y26, z26⟩, st26⟩ := Jvm.LawKit.callS X24 hx (y := (⟨"com/example/ends_to_means/endstomeans/solver/ForwardPace", "growth", "(JJ)D"⟩ : MethodName)) hown (mvT hZ (hw _ (List.mem_of_getElem? (i := 52) rfl))) (mvT hZ (hw _ (List.mem_of_getElem? (i := 53) rfl))) (mvT hZ (hw _ (List.mem_of_getElem? (i := 6) rfl))) (mvT hZ (hw _ (List.mem_of_getElem? (i := 54) rfl))) (by decide) (backOf (W := 2) (rmGr l Z a0 hw [] l1 l2 h0 n0 Z0) hZ (hw _ (List.mem_of_getElem? (i := 54) rfl)) (hw _ (List.mem_of_getElem? (i := 6) rfl)) (by decide) (by decide)) (g := (mkF m 19 #[rv a1, .unset, .unset] [(.long l2), (.long l1), (.double (own_gr l0 l1))])) rfl (by rw [hml]; rfl) (argsL := [(.long l1), (.long l2)]) (rest := [(.double (own_gr l0 l1))]) (lenOf pd_0 rfl) rfl (by show 2 * 0 + _ ≤ _; exact Nat.le_of_eq rfl) (hb hby d7_19) (fun _ _ => ⟨rfl, e24, (by decide : 0 + 0 ≤ _), (by decide : 0 + 0 ≤ _)⟩)
  dsimp only [Pt.U, Pt.locs, Pt.cells, Pt.slots] at X26 l26 y26 z26 st26 hQ26
  subst l26 y26 z26
  obtain ⟨rfl, Nq26, eq26⟩ := hQ26
  have N26 := Fr.app N18 Nq26
  have g27 : own_Go p e below s₁ (entryFrame m #[(.ref a1)] 3) T26 (mkF m 22 #[rv a1, .unset, .unset] [(.double (own_gr l1 l2)), (.double (own_gr l0 l1))]) := fun target kt => g25 target (st26 target kt)
  obtain ⟨T28, X28, e28, st28⟩ := natS X26 hx hZ (y := (⟨"java/lang/Math", "min", "(DD)D"⟩ : MethodName)) hown (hw _ (List.mem_of_getElem? (i := 55) rfl)) (hw _ (List.mem_of_getElem? (i := 56) rfl)) (hw _ (List.mem_of_getElem? (i := 57) rfl)) (hw _ (List.mem_of_getElem? (i := 58) rfl)) (by decide) eq26 (W := 0) (F := fun a' => a' = #[(.double (own_gr l0 l1)), (.double (own_gr l1 l2))] ∧ NoNaN64 (own_gr l0 l1) ∧ NoNaN64 (own_gr l1 l2)) (val := (.double (pick64 false (own_gr l0 l1) (own_gr l1 l2)))) (val' := (.double (pick64 false (own_gr l0 l1) (own_gr l1 l2)))) (fun hc => Abs.minD_pays (own_gr l0 l1) (own_gr l1 l2) hc (by decide) (by decide)) (g := (mkF m 22 #[rv a1, .unset, .unset] [(.double (own_gr l1 l2)), (.double (own_gr l0 l1))])) rfl (by rw [hml]; rfl) (argsL := [(.double (own_gr l0 l1)), (.double (own_gr l1 l2))]) (rest := []) (lenOf pd_1 rfl) rfl (by show 2 * 0 + _ ≤ _; exact Nat.le_of_eq rfl) (hb hby d7_22) (by decide) (by decide) ⟨rfl, fa.noNaN, fb.noNaN⟩ rfl
  have g29 : own_Go p e below s₁ (entryFrame m #[(.ref a1)] 3) T28 (mkF m 25 #[rv a1, .unset, .unset] [(.double (pick64 false (own_gr l0 l1) (own_gr l1 l2)))]) := fun target kt => g27 target (st28 target kt)
  have g30 : own_Go p e below s₁ (entryFrame m #[(.ref a1)] 3) T28 (mkF m 27 #[rv a1, .val (.double (pick64 false (own_gr l0 l1) (own_gr l1 l2))), .second] [(.ref a1)]) := by
    intro target kt
    refine g29 target ?_
    refine XS.dstoreN X28.here hx rfl (hb hby d7_25) rfl (l' := #[rv a1, .val (.double (pick64 false (own_gr l0 l1) (own_gr l1 l2))), .second]) rfl ?_
    show Steps p.tables e below (T28.setTop (mkF m 26 #[rv a1, .val (.double (pick64 false (own_gr l0 l1) (own_gr l1 l2))), .second] [])) target
    refine XS.aloadN X28.here hx rfl (hb hby d7_26) rfl rfl ?_
    show Steps p.tables e below (T28.setTop (mkF m 27 #[rv a1, .val (.double (pick64 false (own_gr l0 l1) (own_gr l1 l2))), .second] [(.ref a1)])) target
    exact kt
  obtain ⟨T31, X31, e31, st31⟩ := getF X28 hx hZ hown (host := "") (Or.inl (hw _ (List.mem_of_getElem? (i := 41) rfl))) Via.refl e28 f0_lastLayerNanos (g := (mkF m 27 #[rv a1, .val (.double (pick64 false (own_gr l0 l1) (own_gr l1 l2))), .second] [(.ref a1)])) rfl rfl (hb hby d7_27)
  have g32 : own_Go p e below s₁ (entryFrame m #[(.ref a1)] 3) T31 (mkF m 30 #[rv a1, .val (.double (pick64 false (own_gr l0 l1) (own_gr l1 l2))), .second] [(.long l0)]) := fun target kt => g30 target (st31 target kt)
  have g33 : own_Go p e below s₁ (entryFrame m #[(.ref a1)] 3) T31 (mkF m 33 #[rv a1, .val (.double (pick64 false (own_gr l0 l1) (own_gr l1 l2))), .second] [(.double (FP.l2d 1)), (.double (pick64 false (own_gr l0 l1) (own_gr l1 l2))), (.double (FP.l2d l0))]) := by
    intro target kt
    refine g32 target ?_
    refine XS.l2dS X31.here hx rfl (hb hby d7_30) rfl rfl ?_
    show Steps p.tables e below (T31.setTop (mkF m 31 #[rv a1, .val (.double (pick64 false (own_gr l0 l1) (own_gr l1 l2))), .second] [(.double (FP.l2d l0))])) target
    refine XS.dloadN X31.here hx rfl (hb hby d7_31) rfl ?_
    show Steps p.tables e below (T31.setTop (mkF m 32 #[rv a1, .val (.double (pick64 false (own_gr l0 l1) (own_gr l1 l2))), .second] [(.double (pick64 false (own_gr l0 l1) (own_gr l1 l2))), (.double (FP.l2d l0))])) target
    refine XS.dconst1 X31.here hx rfl (hb hby d7_32) own_d1 ?_
    show Steps p.tables e below (T31.setTop (mkF m 33 #[rv a1, .val (.double (pick64 false (own_gr l0 l1) (own_gr l1 l2))), .second] [(.double (FP.l2d 1)), (.double (pick64 false (own_gr l0 l1) (own_gr l1 l2))), (.double (FP.l2d l0))])) target
    exact kt
  obtain ⟨T34, X34, e34, st34⟩ := natS X31 hx hZ (y := (⟨"java/lang/Math", "max", "(DD)D"⟩ : MethodName)) hown (hw _ (List.mem_of_getElem? (i := 59) rfl)) (hw _ (List.mem_of_getElem? (i := 60) rfl)) (hw _ (List.mem_of_getElem? (i := 57) rfl)) (hw _ (List.mem_of_getElem? (i := 61) rfl)) (by decide) e31 (W := 2) (F := fun a' => a' = #[(.double (pick64 false (own_gr l0 l1) (own_gr l1 l2))), (.double (FP.l2d 1))] ∧ NoNaN64 (pick64 false (own_gr l0 l1) (own_gr l1 l2)) ∧ NoNaN64 (FP.l2d 1)) (val := (.double (pick64 true (pick64 false (own_gr l0 l1) (own_gr l1 l2)) (FP.l2d 1)))) (val' := (.double (pick64 true (pick64 false (own_gr l0 l1) (own_gr l1 l2)) (FP.l2d 1)))) (fun hc => Abs.maxD_pays (pick64 false (own_gr l0 l1) (own_gr l1 l2)) (FP.l2d 1) hc (by decide) (by decide)) (g := (mkF m 33 #[rv a1, .val (.double (pick64 false (own_gr l0 l1) (own_gr l1 l2))), .second] [(.double (FP.l2d 1)), (.double (pick64 false (own_gr l0 l1) (own_gr l1 l2))), (.double (FP.l2d l0))])) rfl (by rw [hml]; rfl) (argsL := [(.double (pick64 false (own_gr l0 l1) (own_gr l1 l2))), (.double (FP.l2d 1))]) (rest := [(.double (FP.l2d l0))]) (lenOf pd_1 rfl) rfl (by show 2 * 0 + _ ≤ _; exact Nat.le_of_eq rfl) (hb hby d7_33) (by decide) (by decide) ⟨rfl, (pick64_fin fa fb).noNaN, (l2d_fin 1).noNaN⟩ rfl
  have g35 : own_Go p e below s₁ (entryFrame m #[(.ref a1)] 3) T34 (mkF m 36 #[rv a1, .val (.double (pick64 false (own_gr l0 l1) (own_gr l1 l2))), .second] [(.double (pick64 true (pick64 false (own_gr l0 l1) (own_gr l1 l2)) (FP.l2d 1))), (.double (FP.l2d l0))]) := fun target kt => g33 target (st34 target kt)
  have g36 : own_Go p e below s₁ (entryFrame m #[(.ref a1)] 3) T34 (mkF m 37 #[rv a1, .val (.double (pick64 false (own_gr l0 l1) (own_gr l1 l2))), .second] [(.double (FP.dmul (FP.l2d l0) (pick64 true (pick64 false (own_gr l0 l1) (own_gr l1 l2)) (FP.l2d 1))))]) := by
    intro target kt
    refine g35 target ?_
    refine XS.dmulS X34.here hx rfl (hb hby d7_36) rfl (dmul_out (l2d_fin _) (pick64_fin (pick64_fin fa fb) (l2d_fin 1))) rfl ?_
    show Steps p.tables e below (T34.setTop (mkF m 37 #[rv a1, .val (.double (pick64 false (own_gr l0 l1) (own_gr l1 l2))), .second] [(.double (FP.dmul (FP.l2d l0) (pick64 true (pick64 false (own_gr l0 l1) (own_gr l1 l2)) (FP.l2d 1))))])) target
    exact kt
  obtain ⟨fs, hr, hrun, hended, hW, hsame⟩ := X34.leave (v := some (.double (FP.dmul (FP.l2d l0) (pick64 true (pick64 false (own_gr l0 l1) (own_gr l1 l2)) (FP.l2d 1))))) (fun h => by rw [Bd.returns] at h; cases h)
  refine ⟨_, _, g36 _ ?_, hrun, hended, _, _, rfl, ?_, ⟨_, rfl⟩, hW, hsame.mono (by decide) (by decide)⟩
  · exact retOut X34 hx Bd.returns rfl (Or.inr (Or.inr (Or.inl ⟨rfl, rfl, _, rfl⟩))) (hb hby d7_37) hr
  · show Q_rmEx Z a1 gs bn bm ea lm l0 l1 l2 h0 n0 _ T34.heap _
    rw [e34]
    exact ⟨rfl, N26, rfl⟩
theorem pn_rmSh : plainName "com/example/ends_to_means/endstomeans/solver/ForwardPace" = true := by first | (simp [plainName, overriddenIn]; done) | decide +kernel
theorem ef_rmSh (m : MethodId) (a1 : Addr) : entryFrame m #[(.ref a1)] 2 = mkF m 0 #[rv a1, .unset] [] := by first | (simp [entryFrame, mkF, argsToLocals, Value.category]; done) | rfl
def Q_rmSh (Z : State) (a1 : Addr) (gs : UInt64) (bn bm : Int64) (ea : UInt64) (lm : Int32) (l0 l1 l2 : Int64) (h0 : Heap) (n0 : Nat) (v : Option Value) (h : Heap) (L : List Loc) : Prop := v = some (.double (own_sh gs bn bm lm (own_ex l0 l1 l2))) ∧ Fr n0 L ∧ h = h0
set_option maxRecDepth 65536 in
set_option maxHeartbeats 40000000 in
theorem rmSh (l : Launch) (Z : State) (a0 : Array Value) (hw : ∀ d ∈ tables_1, d.before a0 Z = true) (ws : List Jvm.Cond) (a1 : Addr) (gs : UInt64) (bn bm : Int64) (ea : UInt64) (lm : Int32) (l0 l1 l2 : Int64) (h0 : Heap) (n0 : Nat) (Z0 : n0 ≤ h0.size) (P1 : own_P Z h0 a1 gs bn bm ea lm l0 l1 l2) (hbm : bm ≠ 0) :
    MetFree l (⟨"com/example/ends_to_means/endstomeans/solver/ForwardPace", "share", "()D"⟩ : MethodName) (head1 (Jvm.Cond.code (⟨"com/example/ends_to_means/endstomeans/solver/ForwardPace", "share", "()D"⟩ : MethodName) prog_128_method_7_code 2 (some .double) :: ws) ({ frames := 2, cells := 0, slots := 0, locals := 40 } : Room)) (fun a U => a = #[(.ref a1)] ∧ Z.Warmed39 U.vm ∧ U.heap = h0) (fun _ _ _ _ _ => True) (fun _ U o U' => ∃ v L, o = .returned v ∧ Q_rmSh Z a1 gs bn bm ea lm l0 l1 l2 h0 n0 v U'.heap L ∧ FrameEnd U o U' L ({ frames := 2, cells := 0, slots := 0, locals := 40 } : Room).cells ({ frames := 2, cells := 0, slots := 0, locals := 40 } : Room).slots) := by
  refine MetFree.of_bodySF (plainFor_of_name pn_rmSh) hisR ?_
  intro p e s m args below meth c s₁ Bd hml0 hP hK
  obtain ⟨rfl, hZ, hh⟩ := hP
  have hx := Bd.exec
  have hby := Bd.bytes
  have hml : c.maxLocals = 2 := hml0
  have hown : s.vm.findClass "com/example/ends_to_means/endstomeans/solver/ForwardPace" = some m.cls := findClass_of_methodNamed Bd.named
  have hnm := (name_of_methodNamed Bd.named Bd.method).1
  have X0 : Stand p l e ({ frames := 2, cells := 0, slots := 0, locals := 40 } : Room) s m #[(.ref a1)] below meth c s₁ [] 0 0 := Stand.of_body Bd
  have e0 : s₁.heap = h0 := by rw [← hh, Bd.state]; rfl
  have N0 := Fr.nil n0
  have g0 : own_Go p e below s₁ (entryFrame m #[(.ref a1)] 2) s₁ (mkF m 0 #[rv a1, .unset] []) := fun t k => castTop (ef_rmSh m a1) k
  obtain ⟨E0, f0_growingShare, f0_backwardNanos, f0_backwardMoves, f0_earnedNanos, f0_layerMoves, f0_lastLayerNanos, f0_layerBeforeNanos, f0_layerBeforeThatNanos⟩ := id P1
  obtain ⟨T58, L58, lc, X58, e58, N58, hm58, g58⟩ : ∃ (T58 : State) (L58 : List Loc) (lc : Int32), Stand p l e ({ frames := 2, cells := 0, slots := 0, locals := 40 } : Room) s m #[(.ref a1)] below meth c T58 L58 0 0 ∧ T58.heap = h0 ∧ Fr n0 L58 ∧ (lc = (if lm = 0 then (1 : Int32) else (if 0 < (cmpValue (FP.dcmp (FP.ddiv (own_ex l0 l1 l2) (FP.i2d lm)) (FP.ddiv (FP.dmul (4611686018427387904 : UInt64) (FP.l2d bn)) (FP.l2d bm))) .g) then (0 : Int32) else (1 : Int32)))) ∧ own_Go p e below s₁ (entryFrame m #[(.ref a1)] 2) T58 (mkF m 41 #[rv a1, .unset] [(.int lc)]) := by
    have g37 : own_Go p e below s₁ (entryFrame m #[(.ref a1)] 2) s₁ (mkF m 1 #[rv a1, .unset] [(.ref a1)]) := by
      intro target kt
      refine g0 target ?_
      refine XS.aloadN X0.here hx rfl (hb hby d4_0) rfl rfl ?_
      show Steps p.tables e below (s₁.setTop (mkF m 1 #[rv a1, .unset] [(.ref a1)])) target
      exact kt
    obtain ⟨T38, X38, e38, st38⟩ := getF X0 hx hZ hown (host := "") (Or.inl (hw _ (List.mem_of_getElem? (i := 30) rfl))) Via.refl e0 f0_layerMoves (g := (mkF m 1 #[rv a1, .unset] [(.ref a1)])) rfl rfl (hb hby d4_1)
    have g39 : own_Go p e below s₁ (entryFrame m #[(.ref a1)] 2) T38 (mkF m 4 #[rv a1, .unset] [(.int lm)]) := fun target kt => g37 target (st38 target kt)
    by_cases hc40 : lm = 0
    · have g41 : own_Go p e below s₁ (entryFrame m #[(.ref a1)] 2) T38 (mkF m 41 #[rv a1, .unset] [(.int (1 : Int32))]) := by
        intro target kt
        refine g39 target ?_
        refine XS.ifYes X38.here hx rfl (pc0 := 4) (pc' := 36) rfl (hb hby d4_4) rfl (XT.i0_eq_t hc40) (by decide) (by decide) ?_
        show Steps p.tables e below (T38.setTop (mkF m 36 #[rv a1, .unset] [])) target
        refine XT.iconstV X38.here hx rfl (1 : Int32) (hb hby d4_36) rfl ?_
        show Steps p.tables e below (T38.setTop (mkF m 37 #[rv a1, .unset] [(.int (1 : Int32))])) target
        refine XS.goto X38.here hx rfl (pc0 := 37) (pc' := 41) rfl (hb hby d4_37) (by decide) (by decide) ?_
        show Steps p.tables e below (T38.setTop (mkF m 41 #[rv a1, .unset] [(.int (1 : Int32))])) target
        exact kt
      exact ⟨T38, _, (1 : Int32), X38, e38, N0, (by simp only [if_pos hc40]), g41⟩
    · have g42 : own_Go p e below s₁ (entryFrame m #[(.ref a1)] 2) T38 (mkF m 8 #[rv a1, .unset] [(.ref a1)]) := by
        intro target kt
        refine g39 target ?_
        refine XS.ifNo X38.here hx rfl (hb hby d4_4) rfl (XT.i0_eq_f hc40) ?_
        show Steps p.tables e below (T38.setTop (mkF m 7 #[rv a1, .unset] [])) target
        refine XS.aloadN X38.here hx rfl (hb hby d4_7) rfl rfl ?_
        show Steps p.tables e below (T38.setTop (mkF m 8 #[rv a1, .unset] [(.ref a1)])) target
        exact kt
      obtain ⟨cq43, q43, q43'⟩ := E0.cell
      obtain ⟨_, _, ⟨T43, L43, k43, n43⟩, -, X43, ⟨Lc43, hQ43, l43, y43, z43⟩, st43⟩ := X38.privateBack hx (y := (⟨"com/example/ends_to_means/endstomeans/solver/ForwardPace", "expectedLayerNanos", "()D"⟩ : MethodName)) hown (mvT hZ (hw _ (List.mem_of_getElem? (i := 48) rfl))) (mvT hZ (hw _ (List.mem_of_getElem? (i := 49) rfl))) (own_selfsel (y := (⟨"com/example/ends_to_means/endstomeans/solver/ForwardPace", "expectedLayerNanos", "()D"⟩ : MethodName)) hZ (hw _ (List.mem_of_getElem? (i := 5) rfl)) (hw _ (List.mem_of_getElem? (i := 50) rfl)) (hw _ (List.mem_of_getElem? (i := 49) rfl)) (by decide)) (Cond.privateMethod_at (mvP hZ (hw _ (List.mem_of_getElem? (i := 50) rfl)) (args := #[]))) (mvT hZ (hw _ (List.mem_of_getElem? (i := 51) rfl))) (by decide) (backOf (W := 0) (rmEx l Z a0 hw [] a1 gs bn bm ea lm l0 l1 l2 h0 n0 Z0 P1) hZ (hw _ (List.mem_of_getElem? (i := 51) rfl)) (hw _ (List.mem_of_getElem? (i := 6) rfl)) (by decide) (by decide)) (g := (mkF m 8 #[rv a1, .unset] [(.ref a1)])) rfl (by rw [hml]; rfl) (Steps.refl _) (a := a1) (by rw [e38]; exact q43) q43' (argsL := []) (rest := []) (lenOf pd_2 rfl) rfl (by show 2 * 0 + _ ≤ _; exact Nat.le_of_eq rfl) (hb hby d4_8) (fun _ _ => ⟨rfl, e38, (by decide : 0 + 0 ≤ _), (by decide : 0 + 0 ≤ _)⟩)
      dsimp only [Pt.U, Pt.locs, Pt.cells, Pt.slots] at X43 l43 y43 z43 st43 hQ43
      subst l43 y43 z43
      obtain ⟨rfl, Nq43, eq43⟩ := hQ43
      have N43 := Fr.app N0 Nq43
      have g44 : own_Go p e below s₁ (entryFrame m #[(.ref a1)] 2) T43 (mkF m 11 #[rv a1, .unset] [(.double (own_ex l0 l1 l2))]) := fun target kt => g42 target (st43.trans kt)
      have g45 : own_Go p e below s₁ (entryFrame m #[(.ref a1)] 2) T43 (mkF m 12 #[rv a1, .unset] [(.ref a1), (.double (own_ex l0 l1 l2))]) := by
        intro target kt
        refine g44 target ?_
        refine XS.aloadN X43.here hx rfl (hb hby d4_11) rfl rfl ?_
        show Steps p.tables e below (T43.setTop (mkF m 12 #[rv a1, .unset] [(.ref a1), (.double (own_ex l0 l1 l2))])) target
        exact kt
      obtain ⟨T46, X46, e46, st46⟩ := getF X43 hx hZ hown (host := "") (Or.inl (hw _ (List.mem_of_getElem? (i := 30) rfl))) Via.refl eq43 f0_layerMoves (g := (mkF m 12 #[rv a1, .unset] [(.ref a1), (.double (own_ex l0 l1 l2))])) rfl rfl (hb hby d4_12)
      have g47 : own_Go p e below s₁ (entryFrame m #[(.ref a1)] 2) T46 (mkF m 15 #[rv a1, .unset] [(.int lm), (.double (own_ex l0 l1 l2))]) := fun target kt => g45 target (st46 target kt)
      have g48 : own_Go p e below s₁ (entryFrame m #[(.ref a1)] 2) T46 (mkF m 21 #[rv a1, .unset] [(.ref a1), (.double (4611686018427387904 : UInt64)), (.double (FP.ddiv (own_ex l0 l1 l2) (FP.i2d lm)))]) := by
        intro target kt
        refine g47 target ?_
        refine XS.i2dS X46.here hx rfl (hb hby d4_15) rfl rfl ?_
        show Steps p.tables e below (T46.setTop (mkF m 16 #[rv a1, .unset] [(.double (FP.i2d lm)), (.double (own_ex l0 l1 l2))])) target
        refine XS.ddivS X46.here hx rfl (hb hby d4_16) rfl (ddiv_out ((own_exM l0 l1 l2).fin (by decide)).noNaN (i2d_fin _) (i2d_nz hc40)) rfl ?_
        show Steps p.tables e below (T46.setTop (mkF m 17 #[rv a1, .unset] [(.double (FP.ddiv (own_ex l0 l1 l2) (FP.i2d lm)))])) target
        refine X46.ldc2DoubleC hx hown (mvT hZ (hw _ (List.mem_of_getElem? (i := 62) rfl))) (g := (mkF m 17 #[rv a1, .unset] [(.double (FP.ddiv (own_ex l0 l1 l2) (FP.i2d lm)))])) rfl (hb hby d4_17) _ ?_
        show Steps p.tables e below (T46.setTop (mkF m 20 #[rv a1, .unset] [(.double (4611686018427387904 : UInt64)), (.double (FP.ddiv (own_ex l0 l1 l2) (FP.i2d lm)))])) target
        refine XS.aloadN X46.here hx rfl (hb hby d4_20) rfl rfl ?_
        show Steps p.tables e below (T46.setTop (mkF m 21 #[rv a1, .unset] [(.ref a1), (.double (4611686018427387904 : UInt64)), (.double (FP.ddiv (own_ex l0 l1 l2) (FP.i2d lm)))])) target
        exact kt
      obtain ⟨T49, X49, e49, st49⟩ := getF X46 hx hZ hown (host := "") (Or.inl (hw _ (List.mem_of_getElem? (i := 20) rfl))) Via.refl e46 f0_backwardNanos (g := (mkF m 21 #[rv a1, .unset] [(.ref a1), (.double (4611686018427387904 : UInt64)), (.double (FP.ddiv (own_ex l0 l1 l2) (FP.i2d lm)))])) rfl rfl (hb hby d4_21)
      have g50 : own_Go p e below s₁ (entryFrame m #[(.ref a1)] 2) T49 (mkF m 24 #[rv a1, .unset] [(.long bn), (.double (4611686018427387904 : UInt64)), (.double (FP.ddiv (own_ex l0 l1 l2) (FP.i2d lm)))]) := fun target kt => g48 target (st49 target kt)
      have g51 : own_Go p e below s₁ (entryFrame m #[(.ref a1)] 2) T49 (mkF m 27 #[rv a1, .unset] [(.ref a1), (.double (FP.dmul (4611686018427387904 : UInt64) (FP.l2d bn))), (.double (FP.ddiv (own_ex l0 l1 l2) (FP.i2d lm)))]) := by
        intro target kt
        refine g50 target ?_
        refine XS.l2dS X49.here hx rfl (hb hby d4_24) rfl rfl ?_
        show Steps p.tables e below (T49.setTop (mkF m 25 #[rv a1, .unset] [(.double (FP.l2d bn)), (.double (4611686018427387904 : UInt64)), (.double (FP.ddiv (own_ex l0 l1 l2) (FP.i2d lm)))])) target
        refine XS.dmulS X49.here hx rfl (hb hby d4_25) rfl (dmul_out own_twoF (l2d_fin _)) rfl ?_
        show Steps p.tables e below (T49.setTop (mkF m 26 #[rv a1, .unset] [(.double (FP.dmul (4611686018427387904 : UInt64) (FP.l2d bn))), (.double (FP.ddiv (own_ex l0 l1 l2) (FP.i2d lm)))])) target
        refine XS.aloadN X49.here hx rfl (hb hby d4_26) rfl rfl ?_
        show Steps p.tables e below (T49.setTop (mkF m 27 #[rv a1, .unset] [(.ref a1), (.double (FP.dmul (4611686018427387904 : UInt64) (FP.l2d bn))), (.double (FP.ddiv (own_ex l0 l1 l2) (FP.i2d lm)))])) target
        exact kt
      obtain ⟨T52, X52, e52, st52⟩ := getF X49 hx hZ hown (host := "") (Or.inl (hw _ (List.mem_of_getElem? (i := 22) rfl))) Via.refl e49 f0_backwardMoves (g := (mkF m 27 #[rv a1, .unset] [(.ref a1), (.double (FP.dmul (4611686018427387904 : UInt64) (FP.l2d bn))), (.double (FP.ddiv (own_ex l0 l1 l2) (FP.i2d lm)))])) rfl rfl (hb hby d4_27)
      have g53 : own_Go p e below s₁ (entryFrame m #[(.ref a1)] 2) T52 (mkF m 30 #[rv a1, .unset] [(.long bm), (.double (FP.dmul (4611686018427387904 : UInt64) (FP.l2d bn))), (.double (FP.ddiv (own_ex l0 l1 l2) (FP.i2d lm)))]) := fun target kt => g51 target (st52 target kt)
      have g54 : own_Go p e below s₁ (entryFrame m #[(.ref a1)] 2) T52 (mkF m 33 #[rv a1, .unset] [(.int (cmpValue (FP.dcmp (FP.ddiv (own_ex l0 l1 l2) (FP.i2d lm)) (FP.ddiv (FP.dmul (4611686018427387904 : UInt64) (FP.l2d bn)) (FP.l2d bm))) .g))]) := by
        intro target kt
        refine g53 target ?_
        refine XS.l2dS X52.here hx rfl (hb hby d4_30) rfl rfl ?_
        show Steps p.tables e below (T52.setTop (mkF m 31 #[rv a1, .unset] [(.double (FP.l2d bm)), (.double (FP.dmul (4611686018427387904 : UInt64) (FP.l2d bn))), (.double (FP.ddiv (own_ex l0 l1 l2) (FP.i2d lm)))])) target
        refine XS.ddivS X52.here hx rfl (hb hby d4_31) rfl (ddiv_out (dmul_out own_twoF (l2d_fin _)) (l2d_fin _) (l2d_nz hbm)) rfl ?_
        show Steps p.tables e below (T52.setTop (mkF m 32 #[rv a1, .unset] [(.double (FP.ddiv (FP.dmul (4611686018427387904 : UInt64) (FP.l2d bn)) (FP.l2d bm))), (.double (FP.ddiv (own_ex l0 l1 l2) (FP.i2d lm)))])) target
        refine XS.dcmpS X52.here hx rfl (hb hby d4_32) rfl rfl ?_
        show Steps p.tables e below (T52.setTop (mkF m 33 #[rv a1, .unset] [(.int (cmpValue (FP.dcmp (FP.ddiv (own_ex l0 l1 l2) (FP.i2d lm)) (FP.ddiv (FP.dmul (4611686018427387904 : UInt64) (FP.l2d bn)) (FP.l2d bm))) .g))])) target
        exact kt
      by_cases hc55 : 0 < (cmpValue (FP.dcmp (FP.ddiv (own_ex l0 l1 l2) (FP.i2d lm)) (FP.ddiv (FP.dmul (4611686018427387904 : UInt64) (FP.l2d bn)) (FP.l2d bm))) .g)
      · have g56 : own_Go p e below s₁ (entryFrame m #[(.ref a1)] 2) T52 (mkF m 41 #[rv a1, .unset] [(.int (0 : Int32))]) := by
          intro target kt
          refine g54 target ?_
          refine XS.ifYes X52.here hx rfl (pc0 := 33) (pc' := 40) rfl (hb hby d4_33) rfl (XT.i0_gt_t hc55) (by decide) (by decide) ?_
          show Steps p.tables e below (T52.setTop (mkF m 40 #[rv a1, .unset] [])) target
          refine XT.iconstV X52.here hx rfl (0 : Int32) (hb hby d4_40) rfl ?_
          show Steps p.tables e below (T52.setTop (mkF m 41 #[rv a1, .unset] [(.int (0 : Int32))])) target
          exact kt
        exact ⟨T52, _, (0 : Int32), X52, e52, N43, (by simp only [if_neg hc40, if_pos hc55]), g56⟩
      · have g57 : own_Go p e below s₁ (entryFrame m #[(.ref a1)] 2) T52 (mkF m 41 #[rv a1, .unset] [(.int (1 : Int32))]) := by
          intro target kt
          refine g54 target ?_
          refine XS.ifNo X52.here hx rfl (hb hby d4_33) rfl (XT.i0_gt_f hc55) ?_
          show Steps p.tables e below (T52.setTop (mkF m 36 #[rv a1, .unset] [])) target
          refine XT.iconstV X52.here hx rfl (1 : Int32) (hb hby d4_36) rfl ?_
          show Steps p.tables e below (T52.setTop (mkF m 37 #[rv a1, .unset] [(.int (1 : Int32))])) target
          refine XS.goto X52.here hx rfl (pc0 := 37) (pc' := 41) rfl (hb hby d4_37) (by decide) (by decide) ?_
          show Steps p.tables e below (T52.setTop (mkF m 41 #[rv a1, .unset] [(.int (1 : Int32))])) target
          exact kt
        exact ⟨T52, _, (1 : Int32), X52, e52, N43, (by simp only [if_neg hc40, if_neg hc55]), g57⟩
  have g59 : own_Go p e below s₁ (entryFrame m #[(.ref a1)] 2) T58 (mkF m 43 #[rv a1, iv lc] [(.int lc)]) := by
    intro target kt
    refine g58 target ?_
    refine XS.istoreN X58.here hx rfl (hb hby d4_41) rfl (l' := #[rv a1, iv lc]) rfl ?_
    show Steps p.tables e below (T58.setTop (mkF m 42 #[rv a1, iv lc] [])) target
    refine XS.iloadN X58.here hx rfl (hb hby d4_42) rfl ?_
    show Steps p.tables e below (T58.setTop (mkF m 43 #[rv a1, iv lc] [(.int lc)])) target
    exact kt
  obtain ⟨T66, L66, rr, X66, e66, N66, hm66, g66⟩ : ∃ (T66 : State) (L66 : List Loc) (rr : UInt64), Stand p l e ({ frames := 2, cells := 0, slots := 0, locals := 40 } : Room) s m #[(.ref a1)] below meth c T66 L66 0 0 ∧ T66.heap = h0 ∧ Fr n0 L66 ∧ (rr = (if lc = 0 then (4593671619917905920 : UInt64) else gs)) ∧ own_Go p e below s₁ (entryFrame m #[(.ref a1)] 2) T66 (mkF m 56 #[rv a1, iv lc] [(.double rr)]) := by
    by_cases hc60 : lc = 0
    · have g61 : own_Go p e below s₁ (entryFrame m #[(.ref a1)] 2) T58 (mkF m 56 #[rv a1, iv lc] [(.double (4593671619917905920 : UInt64))]) := by
        intro target kt
        refine g59 target ?_
        refine XS.ifYes X58.here hx rfl (pc0 := 43) (pc' := 53) rfl (hb hby d4_43) rfl (XT.i0_eq_t hc60) (by decide) (by decide) ?_
        show Steps p.tables e below (T58.setTop (mkF m 53 #[rv a1, iv lc] [])) target
        refine X58.ldc2DoubleC hx hown (mvT hZ (hw _ (List.mem_of_getElem? (i := 65) rfl))) (g := (mkF m 53 #[rv a1, iv lc] [])) rfl (hb hby d4_53) _ ?_
        show Steps p.tables e below (T58.setTop (mkF m 56 #[rv a1, iv lc] [(.double (4593671619917905920 : UInt64))])) target
        exact kt
      exact ⟨T58, _, (4593671619917905920 : UInt64), X58, e58, N58, (by simp only [if_pos hc60]), g61⟩
    · have g62 : own_Go p e below s₁ (entryFrame m #[(.ref a1)] 2) T58 (mkF m 47 #[rv a1, iv lc] [(.ref a1)]) := by
        intro target kt
        refine g59 target ?_
        refine XS.ifNo X58.here hx rfl (hb hby d4_43) rfl (XT.i0_eq_f hc60) ?_
        show Steps p.tables e below (T58.setTop (mkF m 46 #[rv a1, iv lc] [])) target
        refine XS.aloadN X58.here hx rfl (hb hby d4_46) rfl rfl ?_
        show Steps p.tables e below (T58.setTop (mkF m 47 #[rv a1, iv lc] [(.ref a1)])) target
        exact kt
      obtain ⟨T63, X63, e63, st63⟩ := getF X58 hx hZ hown (host := "") (Or.inl (hw _ (List.mem_of_getElem? (i := 13) rfl))) Via.refl e58 f0_growingShare (g := (mkF m 47 #[rv a1, iv lc] [(.ref a1)])) rfl rfl (hb hby d4_47)
      have g64 : own_Go p e below s₁ (entryFrame m #[(.ref a1)] 2) T63 (mkF m 50 #[rv a1, iv lc] [(.double gs)]) := fun target kt => g62 target (st63 target kt)
      have g65 : own_Go p e below s₁ (entryFrame m #[(.ref a1)] 2) T63 (mkF m 56 #[rv a1, iv lc] [(.double gs)]) := by
        intro target kt
        refine g64 target ?_
        refine XS.goto X63.here hx rfl (pc0 := 50) (pc' := 56) rfl (hb hby d4_50) (by decide) (by decide) ?_
        show Steps p.tables e below (T63.setTop (mkF m 56 #[rv a1, iv lc] [(.double gs)])) target
        exact kt
      exact ⟨T63, _, gs, X63, e63, N58, (by simp only [if_neg hc60]), g65⟩
  have hv : rr = own_sh gs bn bm lm (own_ex l0 l1 l2) := by
    rw [hm66, hm58]
    unfold own_sh
    by_cases q : lm = 0
    · rw [if_pos q, if_pos q]; rfl
    · rw [if_neg q, if_neg q]
      split <;> rfl
  obtain ⟨fs, hr, hrun, hended, hW, hsame⟩ := X66.leave (v := some (.double rr)) (fun h => by rw [Bd.returns] at h; cases h)
  refine ⟨_, _, g66 _ ?_, hrun, hended, _, _, rfl, ?_, ⟨_, rfl⟩, hW, hsame.mono (by decide) (by decide)⟩
  · exact retOut X66 hx Bd.returns rfl (Or.inr (Or.inr (Or.inl ⟨rfl, rfl, _, rfl⟩))) (hb hby d4_56) hr
  · show Q_rmSh Z a1 gs bn bm ea lm l0 l1 l2 h0 n0 _ T66.heap _
    rw [e66]
    exact ⟨by rw [hv], N66, rfl⟩
theorem pn_rmBT : plainName "com/example/ends_to_means/endstomeans/solver/ForwardPace" = true := by first | (simp [plainName, overriddenIn]; done) | decide +kernel
theorem ef_rmBT (m : MethodId) (a1 : Addr) (q1 : Int64) (p3 : Int32) : entryFrame m #[(.ref a1), (.long q1), (.int p3)] 4 = mkF m 0 #[rv a1, .val (.long q1), .second, iv p3] [] := by first | (simp [entryFrame, mkF, argsToLocals, Value.category]; done) | rfl
def Q_rmBT (Z : State) (a1 : Addr) (q1 : Int64) (p3 : Int32) (gs : UInt64) (bn bm : Int64) (ea : UInt64) (lm : Int32) (l0 l1 l2 : Int64) (h0 : Heap) (n0 : Nat) (v : Option Value) (h : Heap) (L : List Loc) : Prop := v = none ∧ Fr n0 L ∧ Keep h0 h [a1] ∧ own_P Z h a1 gs (bn + q1) (bm + p3.toInt64) (FP.dadd ea (FP.dmul (own_sh gs (bn + q1) (bm + p3.toInt64) lm (own_ex l0 l1 l2)) (FP.l2d q1))) lm l0 l1 l2
set_option maxRecDepth 65536 in
set_option maxHeartbeats 40000000 in
theorem rmBT (l : Launch) (Z : State) (a0 : Array Value) (hw : ∀ d ∈ tables_1, d.before a0 Z = true) (ws : List Jvm.Cond) (a1 : Addr) (q1 : Int64) (p3 : Int32) (gs : UInt64) (bn bm : Int64) (ea : UInt64) (lm : Int32) (l0 l1 l2 : Int64) (h0 : Heap) (n0 : Nat) (Z0 : n0 ≤ h0.size) (P1 : own_P Z h0 a1 gs bn bm ea lm l0 l1 l2) (hbm : (bm + p3.toInt64) ≠ 0) (hgs : Mag64 1088 gs) (hea : Fin64 ea) (ga : n0 ≤ a1) :
    MetFree l (⟨"com/example/ends_to_means/endstomeans/solver/ForwardPace", "backwardTook", "(JI)V"⟩ : MethodName) (head1 (Jvm.Cond.code (⟨"com/example/ends_to_means/endstomeans/solver/ForwardPace", "backwardTook", "(JI)V"⟩ : MethodName) prog_128_method_3_code 4 none :: ws) ({ frames := 3, cells := 0, slots := 0, locals := 60 } : Room)) (fun a U => a = #[(.ref a1), (.long q1), (.int p3)] ∧ Z.Warmed39 U.vm ∧ U.heap = h0) (fun _ _ _ _ _ => True) (fun _ U o U' => ∃ v L, o = .returned v ∧ Q_rmBT Z a1 q1 p3 gs bn bm ea lm l0 l1 l2 h0 n0 v U'.heap L ∧ FrameEnd U o U' L ({ frames := 3, cells := 0, slots := 0, locals := 60 } : Room).cells ({ frames := 3, cells := 0, slots := 0, locals := 60 } : Room).slots) := by
  refine MetFree.of_bodySF (plainFor_of_name pn_rmBT) hisR ?_
  intro p e s m args below meth c s₁ Bd hml0 hP hK
  obtain ⟨rfl, hZ, hh⟩ := hP
  have hx := Bd.exec
  have hby := Bd.bytes
  have hml : c.maxLocals = 4 := hml0
  have hown : s.vm.findClass "com/example/ends_to_means/endstomeans/solver/ForwardPace" = some m.cls := findClass_of_methodNamed Bd.named
  have hnm := (name_of_methodNamed Bd.named Bd.method).1
  have X0 : Stand p l e ({ frames := 3, cells := 0, slots := 0, locals := 60 } : Room) s m #[(.ref a1), (.long q1), (.int p3)] below meth c s₁ [] 0 0 := Stand.of_body Bd
  have e0 : s₁.heap = h0 := by rw [← hh, Bd.state]; rfl
  have N0 := Fr.nil n0
  have g0 : own_Go p e below s₁ (entryFrame m #[(.ref a1), (.long q1), (.int p3)] 4) s₁ (mkF m 0 #[rv a1, .val (.long q1), .second, iv p3] []) := fun t k => castTop (ef_rmBT m a1 q1 p3) k
  obtain ⟨E0, f0_growingShare, f0_backwardNanos, f0_backwardMoves, f0_earnedNanos, f0_layerMoves, f0_lastLayerNanos, f0_layerBeforeNanos, f0_layerBeforeThatNanos⟩ := id P1
  have g67 : own_Go p e below s₁ (entryFrame m #[(.ref a1), (.long q1), (.int p3)] 4) s₁ (mkF m 2 #[rv a1, .val (.long q1), .second, iv p3] [(.ref a1), (.ref a1)]) := by
    intro target kt
    refine g0 target ?_
    refine XS.aloadN X0.here hx rfl (hb hby d3_0) rfl rfl ?_
    show Steps p.tables e below (s₁.setTop (mkF m 1 #[rv a1, .val (.long q1), .second, iv p3] [(.ref a1)])) target
    refine XS.dup X0.here hx rfl (hb hby d3_1) rfl rfl ?_
    show Steps p.tables e below (s₁.setTop (mkF m 2 #[rv a1, .val (.long q1), .second, iv p3] [(.ref a1), (.ref a1)])) target
    exact kt
  obtain ⟨T68, X68, e68, st68⟩ := getF X0 hx hZ hown (host := "") (Or.inl (hw _ (List.mem_of_getElem? (i := 20) rfl))) Via.refl e0 f0_backwardNanos (g := (mkF m 2 #[rv a1, .val (.long q1), .second, iv p3] [(.ref a1), (.ref a1)])) rfl rfl (hb hby d3_2)
  have g69 : own_Go p e below s₁ (entryFrame m #[(.ref a1), (.long q1), (.int p3)] 4) T68 (mkF m 5 #[rv a1, .val (.long q1), .second, iv p3] [(.long bn), (.ref a1)]) := fun target kt => g67 target (st68 target kt)
  have g70 : own_Go p e below s₁ (entryFrame m #[(.ref a1), (.long q1), (.int p3)] 4) T68 (mkF m 7 #[rv a1, .val (.long q1), .second, iv p3] [(.long (bn + q1)), (.ref a1)]) := by
    intro target kt
    refine g69 target ?_
    refine XT.lloadN X68.here hx rfl (hb hby d3_5) rfl ?_
    show Steps p.tables e below (T68.setTop (mkF m 6 #[rv a1, .val (.long q1), .second, iv p3] [(.long q1), (.long bn), (.ref a1)])) target
    refine XT.ladd X68.here hx rfl (hb hby d3_6) rfl ?_
    show Steps p.tables e below (T68.setTop (mkF m 7 #[rv a1, .val (.long q1), .second, iv p3] [(.long (bn + q1)), (.ref a1)])) target
    exact kt
  obtain ⟨T71, h71, X71, e71, W71, st71⟩ := putF X68 hx hZ hown (host := "") (Or.inl (hw _ (List.mem_of_getElem? (i := 20) rfl))) Via.refl e68 f0_backwardNanos E0 (Or.inl (hw _ (List.mem_of_getElem? (i := 21) rfl))) (hw _ (List.mem_of_getElem? (i := 5) rfl)) (ty := .long) (by decide) rfl rfl (g := (mkF m 7 #[rv a1, .val (.long q1), .second, iv p3] [(.long (bn + q1)), (.ref a1)])) rfl rfl (hb hby d3_7)
  have g72 : own_Go p e below s₁ (entryFrame m #[(.ref a1), (.long q1), (.int p3)] 4) T71 (mkF m 10 #[rv a1, .val (.long q1), .second, iv p3] []) := fun target kt => g70 target (st71 target kt)
  have N71 := Fr.snoc X71 N0 ga
  have f71_growingShare := (f0_growingShare.other W71 (Or.inr (slot_ne (a0 := a0) (Or.inl (hw _ (List.mem_of_getElem? (i := 14) rfl))) (Or.inl (hw _ (List.mem_of_getElem? (i := 21) rfl))) (by decide) (t := .double) (t' := .long) (by decide) (by decide))))
  have f71_backwardNanos := f0_backwardNanos.same W71
  have f71_backwardMoves := (f0_backwardMoves.other W71 (Or.inr (slot_ne (a0 := a0) (Or.inl (hw _ (List.mem_of_getElem? (i := 23) rfl))) (Or.inl (hw _ (List.mem_of_getElem? (i := 21) rfl))) (by decide) (t := .long) (t' := .long) (by decide) (by decide))))
  have f71_earnedNanos := (f0_earnedNanos.other W71 (Or.inr (slot_ne (a0 := a0) (Or.inl (hw _ (List.mem_of_getElem? (i := 25) rfl))) (Or.inl (hw _ (List.mem_of_getElem? (i := 21) rfl))) (by decide) (t := .double) (t' := .long) (by decide) (by decide))))
  have f71_layerMoves := (f0_layerMoves.other W71 (Or.inr (slot_ne (a0 := a0) (Or.inl (hw _ (List.mem_of_getElem? (i := 31) rfl))) (Or.inl (hw _ (List.mem_of_getElem? (i := 21) rfl))) (by decide) (t := .int) (t' := .long) (by decide) (by decide))))
  have f71_lastLayerNanos := (f0_lastLayerNanos.other W71 (Or.inr (slot_ne (a0 := a0) (Or.inl (hw _ (List.mem_of_getElem? (i := 42) rfl))) (Or.inl (hw _ (List.mem_of_getElem? (i := 21) rfl))) (by decide) (t := .long) (t' := .long) (by decide) (by decide))))
  have f71_layerBeforeNanos := (f0_layerBeforeNanos.other W71 (Or.inr (slot_ne (a0 := a0) (Or.inl (hw _ (List.mem_of_getElem? (i := 38) rfl))) (Or.inl (hw _ (List.mem_of_getElem? (i := 21) rfl))) (by decide) (t := .long) (t' := .long) (by decide) (by decide))))
  have f71_layerBeforeThatNanos := (f0_layerBeforeThatNanos.other W71 (Or.inr (slot_ne (a0 := a0) (Or.inl (hw _ (List.mem_of_getElem? (i := 40) rfl))) (Or.inl (hw _ (List.mem_of_getElem? (i := 21) rfl))) (by decide) (t := .long) (t' := .long) (by decide) (by decide))))
  have E71 := E0.wr W71
  have K71 := (Keep.refl h0 [a1]).wr W71 (Or.inl (List.mem_of_getElem? (i := 0) rfl))
  have g73 : own_Go p e below s₁ (entryFrame m #[(.ref a1), (.long q1), (.int p3)] 4) T71 (mkF m 12 #[rv a1, .val (.long q1), .second, iv p3] [(.ref a1), (.ref a1)]) := by
    intro target kt
    refine g72 target ?_
    refine XS.aloadN X71.here hx rfl (hb hby d3_10) rfl rfl ?_
    show Steps p.tables e below (T71.setTop (mkF m 11 #[rv a1, .val (.long q1), .second, iv p3] [(.ref a1)])) target
    refine XS.dup X71.here hx rfl (hb hby d3_11) rfl rfl ?_
    show Steps p.tables e below (T71.setTop (mkF m 12 #[rv a1, .val (.long q1), .second, iv p3] [(.ref a1), (.ref a1)])) target
    exact kt
  obtain ⟨T74, X74, e74, st74⟩ := getF X71 hx hZ hown (host := "") (Or.inl (hw _ (List.mem_of_getElem? (i := 22) rfl))) Via.refl e71 f71_backwardMoves (g := (mkF m 12 #[rv a1, .val (.long q1), .second, iv p3] [(.ref a1), (.ref a1)])) rfl rfl (hb hby d3_12)
  have g75 : own_Go p e below s₁ (entryFrame m #[(.ref a1), (.long q1), (.int p3)] 4) T74 (mkF m 15 #[rv a1, .val (.long q1), .second, iv p3] [(.long bm), (.ref a1)]) := fun target kt => g73 target (st74 target kt)
  have g76 : own_Go p e below s₁ (entryFrame m #[(.ref a1), (.long q1), (.int p3)] 4) T74 (mkF m 18 #[rv a1, .val (.long q1), .second, iv p3] [(.long (bm + (p3.toInt64))), (.ref a1)]) := by
    intro target kt
    refine g75 target ?_
    refine XS.iloadN X74.here hx rfl (hb hby d3_15) rfl ?_
    show Steps p.tables e below (T74.setTop (mkF m 16 #[rv a1, .val (.long q1), .second, iv p3] [(.int p3), (.long bm), (.ref a1)])) target
    refine XT.i2l X74.here hx rfl (hb hby d3_16) rfl ?_
    show Steps p.tables e below (T74.setTop (mkF m 17 #[rv a1, .val (.long q1), .second, iv p3] [(.long (p3.toInt64)), (.long bm), (.ref a1)])) target
    refine XT.ladd X74.here hx rfl (hb hby d3_17) rfl ?_
    show Steps p.tables e below (T74.setTop (mkF m 18 #[rv a1, .val (.long q1), .second, iv p3] [(.long (bm + (p3.toInt64))), (.ref a1)])) target
    exact kt
  obtain ⟨T77, h77, X77, e77, W77, st77⟩ := putF X74 hx hZ hown (host := "") (Or.inl (hw _ (List.mem_of_getElem? (i := 22) rfl))) Via.refl e74 f71_backwardMoves E71 (Or.inl (hw _ (List.mem_of_getElem? (i := 23) rfl))) (hw _ (List.mem_of_getElem? (i := 5) rfl)) (ty := .long) (by decide) rfl rfl (g := (mkF m 18 #[rv a1, .val (.long q1), .second, iv p3] [(.long (bm + (p3.toInt64))), (.ref a1)])) rfl rfl (hb hby d3_18)
  have g78 : own_Go p e below s₁ (entryFrame m #[(.ref a1), (.long q1), (.int p3)] 4) T77 (mkF m 21 #[rv a1, .val (.long q1), .second, iv p3] []) := fun target kt => g76 target (st77 target kt)
  have N77 := Fr.snoc X77 N71 ga
  have f77_growingShare := (f71_growingShare.other W77 (Or.inr (slot_ne (a0 := a0) (Or.inl (hw _ (List.mem_of_getElem? (i := 14) rfl))) (Or.inl (hw _ (List.mem_of_getElem? (i := 23) rfl))) (by decide) (t := .double) (t' := .long) (by decide) (by decide))))
  have f77_backwardNanos := (f71_backwardNanos.other W77 (Or.inr (slot_ne (a0 := a0) (Or.inl (hw _ (List.mem_of_getElem? (i := 21) rfl))) (Or.inl (hw _ (List.mem_of_getElem? (i := 23) rfl))) (by decide) (t := .long) (t' := .long) (by decide) (by decide))))
  have f77_backwardMoves := f71_backwardMoves.same W77
  have f77_earnedNanos := (f71_earnedNanos.other W77 (Or.inr (slot_ne (a0 := a0) (Or.inl (hw _ (List.mem_of_getElem? (i := 25) rfl))) (Or.inl (hw _ (List.mem_of_getElem? (i := 23) rfl))) (by decide) (t := .double) (t' := .long) (by decide) (by decide))))
  have f77_layerMoves := (f71_layerMoves.other W77 (Or.inr (slot_ne (a0 := a0) (Or.inl (hw _ (List.mem_of_getElem? (i := 31) rfl))) (Or.inl (hw _ (List.mem_of_getElem? (i := 23) rfl))) (by decide) (t := .int) (t' := .long) (by decide) (by decide))))
  have f77_lastLayerNanos := (f71_lastLayerNanos.other W77 (Or.inr (slot_ne (a0 := a0) (Or.inl (hw _ (List.mem_of_getElem? (i := 42) rfl))) (Or.inl (hw _ (List.mem_of_getElem? (i := 23) rfl))) (by decide) (t := .long) (t' := .long) (by decide) (by decide))))
  have f77_layerBeforeNanos := (f71_layerBeforeNanos.other W77 (Or.inr (slot_ne (a0 := a0) (Or.inl (hw _ (List.mem_of_getElem? (i := 38) rfl))) (Or.inl (hw _ (List.mem_of_getElem? (i := 23) rfl))) (by decide) (t := .long) (t' := .long) (by decide) (by decide))))
  have f77_layerBeforeThatNanos := (f71_layerBeforeThatNanos.other W77 (Or.inr (slot_ne (a0 := a0) (Or.inl (hw _ (List.mem_of_getElem? (i := 40) rfl))) (Or.inl (hw _ (List.mem_of_getElem? (i := 23) rfl))) (by decide) (t := .long) (t' := .long) (by decide) (by decide))))
  have E77 := E71.wr W77
  have K77 := K71.wr W77 (Or.inl (List.mem_of_getElem? (i := 0) rfl))
  have g79 : own_Go p e below s₁ (entryFrame m #[(.ref a1), (.long q1), (.int p3)] 4) T77 (mkF m 23 #[rv a1, .val (.long q1), .second, iv p3] [(.ref a1), (.ref a1)]) := by
    intro target kt
    refine g78 target ?_
    refine XS.aloadN X77.here hx rfl (hb hby d3_21) rfl rfl ?_
    show Steps p.tables e below (T77.setTop (mkF m 22 #[rv a1, .val (.long q1), .second, iv p3] [(.ref a1)])) target
    refine XS.dup X77.here hx rfl (hb hby d3_22) rfl rfl ?_
    show Steps p.tables e below (T77.setTop (mkF m 23 #[rv a1, .val (.long q1), .second, iv p3] [(.ref a1), (.ref a1)])) target
    exact kt
  obtain ⟨T80, X80, e80, st80⟩ := getF X77 hx hZ hown (host := "") (Or.inl (hw _ (List.mem_of_getElem? (i := 24) rfl))) Via.refl e77 f77_earnedNanos (g := (mkF m 23 #[rv a1, .val (.long q1), .second, iv p3] [(.ref a1), (.ref a1)])) rfl rfl (hb hby d3_23)
  have g81 : own_Go p e below s₁ (entryFrame m #[(.ref a1), (.long q1), (.int p3)] 4) T80 (mkF m 26 #[rv a1, .val (.long q1), .second, iv p3] [(.double ea), (.ref a1)]) := fun target kt => g79 target (st80 target kt)
  have P2 : own_P Z h77 a1 gs (bn + q1) (bm + p3.toInt64) ea lm l0 l1 l2 := ⟨E77, f77_growingShare, f77_backwardNanos, f77_backwardMoves, f77_earnedNanos, f77_layerMoves, f77_lastLayerNanos, f77_layerBeforeNanos, f77_layerBeforeThatNanos⟩
  have Z9 : n0 ≤ h77.size := Nat.le_trans Z0 K77.1
  have g82 : own_Go p e below s₁ (entryFrame m #[(.ref a1), (.long q1), (.int p3)] 4) T80 (mkF m 27 #[rv a1, .val (.long q1), .second, iv p3] [(.ref a1), (.double ea), (.ref a1)]) := by
    intro target kt
    refine g81 target ?_
    refine XS.aloadN X80.here hx rfl (hb hby d3_26) rfl rfl ?_
    show Steps p.tables e below (T80.setTop (mkF m 27 #[rv a1, .val (.long q1), .second, iv p3] [(.ref a1), (.double ea), (.ref a1)])) target
    exact kt
  obtain ⟨cq83, q83, q83'⟩ := E77.cell
  obtain ⟨_, _, ⟨T83, L83, k83, n83⟩, -, X83, ⟨Lc83, hQ83, l83, y83, z83⟩, st83⟩ := X80.privateBack hx (y := (⟨"com/example/ends_to_means/endstomeans/solver/ForwardPace", "share", "()D"⟩ : MethodName)) hown (mvT hZ (hw _ (List.mem_of_getElem? (i := 26) rfl))) (mvT hZ (hw _ (List.mem_of_getElem? (i := 27) rfl))) (own_selfsel (y := (⟨"com/example/ends_to_means/endstomeans/solver/ForwardPace", "share", "()D"⟩ : MethodName)) hZ (hw _ (List.mem_of_getElem? (i := 5) rfl)) (hw _ (List.mem_of_getElem? (i := 28) rfl)) (hw _ (List.mem_of_getElem? (i := 27) rfl)) (by decide)) (Cond.privateMethod_at (mvP hZ (hw _ (List.mem_of_getElem? (i := 28) rfl)) (args := #[]))) (mvT hZ (hw _ (List.mem_of_getElem? (i := 29) rfl))) (by decide) (backOf (W := 3) (rmSh l Z a0 hw [] a1 gs (bn + q1) (bm + p3.toInt64) ea lm l0 l1 l2 h77 n0 Z9 P2 hbm) hZ (hw _ (List.mem_of_getElem? (i := 29) rfl)) (hw _ (List.mem_of_getElem? (i := 6) rfl)) (by decide) (by decide)) (g := (mkF m 27 #[rv a1, .val (.long q1), .second, iv p3] [(.ref a1), (.double ea), (.ref a1)])) rfl (by rw [hml]; rfl) (Steps.refl _) (a := a1) (by rw [e80]; exact q83) q83' (argsL := []) (rest := [(.double ea), (.ref a1)]) (lenOf pd_2 rfl) rfl (by show 2 * 0 + _ ≤ _; exact Nat.le_of_eq rfl) (hb hby d3_27) (fun _ _ => ⟨rfl, e80, (by decide : 0 + 0 ≤ _), (by decide : 0 + 0 ≤ _)⟩)
  dsimp only [Pt.U, Pt.locs, Pt.cells, Pt.slots] at X83 l83 y83 z83 st83 hQ83
  subst l83 y83 z83
  obtain ⟨rfl, Nq83, eq83⟩ := hQ83
  have N83 := Fr.app N77 Nq83
  have g84 : own_Go p e below s₁ (entryFrame m #[(.ref a1), (.long q1), (.int p3)] 4) T83 (mkF m 30 #[rv a1, .val (.long q1), .second, iv p3] [(.double (own_sh gs (bn + q1) (bm + p3.toInt64) lm (own_ex l0 l1 l2))), (.double ea), (.ref a1)]) := fun target kt => g82 target (st83.trans kt)
  have fs : Fin64 (FP.dmul (own_sh gs (bn + q1) (bm + p3.toInt64) lm (own_ex l0 l1 l2)) (FP.l2d q1)) := own_shbF hgs _ _ _ _ _
  have g85 : own_Go p e below s₁ (entryFrame m #[(.ref a1), (.long q1), (.int p3)] 4) T83 (mkF m 34 #[rv a1, .val (.long q1), .second, iv p3] [(.double (FP.dadd ea (FP.dmul (own_sh gs (bn + q1) (bm + p3.toInt64) lm (own_ex l0 l1 l2)) (FP.l2d q1)))), (.ref a1)]) := by
    intro target kt
    refine g84 target ?_
    refine XT.lloadN X83.here hx rfl (hb hby d3_30) rfl ?_
    show Steps p.tables e below (T83.setTop (mkF m 31 #[rv a1, .val (.long q1), .second, iv p3] [(.long q1), (.double (own_sh gs (bn + q1) (bm + p3.toInt64) lm (own_ex l0 l1 l2))), (.double ea), (.ref a1)])) target
    refine XS.l2dS X83.here hx rfl (hb hby d3_31) rfl rfl ?_
    show Steps p.tables e below (T83.setTop (mkF m 32 #[rv a1, .val (.long q1), .second, iv p3] [(.double (FP.l2d q1)), (.double (own_sh gs (bn + q1) (bm + p3.toInt64) lm (own_ex l0 l1 l2))), (.double ea), (.ref a1)])) target
    refine XS.dmulS X83.here hx rfl (hb hby d3_32) rfl fs.noNaN rfl ?_
    show Steps p.tables e below (T83.setTop (mkF m 33 #[rv a1, .val (.long q1), .second, iv p3] [(.double (FP.dmul (own_sh gs (bn + q1) (bm + p3.toInt64) lm (own_ex l0 l1 l2)) (FP.l2d q1))), (.double ea), (.ref a1)])) target
    refine XS.daddS X83.here hx rfl (hb hby d3_33) rfl (dadd_out hea.noNaN fs) rfl ?_
    show Steps p.tables e below (T83.setTop (mkF m 34 #[rv a1, .val (.long q1), .second, iv p3] [(.double (FP.dadd ea (FP.dmul (own_sh gs (bn + q1) (bm + p3.toInt64) lm (own_ex l0 l1 l2)) (FP.l2d q1)))), (.ref a1)])) target
    exact kt
  obtain ⟨T86, h86, X86, e86, W86, st86⟩ := putF X83 hx hZ hown (host := "") (Or.inl (hw _ (List.mem_of_getElem? (i := 24) rfl))) Via.refl eq83 f77_earnedNanos E77 (Or.inl (hw _ (List.mem_of_getElem? (i := 25) rfl))) (hw _ (List.mem_of_getElem? (i := 5) rfl)) (ty := .double) (by decide) rfl rfl (g := (mkF m 34 #[rv a1, .val (.long q1), .second, iv p3] [(.double (FP.dadd ea (FP.dmul (own_sh gs (bn + q1) (bm + p3.toInt64) lm (own_ex l0 l1 l2)) (FP.l2d q1)))), (.ref a1)])) rfl rfl (hb hby d3_34)
  have g87 : own_Go p e below s₁ (entryFrame m #[(.ref a1), (.long q1), (.int p3)] 4) T86 (mkF m 37 #[rv a1, .val (.long q1), .second, iv p3] []) := fun target kt => g85 target (st86 target kt)
  have N86 := Fr.snoc X86 N83 ga
  have f86_growingShare := (f77_growingShare.other W86 (Or.inr (slot_ne (a0 := a0) (Or.inl (hw _ (List.mem_of_getElem? (i := 14) rfl))) (Or.inl (hw _ (List.mem_of_getElem? (i := 25) rfl))) (by decide) (t := .double) (t' := .double) (by decide) (by decide))))
  have f86_backwardNanos := (f77_backwardNanos.other W86 (Or.inr (slot_ne (a0 := a0) (Or.inl (hw _ (List.mem_of_getElem? (i := 21) rfl))) (Or.inl (hw _ (List.mem_of_getElem? (i := 25) rfl))) (by decide) (t := .long) (t' := .double) (by decide) (by decide))))
  have f86_backwardMoves := (f77_backwardMoves.other W86 (Or.inr (slot_ne (a0 := a0) (Or.inl (hw _ (List.mem_of_getElem? (i := 23) rfl))) (Or.inl (hw _ (List.mem_of_getElem? (i := 25) rfl))) (by decide) (t := .long) (t' := .double) (by decide) (by decide))))
  have f86_earnedNanos := f77_earnedNanos.same W86
  have f86_layerMoves := (f77_layerMoves.other W86 (Or.inr (slot_ne (a0 := a0) (Or.inl (hw _ (List.mem_of_getElem? (i := 31) rfl))) (Or.inl (hw _ (List.mem_of_getElem? (i := 25) rfl))) (by decide) (t := .int) (t' := .double) (by decide) (by decide))))
  have f86_lastLayerNanos := (f77_lastLayerNanos.other W86 (Or.inr (slot_ne (a0 := a0) (Or.inl (hw _ (List.mem_of_getElem? (i := 42) rfl))) (Or.inl (hw _ (List.mem_of_getElem? (i := 25) rfl))) (by decide) (t := .long) (t' := .double) (by decide) (by decide))))
  have f86_layerBeforeNanos := (f77_layerBeforeNanos.other W86 (Or.inr (slot_ne (a0 := a0) (Or.inl (hw _ (List.mem_of_getElem? (i := 38) rfl))) (Or.inl (hw _ (List.mem_of_getElem? (i := 25) rfl))) (by decide) (t := .long) (t' := .double) (by decide) (by decide))))
  have f86_layerBeforeThatNanos := (f77_layerBeforeThatNanos.other W86 (Or.inr (slot_ne (a0 := a0) (Or.inl (hw _ (List.mem_of_getElem? (i := 40) rfl))) (Or.inl (hw _ (List.mem_of_getElem? (i := 25) rfl))) (by decide) (t := .long) (t' := .double) (by decide) (by decide))))
  have E86 := E77.wr W86
  have K86 := K77.wr W86 (Or.inl (List.mem_of_getElem? (i := 0) rfl))
  obtain ⟨fs, hr, hrun, hended, hW, hsame⟩ := X86.leave (v := none) (fun _ => rfl)
  refine ⟨_, _, g87 _ ?_, hrun, hended, _, _, rfl, ?_, ⟨_, rfl⟩, hW, hsame.mono (by decide) (by decide)⟩
  · exact X86.returnOut hx Bd.returns (hb hby d3_37) hr
  · show Q_rmBT Z a1 q1 p3 gs bn bm ea lm l0 l1 l2 h0 n0 _ T86.heap _
    rw [e86]
    exact ⟨rfl, N86, K86, E86, f86_growingShare, f86_backwardNanos, f86_backwardMoves, f86_earnedNanos, f86_layerMoves, f86_lastLayerNanos, f86_layerBeforeNanos, f86_layerBeforeThatNanos⟩
theorem pn_rmFT : plainName "com/example/ends_to_means/endstomeans/solver/ForwardPace" = true := by first | (simp [plainName, overriddenIn]; done) | decide +kernel
theorem ef_rmFT (m : MethodId) (a1 : Addr) (q1 : Int64) (p3 : Int32) : entryFrame m #[(.ref a1), (.long q1), (.int p3)] 4 = mkF m 0 #[rv a1, .val (.long q1), .second, iv p3] [] := by first | (simp [entryFrame, mkF, argsToLocals, Value.category]; done) | rfl
def Q_rmFT (Z : State) (a1 : Addr) (q1 : Int64) (p3 : Int32) (gs : UInt64) (bn bm : Int64) (ea : UInt64) (lm : Int32) (l0 l1 l2 : Int64) (h0 : Heap) (n0 : Nat) (v : Option Value) (h : Heap) (L : List Loc) : Prop := v = none ∧ Fr n0 L ∧ Keep h0 h [a1] ∧ own_P Z h a1 gs bn bm (FP.dsub ea (FP.l2d q1)) p3 q1 l0 l1
set_option maxRecDepth 65536 in
set_option maxHeartbeats 40000000 in
theorem rmFT (l : Launch) (Z : State) (a0 : Array Value) (hw : ∀ d ∈ tables_1, d.before a0 Z = true) (ws : List Jvm.Cond) (a1 : Addr) (q1 : Int64) (p3 : Int32) (gs : UInt64) (bn bm : Int64) (ea : UInt64) (lm : Int32) (l0 l1 l2 : Int64) (h0 : Heap) (n0 : Nat) (Z0 : n0 ≤ h0.size) (P1 : own_P Z h0 a1 gs bn bm ea lm l0 l1 l2) (hea : Fin64 ea) (ga : n0 ≤ a1) :
    MetFree l (⟨"com/example/ends_to_means/endstomeans/solver/ForwardPace", "forwardTook", "(JI)V"⟩ : MethodName) (head1 (Jvm.Cond.code (⟨"com/example/ends_to_means/endstomeans/solver/ForwardPace", "forwardTook", "(JI)V"⟩ : MethodName) prog_128_method_4_code 4 none :: ws) ({ frames := 0, cells := 0, slots := 0, locals := 0 } : Room)) (fun a U => a = #[(.ref a1), (.long q1), (.int p3)] ∧ Z.Warmed39 U.vm ∧ U.heap = h0) (fun _ _ _ _ _ => True) (fun _ U o U' => ∃ v L, o = .returned v ∧ Q_rmFT Z a1 q1 p3 gs bn bm ea lm l0 l1 l2 h0 n0 v U'.heap L ∧ FrameEnd U o U' L ({ frames := 0, cells := 0, slots := 0, locals := 0 } : Room).cells ({ frames := 0, cells := 0, slots := 0, locals := 0 } : Room).slots) := by
  refine MetFree.of_bodySF (plainFor_of_name pn_rmFT) hisR ?_
  intro p e s m args below meth c s₁ Bd hml0 hP hK
  obtain ⟨rfl, hZ, hh⟩ := hP
  have hx := Bd.exec
  have hby := Bd.bytes
  have hml : c.maxLocals = 4 := hml0
  have hown : s.vm.findClass "com/example/ends_to_means/endstomeans/solver/ForwardPace" = some m.cls := findClass_of_methodNamed Bd.named
  have hnm := (name_of_methodNamed Bd.named Bd.method).1
  have X0 : Stand p l e ({ frames := 0, cells := 0, slots := 0, locals := 0 } : Room) s m #[(.ref a1), (.long q1), (.int p3)] below meth c s₁ [] 0 0 := Stand.of_body Bd
  have e0 : s₁.heap = h0 := by rw [← hh, Bd.state]; rfl
  have N0 := Fr.nil n0
  have g0 : own_Go p e below s₁ (entryFrame m #[(.ref a1), (.long q1), (.int p3)] 4) s₁ (mkF m 0 #[rv a1, .val (.long q1), .second, iv p3] []) := fun t k => castTop (ef_rmFT m a1 q1 p3) k
  obtain ⟨E0, f0_growingShare, f0_backwardNanos, f0_backwardMoves, f0_earnedNanos, f0_layerMoves, f0_lastLayerNanos, f0_layerBeforeNanos, f0_layerBeforeThatNanos⟩ := id P1
  have g88 : own_Go p e below s₁ (entryFrame m #[(.ref a1), (.long q1), (.int p3)] 4) s₁ (mkF m 2 #[rv a1, .val (.long q1), .second, iv p3] [(.ref a1), (.ref a1)]) := by
    intro target kt
    refine g0 target ?_
    refine XS.aloadN X0.here hx rfl (hb hby d5_0) rfl rfl ?_
    show Steps p.tables e below (s₁.setTop (mkF m 1 #[rv a1, .val (.long q1), .second, iv p3] [(.ref a1)])) target
    refine XS.dup X0.here hx rfl (hb hby d5_1) rfl rfl ?_
    show Steps p.tables e below (s₁.setTop (mkF m 2 #[rv a1, .val (.long q1), .second, iv p3] [(.ref a1), (.ref a1)])) target
    exact kt
  obtain ⟨T89, X89, e89, st89⟩ := getF X0 hx hZ hown (host := "") (Or.inl (hw _ (List.mem_of_getElem? (i := 24) rfl))) Via.refl e0 f0_earnedNanos (g := (mkF m 2 #[rv a1, .val (.long q1), .second, iv p3] [(.ref a1), (.ref a1)])) rfl rfl (hb hby d5_2)
  have g90 : own_Go p e below s₁ (entryFrame m #[(.ref a1), (.long q1), (.int p3)] 4) T89 (mkF m 5 #[rv a1, .val (.long q1), .second, iv p3] [(.double ea), (.ref a1)]) := fun target kt => g88 target (st89 target kt)
  have g91 : own_Go p e below s₁ (entryFrame m #[(.ref a1), (.long q1), (.int p3)] 4) T89 (mkF m 8 #[rv a1, .val (.long q1), .second, iv p3] [(.double (FP.dsub ea (FP.l2d q1))), (.ref a1)]) := by
    intro target kt
    refine g90 target ?_
    refine XT.lloadN X89.here hx rfl (hb hby d5_5) rfl ?_
    show Steps p.tables e below (T89.setTop (mkF m 6 #[rv a1, .val (.long q1), .second, iv p3] [(.long q1), (.double ea), (.ref a1)])) target
    refine XS.l2dS X89.here hx rfl (hb hby d5_6) rfl rfl ?_
    show Steps p.tables e below (T89.setTop (mkF m 7 #[rv a1, .val (.long q1), .second, iv p3] [(.double (FP.l2d q1)), (.double ea), (.ref a1)])) target
    refine XS.dsubS X89.here hx rfl (hb hby d5_7) rfl (dsub_out hea.noNaN (l2d_fin _)) rfl ?_
    show Steps p.tables e below (T89.setTop (mkF m 8 #[rv a1, .val (.long q1), .second, iv p3] [(.double (FP.dsub ea (FP.l2d q1))), (.ref a1)])) target
    exact kt
  obtain ⟨T92, h92, X92, e92, W92, st92⟩ := putF X89 hx hZ hown (host := "") (Or.inl (hw _ (List.mem_of_getElem? (i := 24) rfl))) Via.refl e89 f0_earnedNanos E0 (Or.inl (hw _ (List.mem_of_getElem? (i := 25) rfl))) (hw _ (List.mem_of_getElem? (i := 5) rfl)) (ty := .double) (by decide) rfl rfl (g := (mkF m 8 #[rv a1, .val (.long q1), .second, iv p3] [(.double (FP.dsub ea (FP.l2d q1))), (.ref a1)])) rfl rfl (hb hby d5_8)
  have g93 : own_Go p e below s₁ (entryFrame m #[(.ref a1), (.long q1), (.int p3)] 4) T92 (mkF m 11 #[rv a1, .val (.long q1), .second, iv p3] []) := fun target kt => g91 target (st92 target kt)
  have N92 := Fr.snoc X92 N0 ga
  have f92_growingShare := (f0_growingShare.other W92 (Or.inr (slot_ne (a0 := a0) (Or.inl (hw _ (List.mem_of_getElem? (i := 14) rfl))) (Or.inl (hw _ (List.mem_of_getElem? (i := 25) rfl))) (by decide) (t := .double) (t' := .double) (by decide) (by decide))))
  have f92_backwardNanos := (f0_backwardNanos.other W92 (Or.inr (slot_ne (a0 := a0) (Or.inl (hw _ (List.mem_of_getElem? (i := 21) rfl))) (Or.inl (hw _ (List.mem_of_getElem? (i := 25) rfl))) (by decide) (t := .long) (t' := .double) (by decide) (by decide))))
  have f92_backwardMoves := (f0_backwardMoves.other W92 (Or.inr (slot_ne (a0 := a0) (Or.inl (hw _ (List.mem_of_getElem? (i := 23) rfl))) (Or.inl (hw _ (List.mem_of_getElem? (i := 25) rfl))) (by decide) (t := .long) (t' := .double) (by decide) (by decide))))
  have f92_earnedNanos := f0_earnedNanos.same W92
  have f92_layerMoves := (f0_layerMoves.other W92 (Or.inr (slot_ne (a0 := a0) (Or.inl (hw _ (List.mem_of_getElem? (i := 31) rfl))) (Or.inl (hw _ (List.mem_of_getElem? (i := 25) rfl))) (by decide) (t := .int) (t' := .double) (by decide) (by decide))))
  have f92_lastLayerNanos := (f0_lastLayerNanos.other W92 (Or.inr (slot_ne (a0 := a0) (Or.inl (hw _ (List.mem_of_getElem? (i := 42) rfl))) (Or.inl (hw _ (List.mem_of_getElem? (i := 25) rfl))) (by decide) (t := .long) (t' := .double) (by decide) (by decide))))
  have f92_layerBeforeNanos := (f0_layerBeforeNanos.other W92 (Or.inr (slot_ne (a0 := a0) (Or.inl (hw _ (List.mem_of_getElem? (i := 38) rfl))) (Or.inl (hw _ (List.mem_of_getElem? (i := 25) rfl))) (by decide) (t := .long) (t' := .double) (by decide) (by decide))))
  have f92_layerBeforeThatNanos := (f0_layerBeforeThatNanos.other W92 (Or.inr (slot_ne (a0 := a0) (Or.inl (hw _ (List.mem_of_getElem? (i := 40) rfl))) (Or.inl (hw _ (List.mem_of_getElem? (i := 25) rfl))) (by decide) (t := .long) (t' := .double) (by decide) (by decide))))
  have E92 := E0.wr W92
  have K92 := (Keep.refl h0 [a1]).wr W92 (Or.inl (List.mem_of_getElem? (i := 0) rfl))
  have g94 : own_Go p e below s₁ (entryFrame m #[(.ref a1), (.long q1), (.int p3)] 4) T92 (mkF m 13 #[rv a1, .val (.long q1), .second, iv p3] [(.int p3), (.ref a1)]) := by
    intro target kt
    refine g93 target ?_
    refine XS.aloadN X92.here hx rfl (hb hby d5_11) rfl rfl ?_
    show Steps p.tables e below (T92.setTop (mkF m 12 #[rv a1, .val (.long q1), .second, iv p3] [(.ref a1)])) target
    refine XS.iloadN X92.here hx rfl (hb hby d5_12) rfl ?_
    show Steps p.tables e below (T92.setTop (mkF m 13 #[rv a1, .val (.long q1), .second, iv p3] [(.int p3), (.ref a1)])) target
    exact kt
  obtain ⟨T95, h95, X95, e95, W95, st95⟩ := putF X92 hx hZ hown (host := "") (Or.inl (hw _ (List.mem_of_getElem? (i := 30) rfl))) Via.refl e92 f92_layerMoves E92 (Or.inl (hw _ (List.mem_of_getElem? (i := 31) rfl))) (hw _ (List.mem_of_getElem? (i := 5) rfl)) (ty := .int) (by decide) rfl rfl (g := (mkF m 13 #[rv a1, .val (.long q1), .second, iv p3] [(.int p3), (.ref a1)])) rfl rfl (hb hby d5_13)
  have g96 : own_Go p e below s₁ (entryFrame m #[(.ref a1), (.long q1), (.int p3)] 4) T95 (mkF m 16 #[rv a1, .val (.long q1), .second, iv p3] []) := fun target kt => g94 target (st95 target kt)
  have N95 := Fr.snoc X95 N92 ga
  have f95_growingShare := (f92_growingShare.other W95 (Or.inr (slot_ne (a0 := a0) (Or.inl (hw _ (List.mem_of_getElem? (i := 14) rfl))) (Or.inl (hw _ (List.mem_of_getElem? (i := 31) rfl))) (by decide) (t := .double) (t' := .int) (by decide) (by decide))))
  have f95_backwardNanos := (f92_backwardNanos.other W95 (Or.inr (slot_ne (a0 := a0) (Or.inl (hw _ (List.mem_of_getElem? (i := 21) rfl))) (Or.inl (hw _ (List.mem_of_getElem? (i := 31) rfl))) (by decide) (t := .long) (t' := .int) (by decide) (by decide))))
  have f95_backwardMoves := (f92_backwardMoves.other W95 (Or.inr (slot_ne (a0 := a0) (Or.inl (hw _ (List.mem_of_getElem? (i := 23) rfl))) (Or.inl (hw _ (List.mem_of_getElem? (i := 31) rfl))) (by decide) (t := .long) (t' := .int) (by decide) (by decide))))
  have f95_earnedNanos := (f92_earnedNanos.other W95 (Or.inr (slot_ne (a0 := a0) (Or.inl (hw _ (List.mem_of_getElem? (i := 25) rfl))) (Or.inl (hw _ (List.mem_of_getElem? (i := 31) rfl))) (by decide) (t := .double) (t' := .int) (by decide) (by decide))))
  have f95_layerMoves := f92_layerMoves.same W95
  have f95_lastLayerNanos := (f92_lastLayerNanos.other W95 (Or.inr (slot_ne (a0 := a0) (Or.inl (hw _ (List.mem_of_getElem? (i := 42) rfl))) (Or.inl (hw _ (List.mem_of_getElem? (i := 31) rfl))) (by decide) (t := .long) (t' := .int) (by decide) (by decide))))
  have f95_layerBeforeNanos := (f92_layerBeforeNanos.other W95 (Or.inr (slot_ne (a0 := a0) (Or.inl (hw _ (List.mem_of_getElem? (i := 38) rfl))) (Or.inl (hw _ (List.mem_of_getElem? (i := 31) rfl))) (by decide) (t := .long) (t' := .int) (by decide) (by decide))))
  have f95_layerBeforeThatNanos := (f92_layerBeforeThatNanos.other W95 (Or.inr (slot_ne (a0 := a0) (Or.inl (hw _ (List.mem_of_getElem? (i := 40) rfl))) (Or.inl (hw _ (List.mem_of_getElem? (i := 31) rfl))) (by decide) (t := .long) (t' := .int) (by decide) (by decide))))
  have E95 := E92.wr W95
  have K95 := K92.wr W95 (Or.inl (List.mem_of_getElem? (i := 0) rfl))
  have g97 : own_Go p e below s₁ (entryFrame m #[(.ref a1), (.long q1), (.int p3)] 4) T95 (mkF m 18 #[rv a1, .val (.long q1), .second, iv p3] [(.ref a1), (.ref a1)]) := by
    intro target kt
    refine g96 target ?_
    refine XS.aloadN X95.here hx rfl (hb hby d5_16) rfl rfl ?_
    show Steps p.tables e below (T95.setTop (mkF m 17 #[rv a1, .val (.long q1), .second, iv p3] [(.ref a1)])) target
    refine XS.aloadN X95.here hx rfl (hb hby d5_17) rfl rfl ?_
    show Steps p.tables e below (T95.setTop (mkF m 18 #[rv a1, .val (.long q1), .second, iv p3] [(.ref a1), (.ref a1)])) target
    exact kt
  obtain ⟨T98, X98, e98, st98⟩ := getF X95 hx hZ hown (host := "") (Or.inl (hw _ (List.mem_of_getElem? (i := 37) rfl))) Via.refl e95 f95_layerBeforeNanos (g := (mkF m 18 #[rv a1, .val (.long q1), .second, iv p3] [(.ref a1), (.ref a1)])) rfl rfl (hb hby d5_18)
  have g99 : own_Go p e below s₁ (entryFrame m #[(.ref a1), (.long q1), (.int p3)] 4) T98 (mkF m 21 #[rv a1, .val (.long q1), .second, iv p3] [(.long l1), (.ref a1)]) := fun target kt => g97 target (st98 target kt)
  obtain ⟨T100, h100, X100, e100, W100, st100⟩ := putF X98 hx hZ hown (host := "") (Or.inl (hw _ (List.mem_of_getElem? (i := 39) rfl))) Via.refl e98 f95_layerBeforeThatNanos E95 (Or.inl (hw _ (List.mem_of_getElem? (i := 40) rfl))) (hw _ (List.mem_of_getElem? (i := 5) rfl)) (ty := .long) (by decide) rfl rfl (g := (mkF m 21 #[rv a1, .val (.long q1), .second, iv p3] [(.long l1), (.ref a1)])) rfl rfl (hb hby d5_21)
  have g101 : own_Go p e below s₁ (entryFrame m #[(.ref a1), (.long q1), (.int p3)] 4) T100 (mkF m 24 #[rv a1, .val (.long q1), .second, iv p3] []) := fun target kt => g99 target (st100 target kt)
  have N100 := Fr.snoc X100 N95 ga
  have f100_growingShare := (f95_growingShare.other W100 (Or.inr (slot_ne (a0 := a0) (Or.inl (hw _ (List.mem_of_getElem? (i := 14) rfl))) (Or.inl (hw _ (List.mem_of_getElem? (i := 40) rfl))) (by decide) (t := .double) (t' := .long) (by decide) (by decide))))
  have f100_backwardNanos := (f95_backwardNanos.other W100 (Or.inr (slot_ne (a0 := a0) (Or.inl (hw _ (List.mem_of_getElem? (i := 21) rfl))) (Or.inl (hw _ (List.mem_of_getElem? (i := 40) rfl))) (by decide) (t := .long) (t' := .long) (by decide) (by decide))))
  have f100_backwardMoves := (f95_backwardMoves.other W100 (Or.inr (slot_ne (a0 := a0) (Or.inl (hw _ (List.mem_of_getElem? (i := 23) rfl))) (Or.inl (hw _ (List.mem_of_getElem? (i := 40) rfl))) (by decide) (t := .long) (t' := .long) (by decide) (by decide))))
  have f100_earnedNanos := (f95_earnedNanos.other W100 (Or.inr (slot_ne (a0 := a0) (Or.inl (hw _ (List.mem_of_getElem? (i := 25) rfl))) (Or.inl (hw _ (List.mem_of_getElem? (i := 40) rfl))) (by decide) (t := .double) (t' := .long) (by decide) (by decide))))
  have f100_layerMoves := (f95_layerMoves.other W100 (Or.inr (slot_ne (a0 := a0) (Or.inl (hw _ (List.mem_of_getElem? (i := 31) rfl))) (Or.inl (hw _ (List.mem_of_getElem? (i := 40) rfl))) (by decide) (t := .int) (t' := .long) (by decide) (by decide))))
  have f100_lastLayerNanos := (f95_lastLayerNanos.other W100 (Or.inr (slot_ne (a0 := a0) (Or.inl (hw _ (List.mem_of_getElem? (i := 42) rfl))) (Or.inl (hw _ (List.mem_of_getElem? (i := 40) rfl))) (by decide) (t := .long) (t' := .long) (by decide) (by decide))))
  have f100_layerBeforeNanos := (f95_layerBeforeNanos.other W100 (Or.inr (slot_ne (a0 := a0) (Or.inl (hw _ (List.mem_of_getElem? (i := 38) rfl))) (Or.inl (hw _ (List.mem_of_getElem? (i := 40) rfl))) (by decide) (t := .long) (t' := .long) (by decide) (by decide))))
  have f100_layerBeforeThatNanos := f95_layerBeforeThatNanos.same W100
  have E100 := E95.wr W100
  have K100 := K95.wr W100 (Or.inl (List.mem_of_getElem? (i := 0) rfl))
  have g102 : own_Go p e below s₁ (entryFrame m #[(.ref a1), (.long q1), (.int p3)] 4) T100 (mkF m 26 #[rv a1, .val (.long q1), .second, iv p3] [(.ref a1), (.ref a1)]) := by
    intro target kt
    refine g101 target ?_
    refine XS.aloadN X100.here hx rfl (hb hby d5_24) rfl rfl ?_
    show Steps p.tables e below (T100.setTop (mkF m 25 #[rv a1, .val (.long q1), .second, iv p3] [(.ref a1)])) target
    refine XS.aloadN X100.here hx rfl (hb hby d5_25) rfl rfl ?_
    show Steps p.tables e below (T100.setTop (mkF m 26 #[rv a1, .val (.long q1), .second, iv p3] [(.ref a1), (.ref a1)])) target
    exact kt
  obtain ⟨T103, X103, e103, st103⟩ := getF X100 hx hZ hown (host := "") (Or.inl (hw _ (List.mem_of_getElem? (i := 41) rfl))) Via.refl e100 f100_lastLayerNanos (g := (mkF m 26 #[rv a1, .val (.long q1), .second, iv p3] [(.ref a1), (.ref a1)])) rfl rfl (hb hby d5_26)
  have g104 : own_Go p e below s₁ (entryFrame m #[(.ref a1), (.long q1), (.int p3)] 4) T103 (mkF m 29 #[rv a1, .val (.long q1), .second, iv p3] [(.long l0), (.ref a1)]) := fun target kt => g102 target (st103 target kt)
  obtain ⟨T105, h105, X105, e105, W105, st105⟩ := putF X103 hx hZ hown (host := "") (Or.inl (hw _ (List.mem_of_getElem? (i := 37) rfl))) Via.refl e103 f100_layerBeforeNanos E100 (Or.inl (hw _ (List.mem_of_getElem? (i := 38) rfl))) (hw _ (List.mem_of_getElem? (i := 5) rfl)) (ty := .long) (by decide) rfl rfl (g := (mkF m 29 #[rv a1, .val (.long q1), .second, iv p3] [(.long l0), (.ref a1)])) rfl rfl (hb hby d5_29)
  have g106 : own_Go p e below s₁ (entryFrame m #[(.ref a1), (.long q1), (.int p3)] 4) T105 (mkF m 32 #[rv a1, .val (.long q1), .second, iv p3] []) := fun target kt => g104 target (st105 target kt)
  have N105 := Fr.snoc X105 N100 ga
  have f105_growingShare := (f100_growingShare.other W105 (Or.inr (slot_ne (a0 := a0) (Or.inl (hw _ (List.mem_of_getElem? (i := 14) rfl))) (Or.inl (hw _ (List.mem_of_getElem? (i := 38) rfl))) (by decide) (t := .double) (t' := .long) (by decide) (by decide))))
  have f105_backwardNanos := (f100_backwardNanos.other W105 (Or.inr (slot_ne (a0 := a0) (Or.inl (hw _ (List.mem_of_getElem? (i := 21) rfl))) (Or.inl (hw _ (List.mem_of_getElem? (i := 38) rfl))) (by decide) (t := .long) (t' := .long) (by decide) (by decide))))
  have f105_backwardMoves := (f100_backwardMoves.other W105 (Or.inr (slot_ne (a0 := a0) (Or.inl (hw _ (List.mem_of_getElem? (i := 23) rfl))) (Or.inl (hw _ (List.mem_of_getElem? (i := 38) rfl))) (by decide) (t := .long) (t' := .long) (by decide) (by decide))))
  have f105_earnedNanos := (f100_earnedNanos.other W105 (Or.inr (slot_ne (a0 := a0) (Or.inl (hw _ (List.mem_of_getElem? (i := 25) rfl))) (Or.inl (hw _ (List.mem_of_getElem? (i := 38) rfl))) (by decide) (t := .double) (t' := .long) (by decide) (by decide))))
  have f105_layerMoves := (f100_layerMoves.other W105 (Or.inr (slot_ne (a0 := a0) (Or.inl (hw _ (List.mem_of_getElem? (i := 31) rfl))) (Or.inl (hw _ (List.mem_of_getElem? (i := 38) rfl))) (by decide) (t := .int) (t' := .long) (by decide) (by decide))))
  have f105_lastLayerNanos := (f100_lastLayerNanos.other W105 (Or.inr (slot_ne (a0 := a0) (Or.inl (hw _ (List.mem_of_getElem? (i := 42) rfl))) (Or.inl (hw _ (List.mem_of_getElem? (i := 38) rfl))) (by decide) (t := .long) (t' := .long) (by decide) (by decide))))
  have f105_layerBeforeNanos := f100_layerBeforeNanos.same W105
  have f105_layerBeforeThatNanos := (f100_layerBeforeThatNanos.other W105 (Or.inr (slot_ne (a0 := a0) (Or.inl (hw _ (List.mem_of_getElem? (i := 40) rfl))) (Or.inl (hw _ (List.mem_of_getElem? (i := 38) rfl))) (by decide) (t := .long) (t' := .long) (by decide) (by decide))))
  have E105 := E100.wr W105
  have K105 := K100.wr W105 (Or.inl (List.mem_of_getElem? (i := 0) rfl))
  have g107 : own_Go p e below s₁ (entryFrame m #[(.ref a1), (.long q1), (.int p3)] 4) T105 (mkF m 34 #[rv a1, .val (.long q1), .second, iv p3] [(.long q1), (.ref a1)]) := by
    intro target kt
    refine g106 target ?_
    refine XS.aloadN X105.here hx rfl (hb hby d5_32) rfl rfl ?_
    show Steps p.tables e below (T105.setTop (mkF m 33 #[rv a1, .val (.long q1), .second, iv p3] [(.ref a1)])) target
    refine XT.lloadN X105.here hx rfl (hb hby d5_33) rfl ?_
    show Steps p.tables e below (T105.setTop (mkF m 34 #[rv a1, .val (.long q1), .second, iv p3] [(.long q1), (.ref a1)])) target
    exact kt
  obtain ⟨T108, h108, X108, e108, W108, st108⟩ := putF X105 hx hZ hown (host := "") (Or.inl (hw _ (List.mem_of_getElem? (i := 41) rfl))) Via.refl e105 f105_lastLayerNanos E105 (Or.inl (hw _ (List.mem_of_getElem? (i := 42) rfl))) (hw _ (List.mem_of_getElem? (i := 5) rfl)) (ty := .long) (by decide) rfl rfl (g := (mkF m 34 #[rv a1, .val (.long q1), .second, iv p3] [(.long q1), (.ref a1)])) rfl rfl (hb hby d5_34)
  have g109 : own_Go p e below s₁ (entryFrame m #[(.ref a1), (.long q1), (.int p3)] 4) T108 (mkF m 37 #[rv a1, .val (.long q1), .second, iv p3] []) := fun target kt => g107 target (st108 target kt)
  have N108 := Fr.snoc X108 N105 ga
  have f108_growingShare := (f105_growingShare.other W108 (Or.inr (slot_ne (a0 := a0) (Or.inl (hw _ (List.mem_of_getElem? (i := 14) rfl))) (Or.inl (hw _ (List.mem_of_getElem? (i := 42) rfl))) (by decide) (t := .double) (t' := .long) (by decide) (by decide))))
  have f108_backwardNanos := (f105_backwardNanos.other W108 (Or.inr (slot_ne (a0 := a0) (Or.inl (hw _ (List.mem_of_getElem? (i := 21) rfl))) (Or.inl (hw _ (List.mem_of_getElem? (i := 42) rfl))) (by decide) (t := .long) (t' := .long) (by decide) (by decide))))
  have f108_backwardMoves := (f105_backwardMoves.other W108 (Or.inr (slot_ne (a0 := a0) (Or.inl (hw _ (List.mem_of_getElem? (i := 23) rfl))) (Or.inl (hw _ (List.mem_of_getElem? (i := 42) rfl))) (by decide) (t := .long) (t' := .long) (by decide) (by decide))))
  have f108_earnedNanos := (f105_earnedNanos.other W108 (Or.inr (slot_ne (a0 := a0) (Or.inl (hw _ (List.mem_of_getElem? (i := 25) rfl))) (Or.inl (hw _ (List.mem_of_getElem? (i := 42) rfl))) (by decide) (t := .double) (t' := .long) (by decide) (by decide))))
  have f108_layerMoves := (f105_layerMoves.other W108 (Or.inr (slot_ne (a0 := a0) (Or.inl (hw _ (List.mem_of_getElem? (i := 31) rfl))) (Or.inl (hw _ (List.mem_of_getElem? (i := 42) rfl))) (by decide) (t := .int) (t' := .long) (by decide) (by decide))))
  have f108_lastLayerNanos := f105_lastLayerNanos.same W108
  have f108_layerBeforeNanos := (f105_layerBeforeNanos.other W108 (Or.inr (slot_ne (a0 := a0) (Or.inl (hw _ (List.mem_of_getElem? (i := 38) rfl))) (Or.inl (hw _ (List.mem_of_getElem? (i := 42) rfl))) (by decide) (t := .long) (t' := .long) (by decide) (by decide))))
  have f108_layerBeforeThatNanos := (f105_layerBeforeThatNanos.other W108 (Or.inr (slot_ne (a0 := a0) (Or.inl (hw _ (List.mem_of_getElem? (i := 40) rfl))) (Or.inl (hw _ (List.mem_of_getElem? (i := 42) rfl))) (by decide) (t := .long) (t' := .long) (by decide) (by decide))))
  have E108 := E105.wr W108
  have K108 := K105.wr W108 (Or.inl (List.mem_of_getElem? (i := 0) rfl))
  obtain ⟨fs, hr, hrun, hended, hW, hsame⟩ := X108.leave (v := none) (fun _ => rfl)
  refine ⟨_, _, g109 _ ?_, hrun, hended, _, _, rfl, ?_, ⟨_, rfl⟩, hW, hsame.mono (by decide) (by decide)⟩
  · exact X108.returnOut hx Bd.returns (hb hby d5_37) hr
  · show Q_rmFT Z a1 q1 p3 gs bn bm ea lm l0 l1 l2 h0 n0 _ T108.heap _
    rw [e108]
    exact ⟨rfl, N108, K108, E108, f108_growingShare, f108_backwardNanos, f108_backwardMoves, f108_earnedNanos, f108_layerMoves, f108_lastLayerNanos, f108_layerBeforeNanos, f108_layerBeforeThatNanos⟩
theorem pn_rmMA : plainName "com/example/ends_to_means/endstomeans/solver/ForwardPace" = true := by first | (simp [plainName, overriddenIn]; done) | decide +kernel
theorem ef_rmMA (m : MethodId) (a1 : Addr) : entryFrame m #[(.ref a1)] 1 = mkF m 0 #[rv a1] [] := by first | (simp [entryFrame, mkF, argsToLocals, Value.category]; done) | rfl
def Q_rmMA (Z : State) (a1 : Addr) (gs : UInt64) (bn bm : Int64) (ea : UInt64) (lm : Int32) (l0 l1 l2 : Int64) (h0 : Heap) (n0 : Nat) (v : Option Value) (h : Heap) (L : List Loc) : Prop := v = some (.int (own_ma (own_ex l0 l1 l2) ea)) ∧ Fr n0 L ∧ h = h0
set_option maxRecDepth 65536 in
set_option maxHeartbeats 40000000 in
theorem rmMA (l : Launch) (Z : State) (a0 : Array Value) (hw : ∀ d ∈ tables_1, d.before a0 Z = true) (ws : List Jvm.Cond) (a1 : Addr) (gs : UInt64) (bn bm : Int64) (ea : UInt64) (lm : Int32) (l0 l1 l2 : Int64) (h0 : Heap) (n0 : Nat) (Z0 : n0 ≤ h0.size) (P1 : own_P Z h0 a1 gs bn bm ea lm l0 l1 l2) :
    MetFree l (⟨"com/example/ends_to_means/endstomeans/solver/ForwardPace", "mayAddLayer", "()Z"⟩ : MethodName) (head1 (Jvm.Cond.code (⟨"com/example/ends_to_means/endstomeans/solver/ForwardPace", "mayAddLayer", "()Z"⟩ : MethodName) prog_128_method_5_code 1 (some .boolean) :: ws) ({ frames := 2, cells := 0, slots := 0, locals := 36 } : Room)) (fun a U => a = #[(.ref a1)] ∧ Z.Warmed39 U.vm ∧ U.heap = h0) (fun _ _ _ _ _ => True) (fun _ U o U' => ∃ v L, o = .returned v ∧ Q_rmMA Z a1 gs bn bm ea lm l0 l1 l2 h0 n0 v U'.heap L ∧ FrameEnd U o U' L ({ frames := 2, cells := 0, slots := 0, locals := 36 } : Room).cells ({ frames := 2, cells := 0, slots := 0, locals := 36 } : Room).slots) := by
  refine MetFree.of_bodySF (plainFor_of_name pn_rmMA) hisR ?_
  intro p e s m args below meth c s₁ Bd hml0 hP hK
  obtain ⟨rfl, hZ, hh⟩ := hP
  have hx := Bd.exec
  have hby := Bd.bytes
  have hml : c.maxLocals = 1 := hml0
  have hown : s.vm.findClass "com/example/ends_to_means/endstomeans/solver/ForwardPace" = some m.cls := findClass_of_methodNamed Bd.named
  have hnm := (name_of_methodNamed Bd.named Bd.method).1
  have X0 : Stand p l e ({ frames := 2, cells := 0, slots := 0, locals := 36 } : Room) s m #[(.ref a1)] below meth c s₁ [] 0 0 := Stand.of_body Bd
  have e0 : s₁.heap = h0 := by rw [← hh, Bd.state]; rfl
  have N0 := Fr.nil n0
  have g0 : own_Go p e below s₁ (entryFrame m #[(.ref a1)] 1) s₁ (mkF m 0 #[rv a1] []) := fun t k => castTop (ef_rmMA m a1) k
  obtain ⟨E0, f0_growingShare, f0_backwardNanos, f0_backwardMoves, f0_earnedNanos, f0_layerMoves, f0_lastLayerNanos, f0_layerBeforeNanos, f0_layerBeforeThatNanos⟩ := id P1
  have g110 : own_Go p e below s₁ (entryFrame m #[(.ref a1)] 1) s₁ (mkF m 1 #[rv a1] [(.ref a1)]) := by
    intro target kt
    refine g0 target ?_
    refine XS.aloadN X0.here hx rfl (hb hby d6_0) rfl rfl ?_
    show Steps p.tables e below (s₁.setTop (mkF m 1 #[rv a1] [(.ref a1)])) target
    exact kt
  obtain ⟨cq111, q111, q111'⟩ := E0.cell
  obtain ⟨_, _, ⟨T111, L111, k111, n111⟩, -, X111, ⟨Lc111, hQ111, l111, y111, z111⟩, st111⟩ := X0.privateBack hx (y := (⟨"com/example/ends_to_means/endstomeans/solver/ForwardPace", "expectedLayerNanos", "()D"⟩ : MethodName)) hown (mvT hZ (hw _ (List.mem_of_getElem? (i := 48) rfl))) (mvT hZ (hw _ (List.mem_of_getElem? (i := 49) rfl))) (own_selfsel (y := (⟨"com/example/ends_to_means/endstomeans/solver/ForwardPace", "expectedLayerNanos", "()D"⟩ : MethodName)) hZ (hw _ (List.mem_of_getElem? (i := 5) rfl)) (hw _ (List.mem_of_getElem? (i := 50) rfl)) (hw _ (List.mem_of_getElem? (i := 49) rfl)) (by decide)) (Cond.privateMethod_at (mvP hZ (hw _ (List.mem_of_getElem? (i := 50) rfl)) (args := #[]))) (mvT hZ (hw _ (List.mem_of_getElem? (i := 51) rfl))) (by decide) (backOf (W := 0) (rmEx l Z a0 hw [] a1 gs bn bm ea lm l0 l1 l2 h0 n0 Z0 P1) hZ (hw _ (List.mem_of_getElem? (i := 51) rfl)) (hw _ (List.mem_of_getElem? (i := 6) rfl)) (by decide) (by decide)) (g := (mkF m 1 #[rv a1] [(.ref a1)])) rfl (by rw [hml]; rfl) (Steps.refl _) (a := a1) (by rw [e0]; exact q111) q111' (argsL := []) (rest := []) (lenOf pd_2 rfl) rfl (by show 2 * 0 + _ ≤ _; exact Nat.le_of_eq rfl) (hb hby d6_1) (fun _ _ => ⟨rfl, e0, (by decide : 0 + 0 ≤ _), (by decide : 0 + 0 ≤ _)⟩)
  dsimp only [Pt.U, Pt.locs, Pt.cells, Pt.slots] at X111 l111 y111 z111 st111 hQ111
  subst l111 y111 z111
  obtain ⟨rfl, Nq111, eq111⟩ := hQ111
  have N111 := Fr.app N0 Nq111
  have g112 : own_Go p e below s₁ (entryFrame m #[(.ref a1)] 1) T111 (mkF m 4 #[rv a1] [(.double (own_ex l0 l1 l2))]) := fun target kt => g110 target (st111.trans kt)
  have g113 : own_Go p e below s₁ (entryFrame m #[(.ref a1)] 1) T111 (mkF m 5 #[rv a1] [(.ref a1), (.double (own_ex l0 l1 l2))]) := by
    intro target kt
    refine g112 target ?_
    refine XS.aloadN X111.here hx rfl (hb hby d6_4) rfl rfl ?_
    show Steps p.tables e below (T111.setTop (mkF m 5 #[rv a1] [(.ref a1), (.double (own_ex l0 l1 l2))])) target
    exact kt
  obtain ⟨T114, X114, e114, st114⟩ := getF X111 hx hZ hown (host := "") (Or.inl (hw _ (List.mem_of_getElem? (i := 24) rfl))) Via.refl eq111 f0_earnedNanos (g := (mkF m 5 #[rv a1] [(.ref a1), (.double (own_ex l0 l1 l2))])) rfl rfl (hb hby d6_5)
  have g115 : own_Go p e below s₁ (entryFrame m #[(.ref a1)] 1) T114 (mkF m 8 #[rv a1] [(.double ea), (.double (own_ex l0 l1 l2))]) := fun target kt => g113 target (st114 target kt)
  obtain ⟨rr, hm120, g120⟩ : ∃ (rr : Int32), (rr = (if 0 < (cmpValue (FP.dcmp (own_ex l0 l1 l2) ea) .g) then (0 : Int32) else (1 : Int32))) ∧ own_Go p e below s₁ (entryFrame m #[(.ref a1)] 1) T114 (mkF m 17 #[rv a1] [(.int rr)]) := by
    have g116 : own_Go p e below s₁ (entryFrame m #[(.ref a1)] 1) T114 (mkF m 9 #[rv a1] [(.int (cmpValue (FP.dcmp (own_ex l0 l1 l2) ea) .g))]) := by
      intro target kt
      refine g115 target ?_
      refine XS.dcmpS X114.here hx rfl (hb hby d6_8) rfl rfl ?_
      show Steps p.tables e below (T114.setTop (mkF m 9 #[rv a1] [(.int (cmpValue (FP.dcmp (own_ex l0 l1 l2) ea) .g))])) target
      exact kt
    by_cases hc117 : 0 < (cmpValue (FP.dcmp (own_ex l0 l1 l2) ea) .g)
    · have g118 : own_Go p e below s₁ (entryFrame m #[(.ref a1)] 1) T114 (mkF m 17 #[rv a1] [(.int (0 : Int32))]) := by
        intro target kt
        refine g116 target ?_
        refine XS.ifYes X114.here hx rfl (pc0 := 9) (pc' := 16) rfl (hb hby d6_9) rfl (XT.i0_gt_t hc117) (by decide) (by decide) ?_
        show Steps p.tables e below (T114.setTop (mkF m 16 #[rv a1] [])) target
        refine XT.iconstV X114.here hx rfl (0 : Int32) (hb hby d6_16) rfl ?_
        show Steps p.tables e below (T114.setTop (mkF m 17 #[rv a1] [(.int (0 : Int32))])) target
        exact kt
      exact ⟨(0 : Int32), (by simp only [if_pos hc117]), g118⟩
    · have g119 : own_Go p e below s₁ (entryFrame m #[(.ref a1)] 1) T114 (mkF m 17 #[rv a1] [(.int (1 : Int32))]) := by
        intro target kt
        refine g116 target ?_
        refine XS.ifNo X114.here hx rfl (hb hby d6_9) rfl (XT.i0_gt_f hc117) ?_
        show Steps p.tables e below (T114.setTop (mkF m 12 #[rv a1] [])) target
        refine XT.iconstV X114.here hx rfl (1 : Int32) (hb hby d6_12) rfl ?_
        show Steps p.tables e below (T114.setTop (mkF m 13 #[rv a1] [(.int (1 : Int32))])) target
        refine XS.goto X114.here hx rfl (pc0 := 13) (pc' := 17) rfl (hb hby d6_13) (by decide) (by decide) ?_
        show Steps p.tables e below (T114.setTop (mkF m 17 #[rv a1] [(.int (1 : Int32))])) target
        exact kt
      exact ⟨(1 : Int32), (by simp only [if_neg hc117]), g119⟩
  have hv : nar .boolean rr = own_ma (own_ex l0 l1 l2) ea := by rw [hm120]; exact own_man _ _
  obtain ⟨fs, hr, hrun, hended, hW, hsame⟩ := X114.leave (v := some (.int (nar .boolean rr))) (fun h => by rw [Bd.returns] at h; cases h)
  refine ⟨_, _, g120 _ ?_, hrun, hended, _, _, rfl, ?_, ⟨_, rfl⟩, hW, hsame.mono (by decide) (by decide)⟩
  · exact retN X114 hx (t := .boolean) Bd.returns (by simp) (hb hby d6_17) hr
  · show Q_rmMA Z a1 gs bn bm ea lm l0 l1 l2 h0 n0 _ T114.heap _
    rw [e114]
    exact ⟨by rw [hv], N111, rfl⟩
theorem pn_rm0 : plainName "com/example/ends_to_means/endstomeans/solver/ForwardPaceForwardTookPinLaw" = true := by first | (simp [plainName, overriddenIn]; done) | decide +kernel
theorem ef_rm0 (m : MethodId) (q0 : Int64) (q1 : Int64) (q2 : Int64) (q3 : Int64) (p4 : Int32) (p5 : Int32) : entryFrame m #[(.long q0), (.long q1), (.long q2), (.long q3), (.int p4), (.int p5)] maxLocals = mkF m 0 #[.val (.long q0), .second, .val (.long q1), .second, .val (.long q2), .second, .val (.long q3), .second, iv p4, iv p5, .unset, .unset, .unset, .unset, .unset, .unset, .unset, .unset, .unset, .unset, .unset, .unset, .unset, .unset, .unset, .unset, .unset, .unset, .unset, .unset, .unset, .unset, .unset, .unset, .unset, .unset, .unset, .unset, .unset] [] := by first | (simp [entryFrame, mkF, argsToLocals, Value.category, maxLocals]; done) | rfl
def Q_rm0 (Z : State) (q0 : Int64) (q1 : Int64) (q2 : Int64) (q3 : Int64) (p4 : Int32) (p5 : Int32)  (h0 : Heap) (n0 : Nat) (v : Option Value) (h : Heap) (L : List Loc) : Prop := v = some (.int (1 : Int32)) ∧ Fr n0 L
set_option maxRecDepth 65536 in
set_option maxHeartbeats 40000000 in
theorem rm0 (l : Launch) (Z : State) (a0 : Array Value) (hw : ∀ d ∈ tables_1, d.before a0 Z = true) (ws : List Jvm.Cond) (q0 : Int64) (q1 : Int64) (q2 : Int64) (q3 : Int64) (p4 : Int32) (p5 : Int32)  (h0 : Heap) (n0 : Nat) (Z0 : n0 ≤ h0.size)  :
    MetFree l x (head1 (Jvm.Cond.code x code maxLocals ret :: ws) room_1) (fun a U => a = #[(.long q0), (.long q1), (.long q2), (.long q3), (.int p4), (.int p5)] ∧ Z.Warmed39 U.vm ∧ U.heap = h0) (fun _ _ _ _ _ => True) (fun _ U o U' => ∃ v L, o = .returned v ∧ Q_rm0 Z q0 q1 q2 q3 p4 p5  h0 n0 v U'.heap L ∧ FrameEnd U o U' L room_1.cells room_1.slots) := by
  refine MetFree.of_bodySF (plainFor_of_name pn_rm0) hisR ?_
  intro p e s m args below meth c s₁ Bd hml0 hP hK
  obtain ⟨rfl, hZ, hh⟩ := hP
  have hx := Bd.exec
  have hby := Bd.bytes
  have hml : c.maxLocals = 39 := hml0
  have hown : s.vm.findClass "com/example/ends_to_means/endstomeans/solver/ForwardPaceForwardTookPinLaw" = some m.cls := findClass_of_methodNamed Bd.named
  have hnm := (name_of_methodNamed Bd.named Bd.method).1
  have X0 : Stand p l e room_1 s m #[(.long q0), (.long q1), (.long q2), (.long q3), (.int p4), (.int p5)] below meth c s₁ [] 0 0 := Stand.of_body Bd
  have e0 : s₁.heap = h0 := by rw [← hh, Bd.state]; rfl
  have N0 := Fr.nil n0
  have g0 : own_Go p e below s₁ (entryFrame m #[(.long q0), (.long q1), (.long q2), (.long q3), (.int p4), (.int p5)] maxLocals) s₁ (mkF m 0 #[.val (.long q0), .second, .val (.long q1), .second, .val (.long q2), .second, .val (.long q3), .second, iv p4, iv p5, .unset, .unset, .unset, .unset, .unset, .unset, .unset, .unset, .unset, .unset, .unset, .unset, .unset, .unset, .unset, .unset, .unset, .unset, .unset, .unset, .unset, .unset, .unset, .unset, .unset, .unset, .unset, .unset, .unset] []) := fun t k => castTop (ef_rm0 m q0 q1 q2 q3 p4 p5) k
  have g121 : own_Go p e below s₁ (entryFrame m #[(.long q0), (.long q1), (.long q2), (.long q3), (.int p4), (.int p5)] maxLocals) s₁ (mkF m 7 #[.val (.long q0), .second, .val (.long q1), .second, .val (.long q2), .second, .val (.long q3), .second, iv p4, iv p5, .val (.long (q0 &&& (1125899906842623 : Int64))), .second, .unset, .unset, .unset, .unset, .unset, .unset, .unset, .unset, .unset, .unset, .unset, .unset, .unset, .unset, .unset, .unset, .unset, .unset, .unset, .unset, .unset, .unset, .unset, .unset, .unset, .unset, .unset] []) := by
    intro target kt
    refine g0 target ?_
    refine XT.lloadN X0.here hx rfl (hb hby at_0) rfl ?_
    show Steps p.tables e below (s₁.setTop (mkF m 1 #[.val (.long q0), .second, .val (.long q1), .second, .val (.long q2), .second, .val (.long q3), .second, iv p4, iv p5, .unset, .unset, .unset, .unset, .unset, .unset, .unset, .unset, .unset, .unset, .unset, .unset, .unset, .unset, .unset, .unset, .unset, .unset, .unset, .unset, .unset, .unset, .unset, .unset, .unset, .unset, .unset, .unset, .unset] [(.long q0)])) target
    refine X0.ldc2J hx hown (mvT hZ (hw _ (List.mem_of_getElem? (i := 0) rfl))) rfl (hb hby at_1) ?_
    show Steps p.tables e below (s₁.setTop (mkF m 4 #[.val (.long q0), .second, .val (.long q1), .second, .val (.long q2), .second, .val (.long q3), .second, iv p4, iv p5, .unset, .unset, .unset, .unset, .unset, .unset, .unset, .unset, .unset, .unset, .unset, .unset, .unset, .unset, .unset, .unset, .unset, .unset, .unset, .unset, .unset, .unset, .unset, .unset, .unset, .unset, .unset, .unset, .unset] [(.long (1125899906842623 : Int64)), (.long q0)])) target
    refine XT.land X0.here hx rfl (hb hby at_4) rfl ?_
    show Steps p.tables e below (s₁.setTop (mkF m 5 #[.val (.long q0), .second, .val (.long q1), .second, .val (.long q2), .second, .val (.long q3), .second, iv p4, iv p5, .unset, .unset, .unset, .unset, .unset, .unset, .unset, .unset, .unset, .unset, .unset, .unset, .unset, .unset, .unset, .unset, .unset, .unset, .unset, .unset, .unset, .unset, .unset, .unset, .unset, .unset, .unset, .unset, .unset] [(.long (q0 &&& (1125899906842623 : Int64)))])) target
    refine XT.lstore X0.here hx rfl (hb hby at_5) rfl (l' := #[.val (.long q0), .second, .val (.long q1), .second, .val (.long q2), .second, .val (.long q3), .second, iv p4, iv p5, .val (.long (q0 &&& (1125899906842623 : Int64))), .second, .unset, .unset, .unset, .unset, .unset, .unset, .unset, .unset, .unset, .unset, .unset, .unset, .unset, .unset, .unset, .unset, .unset, .unset, .unset, .unset, .unset, .unset, .unset, .unset, .unset, .unset, .unset]) rfl ?_
    show Steps p.tables e below (s₁.setTop (mkF m 7 #[.val (.long q0), .second, .val (.long q1), .second, .val (.long q2), .second, .val (.long q3), .second, iv p4, iv p5, .val (.long (q0 &&& (1125899906842623 : Int64))), .second, .unset, .unset, .unset, .unset, .unset, .unset, .unset, .unset, .unset, .unset, .unset, .unset, .unset, .unset, .unset, .unset, .unset, .unset, .unset, .unset, .unset, .unset, .unset, .unset, .unset, .unset, .unset] [])) target
    exact kt
  obtain ⟨bb, e_bb⟩ : ∃ z : Int64, z = (q0 &&& (1125899906842623 : Int64)) := ⟨_, rfl⟩
  rw [← e_bb] at g121
  have g122 : own_Go p e below s₁ (entryFrame m #[(.long q0), (.long q1), (.long q2), (.long q3), (.int p4), (.int p5)] maxLocals) s₁ (mkF m 14 #[.val (.long q0), .second, .val (.long q1), .second, .val (.long q2), .second, .val (.long q3), .second, iv p4, iv p5, .val (.long bb), .second, .val (.long (q1 &&& (2147483647 : Int64))), .second, .unset, .unset, .unset, .unset, .unset, .unset, .unset, .unset, .unset, .unset, .unset, .unset, .unset, .unset, .unset, .unset, .unset, .unset, .unset, .unset, .unset, .unset, .unset, .unset, .unset] []) := by
    intro target kt
    refine g121 target ?_
    refine XT.lloadN X0.here hx rfl (hb hby at_7) rfl ?_
    show Steps p.tables e below (s₁.setTop (mkF m 8 #[.val (.long q0), .second, .val (.long q1), .second, .val (.long q2), .second, .val (.long q3), .second, iv p4, iv p5, .val (.long bb), .second, .unset, .unset, .unset, .unset, .unset, .unset, .unset, .unset, .unset, .unset, .unset, .unset, .unset, .unset, .unset, .unset, .unset, .unset, .unset, .unset, .unset, .unset, .unset, .unset, .unset, .unset, .unset] [(.long q1)])) target
    refine X0.ldc2J hx hown (mvT hZ (hw _ (List.mem_of_getElem? (i := 1) rfl))) rfl (hb hby at_8) ?_
    show Steps p.tables e below (s₁.setTop (mkF m 11 #[.val (.long q0), .second, .val (.long q1), .second, .val (.long q2), .second, .val (.long q3), .second, iv p4, iv p5, .val (.long bb), .second, .unset, .unset, .unset, .unset, .unset, .unset, .unset, .unset, .unset, .unset, .unset, .unset, .unset, .unset, .unset, .unset, .unset, .unset, .unset, .unset, .unset, .unset, .unset, .unset, .unset, .unset, .unset] [(.long (2147483647 : Int64)), (.long q1)])) target
    refine XT.land X0.here hx rfl (hb hby at_11) rfl ?_
    show Steps p.tables e below (s₁.setTop (mkF m 12 #[.val (.long q0), .second, .val (.long q1), .second, .val (.long q2), .second, .val (.long q3), .second, iv p4, iv p5, .val (.long bb), .second, .unset, .unset, .unset, .unset, .unset, .unset, .unset, .unset, .unset, .unset, .unset, .unset, .unset, .unset, .unset, .unset, .unset, .unset, .unset, .unset, .unset, .unset, .unset, .unset, .unset, .unset, .unset] [(.long (q1 &&& (2147483647 : Int64)))])) target
    refine XT.lstore X0.here hx rfl (hb hby at_12) rfl (l' := #[.val (.long q0), .second, .val (.long q1), .second, .val (.long q2), .second, .val (.long q3), .second, iv p4, iv p5, .val (.long bb), .second, .val (.long (q1 &&& (2147483647 : Int64))), .second, .unset, .unset, .unset, .unset, .unset, .unset, .unset, .unset, .unset, .unset, .unset, .unset, .unset, .unset, .unset, .unset, .unset, .unset, .unset, .unset, .unset, .unset, .unset, .unset, .unset]) rfl ?_
    show Steps p.tables e below (s₁.setTop (mkF m 14 #[.val (.long q0), .second, .val (.long q1), .second, .val (.long q2), .second, .val (.long q3), .second, iv p4, iv p5, .val (.long bb), .second, .val (.long (q1 &&& (2147483647 : Int64))), .second, .unset, .unset, .unset, .unset, .unset, .unset, .unset, .unset, .unset, .unset, .unset, .unset, .unset, .unset, .unset, .unset, .unset, .unset, .unset, .unset, .unset, .unset, .unset, .unset, .unset] [])) target
    exact kt
  obtain ⟨n1, e_n1⟩ : ∃ z : Int64, z = (q1 &&& (2147483647 : Int64)) := ⟨_, rfl⟩
  rw [← e_n1] at g122
  have g123 : own_Go p e below s₁ (entryFrame m #[(.long q0), (.long q1), (.long q2), (.long q3), (.int p4), (.int p5)] maxLocals) s₁ (mkF m 22 #[.val (.long q0), .second, .val (.long q1), .second, .val (.long q2), .second, .val (.long q3), .second, iv p4, iv p5, .val (.long bb), .second, .val (.long n1), .second, .val (.long (q2 &&& (2147483647 : Int64))), .second, .unset, .unset, .unset, .unset, .unset, .unset, .unset, .unset, .unset, .unset, .unset, .unset, .unset, .unset, .unset, .unset, .unset, .unset, .unset, .unset, .unset, .unset, .unset] []) := by
    intro target kt
    refine g122 target ?_
    refine XT.lload X0.here hx rfl (hb hby at_14) rfl ?_
    show Steps p.tables e below (s₁.setTop (mkF m 16 #[.val (.long q0), .second, .val (.long q1), .second, .val (.long q2), .second, .val (.long q3), .second, iv p4, iv p5, .val (.long bb), .second, .val (.long n1), .second, .unset, .unset, .unset, .unset, .unset, .unset, .unset, .unset, .unset, .unset, .unset, .unset, .unset, .unset, .unset, .unset, .unset, .unset, .unset, .unset, .unset, .unset, .unset, .unset, .unset] [(.long q2)])) target
    refine X0.ldc2J hx hown (mvT hZ (hw _ (List.mem_of_getElem? (i := 1) rfl))) rfl (hb hby at_16) ?_
    show Steps p.tables e below (s₁.setTop (mkF m 19 #[.val (.long q0), .second, .val (.long q1), .second, .val (.long q2), .second, .val (.long q3), .second, iv p4, iv p5, .val (.long bb), .second, .val (.long n1), .second, .unset, .unset, .unset, .unset, .unset, .unset, .unset, .unset, .unset, .unset, .unset, .unset, .unset, .unset, .unset, .unset, .unset, .unset, .unset, .unset, .unset, .unset, .unset, .unset, .unset] [(.long (2147483647 : Int64)), (.long q2)])) target
    refine XT.land X0.here hx rfl (hb hby at_19) rfl ?_
    show Steps p.tables e below (s₁.setTop (mkF m 20 #[.val (.long q0), .second, .val (.long q1), .second, .val (.long q2), .second, .val (.long q3), .second, iv p4, iv p5, .val (.long bb), .second, .val (.long n1), .second, .unset, .unset, .unset, .unset, .unset, .unset, .unset, .unset, .unset, .unset, .unset, .unset, .unset, .unset, .unset, .unset, .unset, .unset, .unset, .unset, .unset, .unset, .unset, .unset, .unset] [(.long (q2 &&& (2147483647 : Int64)))])) target
    refine XT.lstore X0.here hx rfl (hb hby at_20) rfl (l' := #[.val (.long q0), .second, .val (.long q1), .second, .val (.long q2), .second, .val (.long q3), .second, iv p4, iv p5, .val (.long bb), .second, .val (.long n1), .second, .val (.long (q2 &&& (2147483647 : Int64))), .second, .unset, .unset, .unset, .unset, .unset, .unset, .unset, .unset, .unset, .unset, .unset, .unset, .unset, .unset, .unset, .unset, .unset, .unset, .unset, .unset, .unset, .unset, .unset]) rfl ?_
    show Steps p.tables e below (s₁.setTop (mkF m 22 #[.val (.long q0), .second, .val (.long q1), .second, .val (.long q2), .second, .val (.long q3), .second, iv p4, iv p5, .val (.long bb), .second, .val (.long n1), .second, .val (.long (q2 &&& (2147483647 : Int64))), .second, .unset, .unset, .unset, .unset, .unset, .unset, .unset, .unset, .unset, .unset, .unset, .unset, .unset, .unset, .unset, .unset, .unset, .unset, .unset, .unset, .unset, .unset, .unset] [])) target
    exact kt
  obtain ⟨n2, e_n2⟩ : ∃ z : Int64, z = (q2 &&& (2147483647 : Int64)) := ⟨_, rfl⟩
  rw [← e_n2] at g123
  have g124 : own_Go p e below s₁ (entryFrame m #[(.long q0), (.long q1), (.long q2), (.long q3), (.int p4), (.int p5)] maxLocals) s₁ (mkF m 30 #[.val (.long q0), .second, .val (.long q1), .second, .val (.long q2), .second, .val (.long q3), .second, iv p4, iv p5, .val (.long bb), .second, .val (.long n1), .second, .val (.long n2), .second, .val (.long (q3 &&& (2147483647 : Int64))), .second, .unset, .unset, .unset, .unset, .unset, .unset, .unset, .unset, .unset, .unset, .unset, .unset, .unset, .unset, .unset, .unset, .unset, .unset, .unset, .unset, .unset] []) := by
    intro target kt
    refine g123 target ?_
    refine XT.lload X0.here hx rfl (hb hby at_22) rfl ?_
    show Steps p.tables e below (s₁.setTop (mkF m 24 #[.val (.long q0), .second, .val (.long q1), .second, .val (.long q2), .second, .val (.long q3), .second, iv p4, iv p5, .val (.long bb), .second, .val (.long n1), .second, .val (.long n2), .second, .unset, .unset, .unset, .unset, .unset, .unset, .unset, .unset, .unset, .unset, .unset, .unset, .unset, .unset, .unset, .unset, .unset, .unset, .unset, .unset, .unset, .unset, .unset] [(.long q3)])) target
    refine X0.ldc2J hx hown (mvT hZ (hw _ (List.mem_of_getElem? (i := 1) rfl))) rfl (hb hby at_24) ?_
    show Steps p.tables e below (s₁.setTop (mkF m 27 #[.val (.long q0), .second, .val (.long q1), .second, .val (.long q2), .second, .val (.long q3), .second, iv p4, iv p5, .val (.long bb), .second, .val (.long n1), .second, .val (.long n2), .second, .unset, .unset, .unset, .unset, .unset, .unset, .unset, .unset, .unset, .unset, .unset, .unset, .unset, .unset, .unset, .unset, .unset, .unset, .unset, .unset, .unset, .unset, .unset] [(.long (2147483647 : Int64)), (.long q3)])) target
    refine XT.land X0.here hx rfl (hb hby at_27) rfl ?_
    show Steps p.tables e below (s₁.setTop (mkF m 28 #[.val (.long q0), .second, .val (.long q1), .second, .val (.long q2), .second, .val (.long q3), .second, iv p4, iv p5, .val (.long bb), .second, .val (.long n1), .second, .val (.long n2), .second, .unset, .unset, .unset, .unset, .unset, .unset, .unset, .unset, .unset, .unset, .unset, .unset, .unset, .unset, .unset, .unset, .unset, .unset, .unset, .unset, .unset, .unset, .unset] [(.long (q3 &&& (2147483647 : Int64)))])) target
    refine XT.lstore X0.here hx rfl (hb hby at_28) rfl (l' := #[.val (.long q0), .second, .val (.long q1), .second, .val (.long q2), .second, .val (.long q3), .second, iv p4, iv p5, .val (.long bb), .second, .val (.long n1), .second, .val (.long n2), .second, .val (.long (q3 &&& (2147483647 : Int64))), .second, .unset, .unset, .unset, .unset, .unset, .unset, .unset, .unset, .unset, .unset, .unset, .unset, .unset, .unset, .unset, .unset, .unset, .unset, .unset, .unset, .unset]) rfl ?_
    show Steps p.tables e below (s₁.setTop (mkF m 30 #[.val (.long q0), .second, .val (.long q1), .second, .val (.long q2), .second, .val (.long q3), .second, iv p4, iv p5, .val (.long bb), .second, .val (.long n1), .second, .val (.long n2), .second, .val (.long (q3 &&& (2147483647 : Int64))), .second, .unset, .unset, .unset, .unset, .unset, .unset, .unset, .unset, .unset, .unset, .unset, .unset, .unset, .unset, .unset, .unset, .unset, .unset, .unset, .unset, .unset] [])) target
    exact kt
  obtain ⟨n3, e_n3⟩ : ∃ z : Int64, z = (q3 &&& (2147483647 : Int64)) := ⟨_, rfl⟩
  rw [← e_n3] at g124
  have g125 : own_Go p e below s₁ (entryFrame m #[(.long q0), (.long q1), (.long q2), (.long q3), (.int p4), (.int p5)] maxLocals) s₁ (mkF m 37 #[.val (.long q0), .second, .val (.long q1), .second, .val (.long q2), .second, .val (.long q3), .second, iv p4, iv p5, .val (.long bb), .second, .val (.long n1), .second, .val (.long n2), .second, .val (.long n3), .second, iv (p4 &&& (2147483647 : Int32)), .unset, .unset, .unset, .unset, .unset, .unset, .unset, .unset, .unset, .unset, .unset, .unset, .unset, .unset, .unset, .unset, .unset, .unset, .unset, .unset] []) := by
    intro target kt
    refine g124 target ?_
    refine XS.iload X0.here hx rfl (hb hby at_30) rfl ?_
    show Steps p.tables e below (s₁.setTop (mkF m 32 #[.val (.long q0), .second, .val (.long q1), .second, .val (.long q2), .second, .val (.long q3), .second, iv p4, iv p5, .val (.long bb), .second, .val (.long n1), .second, .val (.long n2), .second, .val (.long n3), .second, .unset, .unset, .unset, .unset, .unset, .unset, .unset, .unset, .unset, .unset, .unset, .unset, .unset, .unset, .unset, .unset, .unset, .unset, .unset, .unset, .unset] [(.int p4)])) target
    refine X0.ldcI hx hown (mvT hZ (hw _ (List.mem_of_getElem? (i := 2) rfl))) rfl (hb hby at_32) ?_
    show Steps p.tables e below (s₁.setTop (mkF m 34 #[.val (.long q0), .second, .val (.long q1), .second, .val (.long q2), .second, .val (.long q3), .second, iv p4, iv p5, .val (.long bb), .second, .val (.long n1), .second, .val (.long n2), .second, .val (.long n3), .second, .unset, .unset, .unset, .unset, .unset, .unset, .unset, .unset, .unset, .unset, .unset, .unset, .unset, .unset, .unset, .unset, .unset, .unset, .unset, .unset, .unset] [(.int (2147483647 : Int32)), (.int p4)])) target
    refine XS.iand X0.here hx rfl (hb hby at_34) rfl ?_
    show Steps p.tables e below (s₁.setTop (mkF m 35 #[.val (.long q0), .second, .val (.long q1), .second, .val (.long q2), .second, .val (.long q3), .second, iv p4, iv p5, .val (.long bb), .second, .val (.long n1), .second, .val (.long n2), .second, .val (.long n3), .second, .unset, .unset, .unset, .unset, .unset, .unset, .unset, .unset, .unset, .unset, .unset, .unset, .unset, .unset, .unset, .unset, .unset, .unset, .unset, .unset, .unset] [(.int (p4 &&& (2147483647 : Int32)))])) target
    refine XS.istore X0.here hx rfl (hb hby at_35) rfl (l' := #[.val (.long q0), .second, .val (.long q1), .second, .val (.long q2), .second, .val (.long q3), .second, iv p4, iv p5, .val (.long bb), .second, .val (.long n1), .second, .val (.long n2), .second, .val (.long n3), .second, iv (p4 &&& (2147483647 : Int32)), .unset, .unset, .unset, .unset, .unset, .unset, .unset, .unset, .unset, .unset, .unset, .unset, .unset, .unset, .unset, .unset, .unset, .unset, .unset, .unset]) rfl ?_
    show Steps p.tables e below (s₁.setTop (mkF m 37 #[.val (.long q0), .second, .val (.long q1), .second, .val (.long q2), .second, .val (.long q3), .second, iv p4, iv p5, .val (.long bb), .second, .val (.long n1), .second, .val (.long n2), .second, .val (.long n3), .second, iv (p4 &&& (2147483647 : Int32)), .unset, .unset, .unset, .unset, .unset, .unset, .unset, .unset, .unset, .unset, .unset, .unset, .unset, .unset, .unset, .unset, .unset, .unset, .unset, .unset] [])) target
    exact kt
  obtain ⟨kk, e_kk⟩ : ∃ z : Int32, z = (p4 &&& (2147483647 : Int32)) := ⟨_, rfl⟩
  rw [← e_kk] at g125
  have g126 : own_Go p e below s₁ (entryFrame m #[(.long q0), (.long q1), (.long q2), (.long q3), (.int p4), (.int p5)] maxLocals) s₁ (mkF m 46 #[.val (.long q0), .second, .val (.long q1), .second, .val (.long q2), .second, .val (.long q3), .second, iv p4, iv p5, .val (.long bb), .second, .val (.long n1), .second, .val (.long n2), .second, .val (.long n3), .second, iv kk, iv ((p5 &&& (1073741823 : Int32)) + (1 : Int32)), .unset, .unset, .unset, .unset, .unset, .unset, .unset, .unset, .unset, .unset, .unset, .unset, .unset, .unset, .unset, .unset, .unset, .unset, .unset] []) := by
    intro target kt
    refine g125 target ?_
    refine XS.iload X0.here hx rfl (hb hby at_37) rfl ?_
    show Steps p.tables e below (s₁.setTop (mkF m 39 #[.val (.long q0), .second, .val (.long q1), .second, .val (.long q2), .second, .val (.long q3), .second, iv p4, iv p5, .val (.long bb), .second, .val (.long n1), .second, .val (.long n2), .second, .val (.long n3), .second, iv kk, .unset, .unset, .unset, .unset, .unset, .unset, .unset, .unset, .unset, .unset, .unset, .unset, .unset, .unset, .unset, .unset, .unset, .unset, .unset, .unset] [(.int p5)])) target
    refine X0.ldcI hx hown (mvT hZ (hw _ (List.mem_of_getElem? (i := 3) rfl))) rfl (hb hby at_39) ?_
    show Steps p.tables e below (s₁.setTop (mkF m 41 #[.val (.long q0), .second, .val (.long q1), .second, .val (.long q2), .second, .val (.long q3), .second, iv p4, iv p5, .val (.long bb), .second, .val (.long n1), .second, .val (.long n2), .second, .val (.long n3), .second, iv kk, .unset, .unset, .unset, .unset, .unset, .unset, .unset, .unset, .unset, .unset, .unset, .unset, .unset, .unset, .unset, .unset, .unset, .unset, .unset, .unset] [(.int (1073741823 : Int32)), (.int p5)])) target
    refine XS.iand X0.here hx rfl (hb hby at_41) rfl ?_
    show Steps p.tables e below (s₁.setTop (mkF m 42 #[.val (.long q0), .second, .val (.long q1), .second, .val (.long q2), .second, .val (.long q3), .second, iv p4, iv p5, .val (.long bb), .second, .val (.long n1), .second, .val (.long n2), .second, .val (.long n3), .second, iv kk, .unset, .unset, .unset, .unset, .unset, .unset, .unset, .unset, .unset, .unset, .unset, .unset, .unset, .unset, .unset, .unset, .unset, .unset, .unset, .unset] [(.int (p5 &&& (1073741823 : Int32)))])) target
    refine XT.iconstV X0.here hx rfl (1 : Int32) (hb hby at_42) rfl ?_
    show Steps p.tables e below (s₁.setTop (mkF m 43 #[.val (.long q0), .second, .val (.long q1), .second, .val (.long q2), .second, .val (.long q3), .second, iv p4, iv p5, .val (.long bb), .second, .val (.long n1), .second, .val (.long n2), .second, .val (.long n3), .second, iv kk, .unset, .unset, .unset, .unset, .unset, .unset, .unset, .unset, .unset, .unset, .unset, .unset, .unset, .unset, .unset, .unset, .unset, .unset, .unset, .unset] [(.int (1 : Int32)), (.int (p5 &&& (1073741823 : Int32)))])) target
    refine XS.iadd X0.here hx rfl (hb hby at_43) rfl ?_
    show Steps p.tables e below (s₁.setTop (mkF m 44 #[.val (.long q0), .second, .val (.long q1), .second, .val (.long q2), .second, .val (.long q3), .second, iv p4, iv p5, .val (.long bb), .second, .val (.long n1), .second, .val (.long n2), .second, .val (.long n3), .second, iv kk, .unset, .unset, .unset, .unset, .unset, .unset, .unset, .unset, .unset, .unset, .unset, .unset, .unset, .unset, .unset, .unset, .unset, .unset, .unset, .unset] [(.int ((p5 &&& (1073741823 : Int32)) + (1 : Int32)))])) target
    refine XS.istore X0.here hx rfl (hb hby at_44) rfl (l' := #[.val (.long q0), .second, .val (.long q1), .second, .val (.long q2), .second, .val (.long q3), .second, iv p4, iv p5, .val (.long bb), .second, .val (.long n1), .second, .val (.long n2), .second, .val (.long n3), .second, iv kk, iv ((p5 &&& (1073741823 : Int32)) + (1 : Int32)), .unset, .unset, .unset, .unset, .unset, .unset, .unset, .unset, .unset, .unset, .unset, .unset, .unset, .unset, .unset, .unset, .unset, .unset, .unset]) rfl ?_
    show Steps p.tables e below (s₁.setTop (mkF m 46 #[.val (.long q0), .second, .val (.long q1), .second, .val (.long q2), .second, .val (.long q3), .second, iv p4, iv p5, .val (.long bb), .second, .val (.long n1), .second, .val (.long n2), .second, .val (.long n3), .second, iv kk, iv ((p5 &&& (1073741823 : Int32)) + (1 : Int32)), .unset, .unset, .unset, .unset, .unset, .unset, .unset, .unset, .unset, .unset, .unset, .unset, .unset, .unset, .unset, .unset, .unset, .unset, .unset] [])) target
    exact kt
  obtain ⟨mm, e_mm⟩ : ∃ z : Int32, z = ((p5 &&& (1073741823 : Int32)) + (1 : Int32)) := ⟨_, rfl⟩
  rw [← e_mm] at g126
  have hbb : bb.toInt = q0.toInt % ((2 ^ 50 : Nat) : Int) := by rw [e_bb]; exact c_maskL q0 1125899906842623 50 (by decide) (by decide)
  have hn1 : n1.toInt = q1.toInt % ((2 ^ 31 : Nat) : Int) := by rw [e_n1]; exact c_maskL q1 2147483647 31 (by decide) (by decide)
  have hn2 : n2.toInt = q2.toInt % ((2 ^ 31 : Nat) : Int) := by rw [e_n2]; exact c_maskL q2 2147483647 31 (by decide) (by decide)
  have hn3 : n3.toInt = q3.toInt % ((2 ^ 31 : Nat) : Int) := by rw [e_n3]; exact c_maskL q3 2147483647 31 (by decide) (by decide)
  have hm0 := c_mask p5 1073741823 30 (by decide) (by decide)
  have hmm : mm.toInt = p5.toInt % ((2 ^ 30 : Nat) : Int) + 1 := by rw [e_mm, XT.add32 (by rw [hm0, show (1 : Int32).toInt = 1 from rfl]; constructor <;> omega), hm0]; rfl
  have hml2 : mm.toInt64.toInt = mm.toInt := Int32.toInt_toInt64 mm
  obtain ⟨T127, h127, X127, e127, E127, A127, D127, -, st127⟩ := newO X0 hx hZ hown (hw _ (List.mem_of_getElem? (i := 4) rfl)) (hw _ (List.mem_of_getElem? (i := 5) rfl)) (hw _ (List.mem_of_getElem? (i := 6) rfl)) e0 (g := (mkF m 46 #[.val (.long q0), .second, .val (.long q1), .second, .val (.long q2), .second, .val (.long q3), .second, iv p4, iv p5, .val (.long bb), .second, .val (.long n1), .second, .val (.long n2), .second, .val (.long n3), .second, iv kk, iv mm, .unset, .unset, .unset, .unset, .unset, .unset, .unset, .unset, .unset, .unset, .unset, .unset, .unset, .unset, .unset, .unset, .unset, .unset, .unset] [])) rfl (hb hby at_46) (by decide) (by decide)
  obtain ⟨a1, ga127⟩ : ∃ z, z = h0.size := ⟨_, rfl⟩
  rw [← ga127] at A127 D127 st127
  have Z127 : n0 ≤ h127.size := Nat.le_trans Z0 E127.1
  have g_a1 : n0 ≤ a1 := Nat.le_trans Z0 (Nat.le_of_eq ga127.symm)
  have F_growingShare_a1 : Fld Z h127 a1 "com/example/ends_to_means/endstomeans/solver/ForwardPace" "growingShare" "D" (.double 0) := D127 (Or.inl (hw _ (List.mem_of_getElem? (i := 14) rfl))) (ty := .double) (by decide)
  have F_backwardNanos_a1 : Fld Z h127 a1 "com/example/ends_to_means/endstomeans/solver/ForwardPace" "backwardNanos" "J" (.long (0 : Int64)) := D127 (Or.inl (hw _ (List.mem_of_getElem? (i := 21) rfl))) (ty := .long) (by decide)
  have F_backwardMoves_a1 : Fld Z h127 a1 "com/example/ends_to_means/endstomeans/solver/ForwardPace" "backwardMoves" "J" (.long (0 : Int64)) := D127 (Or.inl (hw _ (List.mem_of_getElem? (i := 23) rfl))) (ty := .long) (by decide)
  have F_earnedNanos_a1 : Fld Z h127 a1 "com/example/ends_to_means/endstomeans/solver/ForwardPace" "earnedNanos" "D" (.double 0) := D127 (Or.inl (hw _ (List.mem_of_getElem? (i := 25) rfl))) (ty := .double) (by decide)
  have F_layerMoves_a1 : Fld Z h127 a1 "com/example/ends_to_means/endstomeans/solver/ForwardPace" "layerMoves" "I" (.int (0 : Int32)) := D127 (Or.inl (hw _ (List.mem_of_getElem? (i := 31) rfl))) (ty := .int) (by decide)
  have F_layerBeforeNanos_a1 : Fld Z h127 a1 "com/example/ends_to_means/endstomeans/solver/ForwardPace" "layerBeforeNanos" "J" (.long (0 : Int64)) := D127 (Or.inl (hw _ (List.mem_of_getElem? (i := 38) rfl))) (ty := .long) (by decide)
  have F_layerBeforeThatNanos_a1 : Fld Z h127 a1 "com/example/ends_to_means/endstomeans/solver/ForwardPace" "layerBeforeThatNanos" "J" (.long (0 : Int64)) := D127 (Or.inl (hw _ (List.mem_of_getElem? (i := 40) rfl))) (ty := .long) (by decide)
  have F_lastLayerNanos_a1 : Fld Z h127 a1 "com/example/ends_to_means/endstomeans/solver/ForwardPace" "lastLayerNanos" "J" (.long (0 : Int64)) := D127 (Or.inl (hw _ (List.mem_of_getElem? (i := 42) rfl))) (ty := .long) (by decide)
  have g128 : own_Go p e below s₁ (entryFrame m #[(.long q0), (.long q1), (.long q2), (.long q3), (.int p4), (.int p5)] maxLocals) T127 (mkF m 49 #[.val (.long q0), .second, .val (.long q1), .second, .val (.long q2), .second, .val (.long q3), .second, iv p4, iv p5, .val (.long bb), .second, .val (.long n1), .second, .val (.long n2), .second, .val (.long n3), .second, iv kk, iv mm, .unset, .unset, .unset, .unset, .unset, .unset, .unset, .unset, .unset, .unset, .unset, .unset, .unset, .unset, .unset, .unset, .unset, .unset, .unset] [(.ref a1)]) := fun target kt => g126 target (st127 target kt)
  have g129 : own_Go p e below s₁ (entryFrame m #[(.long q0), (.long q1), (.long q2), (.long q3), (.int p4), (.int p5)] maxLocals) T127 (mkF m 50 #[.val (.long q0), .second, .val (.long q1), .second, .val (.long q2), .second, .val (.long q3), .second, iv p4, iv p5, .val (.long bb), .second, .val (.long n1), .second, .val (.long n2), .second, .val (.long n3), .second, iv kk, iv mm, .unset, .unset, .unset, .unset, .unset, .unset, .unset, .unset, .unset, .unset, .unset, .unset, .unset, .unset, .unset, .unset, .unset, .unset, .unset] [(.ref a1), (.ref a1)]) := by
    intro target kt
    refine g128 target ?_
    refine XS.dup X127.here hx rfl (hb hby at_49) rfl rfl ?_
    show Steps p.tables e below (T127.setTop (mkF m 50 #[.val (.long q0), .second, .val (.long q1), .second, .val (.long q2), .second, .val (.long q3), .second, iv p4, iv p5, .val (.long bb), .second, .val (.long n1), .second, .val (.long n2), .second, .val (.long n3), .second, iv kk, iv mm, .unset, .unset, .unset, .unset, .unset, .unset, .unset, .unset, .unset, .unset, .unset, .unset, .unset, .unset, .unset, .unset, .unset, .unset, .unset] [(.ref a1), (.ref a1)])) target
    exact kt
  obtain ⟨_, _, ⟨T130, L130, k130, n130⟩, -, X130, ⟨Lc130, hQ130, l130, y130, z130⟩, st130⟩ := X127.specialBack hx (y := (⟨"com/example/ends_to_means/endstomeans/solver/ForwardPace", "<init>", "()V"⟩ : MethodName)) rfl hown (mvT hZ (hw _ (List.mem_of_getElem? (i := 7) rfl))) (mvT hZ (hw _ (List.mem_of_getElem? (i := 8) rfl))) (mvT hZ (hw _ (List.mem_of_getElem? (i := 9) rfl))) (by decide) (backOf (W := 1) (rmIni l Z a0 hw [] a1 h127 n0 Z127 A127 F_growingShare_a1 F_backwardNanos_a1 F_backwardMoves_a1 F_earnedNanos_a1 F_layerMoves_a1 F_lastLayerNanos_a1 F_layerBeforeNanos_a1 F_layerBeforeThatNanos_a1 g_a1) hZ (hw _ (List.mem_of_getElem? (i := 9) rfl)) (hw _ (List.mem_of_getElem? (i := 6) rfl)) (by decide) (by decide)) (g := (mkF m 50 #[.val (.long q0), .second, .val (.long q1), .second, .val (.long q2), .second, .val (.long q3), .second, iv p4, iv p5, .val (.long bb), .second, .val (.long n1), .second, .val (.long n2), .second, .val (.long n3), .second, iv kk, iv mm, .unset, .unset, .unset, .unset, .unset, .unset, .unset, .unset, .unset, .unset, .unset, .unset, .unset, .unset, .unset, .unset, .unset, .unset, .unset] [(.ref a1), (.ref a1)])) rfl (by rw [hml]; rfl) (Steps.refl _) (a := a1) (argsL := []) (rest := [(.ref a1)]) (lenOf pd_3 rfl) rfl (by show 2 * 0 + _ ≤ _; exact Nat.le_of_eq rfl) (hb hby at_50) (fun _ _ => ⟨rfl, e127, (by decide : 1 + 0 ≤ _), (by decide : 8 + 0 ≤ _)⟩)
  dsimp only [Pt.U, Pt.locs, Pt.cells, Pt.slots] at X130 l130 y130 z130 st130 hQ130
  subst l130 y130 z130
  obtain ⟨rfl, Nq130, K130, P0⟩ := hQ130
  have N130 := Fr.app N0 Nq130
  have g131 : own_Go p e below s₁ (entryFrame m #[(.long q0), (.long q1), (.long q2), (.long q3), (.int p4), (.int p5)] maxLocals) T130 (mkF m 53 #[.val (.long q0), .second, .val (.long q1), .second, .val (.long q2), .second, .val (.long q3), .second, iv p4, iv p5, .val (.long bb), .second, .val (.long n1), .second, .val (.long n2), .second, .val (.long n3), .second, iv kk, iv mm, .unset, .unset, .unset, .unset, .unset, .unset, .unset, .unset, .unset, .unset, .unset, .unset, .unset, .unset, .unset, .unset, .unset, .unset, .unset] [(.ref a1)]) := fun target kt => g129 target (st130.trans kt)
  have Z130 : n0 ≤ T130.heap.size := Nat.le_trans Z127 K130.1
  have b0 : B53 bb := ⟨by omega, by omega⟩
  have bz : B53 (0 : Int64) := by unfold B53; decide
  have b1 : B53 n1 := ⟨by omega, by omega⟩
  have b2 : B53 n2 := ⟨by omega, by omega⟩
  have b3 : B53 n3 := ⟨by omega, by omega⟩
  have hM1 : ((0 : Int64) + mm.toInt64) ≠ 0 := by
    rw [Int64.zero_add]
    intro q
    have := congrArg Int64.toInt q
    rw [hml2, show (0 : Int64).toInt = 0 from rfl] at this
    omega
  have g132 : own_Go p e below s₁ (entryFrame m #[(.long q0), (.long q1), (.long q2), (.long q3), (.int p4), (.int p5)] maxLocals) T130 (mkF m 61 #[.val (.long q0), .second, .val (.long q1), .second, .val (.long q2), .second, .val (.long q3), .second, iv p4, iv p5, .val (.long bb), .second, .val (.long n1), .second, .val (.long n2), .second, .val (.long n3), .second, iv kk, iv mm, rv a1, .unset, .unset, .unset, .unset, .unset, .unset, .unset, .unset, .unset, .unset, .unset, .unset, .unset, .unset, .unset, .unset, .unset, .unset] [(.int mm), (.long bb), (.ref a1)]) := by
    intro target kt
    refine g131 target ?_
    refine XS.astore X130.here hx rfl (hb hby at_53) rfl rfl (l' := #[.val (.long q0), .second, .val (.long q1), .second, .val (.long q2), .second, .val (.long q3), .second, iv p4, iv p5, .val (.long bb), .second, .val (.long n1), .second, .val (.long n2), .second, .val (.long n3), .second, iv kk, iv mm, rv a1, .unset, .unset, .unset, .unset, .unset, .unset, .unset, .unset, .unset, .unset, .unset, .unset, .unset, .unset, .unset, .unset, .unset, .unset]) rfl ?_
    show Steps p.tables e below (T130.setTop (mkF m 55 #[.val (.long q0), .second, .val (.long q1), .second, .val (.long q2), .second, .val (.long q3), .second, iv p4, iv p5, .val (.long bb), .second, .val (.long n1), .second, .val (.long n2), .second, .val (.long n3), .second, iv kk, iv mm, rv a1, .unset, .unset, .unset, .unset, .unset, .unset, .unset, .unset, .unset, .unset, .unset, .unset, .unset, .unset, .unset, .unset, .unset, .unset] [])) target
    refine XS.aload X130.here hx rfl (hb hby at_55) rfl rfl ?_
    show Steps p.tables e below (T130.setTop (mkF m 57 #[.val (.long q0), .second, .val (.long q1), .second, .val (.long q2), .second, .val (.long q3), .second, iv p4, iv p5, .val (.long bb), .second, .val (.long n1), .second, .val (.long n2), .second, .val (.long n3), .second, iv kk, iv mm, rv a1, .unset, .unset, .unset, .unset, .unset, .unset, .unset, .unset, .unset, .unset, .unset, .unset, .unset, .unset, .unset, .unset, .unset, .unset] [(.ref a1)])) target
    refine XT.lload X130.here hx rfl (hb hby at_57) rfl ?_
    show Steps p.tables e below (T130.setTop (mkF m 59 #[.val (.long q0), .second, .val (.long q1), .second, .val (.long q2), .second, .val (.long q3), .second, iv p4, iv p5, .val (.long bb), .second, .val (.long n1), .second, .val (.long n2), .second, .val (.long n3), .second, iv kk, iv mm, rv a1, .unset, .unset, .unset, .unset, .unset, .unset, .unset, .unset, .unset, .unset, .unset, .unset, .unset, .unset, .unset, .unset, .unset, .unset] [(.long bb), (.ref a1)])) target
    refine XS.iload X130.here hx rfl (hb hby at_59) rfl ?_
    show Steps p.tables e below (T130.setTop (mkF m 61 #[.val (.long q0), .second, .val (.long q1), .second, .val (.long q2), .second, .val (.long q3), .second, iv p4, iv p5, .val (.long bb), .second, .val (.long n1), .second, .val (.long n2), .second, .val (.long n3), .second, iv kk, iv mm, rv a1, .unset, .unset, .unset, .unset, .unset, .unset, .unset, .unset, .unset, .unset, .unset, .unset, .unset, .unset, .unset, .unset, .unset, .unset] [(.int mm), (.long bb), (.ref a1)])) target
    exact kt
  obtain ⟨cq133, kq133, q133a, q133b, q133c⟩ := isOf hZ rfl P0.1
  obtain ⟨_, _, ⟨T133, L133, k133, n133⟩, -, X133, ⟨Lc133, hQ133, l133, y133, z133⟩, st133⟩ := X130.virtualBack hx (y := (⟨"com/example/ends_to_means/endstomeans/solver/ForwardPace", "backwardTook", "(JI)V"⟩ : MethodName)) (z := (⟨"com/example/ends_to_means/endstomeans/solver/ForwardPace", "backwardTook", "(JI)V"⟩ : MethodName)) hown (mvT hZ (hw _ (List.mem_of_getElem? (i := 15) rfl))) (mvT hZ (hw _ (List.mem_of_getElem? (i := 16) rfl))) (notFace_of_selects (args := #[]) (mvT hZ (hw _ (List.mem_of_getElem? (i := 18) rfl)))) (mvT hZ (hw _ (List.mem_of_getElem? (i := 18) rfl))) (mvT hZ (hw _ (List.mem_of_getElem? (i := 17) rfl))) (by decide) (backOf (W := 0) (rmBT l Z a0 hw [] a1 bb mm (FP.l2d 1) 0 0 (FP.l2d 0) 0 0 0 0 T130.heap n0 Z130 P0 hM1 (l2d_mag 1) (l2d_fin 0) g_a1) hZ (hw _ (List.mem_of_getElem? (i := 19) rfl)) (hw _ (List.mem_of_getElem? (i := 6) rfl)) (by decide) (by decide)) q133a q133c (g := (mkF m 61 #[.val (.long q0), .second, .val (.long q1), .second, .val (.long q2), .second, .val (.long q3), .second, iv p4, iv p5, .val (.long bb), .second, .val (.long n1), .second, .val (.long n2), .second, .val (.long n3), .second, iv kk, iv mm, rv a1, .unset, .unset, .unset, .unset, .unset, .unset, .unset, .unset, .unset, .unset, .unset, .unset, .unset, .unset, .unset, .unset, .unset, .unset] [(.int mm), (.long bb), (.ref a1)])) rfl (by rw [hml]; rfl) (Steps.refl _) (argsL := [(.long bb), (.int mm)]) (rest := []) (lenOf pd_4 rfl) rfl (by show 2 * 0 + _ ≤ _; exact Nat.le_of_eq rfl) (hb hby at_61) (fun _ _ => ⟨rfl, rfl, (by decide : 1 + 0 ≤ _), (by decide : 8 + 0 ≤ _)⟩)
  dsimp only [Pt.U, Pt.locs, Pt.cells, Pt.slots] at X133 l133 y133 z133 st133 hQ133
  subst l133 y133 z133
  obtain ⟨rfl, Nq133, K133, P1⟩ := hQ133
  have N133 := Fr.app N130 Nq133
  have g134 : own_Go p e below s₁ (entryFrame m #[(.long q0), (.long q1), (.long q2), (.long q3), (.int p4), (.int p5)] maxLocals) T133 (mkF m 64 #[.val (.long q0), .second, .val (.long q1), .second, .val (.long q2), .second, .val (.long q3), .second, iv p4, iv p5, .val (.long bb), .second, .val (.long n1), .second, .val (.long n2), .second, .val (.long n3), .second, iv kk, iv mm, rv a1, .unset, .unset, .unset, .unset, .unset, .unset, .unset, .unset, .unset, .unset, .unset, .unset, .unset, .unset, .unset, .unset, .unset, .unset] []) := fun target kt => g132 target (st133.trans kt)
  have Z133 : n0 ≤ T133.heap.size := Nat.le_trans Z130 K133.1
  have ea1 : FP.dadd (FP.l2d 0) (FP.dmul (own_sh (FP.l2d 1) (0 + bb) (0 + mm.toInt64) 0 (own_ex 0 0 0)) (FP.l2d bb)) = FP.l2d bb := by
    have e : own_sh (FP.l2d 1) (0 + bb) (0 + mm.toInt64) 0 (own_ex 0 0 0) = FP.l2d 1 := if_pos rfl
    rw [e, own_1mul, dadd_w bz b0, Int64.zero_add]
  rw [ea1] at P1
  have g135 : own_Go p e below s₁ (entryFrame m #[(.long q0), (.long q1), (.long q2), (.long q3), (.int p4), (.int p5)] maxLocals) T133 (mkF m 69 #[.val (.long q0), .second, .val (.long q1), .second, .val (.long q2), .second, .val (.long q3), .second, iv p4, iv p5, .val (.long bb), .second, .val (.long n1), .second, .val (.long n2), .second, .val (.long n3), .second, iv kk, iv mm, rv a1, .unset, .unset, .unset, .unset, .unset, .unset, .unset, .unset, .unset, .unset, .unset, .unset, .unset, .unset, .unset, .unset, .unset, .unset] [(.int (1 : Int32)), (.long n1), (.ref a1)]) := by
    intro target kt
    refine g134 target ?_
    refine XS.aload X133.here hx rfl (hb hby at_64) rfl rfl ?_
    show Steps p.tables e below (T133.setTop (mkF m 66 #[.val (.long q0), .second, .val (.long q1), .second, .val (.long q2), .second, .val (.long q3), .second, iv p4, iv p5, .val (.long bb), .second, .val (.long n1), .second, .val (.long n2), .second, .val (.long n3), .second, iv kk, iv mm, rv a1, .unset, .unset, .unset, .unset, .unset, .unset, .unset, .unset, .unset, .unset, .unset, .unset, .unset, .unset, .unset, .unset, .unset, .unset] [(.ref a1)])) target
    refine XT.lload X133.here hx rfl (hb hby at_66) rfl ?_
    show Steps p.tables e below (T133.setTop (mkF m 68 #[.val (.long q0), .second, .val (.long q1), .second, .val (.long q2), .second, .val (.long q3), .second, iv p4, iv p5, .val (.long bb), .second, .val (.long n1), .second, .val (.long n2), .second, .val (.long n3), .second, iv kk, iv mm, rv a1, .unset, .unset, .unset, .unset, .unset, .unset, .unset, .unset, .unset, .unset, .unset, .unset, .unset, .unset, .unset, .unset, .unset, .unset] [(.long n1), (.ref a1)])) target
    refine XT.iconstV X133.here hx rfl (1 : Int32) (hb hby at_68) rfl ?_
    show Steps p.tables e below (T133.setTop (mkF m 69 #[.val (.long q0), .second, .val (.long q1), .second, .val (.long q2), .second, .val (.long q3), .second, iv p4, iv p5, .val (.long bb), .second, .val (.long n1), .second, .val (.long n2), .second, .val (.long n3), .second, iv kk, iv mm, rv a1, .unset, .unset, .unset, .unset, .unset, .unset, .unset, .unset, .unset, .unset, .unset, .unset, .unset, .unset, .unset, .unset, .unset, .unset] [(.int (1 : Int32)), (.long n1), (.ref a1)])) target
    exact kt
  obtain ⟨cq136, kq136, q136a, q136b, q136c⟩ := isOf hZ rfl P1.1
  obtain ⟨_, _, ⟨T136, L136, k136, n136⟩, -, X136, ⟨Lc136, hQ136, l136, y136, z136⟩, st136⟩ := X133.virtualBack hx (y := (⟨"com/example/ends_to_means/endstomeans/solver/ForwardPace", "forwardTook", "(JI)V"⟩ : MethodName)) (z := (⟨"com/example/ends_to_means/endstomeans/solver/ForwardPace", "forwardTook", "(JI)V"⟩ : MethodName)) hown (mvT hZ (hw _ (List.mem_of_getElem? (i := 32) rfl))) (mvT hZ (hw _ (List.mem_of_getElem? (i := 33) rfl))) (notFace_of_selects (args := #[]) (mvT hZ (hw _ (List.mem_of_getElem? (i := 35) rfl)))) (mvT hZ (hw _ (List.mem_of_getElem? (i := 35) rfl))) (mvT hZ (hw _ (List.mem_of_getElem? (i := 34) rfl))) (by decide) (backOf (W := 0) (rmFT l Z a0 hw [] a1 n1 (1 : Int32) (FP.l2d 1) (0 + bb) (0 + mm.toInt64) (FP.l2d bb) 0 0 0 0 T133.heap n0 Z133 P1 (l2d_fin bb) g_a1) hZ (hw _ (List.mem_of_getElem? (i := 36) rfl)) (hw _ (List.mem_of_getElem? (i := 6) rfl)) (by decide) (by decide)) q136a q136c (g := (mkF m 69 #[.val (.long q0), .second, .val (.long q1), .second, .val (.long q2), .second, .val (.long q3), .second, iv p4, iv p5, .val (.long bb), .second, .val (.long n1), .second, .val (.long n2), .second, .val (.long n3), .second, iv kk, iv mm, rv a1, .unset, .unset, .unset, .unset, .unset, .unset, .unset, .unset, .unset, .unset, .unset, .unset, .unset, .unset, .unset, .unset, .unset, .unset] [(.int (1 : Int32)), (.long n1), (.ref a1)])) rfl (by rw [hml]; rfl) (Steps.refl _) (argsL := [(.long n1), (.int (1 : Int32))]) (rest := []) (lenOf pd_4 rfl) rfl (by show 2 * 0 + _ ≤ _; exact Nat.le_of_eq rfl) (hb hby at_69) (fun _ _ => ⟨rfl, rfl, (by decide : 1 + 0 ≤ _), (by decide : 8 + 0 ≤ _)⟩)
  dsimp only [Pt.U, Pt.locs, Pt.cells, Pt.slots] at X136 l136 y136 z136 st136 hQ136
  subst l136 y136 z136
  obtain ⟨rfl, Nq136, K136, P2⟩ := hQ136
  have N136 := Fr.app N133 Nq136
  have g137 : own_Go p e below s₁ (entryFrame m #[(.long q0), (.long q1), (.long q2), (.long q3), (.int p4), (.int p5)] maxLocals) T136 (mkF m 72 #[.val (.long q0), .second, .val (.long q1), .second, .val (.long q2), .second, .val (.long q3), .second, iv p4, iv p5, .val (.long bb), .second, .val (.long n1), .second, .val (.long n2), .second, .val (.long n3), .second, iv kk, iv mm, rv a1, .unset, .unset, .unset, .unset, .unset, .unset, .unset, .unset, .unset, .unset, .unset, .unset, .unset, .unset, .unset, .unset, .unset, .unset] []) := fun target kt => g135 target (st136.trans kt)
  have Z136 : n0 ≤ T136.heap.size := Nat.le_trans Z133 K136.1
  rw [dsub_w b0 b1] at P2
  have s1 : (bb - n1).toInt = bb.toInt - n1.toInt := XT.sub64 (by constructor <;> omega)
  have b4 : B53 (bb - n1) := ⟨by omega, by omega⟩
  obtain ⟨hpa, ehpa⟩ : ∃ z, z = T136.heap := ⟨_, rfl⟩
  rw [← ehpa] at P2 Z136
  have g138 : own_Go p e below s₁ (entryFrame m #[(.long q0), (.long q1), (.long q2), (.long q3), (.int p4), (.int p5)] maxLocals) T136 (mkF m 74 #[.val (.long q0), .second, .val (.long q1), .second, .val (.long q2), .second, .val (.long q3), .second, iv p4, iv p5, .val (.long bb), .second, .val (.long n1), .second, .val (.long n2), .second, .val (.long n3), .second, iv kk, iv mm, rv a1, .unset, .unset, .unset, .unset, .unset, .unset, .unset, .unset, .unset, .unset, .unset, .unset, .unset, .unset, .unset, .unset, .unset, .unset] [(.ref a1)]) := by
    intro target kt
    refine g137 target ?_
    refine XS.aload X136.here hx rfl (hb hby at_72) rfl rfl ?_
    show Steps p.tables e below (T136.setTop (mkF m 74 #[.val (.long q0), .second, .val (.long q1), .second, .val (.long q2), .second, .val (.long q3), .second, iv p4, iv p5, .val (.long bb), .second, .val (.long n1), .second, .val (.long n2), .second, .val (.long n3), .second, iv kk, iv mm, rv a1, .unset, .unset, .unset, .unset, .unset, .unset, .unset, .unset, .unset, .unset, .unset, .unset, .unset, .unset, .unset, .unset, .unset, .unset] [(.ref a1)])) target
    exact kt
  obtain ⟨cq139, kq139, q139a, q139b, q139c⟩ := isOf hZ ehpa.symm P2.1
  obtain ⟨_, _, ⟨T139, L139, k139, n139⟩, -, X139, ⟨Lc139, hQ139, l139, y139, z139⟩, st139⟩ := X136.virtualBack hx (y := (⟨"com/example/ends_to_means/endstomeans/solver/ForwardPace", "mayAddLayer", "()Z"⟩ : MethodName)) (z := (⟨"com/example/ends_to_means/endstomeans/solver/ForwardPace", "mayAddLayer", "()Z"⟩ : MethodName)) hown (mvT hZ (hw _ (List.mem_of_getElem? (i := 43) rfl))) (mvT hZ (hw _ (List.mem_of_getElem? (i := 44) rfl))) (notFace_of_selects (args := #[]) (mvT hZ (hw _ (List.mem_of_getElem? (i := 46) rfl)))) (mvT hZ (hw _ (List.mem_of_getElem? (i := 46) rfl))) (mvT hZ (hw _ (List.mem_of_getElem? (i := 45) rfl))) (by decide) (backOf (W := 0) (rmMA l Z a0 hw [] a1 (FP.l2d 1) (0 + bb) (0 + mm.toInt64) (FP.l2d (bb - n1)) 1 n1 0 0 hpa n0 Z136 P2) hZ (hw _ (List.mem_of_getElem? (i := 47) rfl)) (hw _ (List.mem_of_getElem? (i := 6) rfl)) (by decide) (by decide)) q139a q139c (g := (mkF m 74 #[.val (.long q0), .second, .val (.long q1), .second, .val (.long q2), .second, .val (.long q3), .second, iv p4, iv p5, .val (.long bb), .second, .val (.long n1), .second, .val (.long n2), .second, .val (.long n3), .second, iv kk, iv mm, rv a1, .unset, .unset, .unset, .unset, .unset, .unset, .unset, .unset, .unset, .unset, .unset, .unset, .unset, .unset, .unset, .unset, .unset, .unset] [(.ref a1)])) rfl (by rw [hml]; rfl) (Steps.refl _) (argsL := []) (rest := []) (lenOf pd_5 rfl) rfl (by show 2 * 0 + _ ≤ _; exact Nat.le_of_eq rfl) (hb hby at_74) (fun _ _ => ⟨rfl, ehpa.symm, (by decide : 1 + 0 ≤ _), (by decide : 8 + 0 ≤ _)⟩)
  dsimp only [Pt.U, Pt.locs, Pt.cells, Pt.slots] at X139 l139 y139 z139 st139 hQ139
  subst l139 y139 z139
  obtain ⟨rfl, Nq139, eq139⟩ := hQ139
  have N139 := Fr.app N136 Nq139
  have g140 : own_Go p e below s₁ (entryFrame m #[(.long q0), (.long q1), (.long q2), (.long q3), (.int p4), (.int p5)] maxLocals) T139 (mkF m 77 #[.val (.long q0), .second, .val (.long q1), .second, .val (.long q2), .second, .val (.long q3), .second, iv p4, iv p5, .val (.long bb), .second, .val (.long n1), .second, .val (.long n2), .second, .val (.long n3), .second, iv kk, iv mm, rv a1, .unset, .unset, .unset, .unset, .unset, .unset, .unset, .unset, .unset, .unset, .unset, .unset, .unset, .unset, .unset, .unset, .unset, .unset] [(.int (own_ma (own_ex n1 0 0) (FP.l2d (bb - n1))))]) := fun target kt => g138 target (st139.trans kt)
  obtain ⟨t1, hm145, g145⟩ : ∃ (t1 : Int32), (t1 = (if (bb - n1) < n1 then (0 : Int32) else (1 : Int32))) ∧ own_Go p e below s₁ (entryFrame m #[(.long q0), (.long q1), (.long q2), (.long q3), (.int p4), (.int p5)] maxLocals) T139 (mkF m 93 #[.val (.long q0), .second, .val (.long q1), .second, .val (.long q2), .second, .val (.long q3), .second, iv p4, iv p5, .val (.long bb), .second, .val (.long n1), .second, .val (.long n2), .second, .val (.long n3), .second, iv kk, iv mm, rv a1, .unset, .unset, .unset, .unset, .unset, .unset, .unset, .unset, .unset, .unset, .unset, .unset, .unset, .unset, .unset, .unset, .unset, .unset] [(.int t1), (.int (own_ma (own_ex n1 0 0) (FP.l2d (bb - n1))))]) := by
    have g141 : own_Go p e below s₁ (entryFrame m #[(.long q0), (.long q1), (.long q2), (.long q3), (.int p4), (.int p5)] maxLocals) T139 (mkF m 85 #[.val (.long q0), .second, .val (.long q1), .second, .val (.long q2), .second, .val (.long q3), .second, iv p4, iv p5, .val (.long bb), .second, .val (.long n1), .second, .val (.long n2), .second, .val (.long n3), .second, iv kk, iv mm, rv a1, .unset, .unset, .unset, .unset, .unset, .unset, .unset, .unset, .unset, .unset, .unset, .unset, .unset, .unset, .unset, .unset, .unset, .unset] [(.int (XT.cmpL n1 (bb - n1))), (.int (own_ma (own_ex n1 0 0) (FP.l2d (bb - n1))))]) := by
      intro target kt
      refine g140 target ?_
      refine XT.lload X139.here hx rfl (hb hby at_77) rfl ?_
      show Steps p.tables e below (T139.setTop (mkF m 79 #[.val (.long q0), .second, .val (.long q1), .second, .val (.long q2), .second, .val (.long q3), .second, iv p4, iv p5, .val (.long bb), .second, .val (.long n1), .second, .val (.long n2), .second, .val (.long n3), .second, iv kk, iv mm, rv a1, .unset, .unset, .unset, .unset, .unset, .unset, .unset, .unset, .unset, .unset, .unset, .unset, .unset, .unset, .unset, .unset, .unset, .unset] [(.long n1), (.int (own_ma (own_ex n1 0 0) (FP.l2d (bb - n1))))])) target
      refine XT.lload X139.here hx rfl (hb hby at_79) rfl ?_
      show Steps p.tables e below (T139.setTop (mkF m 81 #[.val (.long q0), .second, .val (.long q1), .second, .val (.long q2), .second, .val (.long q3), .second, iv p4, iv p5, .val (.long bb), .second, .val (.long n1), .second, .val (.long n2), .second, .val (.long n3), .second, iv kk, iv mm, rv a1, .unset, .unset, .unset, .unset, .unset, .unset, .unset, .unset, .unset, .unset, .unset, .unset, .unset, .unset, .unset, .unset, .unset, .unset] [(.long bb), (.long n1), (.int (own_ma (own_ex n1 0 0) (FP.l2d (bb - n1))))])) target
      refine XT.lload X139.here hx rfl (hb hby at_81) rfl ?_
      show Steps p.tables e below (T139.setTop (mkF m 83 #[.val (.long q0), .second, .val (.long q1), .second, .val (.long q2), .second, .val (.long q3), .second, iv p4, iv p5, .val (.long bb), .second, .val (.long n1), .second, .val (.long n2), .second, .val (.long n3), .second, iv kk, iv mm, rv a1, .unset, .unset, .unset, .unset, .unset, .unset, .unset, .unset, .unset, .unset, .unset, .unset, .unset, .unset, .unset, .unset, .unset, .unset] [(.long n1), (.long bb), (.long n1), (.int (own_ma (own_ex n1 0 0) (FP.l2d (bb - n1))))])) target
      refine XT.lsub X139.here hx rfl (hb hby at_83) rfl ?_
      show Steps p.tables e below (T139.setTop (mkF m 84 #[.val (.long q0), .second, .val (.long q1), .second, .val (.long q2), .second, .val (.long q3), .second, iv p4, iv p5, .val (.long bb), .second, .val (.long n1), .second, .val (.long n2), .second, .val (.long n3), .second, iv kk, iv mm, rv a1, .unset, .unset, .unset, .unset, .unset, .unset, .unset, .unset, .unset, .unset, .unset, .unset, .unset, .unset, .unset, .unset, .unset, .unset] [(.long (bb - n1)), (.long n1), (.int (own_ma (own_ex n1 0 0) (FP.l2d (bb - n1))))])) target
      refine XT.lcmp X139.here hx rfl (hb hby at_84) rfl ?_
      show Steps p.tables e below (T139.setTop (mkF m 85 #[.val (.long q0), .second, .val (.long q1), .second, .val (.long q2), .second, .val (.long q3), .second, iv p4, iv p5, .val (.long bb), .second, .val (.long n1), .second, .val (.long n2), .second, .val (.long n3), .second, iv kk, iv mm, rv a1, .unset, .unset, .unset, .unset, .unset, .unset, .unset, .unset, .unset, .unset, .unset, .unset, .unset, .unset, .unset, .unset, .unset, .unset] [(.int (XT.cmpL n1 (bb - n1))), (.int (own_ma (own_ex n1 0 0) (FP.l2d (bb - n1))))])) target
      exact kt
    by_cases hc142 : (bb - n1) < n1
    · have g143 : own_Go p e below s₁ (entryFrame m #[(.long q0), (.long q1), (.long q2), (.long q3), (.int p4), (.int p5)] maxLocals) T139 (mkF m 93 #[.val (.long q0), .second, .val (.long q1), .second, .val (.long q2), .second, .val (.long q3), .second, iv p4, iv p5, .val (.long bb), .second, .val (.long n1), .second, .val (.long n2), .second, .val (.long n3), .second, iv kk, iv mm, rv a1, .unset, .unset, .unset, .unset, .unset, .unset, .unset, .unset, .unset, .unset, .unset, .unset, .unset, .unset, .unset, .unset, .unset, .unset] [(.int (0 : Int32)), (.int (own_ma (own_ex n1 0 0) (FP.l2d (bb - n1))))]) := by
        intro target kt
        refine g141 target ?_
        refine XS.ifYes X139.here hx rfl (pc0 := 85) (pc' := 92) rfl (hb hby at_85) rfl (XT.ll_gt_t hc142) (by decide) (by decide) ?_
        show Steps p.tables e below (T139.setTop (mkF m 92 #[.val (.long q0), .second, .val (.long q1), .second, .val (.long q2), .second, .val (.long q3), .second, iv p4, iv p5, .val (.long bb), .second, .val (.long n1), .second, .val (.long n2), .second, .val (.long n3), .second, iv kk, iv mm, rv a1, .unset, .unset, .unset, .unset, .unset, .unset, .unset, .unset, .unset, .unset, .unset, .unset, .unset, .unset, .unset, .unset, .unset, .unset] [(.int (own_ma (own_ex n1 0 0) (FP.l2d (bb - n1))))])) target
        refine XT.iconstV X139.here hx rfl (0 : Int32) (hb hby at_92) rfl ?_
        show Steps p.tables e below (T139.setTop (mkF m 93 #[.val (.long q0), .second, .val (.long q1), .second, .val (.long q2), .second, .val (.long q3), .second, iv p4, iv p5, .val (.long bb), .second, .val (.long n1), .second, .val (.long n2), .second, .val (.long n3), .second, iv kk, iv mm, rv a1, .unset, .unset, .unset, .unset, .unset, .unset, .unset, .unset, .unset, .unset, .unset, .unset, .unset, .unset, .unset, .unset, .unset, .unset] [(.int (0 : Int32)), (.int (own_ma (own_ex n1 0 0) (FP.l2d (bb - n1))))])) target
        exact kt
      exact ⟨(0 : Int32), (by simp only [if_pos hc142]), g143⟩
    · have g144 : own_Go p e below s₁ (entryFrame m #[(.long q0), (.long q1), (.long q2), (.long q3), (.int p4), (.int p5)] maxLocals) T139 (mkF m 93 #[.val (.long q0), .second, .val (.long q1), .second, .val (.long q2), .second, .val (.long q3), .second, iv p4, iv p5, .val (.long bb), .second, .val (.long n1), .second, .val (.long n2), .second, .val (.long n3), .second, iv kk, iv mm, rv a1, .unset, .unset, .unset, .unset, .unset, .unset, .unset, .unset, .unset, .unset, .unset, .unset, .unset, .unset, .unset, .unset, .unset, .unset] [(.int (1 : Int32)), (.int (own_ma (own_ex n1 0 0) (FP.l2d (bb - n1))))]) := by
        intro target kt
        refine g141 target ?_
        refine XS.ifNo X139.here hx rfl (hb hby at_85) rfl (XT.ll_gt_f hc142) ?_
        show Steps p.tables e below (T139.setTop (mkF m 88 #[.val (.long q0), .second, .val (.long q1), .second, .val (.long q2), .second, .val (.long q3), .second, iv p4, iv p5, .val (.long bb), .second, .val (.long n1), .second, .val (.long n2), .second, .val (.long n3), .second, iv kk, iv mm, rv a1, .unset, .unset, .unset, .unset, .unset, .unset, .unset, .unset, .unset, .unset, .unset, .unset, .unset, .unset, .unset, .unset, .unset, .unset] [(.int (own_ma (own_ex n1 0 0) (FP.l2d (bb - n1))))])) target
        refine XT.iconstV X139.here hx rfl (1 : Int32) (hb hby at_88) rfl ?_
        show Steps p.tables e below (T139.setTop (mkF m 89 #[.val (.long q0), .second, .val (.long q1), .second, .val (.long q2), .second, .val (.long q3), .second, iv p4, iv p5, .val (.long bb), .second, .val (.long n1), .second, .val (.long n2), .second, .val (.long n3), .second, iv kk, iv mm, rv a1, .unset, .unset, .unset, .unset, .unset, .unset, .unset, .unset, .unset, .unset, .unset, .unset, .unset, .unset, .unset, .unset, .unset, .unset] [(.int (1 : Int32)), (.int (own_ma (own_ex n1 0 0) (FP.l2d (bb - n1))))])) target
        refine XS.goto X139.here hx rfl (pc0 := 89) (pc' := 93) rfl (hb hby at_89) (by decide) (by decide) ?_
        show Steps p.tables e below (T139.setTop (mkF m 93 #[.val (.long q0), .second, .val (.long q1), .second, .val (.long q2), .second, .val (.long q3), .second, iv p4, iv p5, .val (.long bb), .second, .val (.long n1), .second, .val (.long n2), .second, .val (.long n3), .second, iv kk, iv mm, rv a1, .unset, .unset, .unset, .unset, .unset, .unset, .unset, .unset, .unset, .unset, .unset, .unset, .unset, .unset, .unset, .unset, .unset, .unset] [(.int (1 : Int32)), (.int (own_ma (own_ex n1 0 0) (FP.l2d (bb - n1))))])) target
        exact kt
      exact ⟨(1 : Int32), (by simp only [if_neg hc142]), g144⟩
  have g146 : own_Go p e below s₁ (entryFrame m #[(.long q0), (.long q1), (.long q2), (.long q3), (.int p4), (.int p5)] maxLocals) T139 (mkF m 108 #[.val (.long q0), .second, .val (.long q1), .second, .val (.long q2), .second, .val (.long q3), .second, iv p4, iv p5, .val (.long bb), .second, .val (.long n1), .second, .val (.long n2), .second, .val (.long n3), .second, iv kk, iv mm, rv a1, iv (1 : Int32), .unset, .unset, .unset, .unset, .unset, .unset, .unset, .unset, .unset, .unset, .unset, .unset, .unset, .unset, .unset, .unset, .unset] [(.int (2 : Int32)), (.long n2), (.ref a1)]) := by
    intro target kt
    refine g145 target ?_
    refine XS.icmpNo X139.here hx rfl (hb hby at_93) rfl (XT.ii_ne_f (by rw [own_exc, own_ma1 b1 b4, hm145])) ?_
    show Steps p.tables e below (T139.setTop (mkF m 96 #[.val (.long q0), .second, .val (.long q1), .second, .val (.long q2), .second, .val (.long q3), .second, iv p4, iv p5, .val (.long bb), .second, .val (.long n1), .second, .val (.long n2), .second, .val (.long n3), .second, iv kk, iv mm, rv a1, .unset, .unset, .unset, .unset, .unset, .unset, .unset, .unset, .unset, .unset, .unset, .unset, .unset, .unset, .unset, .unset, .unset, .unset] [])) target
    refine XT.iconstV X139.here hx rfl (1 : Int32) (hb hby at_96) rfl ?_
    show Steps p.tables e below (T139.setTop (mkF m 97 #[.val (.long q0), .second, .val (.long q1), .second, .val (.long q2), .second, .val (.long q3), .second, iv p4, iv p5, .val (.long bb), .second, .val (.long n1), .second, .val (.long n2), .second, .val (.long n3), .second, iv kk, iv mm, rv a1, .unset, .unset, .unset, .unset, .unset, .unset, .unset, .unset, .unset, .unset, .unset, .unset, .unset, .unset, .unset, .unset, .unset, .unset] [(.int (1 : Int32))])) target
    refine XS.goto X139.here hx rfl (pc0 := 97) (pc' := 101) rfl (hb hby at_97) (by decide) (by decide) ?_
    show Steps p.tables e below (T139.setTop (mkF m 101 #[.val (.long q0), .second, .val (.long q1), .second, .val (.long q2), .second, .val (.long q3), .second, iv p4, iv p5, .val (.long bb), .second, .val (.long n1), .second, .val (.long n2), .second, .val (.long n3), .second, iv kk, iv mm, rv a1, .unset, .unset, .unset, .unset, .unset, .unset, .unset, .unset, .unset, .unset, .unset, .unset, .unset, .unset, .unset, .unset, .unset, .unset] [(.int (1 : Int32))])) target
    refine XS.istore X139.here hx rfl (hb hby at_101) rfl (l' := #[.val (.long q0), .second, .val (.long q1), .second, .val (.long q2), .second, .val (.long q3), .second, iv p4, iv p5, .val (.long bb), .second, .val (.long n1), .second, .val (.long n2), .second, .val (.long n3), .second, iv kk, iv mm, rv a1, iv (1 : Int32), .unset, .unset, .unset, .unset, .unset, .unset, .unset, .unset, .unset, .unset, .unset, .unset, .unset, .unset, .unset, .unset, .unset]) rfl ?_
    show Steps p.tables e below (T139.setTop (mkF m 103 #[.val (.long q0), .second, .val (.long q1), .second, .val (.long q2), .second, .val (.long q3), .second, iv p4, iv p5, .val (.long bb), .second, .val (.long n1), .second, .val (.long n2), .second, .val (.long n3), .second, iv kk, iv mm, rv a1, iv (1 : Int32), .unset, .unset, .unset, .unset, .unset, .unset, .unset, .unset, .unset, .unset, .unset, .unset, .unset, .unset, .unset, .unset, .unset] [])) target
    refine XS.aload X139.here hx rfl (hb hby at_103) rfl rfl ?_
    show Steps p.tables e below (T139.setTop (mkF m 105 #[.val (.long q0), .second, .val (.long q1), .second, .val (.long q2), .second, .val (.long q3), .second, iv p4, iv p5, .val (.long bb), .second, .val (.long n1), .second, .val (.long n2), .second, .val (.long n3), .second, iv kk, iv mm, rv a1, iv (1 : Int32), .unset, .unset, .unset, .unset, .unset, .unset, .unset, .unset, .unset, .unset, .unset, .unset, .unset, .unset, .unset, .unset, .unset] [(.ref a1)])) target
    refine XT.lload X139.here hx rfl (hb hby at_105) rfl ?_
    show Steps p.tables e below (T139.setTop (mkF m 107 #[.val (.long q0), .second, .val (.long q1), .second, .val (.long q2), .second, .val (.long q3), .second, iv p4, iv p5, .val (.long bb), .second, .val (.long n1), .second, .val (.long n2), .second, .val (.long n3), .second, iv kk, iv mm, rv a1, iv (1 : Int32), .unset, .unset, .unset, .unset, .unset, .unset, .unset, .unset, .unset, .unset, .unset, .unset, .unset, .unset, .unset, .unset, .unset] [(.long n2), (.ref a1)])) target
    refine XT.iconstV X139.here hx rfl (2 : Int32) (hb hby at_107) rfl ?_
    show Steps p.tables e below (T139.setTop (mkF m 108 #[.val (.long q0), .second, .val (.long q1), .second, .val (.long q2), .second, .val (.long q3), .second, iv p4, iv p5, .val (.long bb), .second, .val (.long n1), .second, .val (.long n2), .second, .val (.long n3), .second, iv kk, iv mm, rv a1, iv (1 : Int32), .unset, .unset, .unset, .unset, .unset, .unset, .unset, .unset, .unset, .unset, .unset, .unset, .unset, .unset, .unset, .unset, .unset] [(.int (2 : Int32)), (.long n2), (.ref a1)])) target
    exact kt
  obtain ⟨cq147, kq147, q147a, q147b, q147c⟩ := isOf hZ eq139 P2.1
  obtain ⟨_, _, ⟨T147, L147, k147, n147⟩, -, X147, ⟨Lc147, hQ147, l147, y147, z147⟩, st147⟩ := X139.virtualBack hx (y := (⟨"com/example/ends_to_means/endstomeans/solver/ForwardPace", "forwardTook", "(JI)V"⟩ : MethodName)) (z := (⟨"com/example/ends_to_means/endstomeans/solver/ForwardPace", "forwardTook", "(JI)V"⟩ : MethodName)) hown (mvT hZ (hw _ (List.mem_of_getElem? (i := 32) rfl))) (mvT hZ (hw _ (List.mem_of_getElem? (i := 33) rfl))) (notFace_of_selects (args := #[]) (mvT hZ (hw _ (List.mem_of_getElem? (i := 35) rfl)))) (mvT hZ (hw _ (List.mem_of_getElem? (i := 35) rfl))) (mvT hZ (hw _ (List.mem_of_getElem? (i := 34) rfl))) (by decide) (backOf (W := 0) (rmFT l Z a0 hw [] a1 n2 (2 : Int32) (FP.l2d 1) (0 + bb) (0 + mm.toInt64) (FP.l2d (bb - n1)) 1 n1 0 0 hpa n0 Z136 P2 (l2d_fin _) g_a1) hZ (hw _ (List.mem_of_getElem? (i := 36) rfl)) (hw _ (List.mem_of_getElem? (i := 6) rfl)) (by decide) (by decide)) q147a q147c (g := (mkF m 108 #[.val (.long q0), .second, .val (.long q1), .second, .val (.long q2), .second, .val (.long q3), .second, iv p4, iv p5, .val (.long bb), .second, .val (.long n1), .second, .val (.long n2), .second, .val (.long n3), .second, iv kk, iv mm, rv a1, iv (1 : Int32), .unset, .unset, .unset, .unset, .unset, .unset, .unset, .unset, .unset, .unset, .unset, .unset, .unset, .unset, .unset, .unset, .unset] [(.int (2 : Int32)), (.long n2), (.ref a1)])) rfl (by rw [hml]; rfl) (Steps.refl _) (argsL := [(.long n2), (.int (2 : Int32))]) (rest := []) (lenOf pd_4 rfl) rfl (by show 2 * 0 + _ ≤ _; exact Nat.le_of_eq rfl) (hb hby at_108) (fun _ _ => ⟨rfl, eq139, (by decide : 1 + 0 ≤ _), (by decide : 8 + 0 ≤ _)⟩)
  dsimp only [Pt.U, Pt.locs, Pt.cells, Pt.slots] at X147 l147 y147 z147 st147 hQ147
  subst l147 y147 z147
  obtain ⟨rfl, Nq147, K147, P3⟩ := hQ147
  have N147 := Fr.app N139 Nq147
  have g148 : own_Go p e below s₁ (entryFrame m #[(.long q0), (.long q1), (.long q2), (.long q3), (.int p4), (.int p5)] maxLocals) T147 (mkF m 111 #[.val (.long q0), .second, .val (.long q1), .second, .val (.long q2), .second, .val (.long q3), .second, iv p4, iv p5, .val (.long bb), .second, .val (.long n1), .second, .val (.long n2), .second, .val (.long n3), .second, iv kk, iv mm, rv a1, iv (1 : Int32), .unset, .unset, .unset, .unset, .unset, .unset, .unset, .unset, .unset, .unset, .unset, .unset, .unset, .unset, .unset, .unset, .unset] []) := fun target kt => g146 target (st147.trans kt)
  have Z147 : n0 ≤ T147.heap.size := Nat.le_trans Z136 K147.1
  rw [dsub_w b4 b2] at P3
  have s2 : (bb - n1 - n2).toInt = bb.toInt - n1.toInt - n2.toInt := by rw [XT.sub64 (by rw [s1]; constructor <;> omega), s1]
  have b5 : B53 (bb - n1 - n2) := ⟨by omega, by omega⟩
  obtain ⟨hpb, ehpb⟩ : ∃ z, z = T147.heap := ⟨_, rfl⟩
  rw [← ehpb] at P3 Z147
  have g149 : own_Go p e below s₁ (entryFrame m #[(.long q0), (.long q1), (.long q2), (.long q3), (.int p4), (.int p5)] maxLocals) T147 (mkF m 113 #[.val (.long q0), .second, .val (.long q1), .second, .val (.long q2), .second, .val (.long q3), .second, iv p4, iv p5, .val (.long bb), .second, .val (.long n1), .second, .val (.long n2), .second, .val (.long n3), .second, iv kk, iv mm, rv a1, iv (1 : Int32), .unset, .unset, .unset, .unset, .unset, .unset, .unset, .unset, .unset, .unset, .unset, .unset, .unset, .unset, .unset, .unset, .unset] [(.ref a1)]) := by
    intro target kt
    refine g148 target ?_
    refine XS.aload X147.here hx rfl (hb hby at_111) rfl rfl ?_
    show Steps p.tables e below (T147.setTop (mkF m 113 #[.val (.long q0), .second, .val (.long q1), .second, .val (.long q2), .second, .val (.long q3), .second, iv p4, iv p5, .val (.long bb), .second, .val (.long n1), .second, .val (.long n2), .second, .val (.long n3), .second, iv kk, iv mm, rv a1, iv (1 : Int32), .unset, .unset, .unset, .unset, .unset, .unset, .unset, .unset, .unset, .unset, .unset, .unset, .unset, .unset, .unset, .unset, .unset] [(.ref a1)])) target
    exact kt
  obtain ⟨cq150, kq150, q150a, q150b, q150c⟩ := isOf hZ ehpb.symm P3.1
  obtain ⟨_, _, ⟨T150, L150, k150, n150⟩, -, X150, ⟨Lc150, hQ150, l150, y150, z150⟩, st150⟩ := X147.virtualBack hx (y := (⟨"com/example/ends_to_means/endstomeans/solver/ForwardPace", "mayAddLayer", "()Z"⟩ : MethodName)) (z := (⟨"com/example/ends_to_means/endstomeans/solver/ForwardPace", "mayAddLayer", "()Z"⟩ : MethodName)) hown (mvT hZ (hw _ (List.mem_of_getElem? (i := 43) rfl))) (mvT hZ (hw _ (List.mem_of_getElem? (i := 44) rfl))) (notFace_of_selects (args := #[]) (mvT hZ (hw _ (List.mem_of_getElem? (i := 46) rfl)))) (mvT hZ (hw _ (List.mem_of_getElem? (i := 46) rfl))) (mvT hZ (hw _ (List.mem_of_getElem? (i := 45) rfl))) (by decide) (backOf (W := 0) (rmMA l Z a0 hw [] a1 (FP.l2d 1) (0 + bb) (0 + mm.toInt64) (FP.l2d (bb - n1 - n2)) 2 n2 n1 0 hpb n0 Z147 P3) hZ (hw _ (List.mem_of_getElem? (i := 47) rfl)) (hw _ (List.mem_of_getElem? (i := 6) rfl)) (by decide) (by decide)) q150a q150c (g := (mkF m 113 #[.val (.long q0), .second, .val (.long q1), .second, .val (.long q2), .second, .val (.long q3), .second, iv p4, iv p5, .val (.long bb), .second, .val (.long n1), .second, .val (.long n2), .second, .val (.long n3), .second, iv kk, iv mm, rv a1, iv (1 : Int32), .unset, .unset, .unset, .unset, .unset, .unset, .unset, .unset, .unset, .unset, .unset, .unset, .unset, .unset, .unset, .unset, .unset] [(.ref a1)])) rfl (by rw [hml]; rfl) (Steps.refl _) (argsL := []) (rest := []) (lenOf pd_5 rfl) rfl (by show 2 * 0 + _ ≤ _; exact Nat.le_of_eq rfl) (hb hby at_113) (fun _ _ => ⟨rfl, ehpb.symm, (by decide : 1 + 0 ≤ _), (by decide : 8 + 0 ≤ _)⟩)
  dsimp only [Pt.U, Pt.locs, Pt.cells, Pt.slots] at X150 l150 y150 z150 st150 hQ150
  subst l150 y150 z150
  obtain ⟨rfl, Nq150, eq150⟩ := hQ150
  have N150 := Fr.app N147 Nq150
  have g151 : own_Go p e below s₁ (entryFrame m #[(.long q0), (.long q1), (.long q2), (.long q3), (.int p4), (.int p5)] maxLocals) T150 (mkF m 116 #[.val (.long q0), .second, .val (.long q1), .second, .val (.long q2), .second, .val (.long q3), .second, iv p4, iv p5, .val (.long bb), .second, .val (.long n1), .second, .val (.long n2), .second, .val (.long n3), .second, iv kk, iv mm, rv a1, iv (1 : Int32), .unset, .unset, .unset, .unset, .unset, .unset, .unset, .unset, .unset, .unset, .unset, .unset, .unset, .unset, .unset, .unset, .unset] [(.int (own_ma (own_ex n2 n1 0) (FP.l2d (bb - n1 - n2))))]) := fun target kt => g149 target (st150.trans kt)
  obtain ⟨t2, hm156, g156⟩ : ∃ (t2 : Int32), (t2 = (if ((bb - n1) - n2) < n2 then (0 : Int32) else (1 : Int32))) ∧ own_Go p e below s₁ (entryFrame m #[(.long q0), (.long q1), (.long q2), (.long q3), (.int p4), (.int p5)] maxLocals) T150 (mkF m 135 #[.val (.long q0), .second, .val (.long q1), .second, .val (.long q2), .second, .val (.long q3), .second, iv p4, iv p5, .val (.long bb), .second, .val (.long n1), .second, .val (.long n2), .second, .val (.long n3), .second, iv kk, iv mm, rv a1, iv (1 : Int32), .unset, .unset, .unset, .unset, .unset, .unset, .unset, .unset, .unset, .unset, .unset, .unset, .unset, .unset, .unset, .unset, .unset] [(.int t2), (.int (own_ma (own_ex n2 n1 0) (FP.l2d (bb - n1 - n2))))]) := by
    have g152 : own_Go p e below s₁ (entryFrame m #[(.long q0), (.long q1), (.long q2), (.long q3), (.int p4), (.int p5)] maxLocals) T150 (mkF m 127 #[.val (.long q0), .second, .val (.long q1), .second, .val (.long q2), .second, .val (.long q3), .second, iv p4, iv p5, .val (.long bb), .second, .val (.long n1), .second, .val (.long n2), .second, .val (.long n3), .second, iv kk, iv mm, rv a1, iv (1 : Int32), .unset, .unset, .unset, .unset, .unset, .unset, .unset, .unset, .unset, .unset, .unset, .unset, .unset, .unset, .unset, .unset, .unset] [(.int (XT.cmpL n2 ((bb - n1) - n2))), (.int (own_ma (own_ex n2 n1 0) (FP.l2d (bb - n1 - n2))))]) := by
      intro target kt
      refine g151 target ?_
      refine XT.lload X150.here hx rfl (hb hby at_116) rfl ?_
      show Steps p.tables e below (T150.setTop (mkF m 118 #[.val (.long q0), .second, .val (.long q1), .second, .val (.long q2), .second, .val (.long q3), .second, iv p4, iv p5, .val (.long bb), .second, .val (.long n1), .second, .val (.long n2), .second, .val (.long n3), .second, iv kk, iv mm, rv a1, iv (1 : Int32), .unset, .unset, .unset, .unset, .unset, .unset, .unset, .unset, .unset, .unset, .unset, .unset, .unset, .unset, .unset, .unset, .unset] [(.long n2), (.int (own_ma (own_ex n2 n1 0) (FP.l2d (bb - n1 - n2))))])) target
      refine XT.lload X150.here hx rfl (hb hby at_118) rfl ?_
      show Steps p.tables e below (T150.setTop (mkF m 120 #[.val (.long q0), .second, .val (.long q1), .second, .val (.long q2), .second, .val (.long q3), .second, iv p4, iv p5, .val (.long bb), .second, .val (.long n1), .second, .val (.long n2), .second, .val (.long n3), .second, iv kk, iv mm, rv a1, iv (1 : Int32), .unset, .unset, .unset, .unset, .unset, .unset, .unset, .unset, .unset, .unset, .unset, .unset, .unset, .unset, .unset, .unset, .unset] [(.long bb), (.long n2), (.int (own_ma (own_ex n2 n1 0) (FP.l2d (bb - n1 - n2))))])) target
      refine XT.lload X150.here hx rfl (hb hby at_120) rfl ?_
      show Steps p.tables e below (T150.setTop (mkF m 122 #[.val (.long q0), .second, .val (.long q1), .second, .val (.long q2), .second, .val (.long q3), .second, iv p4, iv p5, .val (.long bb), .second, .val (.long n1), .second, .val (.long n2), .second, .val (.long n3), .second, iv kk, iv mm, rv a1, iv (1 : Int32), .unset, .unset, .unset, .unset, .unset, .unset, .unset, .unset, .unset, .unset, .unset, .unset, .unset, .unset, .unset, .unset, .unset] [(.long n1), (.long bb), (.long n2), (.int (own_ma (own_ex n2 n1 0) (FP.l2d (bb - n1 - n2))))])) target
      refine XT.lsub X150.here hx rfl (hb hby at_122) rfl ?_
      show Steps p.tables e below (T150.setTop (mkF m 123 #[.val (.long q0), .second, .val (.long q1), .second, .val (.long q2), .second, .val (.long q3), .second, iv p4, iv p5, .val (.long bb), .second, .val (.long n1), .second, .val (.long n2), .second, .val (.long n3), .second, iv kk, iv mm, rv a1, iv (1 : Int32), .unset, .unset, .unset, .unset, .unset, .unset, .unset, .unset, .unset, .unset, .unset, .unset, .unset, .unset, .unset, .unset, .unset] [(.long (bb - n1)), (.long n2), (.int (own_ma (own_ex n2 n1 0) (FP.l2d (bb - n1 - n2))))])) target
      refine XT.lload X150.here hx rfl (hb hby at_123) rfl ?_
      show Steps p.tables e below (T150.setTop (mkF m 125 #[.val (.long q0), .second, .val (.long q1), .second, .val (.long q2), .second, .val (.long q3), .second, iv p4, iv p5, .val (.long bb), .second, .val (.long n1), .second, .val (.long n2), .second, .val (.long n3), .second, iv kk, iv mm, rv a1, iv (1 : Int32), .unset, .unset, .unset, .unset, .unset, .unset, .unset, .unset, .unset, .unset, .unset, .unset, .unset, .unset, .unset, .unset, .unset] [(.long n2), (.long (bb - n1)), (.long n2), (.int (own_ma (own_ex n2 n1 0) (FP.l2d (bb - n1 - n2))))])) target
      refine XT.lsub X150.here hx rfl (hb hby at_125) rfl ?_
      show Steps p.tables e below (T150.setTop (mkF m 126 #[.val (.long q0), .second, .val (.long q1), .second, .val (.long q2), .second, .val (.long q3), .second, iv p4, iv p5, .val (.long bb), .second, .val (.long n1), .second, .val (.long n2), .second, .val (.long n3), .second, iv kk, iv mm, rv a1, iv (1 : Int32), .unset, .unset, .unset, .unset, .unset, .unset, .unset, .unset, .unset, .unset, .unset, .unset, .unset, .unset, .unset, .unset, .unset] [(.long ((bb - n1) - n2)), (.long n2), (.int (own_ma (own_ex n2 n1 0) (FP.l2d (bb - n1 - n2))))])) target
      refine XT.lcmp X150.here hx rfl (hb hby at_126) rfl ?_
      show Steps p.tables e below (T150.setTop (mkF m 127 #[.val (.long q0), .second, .val (.long q1), .second, .val (.long q2), .second, .val (.long q3), .second, iv p4, iv p5, .val (.long bb), .second, .val (.long n1), .second, .val (.long n2), .second, .val (.long n3), .second, iv kk, iv mm, rv a1, iv (1 : Int32), .unset, .unset, .unset, .unset, .unset, .unset, .unset, .unset, .unset, .unset, .unset, .unset, .unset, .unset, .unset, .unset, .unset] [(.int (XT.cmpL n2 ((bb - n1) - n2))), (.int (own_ma (own_ex n2 n1 0) (FP.l2d (bb - n1 - n2))))])) target
      exact kt
    by_cases hc153 : ((bb - n1) - n2) < n2
    · have g154 : own_Go p e below s₁ (entryFrame m #[(.long q0), (.long q1), (.long q2), (.long q3), (.int p4), (.int p5)] maxLocals) T150 (mkF m 135 #[.val (.long q0), .second, .val (.long q1), .second, .val (.long q2), .second, .val (.long q3), .second, iv p4, iv p5, .val (.long bb), .second, .val (.long n1), .second, .val (.long n2), .second, .val (.long n3), .second, iv kk, iv mm, rv a1, iv (1 : Int32), .unset, .unset, .unset, .unset, .unset, .unset, .unset, .unset, .unset, .unset, .unset, .unset, .unset, .unset, .unset, .unset, .unset] [(.int (0 : Int32)), (.int (own_ma (own_ex n2 n1 0) (FP.l2d (bb - n1 - n2))))]) := by
        intro target kt
        refine g152 target ?_
        refine XS.ifYes X150.here hx rfl (pc0 := 127) (pc' := 134) rfl (hb hby at_127) rfl (XT.ll_gt_t hc153) (by decide) (by decide) ?_
        show Steps p.tables e below (T150.setTop (mkF m 134 #[.val (.long q0), .second, .val (.long q1), .second, .val (.long q2), .second, .val (.long q3), .second, iv p4, iv p5, .val (.long bb), .second, .val (.long n1), .second, .val (.long n2), .second, .val (.long n3), .second, iv kk, iv mm, rv a1, iv (1 : Int32), .unset, .unset, .unset, .unset, .unset, .unset, .unset, .unset, .unset, .unset, .unset, .unset, .unset, .unset, .unset, .unset, .unset] [(.int (own_ma (own_ex n2 n1 0) (FP.l2d (bb - n1 - n2))))])) target
        refine XT.iconstV X150.here hx rfl (0 : Int32) (hb hby at_134) rfl ?_
        show Steps p.tables e below (T150.setTop (mkF m 135 #[.val (.long q0), .second, .val (.long q1), .second, .val (.long q2), .second, .val (.long q3), .second, iv p4, iv p5, .val (.long bb), .second, .val (.long n1), .second, .val (.long n2), .second, .val (.long n3), .second, iv kk, iv mm, rv a1, iv (1 : Int32), .unset, .unset, .unset, .unset, .unset, .unset, .unset, .unset, .unset, .unset, .unset, .unset, .unset, .unset, .unset, .unset, .unset] [(.int (0 : Int32)), (.int (own_ma (own_ex n2 n1 0) (FP.l2d (bb - n1 - n2))))])) target
        exact kt
      exact ⟨(0 : Int32), (by simp only [if_pos hc153]), g154⟩
    · have g155 : own_Go p e below s₁ (entryFrame m #[(.long q0), (.long q1), (.long q2), (.long q3), (.int p4), (.int p5)] maxLocals) T150 (mkF m 135 #[.val (.long q0), .second, .val (.long q1), .second, .val (.long q2), .second, .val (.long q3), .second, iv p4, iv p5, .val (.long bb), .second, .val (.long n1), .second, .val (.long n2), .second, .val (.long n3), .second, iv kk, iv mm, rv a1, iv (1 : Int32), .unset, .unset, .unset, .unset, .unset, .unset, .unset, .unset, .unset, .unset, .unset, .unset, .unset, .unset, .unset, .unset, .unset] [(.int (1 : Int32)), (.int (own_ma (own_ex n2 n1 0) (FP.l2d (bb - n1 - n2))))]) := by
        intro target kt
        refine g152 target ?_
        refine XS.ifNo X150.here hx rfl (hb hby at_127) rfl (XT.ll_gt_f hc153) ?_
        show Steps p.tables e below (T150.setTop (mkF m 130 #[.val (.long q0), .second, .val (.long q1), .second, .val (.long q2), .second, .val (.long q3), .second, iv p4, iv p5, .val (.long bb), .second, .val (.long n1), .second, .val (.long n2), .second, .val (.long n3), .second, iv kk, iv mm, rv a1, iv (1 : Int32), .unset, .unset, .unset, .unset, .unset, .unset, .unset, .unset, .unset, .unset, .unset, .unset, .unset, .unset, .unset, .unset, .unset] [(.int (own_ma (own_ex n2 n1 0) (FP.l2d (bb - n1 - n2))))])) target
        refine XT.iconstV X150.here hx rfl (1 : Int32) (hb hby at_130) rfl ?_
        show Steps p.tables e below (T150.setTop (mkF m 131 #[.val (.long q0), .second, .val (.long q1), .second, .val (.long q2), .second, .val (.long q3), .second, iv p4, iv p5, .val (.long bb), .second, .val (.long n1), .second, .val (.long n2), .second, .val (.long n3), .second, iv kk, iv mm, rv a1, iv (1 : Int32), .unset, .unset, .unset, .unset, .unset, .unset, .unset, .unset, .unset, .unset, .unset, .unset, .unset, .unset, .unset, .unset, .unset] [(.int (1 : Int32)), (.int (own_ma (own_ex n2 n1 0) (FP.l2d (bb - n1 - n2))))])) target
        refine XS.goto X150.here hx rfl (pc0 := 131) (pc' := 135) rfl (hb hby at_131) (by decide) (by decide) ?_
        show Steps p.tables e below (T150.setTop (mkF m 135 #[.val (.long q0), .second, .val (.long q1), .second, .val (.long q2), .second, .val (.long q3), .second, iv p4, iv p5, .val (.long bb), .second, .val (.long n1), .second, .val (.long n2), .second, .val (.long n3), .second, iv kk, iv mm, rv a1, iv (1 : Int32), .unset, .unset, .unset, .unset, .unset, .unset, .unset, .unset, .unset, .unset, .unset, .unset, .unset, .unset, .unset, .unset, .unset] [(.int (1 : Int32)), (.int (own_ma (own_ex n2 n1 0) (FP.l2d (bb - n1 - n2))))])) target
        exact kt
      exact ⟨(1 : Int32), (by simp only [if_neg hc153]), g155⟩
  have g157 : own_Go p e below s₁ (entryFrame m #[(.long q0), (.long q1), (.long q2), (.long q3), (.int p4), (.int p5)] maxLocals) T150 (mkF m 151 #[.val (.long q0), .second, .val (.long q1), .second, .val (.long q2), .second, .val (.long q3), .second, iv p4, iv p5, .val (.long bb), .second, .val (.long n1), .second, .val (.long n2), .second, .val (.long n3), .second, iv kk, iv mm, rv a1, iv (1 : Int32), iv (1 : Int32), .unset, .unset, .unset, .unset, .unset, .unset, .unset, .unset, .unset, .unset, .unset, .unset, .unset, .unset, .unset, .unset] [(.int kk), (.long n3), (.ref a1)]) := by
    intro target kt
    refine g156 target ?_
    refine XS.icmpNo X150.here hx rfl (hb hby at_135) rfl (XT.ii_ne_f (by rw [own_exc, own_ma1 b2 b5, hm156])) ?_
    show Steps p.tables e below (T150.setTop (mkF m 138 #[.val (.long q0), .second, .val (.long q1), .second, .val (.long q2), .second, .val (.long q3), .second, iv p4, iv p5, .val (.long bb), .second, .val (.long n1), .second, .val (.long n2), .second, .val (.long n3), .second, iv kk, iv mm, rv a1, iv (1 : Int32), .unset, .unset, .unset, .unset, .unset, .unset, .unset, .unset, .unset, .unset, .unset, .unset, .unset, .unset, .unset, .unset, .unset] [])) target
    refine XT.iconstV X150.here hx rfl (1 : Int32) (hb hby at_138) rfl ?_
    show Steps p.tables e below (T150.setTop (mkF m 139 #[.val (.long q0), .second, .val (.long q1), .second, .val (.long q2), .second, .val (.long q3), .second, iv p4, iv p5, .val (.long bb), .second, .val (.long n1), .second, .val (.long n2), .second, .val (.long n3), .second, iv kk, iv mm, rv a1, iv (1 : Int32), .unset, .unset, .unset, .unset, .unset, .unset, .unset, .unset, .unset, .unset, .unset, .unset, .unset, .unset, .unset, .unset, .unset] [(.int (1 : Int32))])) target
    refine XS.goto X150.here hx rfl (pc0 := 139) (pc' := 143) rfl (hb hby at_139) (by decide) (by decide) ?_
    show Steps p.tables e below (T150.setTop (mkF m 143 #[.val (.long q0), .second, .val (.long q1), .second, .val (.long q2), .second, .val (.long q3), .second, iv p4, iv p5, .val (.long bb), .second, .val (.long n1), .second, .val (.long n2), .second, .val (.long n3), .second, iv kk, iv mm, rv a1, iv (1 : Int32), .unset, .unset, .unset, .unset, .unset, .unset, .unset, .unset, .unset, .unset, .unset, .unset, .unset, .unset, .unset, .unset, .unset] [(.int (1 : Int32))])) target
    refine XS.istore X150.here hx rfl (hb hby at_143) rfl (l' := #[.val (.long q0), .second, .val (.long q1), .second, .val (.long q2), .second, .val (.long q3), .second, iv p4, iv p5, .val (.long bb), .second, .val (.long n1), .second, .val (.long n2), .second, .val (.long n3), .second, iv kk, iv mm, rv a1, iv (1 : Int32), iv (1 : Int32), .unset, .unset, .unset, .unset, .unset, .unset, .unset, .unset, .unset, .unset, .unset, .unset, .unset, .unset, .unset, .unset]) rfl ?_
    show Steps p.tables e below (T150.setTop (mkF m 145 #[.val (.long q0), .second, .val (.long q1), .second, .val (.long q2), .second, .val (.long q3), .second, iv p4, iv p5, .val (.long bb), .second, .val (.long n1), .second, .val (.long n2), .second, .val (.long n3), .second, iv kk, iv mm, rv a1, iv (1 : Int32), iv (1 : Int32), .unset, .unset, .unset, .unset, .unset, .unset, .unset, .unset, .unset, .unset, .unset, .unset, .unset, .unset, .unset, .unset] [])) target
    refine XS.aload X150.here hx rfl (hb hby at_145) rfl rfl ?_
    show Steps p.tables e below (T150.setTop (mkF m 147 #[.val (.long q0), .second, .val (.long q1), .second, .val (.long q2), .second, .val (.long q3), .second, iv p4, iv p5, .val (.long bb), .second, .val (.long n1), .second, .val (.long n2), .second, .val (.long n3), .second, iv kk, iv mm, rv a1, iv (1 : Int32), iv (1 : Int32), .unset, .unset, .unset, .unset, .unset, .unset, .unset, .unset, .unset, .unset, .unset, .unset, .unset, .unset, .unset, .unset] [(.ref a1)])) target
    refine XT.lload X150.here hx rfl (hb hby at_147) rfl ?_
    show Steps p.tables e below (T150.setTop (mkF m 149 #[.val (.long q0), .second, .val (.long q1), .second, .val (.long q2), .second, .val (.long q3), .second, iv p4, iv p5, .val (.long bb), .second, .val (.long n1), .second, .val (.long n2), .second, .val (.long n3), .second, iv kk, iv mm, rv a1, iv (1 : Int32), iv (1 : Int32), .unset, .unset, .unset, .unset, .unset, .unset, .unset, .unset, .unset, .unset, .unset, .unset, .unset, .unset, .unset, .unset] [(.long n3), (.ref a1)])) target
    refine XS.iload X150.here hx rfl (hb hby at_149) rfl ?_
    show Steps p.tables e below (T150.setTop (mkF m 151 #[.val (.long q0), .second, .val (.long q1), .second, .val (.long q2), .second, .val (.long q3), .second, iv p4, iv p5, .val (.long bb), .second, .val (.long n1), .second, .val (.long n2), .second, .val (.long n3), .second, iv kk, iv mm, rv a1, iv (1 : Int32), iv (1 : Int32), .unset, .unset, .unset, .unset, .unset, .unset, .unset, .unset, .unset, .unset, .unset, .unset, .unset, .unset, .unset, .unset] [(.int kk), (.long n3), (.ref a1)])) target
    exact kt
  obtain ⟨cq158, kq158, q158a, q158b, q158c⟩ := isOf hZ eq150 P3.1
  obtain ⟨_, _, ⟨T158, L158, k158, n158⟩, -, X158, ⟨Lc158, hQ158, l158, y158, z158⟩, st158⟩ := X150.virtualBack hx (y := (⟨"com/example/ends_to_means/endstomeans/solver/ForwardPace", "forwardTook", "(JI)V"⟩ : MethodName)) (z := (⟨"com/example/ends_to_means/endstomeans/solver/ForwardPace", "forwardTook", "(JI)V"⟩ : MethodName)) hown (mvT hZ (hw _ (List.mem_of_getElem? (i := 32) rfl))) (mvT hZ (hw _ (List.mem_of_getElem? (i := 33) rfl))) (notFace_of_selects (args := #[]) (mvT hZ (hw _ (List.mem_of_getElem? (i := 35) rfl)))) (mvT hZ (hw _ (List.mem_of_getElem? (i := 35) rfl))) (mvT hZ (hw _ (List.mem_of_getElem? (i := 34) rfl))) (by decide) (backOf (W := 0) (rmFT l Z a0 hw [] a1 n3 kk (FP.l2d 1) (0 + bb) (0 + mm.toInt64) (FP.l2d (bb - n1 - n2)) 2 n2 n1 0 hpb n0 Z147 P3 (l2d_fin _) g_a1) hZ (hw _ (List.mem_of_getElem? (i := 36) rfl)) (hw _ (List.mem_of_getElem? (i := 6) rfl)) (by decide) (by decide)) q158a q158c (g := (mkF m 151 #[.val (.long q0), .second, .val (.long q1), .second, .val (.long q2), .second, .val (.long q3), .second, iv p4, iv p5, .val (.long bb), .second, .val (.long n1), .second, .val (.long n2), .second, .val (.long n3), .second, iv kk, iv mm, rv a1, iv (1 : Int32), iv (1 : Int32), .unset, .unset, .unset, .unset, .unset, .unset, .unset, .unset, .unset, .unset, .unset, .unset, .unset, .unset, .unset, .unset] [(.int kk), (.long n3), (.ref a1)])) rfl (by rw [hml]; rfl) (Steps.refl _) (argsL := [(.long n3), (.int kk)]) (rest := []) (lenOf pd_4 rfl) rfl (by show 2 * 0 + _ ≤ _; exact Nat.le_of_eq rfl) (hb hby at_151) (fun _ _ => ⟨rfl, eq150, (by decide : 1 + 0 ≤ _), (by decide : 8 + 0 ≤ _)⟩)
  dsimp only [Pt.U, Pt.locs, Pt.cells, Pt.slots] at X158 l158 y158 z158 st158 hQ158
  subst l158 y158 z158
  obtain ⟨rfl, Nq158, K158, P4⟩ := hQ158
  have N158 := Fr.app N150 Nq158
  have g159 : own_Go p e below s₁ (entryFrame m #[(.long q0), (.long q1), (.long q2), (.long q3), (.int p4), (.int p5)] maxLocals) T158 (mkF m 154 #[.val (.long q0), .second, .val (.long q1), .second, .val (.long q2), .second, .val (.long q3), .second, iv p4, iv p5, .val (.long bb), .second, .val (.long n1), .second, .val (.long n2), .second, .val (.long n3), .second, iv kk, iv mm, rv a1, iv (1 : Int32), iv (1 : Int32), .unset, .unset, .unset, .unset, .unset, .unset, .unset, .unset, .unset, .unset, .unset, .unset, .unset, .unset, .unset, .unset] []) := fun target kt => g157 target (st158.trans kt)
  have Z158 : n0 ≤ T158.heap.size := Nat.le_trans Z147 K158.1
  rw [dsub_w b5 b3] at P4
  obtain ⟨hpc, ehpc⟩ : ∃ z, z = T158.heap := ⟨_, rfl⟩
  rw [← ehpc] at P4 Z158
  have g160 : own_Go p e below s₁ (entryFrame m #[(.long q0), (.long q1), (.long q2), (.long q3), (.int p4), (.int p5)] maxLocals) T158 (mkF m 167 #[.val (.long q0), .second, .val (.long q1), .second, .val (.long q2), .second, .val (.long q3), .second, iv p4, iv p5, .val (.long bb), .second, .val (.long n1), .second, .val (.long n2), .second, .val (.long n3), .second, iv kk, iv mm, rv a1, iv (1 : Int32), iv (1 : Int32), .val (.long (((bb - n1) - n2) - n3)), .second, .unset, .unset, .unset, .unset, .unset, .unset, .unset, .unset, .unset, .unset, .unset, .unset, .unset, .unset] []) := by
    intro target kt
    refine g159 target ?_
    refine XT.lload X158.here hx rfl (hb hby at_154) rfl ?_
    show Steps p.tables e below (T158.setTop (mkF m 156 #[.val (.long q0), .second, .val (.long q1), .second, .val (.long q2), .second, .val (.long q3), .second, iv p4, iv p5, .val (.long bb), .second, .val (.long n1), .second, .val (.long n2), .second, .val (.long n3), .second, iv kk, iv mm, rv a1, iv (1 : Int32), iv (1 : Int32), .unset, .unset, .unset, .unset, .unset, .unset, .unset, .unset, .unset, .unset, .unset, .unset, .unset, .unset, .unset, .unset] [(.long bb)])) target
    refine XT.lload X158.here hx rfl (hb hby at_156) rfl ?_
    show Steps p.tables e below (T158.setTop (mkF m 158 #[.val (.long q0), .second, .val (.long q1), .second, .val (.long q2), .second, .val (.long q3), .second, iv p4, iv p5, .val (.long bb), .second, .val (.long n1), .second, .val (.long n2), .second, .val (.long n3), .second, iv kk, iv mm, rv a1, iv (1 : Int32), iv (1 : Int32), .unset, .unset, .unset, .unset, .unset, .unset, .unset, .unset, .unset, .unset, .unset, .unset, .unset, .unset, .unset, .unset] [(.long n1), (.long bb)])) target
    refine XT.lsub X158.here hx rfl (hb hby at_158) rfl ?_
    show Steps p.tables e below (T158.setTop (mkF m 159 #[.val (.long q0), .second, .val (.long q1), .second, .val (.long q2), .second, .val (.long q3), .second, iv p4, iv p5, .val (.long bb), .second, .val (.long n1), .second, .val (.long n2), .second, .val (.long n3), .second, iv kk, iv mm, rv a1, iv (1 : Int32), iv (1 : Int32), .unset, .unset, .unset, .unset, .unset, .unset, .unset, .unset, .unset, .unset, .unset, .unset, .unset, .unset, .unset, .unset] [(.long (bb - n1))])) target
    refine XT.lload X158.here hx rfl (hb hby at_159) rfl ?_
    show Steps p.tables e below (T158.setTop (mkF m 161 #[.val (.long q0), .second, .val (.long q1), .second, .val (.long q2), .second, .val (.long q3), .second, iv p4, iv p5, .val (.long bb), .second, .val (.long n1), .second, .val (.long n2), .second, .val (.long n3), .second, iv kk, iv mm, rv a1, iv (1 : Int32), iv (1 : Int32), .unset, .unset, .unset, .unset, .unset, .unset, .unset, .unset, .unset, .unset, .unset, .unset, .unset, .unset, .unset, .unset] [(.long n2), (.long (bb - n1))])) target
    refine XT.lsub X158.here hx rfl (hb hby at_161) rfl ?_
    show Steps p.tables e below (T158.setTop (mkF m 162 #[.val (.long q0), .second, .val (.long q1), .second, .val (.long q2), .second, .val (.long q3), .second, iv p4, iv p5, .val (.long bb), .second, .val (.long n1), .second, .val (.long n2), .second, .val (.long n3), .second, iv kk, iv mm, rv a1, iv (1 : Int32), iv (1 : Int32), .unset, .unset, .unset, .unset, .unset, .unset, .unset, .unset, .unset, .unset, .unset, .unset, .unset, .unset, .unset, .unset] [(.long ((bb - n1) - n2))])) target
    refine XT.lload X158.here hx rfl (hb hby at_162) rfl ?_
    show Steps p.tables e below (T158.setTop (mkF m 164 #[.val (.long q0), .second, .val (.long q1), .second, .val (.long q2), .second, .val (.long q3), .second, iv p4, iv p5, .val (.long bb), .second, .val (.long n1), .second, .val (.long n2), .second, .val (.long n3), .second, iv kk, iv mm, rv a1, iv (1 : Int32), iv (1 : Int32), .unset, .unset, .unset, .unset, .unset, .unset, .unset, .unset, .unset, .unset, .unset, .unset, .unset, .unset, .unset, .unset] [(.long n3), (.long ((bb - n1) - n2))])) target
    refine XT.lsub X158.here hx rfl (hb hby at_164) rfl ?_
    show Steps p.tables e below (T158.setTop (mkF m 165 #[.val (.long q0), .second, .val (.long q1), .second, .val (.long q2), .second, .val (.long q3), .second, iv p4, iv p5, .val (.long bb), .second, .val (.long n1), .second, .val (.long n2), .second, .val (.long n3), .second, iv kk, iv mm, rv a1, iv (1 : Int32), iv (1 : Int32), .unset, .unset, .unset, .unset, .unset, .unset, .unset, .unset, .unset, .unset, .unset, .unset, .unset, .unset, .unset, .unset] [(.long (((bb - n1) - n2) - n3))])) target
    refine XT.lstore X158.here hx rfl (hb hby at_165) rfl (l' := #[.val (.long q0), .second, .val (.long q1), .second, .val (.long q2), .second, .val (.long q3), .second, iv p4, iv p5, .val (.long bb), .second, .val (.long n1), .second, .val (.long n2), .second, .val (.long n3), .second, iv kk, iv mm, rv a1, iv (1 : Int32), iv (1 : Int32), .val (.long (((bb - n1) - n2) - n3)), .second, .unset, .unset, .unset, .unset, .unset, .unset, .unset, .unset, .unset, .unset, .unset, .unset, .unset, .unset]) rfl ?_
    show Steps p.tables e below (T158.setTop (mkF m 167 #[.val (.long q0), .second, .val (.long q1), .second, .val (.long q2), .second, .val (.long q3), .second, iv p4, iv p5, .val (.long bb), .second, .val (.long n1), .second, .val (.long n2), .second, .val (.long n3), .second, iv kk, iv mm, rv a1, iv (1 : Int32), iv (1 : Int32), .val (.long (((bb - n1) - n2) - n3)), .second, .unset, .unset, .unset, .unset, .unset, .unset, .unset, .unset, .unset, .unset, .unset, .unset, .unset, .unset] [])) target
    exact kt
  obtain ⟨lf, e_lf⟩ : ∃ z : Int64, z = (((bb - n1) - n2) - n3) := ⟨_, rfl⟩
  rw [← e_lf] at g160
  rw [← e_lf] at P4
  obtain ⟨gA, hm165, g165⟩ : ∃ (gA : UInt64), (gA = (if n2 = (0 : Int64) then (FP.l2d 1) else (FP.ddiv (FP.l2d n3) (FP.l2d n2)))) ∧ own_Go p e below s₁ (entryFrame m #[(.long q0), (.long q1), (.long q2), (.long q3), (.int p4), (.int p5)] maxLocals) T158 (mkF m 185 #[.val (.long q0), .second, .val (.long q1), .second, .val (.long q2), .second, .val (.long q3), .second, iv p4, iv p5, .val (.long bb), .second, .val (.long n1), .second, .val (.long n2), .second, .val (.long n3), .second, iv kk, iv mm, rv a1, iv (1 : Int32), iv (1 : Int32), .val (.long lf), .second, .unset, .unset, .unset, .unset, .unset, .unset, .unset, .unset, .unset, .unset, .unset, .unset, .unset, .unset] [(.double gA)]) := by
    have g161 : own_Go p e below s₁ (entryFrame m #[(.long q0), (.long q1), (.long q2), (.long q3), (.int p4), (.int p5)] maxLocals) T158 (mkF m 171 #[.val (.long q0), .second, .val (.long q1), .second, .val (.long q2), .second, .val (.long q3), .second, iv p4, iv p5, .val (.long bb), .second, .val (.long n1), .second, .val (.long n2), .second, .val (.long n3), .second, iv kk, iv mm, rv a1, iv (1 : Int32), iv (1 : Int32), .val (.long lf), .second, .unset, .unset, .unset, .unset, .unset, .unset, .unset, .unset, .unset, .unset, .unset, .unset, .unset, .unset] [(.int (XT.cmpL n2 (0 : Int64)))]) := by
      intro target kt
      refine g160 target ?_
      refine XT.lload X158.here hx rfl (hb hby at_167) rfl ?_
      show Steps p.tables e below (T158.setTop (mkF m 169 #[.val (.long q0), .second, .val (.long q1), .second, .val (.long q2), .second, .val (.long q3), .second, iv p4, iv p5, .val (.long bb), .second, .val (.long n1), .second, .val (.long n2), .second, .val (.long n3), .second, iv kk, iv mm, rv a1, iv (1 : Int32), iv (1 : Int32), .val (.long lf), .second, .unset, .unset, .unset, .unset, .unset, .unset, .unset, .unset, .unset, .unset, .unset, .unset, .unset, .unset] [(.long n2)])) target
      refine XT.lconstV X158.here hx rfl (0 : Int64) (hb hby at_169) rfl ?_
      show Steps p.tables e below (T158.setTop (mkF m 170 #[.val (.long q0), .second, .val (.long q1), .second, .val (.long q2), .second, .val (.long q3), .second, iv p4, iv p5, .val (.long bb), .second, .val (.long n1), .second, .val (.long n2), .second, .val (.long n3), .second, iv kk, iv mm, rv a1, iv (1 : Int32), iv (1 : Int32), .val (.long lf), .second, .unset, .unset, .unset, .unset, .unset, .unset, .unset, .unset, .unset, .unset, .unset, .unset, .unset, .unset] [(.long (0 : Int64)), (.long n2)])) target
      refine XT.lcmp X158.here hx rfl (hb hby at_170) rfl ?_
      show Steps p.tables e below (T158.setTop (mkF m 171 #[.val (.long q0), .second, .val (.long q1), .second, .val (.long q2), .second, .val (.long q3), .second, iv p4, iv p5, .val (.long bb), .second, .val (.long n1), .second, .val (.long n2), .second, .val (.long n3), .second, iv kk, iv mm, rv a1, iv (1 : Int32), iv (1 : Int32), .val (.long lf), .second, .unset, .unset, .unset, .unset, .unset, .unset, .unset, .unset, .unset, .unset, .unset, .unset, .unset, .unset] [(.int (XT.cmpL n2 (0 : Int64)))])) target
      exact kt
    by_cases hc162 : n2 = (0 : Int64)
    · have g163 : own_Go p e below s₁ (entryFrame m #[(.long q0), (.long q1), (.long q2), (.long q3), (.int p4), (.int p5)] maxLocals) T158 (mkF m 185 #[.val (.long q0), .second, .val (.long q1), .second, .val (.long q2), .second, .val (.long q3), .second, iv p4, iv p5, .val (.long bb), .second, .val (.long n1), .second, .val (.long n2), .second, .val (.long n3), .second, iv kk, iv mm, rv a1, iv (1 : Int32), iv (1 : Int32), .val (.long lf), .second, .unset, .unset, .unset, .unset, .unset, .unset, .unset, .unset, .unset, .unset, .unset, .unset, .unset, .unset] [(.double (FP.l2d 1))]) := by
        intro target kt
        refine g161 target ?_
        refine XS.ifNo X158.here hx rfl (hb hby at_171) rfl (XT.ll_ne_f hc162) ?_
        show Steps p.tables e below (T158.setTop (mkF m 174 #[.val (.long q0), .second, .val (.long q1), .second, .val (.long q2), .second, .val (.long q3), .second, iv p4, iv p5, .val (.long bb), .second, .val (.long n1), .second, .val (.long n2), .second, .val (.long n3), .second, iv kk, iv mm, rv a1, iv (1 : Int32), iv (1 : Int32), .val (.long lf), .second, .unset, .unset, .unset, .unset, .unset, .unset, .unset, .unset, .unset, .unset, .unset, .unset, .unset, .unset] [])) target
        refine XS.dconst1 X158.here hx rfl (hb hby at_174) own_d1 ?_
        show Steps p.tables e below (T158.setTop (mkF m 175 #[.val (.long q0), .second, .val (.long q1), .second, .val (.long q2), .second, .val (.long q3), .second, iv p4, iv p5, .val (.long bb), .second, .val (.long n1), .second, .val (.long n2), .second, .val (.long n3), .second, iv kk, iv mm, rv a1, iv (1 : Int32), iv (1 : Int32), .val (.long lf), .second, .unset, .unset, .unset, .unset, .unset, .unset, .unset, .unset, .unset, .unset, .unset, .unset, .unset, .unset] [(.double (FP.l2d 1))])) target
        refine XS.goto X158.here hx rfl (pc0 := 175) (pc' := 185) rfl (hb hby at_175) (by decide) (by decide) ?_
        show Steps p.tables e below (T158.setTop (mkF m 185 #[.val (.long q0), .second, .val (.long q1), .second, .val (.long q2), .second, .val (.long q3), .second, iv p4, iv p5, .val (.long bb), .second, .val (.long n1), .second, .val (.long n2), .second, .val (.long n3), .second, iv kk, iv mm, rv a1, iv (1 : Int32), iv (1 : Int32), .val (.long lf), .second, .unset, .unset, .unset, .unset, .unset, .unset, .unset, .unset, .unset, .unset, .unset, .unset, .unset, .unset] [(.double (FP.l2d 1))])) target
        exact kt
      exact ⟨(FP.l2d 1), (by simp only [if_pos hc162]), g163⟩
    · have g164 : own_Go p e below s₁ (entryFrame m #[(.long q0), (.long q1), (.long q2), (.long q3), (.int p4), (.int p5)] maxLocals) T158 (mkF m 185 #[.val (.long q0), .second, .val (.long q1), .second, .val (.long q2), .second, .val (.long q3), .second, iv p4, iv p5, .val (.long bb), .second, .val (.long n1), .second, .val (.long n2), .second, .val (.long n3), .second, iv kk, iv mm, rv a1, iv (1 : Int32), iv (1 : Int32), .val (.long lf), .second, .unset, .unset, .unset, .unset, .unset, .unset, .unset, .unset, .unset, .unset, .unset, .unset, .unset, .unset] [(.double (FP.ddiv (FP.l2d n3) (FP.l2d n2)))]) := by
        intro target kt
        refine g161 target ?_
        refine XS.ifYes X158.here hx rfl (pc0 := 171) (pc' := 178) rfl (hb hby at_171) rfl (XT.ll_ne_t hc162) (by decide) (by decide) ?_
        show Steps p.tables e below (T158.setTop (mkF m 178 #[.val (.long q0), .second, .val (.long q1), .second, .val (.long q2), .second, .val (.long q3), .second, iv p4, iv p5, .val (.long bb), .second, .val (.long n1), .second, .val (.long n2), .second, .val (.long n3), .second, iv kk, iv mm, rv a1, iv (1 : Int32), iv (1 : Int32), .val (.long lf), .second, .unset, .unset, .unset, .unset, .unset, .unset, .unset, .unset, .unset, .unset, .unset, .unset, .unset, .unset] [])) target
        refine XT.lload X158.here hx rfl (hb hby at_178) rfl ?_
        show Steps p.tables e below (T158.setTop (mkF m 180 #[.val (.long q0), .second, .val (.long q1), .second, .val (.long q2), .second, .val (.long q3), .second, iv p4, iv p5, .val (.long bb), .second, .val (.long n1), .second, .val (.long n2), .second, .val (.long n3), .second, iv kk, iv mm, rv a1, iv (1 : Int32), iv (1 : Int32), .val (.long lf), .second, .unset, .unset, .unset, .unset, .unset, .unset, .unset, .unset, .unset, .unset, .unset, .unset, .unset, .unset] [(.long n3)])) target
        refine XS.l2dS X158.here hx rfl (hb hby at_180) rfl rfl ?_
        show Steps p.tables e below (T158.setTop (mkF m 181 #[.val (.long q0), .second, .val (.long q1), .second, .val (.long q2), .second, .val (.long q3), .second, iv p4, iv p5, .val (.long bb), .second, .val (.long n1), .second, .val (.long n2), .second, .val (.long n3), .second, iv kk, iv mm, rv a1, iv (1 : Int32), iv (1 : Int32), .val (.long lf), .second, .unset, .unset, .unset, .unset, .unset, .unset, .unset, .unset, .unset, .unset, .unset, .unset, .unset, .unset] [(.double (FP.l2d n3))])) target
        refine XT.lload X158.here hx rfl (hb hby at_181) rfl ?_
        show Steps p.tables e below (T158.setTop (mkF m 183 #[.val (.long q0), .second, .val (.long q1), .second, .val (.long q2), .second, .val (.long q3), .second, iv p4, iv p5, .val (.long bb), .second, .val (.long n1), .second, .val (.long n2), .second, .val (.long n3), .second, iv kk, iv mm, rv a1, iv (1 : Int32), iv (1 : Int32), .val (.long lf), .second, .unset, .unset, .unset, .unset, .unset, .unset, .unset, .unset, .unset, .unset, .unset, .unset, .unset, .unset] [(.long n2), (.double (FP.l2d n3))])) target
        refine XS.l2dS X158.here hx rfl (hb hby at_183) rfl rfl ?_
        show Steps p.tables e below (T158.setTop (mkF m 184 #[.val (.long q0), .second, .val (.long q1), .second, .val (.long q2), .second, .val (.long q3), .second, iv p4, iv p5, .val (.long bb), .second, .val (.long n1), .second, .val (.long n2), .second, .val (.long n3), .second, iv kk, iv mm, rv a1, iv (1 : Int32), iv (1 : Int32), .val (.long lf), .second, .unset, .unset, .unset, .unset, .unset, .unset, .unset, .unset, .unset, .unset, .unset, .unset, .unset, .unset] [(.double (FP.l2d n2)), (.double (FP.l2d n3))])) target
        refine XS.ddivS X158.here hx rfl (hb hby at_184) rfl (ddiv_out (l2d_fin _).noNaN (l2d_fin _) (l2d_nz hc162)) rfl ?_
        show Steps p.tables e below (T158.setTop (mkF m 185 #[.val (.long q0), .second, .val (.long q1), .second, .val (.long q2), .second, .val (.long q3), .second, iv p4, iv p5, .val (.long bb), .second, .val (.long n1), .second, .val (.long n2), .second, .val (.long n3), .second, iv kk, iv mm, rv a1, iv (1 : Int32), iv (1 : Int32), .val (.long lf), .second, .unset, .unset, .unset, .unset, .unset, .unset, .unset, .unset, .unset, .unset, .unset, .unset, .unset, .unset] [(.double (FP.ddiv (FP.l2d n3) (FP.l2d n2)))])) target
        exact kt
      exact ⟨(FP.ddiv (FP.l2d n3) (FP.l2d n2)), (by simp only [if_neg hc162]), g164⟩
  have eA : gA = own_gr n3 n2 := hm165
  subst eA
  have g166 : own_Go p e below s₁ (entryFrame m #[(.long q0), (.long q1), (.long q2), (.long q3), (.int p4), (.int p5)] maxLocals) T158 (mkF m 187 #[.val (.long q0), .second, .val (.long q1), .second, .val (.long q2), .second, .val (.long q3), .second, iv p4, iv p5, .val (.long bb), .second, .val (.long n1), .second, .val (.long n2), .second, .val (.long n3), .second, iv kk, iv mm, rv a1, iv (1 : Int32), iv (1 : Int32), .val (.long lf), .second, .val (.double (own_gr n3 n2)), .second, .unset, .unset, .unset, .unset, .unset, .unset, .unset, .unset, .unset, .unset, .unset, .unset] []) := by
    intro target kt
    refine g165 target ?_
    refine XS.dstore X158.here hx rfl (hb hby at_185) rfl (l' := #[.val (.long q0), .second, .val (.long q1), .second, .val (.long q2), .second, .val (.long q3), .second, iv p4, iv p5, .val (.long bb), .second, .val (.long n1), .second, .val (.long n2), .second, .val (.long n3), .second, iv kk, iv mm, rv a1, iv (1 : Int32), iv (1 : Int32), .val (.long lf), .second, .val (.double (own_gr n3 n2)), .second, .unset, .unset, .unset, .unset, .unset, .unset, .unset, .unset, .unset, .unset, .unset, .unset]) rfl ?_
    show Steps p.tables e below (T158.setTop (mkF m 187 #[.val (.long q0), .second, .val (.long q1), .second, .val (.long q2), .second, .val (.long q3), .second, iv p4, iv p5, .val (.long bb), .second, .val (.long n1), .second, .val (.long n2), .second, .val (.long n3), .second, iv kk, iv mm, rv a1, iv (1 : Int32), iv (1 : Int32), .val (.long lf), .second, .val (.double (own_gr n3 n2)), .second, .unset, .unset, .unset, .unset, .unset, .unset, .unset, .unset, .unset, .unset, .unset, .unset] [])) target
    exact kt
  obtain ⟨gB, hm171, g171⟩ : ∃ (gB : UInt64), (gB = (if n1 = (0 : Int64) then (FP.l2d 1) else (FP.ddiv (FP.l2d n2) (FP.l2d n1)))) ∧ own_Go p e below s₁ (entryFrame m #[(.long q0), (.long q1), (.long q2), (.long q3), (.int p4), (.int p5)] maxLocals) T158 (mkF m 205 #[.val (.long q0), .second, .val (.long q1), .second, .val (.long q2), .second, .val (.long q3), .second, iv p4, iv p5, .val (.long bb), .second, .val (.long n1), .second, .val (.long n2), .second, .val (.long n3), .second, iv kk, iv mm, rv a1, iv (1 : Int32), iv (1 : Int32), .val (.long lf), .second, .val (.double (own_gr n3 n2)), .second, .unset, .unset, .unset, .unset, .unset, .unset, .unset, .unset, .unset, .unset, .unset, .unset] [(.double gB)]) := by
    have g167 : own_Go p e below s₁ (entryFrame m #[(.long q0), (.long q1), (.long q2), (.long q3), (.int p4), (.int p5)] maxLocals) T158 (mkF m 191 #[.val (.long q0), .second, .val (.long q1), .second, .val (.long q2), .second, .val (.long q3), .second, iv p4, iv p5, .val (.long bb), .second, .val (.long n1), .second, .val (.long n2), .second, .val (.long n3), .second, iv kk, iv mm, rv a1, iv (1 : Int32), iv (1 : Int32), .val (.long lf), .second, .val (.double (own_gr n3 n2)), .second, .unset, .unset, .unset, .unset, .unset, .unset, .unset, .unset, .unset, .unset, .unset, .unset] [(.int (XT.cmpL n1 (0 : Int64)))]) := by
      intro target kt
      refine g166 target ?_
      refine XT.lload X158.here hx rfl (hb hby at_187) rfl ?_
      show Steps p.tables e below (T158.setTop (mkF m 189 #[.val (.long q0), .second, .val (.long q1), .second, .val (.long q2), .second, .val (.long q3), .second, iv p4, iv p5, .val (.long bb), .second, .val (.long n1), .second, .val (.long n2), .second, .val (.long n3), .second, iv kk, iv mm, rv a1, iv (1 : Int32), iv (1 : Int32), .val (.long lf), .second, .val (.double (own_gr n3 n2)), .second, .unset, .unset, .unset, .unset, .unset, .unset, .unset, .unset, .unset, .unset, .unset, .unset] [(.long n1)])) target
      refine XT.lconstV X158.here hx rfl (0 : Int64) (hb hby at_189) rfl ?_
      show Steps p.tables e below (T158.setTop (mkF m 190 #[.val (.long q0), .second, .val (.long q1), .second, .val (.long q2), .second, .val (.long q3), .second, iv p4, iv p5, .val (.long bb), .second, .val (.long n1), .second, .val (.long n2), .second, .val (.long n3), .second, iv kk, iv mm, rv a1, iv (1 : Int32), iv (1 : Int32), .val (.long lf), .second, .val (.double (own_gr n3 n2)), .second, .unset, .unset, .unset, .unset, .unset, .unset, .unset, .unset, .unset, .unset, .unset, .unset] [(.long (0 : Int64)), (.long n1)])) target
      refine XT.lcmp X158.here hx rfl (hb hby at_190) rfl ?_
      show Steps p.tables e below (T158.setTop (mkF m 191 #[.val (.long q0), .second, .val (.long q1), .second, .val (.long q2), .second, .val (.long q3), .second, iv p4, iv p5, .val (.long bb), .second, .val (.long n1), .second, .val (.long n2), .second, .val (.long n3), .second, iv kk, iv mm, rv a1, iv (1 : Int32), iv (1 : Int32), .val (.long lf), .second, .val (.double (own_gr n3 n2)), .second, .unset, .unset, .unset, .unset, .unset, .unset, .unset, .unset, .unset, .unset, .unset, .unset] [(.int (XT.cmpL n1 (0 : Int64)))])) target
      exact kt
    by_cases hc168 : n1 = (0 : Int64)
    · have g169 : own_Go p e below s₁ (entryFrame m #[(.long q0), (.long q1), (.long q2), (.long q3), (.int p4), (.int p5)] maxLocals) T158 (mkF m 205 #[.val (.long q0), .second, .val (.long q1), .second, .val (.long q2), .second, .val (.long q3), .second, iv p4, iv p5, .val (.long bb), .second, .val (.long n1), .second, .val (.long n2), .second, .val (.long n3), .second, iv kk, iv mm, rv a1, iv (1 : Int32), iv (1 : Int32), .val (.long lf), .second, .val (.double (own_gr n3 n2)), .second, .unset, .unset, .unset, .unset, .unset, .unset, .unset, .unset, .unset, .unset, .unset, .unset] [(.double (FP.l2d 1))]) := by
        intro target kt
        refine g167 target ?_
        refine XS.ifNo X158.here hx rfl (hb hby at_191) rfl (XT.ll_ne_f hc168) ?_
        show Steps p.tables e below (T158.setTop (mkF m 194 #[.val (.long q0), .second, .val (.long q1), .second, .val (.long q2), .second, .val (.long q3), .second, iv p4, iv p5, .val (.long bb), .second, .val (.long n1), .second, .val (.long n2), .second, .val (.long n3), .second, iv kk, iv mm, rv a1, iv (1 : Int32), iv (1 : Int32), .val (.long lf), .second, .val (.double (own_gr n3 n2)), .second, .unset, .unset, .unset, .unset, .unset, .unset, .unset, .unset, .unset, .unset, .unset, .unset] [])) target
        refine XS.dconst1 X158.here hx rfl (hb hby at_194) own_d1 ?_
        show Steps p.tables e below (T158.setTop (mkF m 195 #[.val (.long q0), .second, .val (.long q1), .second, .val (.long q2), .second, .val (.long q3), .second, iv p4, iv p5, .val (.long bb), .second, .val (.long n1), .second, .val (.long n2), .second, .val (.long n3), .second, iv kk, iv mm, rv a1, iv (1 : Int32), iv (1 : Int32), .val (.long lf), .second, .val (.double (own_gr n3 n2)), .second, .unset, .unset, .unset, .unset, .unset, .unset, .unset, .unset, .unset, .unset, .unset, .unset] [(.double (FP.l2d 1))])) target
        refine XS.goto X158.here hx rfl (pc0 := 195) (pc' := 205) rfl (hb hby at_195) (by decide) (by decide) ?_
        show Steps p.tables e below (T158.setTop (mkF m 205 #[.val (.long q0), .second, .val (.long q1), .second, .val (.long q2), .second, .val (.long q3), .second, iv p4, iv p5, .val (.long bb), .second, .val (.long n1), .second, .val (.long n2), .second, .val (.long n3), .second, iv kk, iv mm, rv a1, iv (1 : Int32), iv (1 : Int32), .val (.long lf), .second, .val (.double (own_gr n3 n2)), .second, .unset, .unset, .unset, .unset, .unset, .unset, .unset, .unset, .unset, .unset, .unset, .unset] [(.double (FP.l2d 1))])) target
        exact kt
      exact ⟨(FP.l2d 1), (by simp only [if_pos hc168]), g169⟩
    · have g170 : own_Go p e below s₁ (entryFrame m #[(.long q0), (.long q1), (.long q2), (.long q3), (.int p4), (.int p5)] maxLocals) T158 (mkF m 205 #[.val (.long q0), .second, .val (.long q1), .second, .val (.long q2), .second, .val (.long q3), .second, iv p4, iv p5, .val (.long bb), .second, .val (.long n1), .second, .val (.long n2), .second, .val (.long n3), .second, iv kk, iv mm, rv a1, iv (1 : Int32), iv (1 : Int32), .val (.long lf), .second, .val (.double (own_gr n3 n2)), .second, .unset, .unset, .unset, .unset, .unset, .unset, .unset, .unset, .unset, .unset, .unset, .unset] [(.double (FP.ddiv (FP.l2d n2) (FP.l2d n1)))]) := by
        intro target kt
        refine g167 target ?_
        refine XS.ifYes X158.here hx rfl (pc0 := 191) (pc' := 198) rfl (hb hby at_191) rfl (XT.ll_ne_t hc168) (by decide) (by decide) ?_
        show Steps p.tables e below (T158.setTop (mkF m 198 #[.val (.long q0), .second, .val (.long q1), .second, .val (.long q2), .second, .val (.long q3), .second, iv p4, iv p5, .val (.long bb), .second, .val (.long n1), .second, .val (.long n2), .second, .val (.long n3), .second, iv kk, iv mm, rv a1, iv (1 : Int32), iv (1 : Int32), .val (.long lf), .second, .val (.double (own_gr n3 n2)), .second, .unset, .unset, .unset, .unset, .unset, .unset, .unset, .unset, .unset, .unset, .unset, .unset] [])) target
        refine XT.lload X158.here hx rfl (hb hby at_198) rfl ?_
        show Steps p.tables e below (T158.setTop (mkF m 200 #[.val (.long q0), .second, .val (.long q1), .second, .val (.long q2), .second, .val (.long q3), .second, iv p4, iv p5, .val (.long bb), .second, .val (.long n1), .second, .val (.long n2), .second, .val (.long n3), .second, iv kk, iv mm, rv a1, iv (1 : Int32), iv (1 : Int32), .val (.long lf), .second, .val (.double (own_gr n3 n2)), .second, .unset, .unset, .unset, .unset, .unset, .unset, .unset, .unset, .unset, .unset, .unset, .unset] [(.long n2)])) target
        refine XS.l2dS X158.here hx rfl (hb hby at_200) rfl rfl ?_
        show Steps p.tables e below (T158.setTop (mkF m 201 #[.val (.long q0), .second, .val (.long q1), .second, .val (.long q2), .second, .val (.long q3), .second, iv p4, iv p5, .val (.long bb), .second, .val (.long n1), .second, .val (.long n2), .second, .val (.long n3), .second, iv kk, iv mm, rv a1, iv (1 : Int32), iv (1 : Int32), .val (.long lf), .second, .val (.double (own_gr n3 n2)), .second, .unset, .unset, .unset, .unset, .unset, .unset, .unset, .unset, .unset, .unset, .unset, .unset] [(.double (FP.l2d n2))])) target
        refine XT.lload X158.here hx rfl (hb hby at_201) rfl ?_
        show Steps p.tables e below (T158.setTop (mkF m 203 #[.val (.long q0), .second, .val (.long q1), .second, .val (.long q2), .second, .val (.long q3), .second, iv p4, iv p5, .val (.long bb), .second, .val (.long n1), .second, .val (.long n2), .second, .val (.long n3), .second, iv kk, iv mm, rv a1, iv (1 : Int32), iv (1 : Int32), .val (.long lf), .second, .val (.double (own_gr n3 n2)), .second, .unset, .unset, .unset, .unset, .unset, .unset, .unset, .unset, .unset, .unset, .unset, .unset] [(.long n1), (.double (FP.l2d n2))])) target
        refine XS.l2dS X158.here hx rfl (hb hby at_203) rfl rfl ?_
        show Steps p.tables e below (T158.setTop (mkF m 204 #[.val (.long q0), .second, .val (.long q1), .second, .val (.long q2), .second, .val (.long q3), .second, iv p4, iv p5, .val (.long bb), .second, .val (.long n1), .second, .val (.long n2), .second, .val (.long n3), .second, iv kk, iv mm, rv a1, iv (1 : Int32), iv (1 : Int32), .val (.long lf), .second, .val (.double (own_gr n3 n2)), .second, .unset, .unset, .unset, .unset, .unset, .unset, .unset, .unset, .unset, .unset, .unset, .unset] [(.double (FP.l2d n1)), (.double (FP.l2d n2))])) target
        refine XS.ddivS X158.here hx rfl (hb hby at_204) rfl (ddiv_out (l2d_fin _).noNaN (l2d_fin _) (l2d_nz hc168)) rfl ?_
        show Steps p.tables e below (T158.setTop (mkF m 205 #[.val (.long q0), .second, .val (.long q1), .second, .val (.long q2), .second, .val (.long q3), .second, iv p4, iv p5, .val (.long bb), .second, .val (.long n1), .second, .val (.long n2), .second, .val (.long n3), .second, iv kk, iv mm, rv a1, iv (1 : Int32), iv (1 : Int32), .val (.long lf), .second, .val (.double (own_gr n3 n2)), .second, .unset, .unset, .unset, .unset, .unset, .unset, .unset, .unset, .unset, .unset, .unset, .unset] [(.double (FP.ddiv (FP.l2d n2) (FP.l2d n1)))])) target
        exact kt
      exact ⟨(FP.ddiv (FP.l2d n2) (FP.l2d n1)), (by simp only [if_neg hc168]), g170⟩
  have eB : gB = own_gr n2 n1 := hm171
  subst eB
  have g172 : own_Go p e below s₁ (entryFrame m #[(.long q0), (.long q1), (.long q2), (.long q3), (.int p4), (.int p5)] maxLocals) T158 (mkF m 207 #[.val (.long q0), .second, .val (.long q1), .second, .val (.long q2), .second, .val (.long q3), .second, iv p4, iv p5, .val (.long bb), .second, .val (.long n1), .second, .val (.long n2), .second, .val (.long n3), .second, iv kk, iv mm, rv a1, iv (1 : Int32), iv (1 : Int32), .val (.long lf), .second, .val (.double (own_gr n3 n2)), .second, .val (.double (own_gr n2 n1)), .second, .unset, .unset, .unset, .unset, .unset, .unset, .unset, .unset, .unset, .unset] []) := by
    intro target kt
    refine g171 target ?_
    refine XS.dstore X158.here hx rfl (hb hby at_205) rfl (l' := #[.val (.long q0), .second, .val (.long q1), .second, .val (.long q2), .second, .val (.long q3), .second, iv p4, iv p5, .val (.long bb), .second, .val (.long n1), .second, .val (.long n2), .second, .val (.long n3), .second, iv kk, iv mm, rv a1, iv (1 : Int32), iv (1 : Int32), .val (.long lf), .second, .val (.double (own_gr n3 n2)), .second, .val (.double (own_gr n2 n1)), .second, .unset, .unset, .unset, .unset, .unset, .unset, .unset, .unset, .unset, .unset]) rfl ?_
    show Steps p.tables e below (T158.setTop (mkF m 207 #[.val (.long q0), .second, .val (.long q1), .second, .val (.long q2), .second, .val (.long q3), .second, iv p4, iv p5, .val (.long bb), .second, .val (.long n1), .second, .val (.long n2), .second, .val (.long n3), .second, iv kk, iv mm, rv a1, iv (1 : Int32), iv (1 : Int32), .val (.long lf), .second, .val (.double (own_gr n3 n2)), .second, .val (.double (own_gr n2 n1)), .second, .unset, .unset, .unset, .unset, .unset, .unset, .unset, .unset, .unset, .unset] [])) target
    exact kt
  obtain ⟨gg, hm177, g177⟩ : ∃ (gg : UInt64), (gg = (if (cmpValue (FP.dcmp (own_gr n3 n2) (own_gr n2 n1)) .g) < 0 then (own_gr n3 n2) else (own_gr n2 n1))) ∧ own_Go p e below s₁ (entryFrame m #[(.long q0), (.long q1), (.long q2), (.long q3), (.int p4), (.int p5)] maxLocals) T158 (mkF m 222 #[.val (.long q0), .second, .val (.long q1), .second, .val (.long q2), .second, .val (.long q3), .second, iv p4, iv p5, .val (.long bb), .second, .val (.long n1), .second, .val (.long n2), .second, .val (.long n3), .second, iv kk, iv mm, rv a1, iv (1 : Int32), iv (1 : Int32), .val (.long lf), .second, .val (.double (own_gr n3 n2)), .second, .val (.double (own_gr n2 n1)), .second, .unset, .unset, .unset, .unset, .unset, .unset, .unset, .unset, .unset, .unset] [(.double gg)]) := by
    have g173 : own_Go p e below s₁ (entryFrame m #[(.long q0), (.long q1), (.long q2), (.long q3), (.int p4), (.int p5)] maxLocals) T158 (mkF m 212 #[.val (.long q0), .second, .val (.long q1), .second, .val (.long q2), .second, .val (.long q3), .second, iv p4, iv p5, .val (.long bb), .second, .val (.long n1), .second, .val (.long n2), .second, .val (.long n3), .second, iv kk, iv mm, rv a1, iv (1 : Int32), iv (1 : Int32), .val (.long lf), .second, .val (.double (own_gr n3 n2)), .second, .val (.double (own_gr n2 n1)), .second, .unset, .unset, .unset, .unset, .unset, .unset, .unset, .unset, .unset, .unset] [(.int (cmpValue (FP.dcmp (own_gr n3 n2) (own_gr n2 n1)) .g))]) := by
      intro target kt
      refine g172 target ?_
      refine XS.dload X158.here hx rfl (hb hby at_207) rfl ?_
      show Steps p.tables e below (T158.setTop (mkF m 209 #[.val (.long q0), .second, .val (.long q1), .second, .val (.long q2), .second, .val (.long q3), .second, iv p4, iv p5, .val (.long bb), .second, .val (.long n1), .second, .val (.long n2), .second, .val (.long n3), .second, iv kk, iv mm, rv a1, iv (1 : Int32), iv (1 : Int32), .val (.long lf), .second, .val (.double (own_gr n3 n2)), .second, .val (.double (own_gr n2 n1)), .second, .unset, .unset, .unset, .unset, .unset, .unset, .unset, .unset, .unset, .unset] [(.double (own_gr n3 n2))])) target
      refine XS.dload X158.here hx rfl (hb hby at_209) rfl ?_
      show Steps p.tables e below (T158.setTop (mkF m 211 #[.val (.long q0), .second, .val (.long q1), .second, .val (.long q2), .second, .val (.long q3), .second, iv p4, iv p5, .val (.long bb), .second, .val (.long n1), .second, .val (.long n2), .second, .val (.long n3), .second, iv kk, iv mm, rv a1, iv (1 : Int32), iv (1 : Int32), .val (.long lf), .second, .val (.double (own_gr n3 n2)), .second, .val (.double (own_gr n2 n1)), .second, .unset, .unset, .unset, .unset, .unset, .unset, .unset, .unset, .unset, .unset] [(.double (own_gr n2 n1)), (.double (own_gr n3 n2))])) target
      refine XS.dcmpS X158.here hx rfl (hb hby at_211) rfl rfl ?_
      show Steps p.tables e below (T158.setTop (mkF m 212 #[.val (.long q0), .second, .val (.long q1), .second, .val (.long q2), .second, .val (.long q3), .second, iv p4, iv p5, .val (.long bb), .second, .val (.long n1), .second, .val (.long n2), .second, .val (.long n3), .second, iv kk, iv mm, rv a1, iv (1 : Int32), iv (1 : Int32), .val (.long lf), .second, .val (.double (own_gr n3 n2)), .second, .val (.double (own_gr n2 n1)), .second, .unset, .unset, .unset, .unset, .unset, .unset, .unset, .unset, .unset, .unset] [(.int (cmpValue (FP.dcmp (own_gr n3 n2) (own_gr n2 n1)) .g))])) target
      exact kt
    by_cases hc174 : (cmpValue (FP.dcmp (own_gr n3 n2) (own_gr n2 n1)) .g) < 0
    · have g175 : own_Go p e below s₁ (entryFrame m #[(.long q0), (.long q1), (.long q2), (.long q3), (.int p4), (.int p5)] maxLocals) T158 (mkF m 222 #[.val (.long q0), .second, .val (.long q1), .second, .val (.long q2), .second, .val (.long q3), .second, iv p4, iv p5, .val (.long bb), .second, .val (.long n1), .second, .val (.long n2), .second, .val (.long n3), .second, iv kk, iv mm, rv a1, iv (1 : Int32), iv (1 : Int32), .val (.long lf), .second, .val (.double (own_gr n3 n2)), .second, .val (.double (own_gr n2 n1)), .second, .unset, .unset, .unset, .unset, .unset, .unset, .unset, .unset, .unset, .unset] [(.double (own_gr n3 n2))]) := by
        intro target kt
        refine g173 target ?_
        refine XS.ifNo X158.here hx rfl (hb hby at_212) rfl (XT.i0_ge_f hc174) ?_
        show Steps p.tables e below (T158.setTop (mkF m 215 #[.val (.long q0), .second, .val (.long q1), .second, .val (.long q2), .second, .val (.long q3), .second, iv p4, iv p5, .val (.long bb), .second, .val (.long n1), .second, .val (.long n2), .second, .val (.long n3), .second, iv kk, iv mm, rv a1, iv (1 : Int32), iv (1 : Int32), .val (.long lf), .second, .val (.double (own_gr n3 n2)), .second, .val (.double (own_gr n2 n1)), .second, .unset, .unset, .unset, .unset, .unset, .unset, .unset, .unset, .unset, .unset] [])) target
        refine XS.dload X158.here hx rfl (hb hby at_215) rfl ?_
        show Steps p.tables e below (T158.setTop (mkF m 217 #[.val (.long q0), .second, .val (.long q1), .second, .val (.long q2), .second, .val (.long q3), .second, iv p4, iv p5, .val (.long bb), .second, .val (.long n1), .second, .val (.long n2), .second, .val (.long n3), .second, iv kk, iv mm, rv a1, iv (1 : Int32), iv (1 : Int32), .val (.long lf), .second, .val (.double (own_gr n3 n2)), .second, .val (.double (own_gr n2 n1)), .second, .unset, .unset, .unset, .unset, .unset, .unset, .unset, .unset, .unset, .unset] [(.double (own_gr n3 n2))])) target
        refine XS.goto X158.here hx rfl (pc0 := 217) (pc' := 222) rfl (hb hby at_217) (by decide) (by decide) ?_
        show Steps p.tables e below (T158.setTop (mkF m 222 #[.val (.long q0), .second, .val (.long q1), .second, .val (.long q2), .second, .val (.long q3), .second, iv p4, iv p5, .val (.long bb), .second, .val (.long n1), .second, .val (.long n2), .second, .val (.long n3), .second, iv kk, iv mm, rv a1, iv (1 : Int32), iv (1 : Int32), .val (.long lf), .second, .val (.double (own_gr n3 n2)), .second, .val (.double (own_gr n2 n1)), .second, .unset, .unset, .unset, .unset, .unset, .unset, .unset, .unset, .unset, .unset] [(.double (own_gr n3 n2))])) target
        exact kt
      exact ⟨(own_gr n3 n2), (by simp only [if_pos hc174]), g175⟩
    · have g176 : own_Go p e below s₁ (entryFrame m #[(.long q0), (.long q1), (.long q2), (.long q3), (.int p4), (.int p5)] maxLocals) T158 (mkF m 222 #[.val (.long q0), .second, .val (.long q1), .second, .val (.long q2), .second, .val (.long q3), .second, iv p4, iv p5, .val (.long bb), .second, .val (.long n1), .second, .val (.long n2), .second, .val (.long n3), .second, iv kk, iv mm, rv a1, iv (1 : Int32), iv (1 : Int32), .val (.long lf), .second, .val (.double (own_gr n3 n2)), .second, .val (.double (own_gr n2 n1)), .second, .unset, .unset, .unset, .unset, .unset, .unset, .unset, .unset, .unset, .unset] [(.double (own_gr n2 n1))]) := by
        intro target kt
        refine g173 target ?_
        refine XS.ifYes X158.here hx rfl (pc0 := 212) (pc' := 220) rfl (hb hby at_212) rfl (XT.i0_ge_t hc174) (by decide) (by decide) ?_
        show Steps p.tables e below (T158.setTop (mkF m 220 #[.val (.long q0), .second, .val (.long q1), .second, .val (.long q2), .second, .val (.long q3), .second, iv p4, iv p5, .val (.long bb), .second, .val (.long n1), .second, .val (.long n2), .second, .val (.long n3), .second, iv kk, iv mm, rv a1, iv (1 : Int32), iv (1 : Int32), .val (.long lf), .second, .val (.double (own_gr n3 n2)), .second, .val (.double (own_gr n2 n1)), .second, .unset, .unset, .unset, .unset, .unset, .unset, .unset, .unset, .unset, .unset] [])) target
        refine XS.dload X158.here hx rfl (hb hby at_220) rfl ?_
        show Steps p.tables e below (T158.setTop (mkF m 222 #[.val (.long q0), .second, .val (.long q1), .second, .val (.long q2), .second, .val (.long q3), .second, iv p4, iv p5, .val (.long bb), .second, .val (.long n1), .second, .val (.long n2), .second, .val (.long n3), .second, iv kk, iv mm, rv a1, iv (1 : Int32), iv (1 : Int32), .val (.long lf), .second, .val (.double (own_gr n3 n2)), .second, .val (.double (own_gr n2 n1)), .second, .unset, .unset, .unset, .unset, .unset, .unset, .unset, .unset, .unset, .unset] [(.double (own_gr n2 n1))])) target
        exact kt
      exact ⟨(own_gr n2 n1), (by simp only [if_neg hc174]), g176⟩
  have g178 : own_Go p e below s₁ (entryFrame m #[(.long q0), (.long q1), (.long q2), (.long q3), (.int p4), (.int p5)] maxLocals) T158 (mkF m 224 #[.val (.long q0), .second, .val (.long q1), .second, .val (.long q2), .second, .val (.long q3), .second, iv p4, iv p5, .val (.long bb), .second, .val (.long n1), .second, .val (.long n2), .second, .val (.long n3), .second, iv kk, iv mm, rv a1, iv (1 : Int32), iv (1 : Int32), .val (.long lf), .second, .val (.double (own_gr n3 n2)), .second, .val (.double (own_gr n2 n1)), .second, .val (.double gg), .second, .unset, .unset, .unset, .unset, .unset, .unset, .unset, .unset] []) := by
    intro target kt
    refine g177 target ?_
    refine XS.dstore X158.here hx rfl (hb hby at_222) rfl (l' := #[.val (.long q0), .second, .val (.long q1), .second, .val (.long q2), .second, .val (.long q3), .second, iv p4, iv p5, .val (.long bb), .second, .val (.long n1), .second, .val (.long n2), .second, .val (.long n3), .second, iv kk, iv mm, rv a1, iv (1 : Int32), iv (1 : Int32), .val (.long lf), .second, .val (.double (own_gr n3 n2)), .second, .val (.double (own_gr n2 n1)), .second, .val (.double gg), .second, .unset, .unset, .unset, .unset, .unset, .unset, .unset, .unset]) rfl ?_
    show Steps p.tables e below (T158.setTop (mkF m 224 #[.val (.long q0), .second, .val (.long q1), .second, .val (.long q2), .second, .val (.long q3), .second, iv p4, iv p5, .val (.long bb), .second, .val (.long n1), .second, .val (.long n2), .second, .val (.long n3), .second, iv kk, iv mm, rv a1, iv (1 : Int32), iv (1 : Int32), .val (.long lf), .second, .val (.double (own_gr n3 n2)), .second, .val (.double (own_gr n2 n1)), .second, .val (.double gg), .second, .unset, .unset, .unset, .unset, .unset, .unset, .unset, .unset] [])) target
    exact kt
  obtain ⟨mx, hm183, g183⟩ : ∃ (mx : UInt64), (mx = (if 0 < (cmpValue (FP.dcmp gg (FP.l2d 1)) .l) then gg else (FP.l2d 1))) ∧ own_Go p e below s₁ (entryFrame m #[(.long q0), (.long q1), (.long q2), (.long q3), (.int p4), (.int p5)] maxLocals) T158 (mkF m 240 #[.val (.long q0), .second, .val (.long q1), .second, .val (.long q2), .second, .val (.long q3), .second, iv p4, iv p5, .val (.long bb), .second, .val (.long n1), .second, .val (.long n2), .second, .val (.long n3), .second, iv kk, iv mm, rv a1, iv (1 : Int32), iv (1 : Int32), .val (.long lf), .second, .val (.double (own_gr n3 n2)), .second, .val (.double (own_gr n2 n1)), .second, .val (.double gg), .second, .unset, .unset, .unset, .unset, .unset, .unset, .unset, .unset] [(.double mx), (.double (FP.l2d n3))]) := by
    have g179 : own_Go p e below s₁ (entryFrame m #[(.long q0), (.long q1), (.long q2), (.long q3), (.int p4), (.int p5)] maxLocals) T158 (mkF m 231 #[.val (.long q0), .second, .val (.long q1), .second, .val (.long q2), .second, .val (.long q3), .second, iv p4, iv p5, .val (.long bb), .second, .val (.long n1), .second, .val (.long n2), .second, .val (.long n3), .second, iv kk, iv mm, rv a1, iv (1 : Int32), iv (1 : Int32), .val (.long lf), .second, .val (.double (own_gr n3 n2)), .second, .val (.double (own_gr n2 n1)), .second, .val (.double gg), .second, .unset, .unset, .unset, .unset, .unset, .unset, .unset, .unset] [(.int (cmpValue (FP.dcmp gg (FP.l2d 1)) .l)), (.double (FP.l2d n3))]) := by
      intro target kt
      refine g178 target ?_
      refine XT.lload X158.here hx rfl (hb hby at_224) rfl ?_
      show Steps p.tables e below (T158.setTop (mkF m 226 #[.val (.long q0), .second, .val (.long q1), .second, .val (.long q2), .second, .val (.long q3), .second, iv p4, iv p5, .val (.long bb), .second, .val (.long n1), .second, .val (.long n2), .second, .val (.long n3), .second, iv kk, iv mm, rv a1, iv (1 : Int32), iv (1 : Int32), .val (.long lf), .second, .val (.double (own_gr n3 n2)), .second, .val (.double (own_gr n2 n1)), .second, .val (.double gg), .second, .unset, .unset, .unset, .unset, .unset, .unset, .unset, .unset] [(.long n3)])) target
      refine XS.l2dS X158.here hx rfl (hb hby at_226) rfl rfl ?_
      show Steps p.tables e below (T158.setTop (mkF m 227 #[.val (.long q0), .second, .val (.long q1), .second, .val (.long q2), .second, .val (.long q3), .second, iv p4, iv p5, .val (.long bb), .second, .val (.long n1), .second, .val (.long n2), .second, .val (.long n3), .second, iv kk, iv mm, rv a1, iv (1 : Int32), iv (1 : Int32), .val (.long lf), .second, .val (.double (own_gr n3 n2)), .second, .val (.double (own_gr n2 n1)), .second, .val (.double gg), .second, .unset, .unset, .unset, .unset, .unset, .unset, .unset, .unset] [(.double (FP.l2d n3))])) target
      refine XS.dload X158.here hx rfl (hb hby at_227) rfl ?_
      show Steps p.tables e below (T158.setTop (mkF m 229 #[.val (.long q0), .second, .val (.long q1), .second, .val (.long q2), .second, .val (.long q3), .second, iv p4, iv p5, .val (.long bb), .second, .val (.long n1), .second, .val (.long n2), .second, .val (.long n3), .second, iv kk, iv mm, rv a1, iv (1 : Int32), iv (1 : Int32), .val (.long lf), .second, .val (.double (own_gr n3 n2)), .second, .val (.double (own_gr n2 n1)), .second, .val (.double gg), .second, .unset, .unset, .unset, .unset, .unset, .unset, .unset, .unset] [(.double gg), (.double (FP.l2d n3))])) target
      refine XS.dconst1 X158.here hx rfl (hb hby at_229) own_d1 ?_
      show Steps p.tables e below (T158.setTop (mkF m 230 #[.val (.long q0), .second, .val (.long q1), .second, .val (.long q2), .second, .val (.long q3), .second, iv p4, iv p5, .val (.long bb), .second, .val (.long n1), .second, .val (.long n2), .second, .val (.long n3), .second, iv kk, iv mm, rv a1, iv (1 : Int32), iv (1 : Int32), .val (.long lf), .second, .val (.double (own_gr n3 n2)), .second, .val (.double (own_gr n2 n1)), .second, .val (.double gg), .second, .unset, .unset, .unset, .unset, .unset, .unset, .unset, .unset] [(.double (FP.l2d 1)), (.double gg), (.double (FP.l2d n3))])) target
      refine XS.dcmpS X158.here hx rfl (hb hby at_230) rfl rfl ?_
      show Steps p.tables e below (T158.setTop (mkF m 231 #[.val (.long q0), .second, .val (.long q1), .second, .val (.long q2), .second, .val (.long q3), .second, iv p4, iv p5, .val (.long bb), .second, .val (.long n1), .second, .val (.long n2), .second, .val (.long n3), .second, iv kk, iv mm, rv a1, iv (1 : Int32), iv (1 : Int32), .val (.long lf), .second, .val (.double (own_gr n3 n2)), .second, .val (.double (own_gr n2 n1)), .second, .val (.double gg), .second, .unset, .unset, .unset, .unset, .unset, .unset, .unset, .unset] [(.int (cmpValue (FP.dcmp gg (FP.l2d 1)) .l)), (.double (FP.l2d n3))])) target
      exact kt
    by_cases hc180 : 0 < (cmpValue (FP.dcmp gg (FP.l2d 1)) .l)
    · have g181 : own_Go p e below s₁ (entryFrame m #[(.long q0), (.long q1), (.long q2), (.long q3), (.int p4), (.int p5)] maxLocals) T158 (mkF m 240 #[.val (.long q0), .second, .val (.long q1), .second, .val (.long q2), .second, .val (.long q3), .second, iv p4, iv p5, .val (.long bb), .second, .val (.long n1), .second, .val (.long n2), .second, .val (.long n3), .second, iv kk, iv mm, rv a1, iv (1 : Int32), iv (1 : Int32), .val (.long lf), .second, .val (.double (own_gr n3 n2)), .second, .val (.double (own_gr n2 n1)), .second, .val (.double gg), .second, .unset, .unset, .unset, .unset, .unset, .unset, .unset, .unset] [(.double gg), (.double (FP.l2d n3))]) := by
        intro target kt
        refine g179 target ?_
        refine XS.ifNo X158.here hx rfl (hb hby at_231) rfl (XT.i0_le_f hc180) ?_
        show Steps p.tables e below (T158.setTop (mkF m 234 #[.val (.long q0), .second, .val (.long q1), .second, .val (.long q2), .second, .val (.long q3), .second, iv p4, iv p5, .val (.long bb), .second, .val (.long n1), .second, .val (.long n2), .second, .val (.long n3), .second, iv kk, iv mm, rv a1, iv (1 : Int32), iv (1 : Int32), .val (.long lf), .second, .val (.double (own_gr n3 n2)), .second, .val (.double (own_gr n2 n1)), .second, .val (.double gg), .second, .unset, .unset, .unset, .unset, .unset, .unset, .unset, .unset] [(.double (FP.l2d n3))])) target
        refine XS.dload X158.here hx rfl (hb hby at_234) rfl ?_
        show Steps p.tables e below (T158.setTop (mkF m 236 #[.val (.long q0), .second, .val (.long q1), .second, .val (.long q2), .second, .val (.long q3), .second, iv p4, iv p5, .val (.long bb), .second, .val (.long n1), .second, .val (.long n2), .second, .val (.long n3), .second, iv kk, iv mm, rv a1, iv (1 : Int32), iv (1 : Int32), .val (.long lf), .second, .val (.double (own_gr n3 n2)), .second, .val (.double (own_gr n2 n1)), .second, .val (.double gg), .second, .unset, .unset, .unset, .unset, .unset, .unset, .unset, .unset] [(.double gg), (.double (FP.l2d n3))])) target
        refine XS.goto X158.here hx rfl (pc0 := 236) (pc' := 240) rfl (hb hby at_236) (by decide) (by decide) ?_
        show Steps p.tables e below (T158.setTop (mkF m 240 #[.val (.long q0), .second, .val (.long q1), .second, .val (.long q2), .second, .val (.long q3), .second, iv p4, iv p5, .val (.long bb), .second, .val (.long n1), .second, .val (.long n2), .second, .val (.long n3), .second, iv kk, iv mm, rv a1, iv (1 : Int32), iv (1 : Int32), .val (.long lf), .second, .val (.double (own_gr n3 n2)), .second, .val (.double (own_gr n2 n1)), .second, .val (.double gg), .second, .unset, .unset, .unset, .unset, .unset, .unset, .unset, .unset] [(.double gg), (.double (FP.l2d n3))])) target
        exact kt
      exact ⟨gg, (by simp only [if_pos hc180]), g181⟩
    · have g182 : own_Go p e below s₁ (entryFrame m #[(.long q0), (.long q1), (.long q2), (.long q3), (.int p4), (.int p5)] maxLocals) T158 (mkF m 240 #[.val (.long q0), .second, .val (.long q1), .second, .val (.long q2), .second, .val (.long q3), .second, iv p4, iv p5, .val (.long bb), .second, .val (.long n1), .second, .val (.long n2), .second, .val (.long n3), .second, iv kk, iv mm, rv a1, iv (1 : Int32), iv (1 : Int32), .val (.long lf), .second, .val (.double (own_gr n3 n2)), .second, .val (.double (own_gr n2 n1)), .second, .val (.double gg), .second, .unset, .unset, .unset, .unset, .unset, .unset, .unset, .unset] [(.double (FP.l2d 1)), (.double (FP.l2d n3))]) := by
        intro target kt
        refine g179 target ?_
        refine XS.ifYes X158.here hx rfl (pc0 := 231) (pc' := 239) rfl (hb hby at_231) rfl (XT.i0_le_t hc180) (by decide) (by decide) ?_
        show Steps p.tables e below (T158.setTop (mkF m 239 #[.val (.long q0), .second, .val (.long q1), .second, .val (.long q2), .second, .val (.long q3), .second, iv p4, iv p5, .val (.long bb), .second, .val (.long n1), .second, .val (.long n2), .second, .val (.long n3), .second, iv kk, iv mm, rv a1, iv (1 : Int32), iv (1 : Int32), .val (.long lf), .second, .val (.double (own_gr n3 n2)), .second, .val (.double (own_gr n2 n1)), .second, .val (.double gg), .second, .unset, .unset, .unset, .unset, .unset, .unset, .unset, .unset] [(.double (FP.l2d n3))])) target
        refine XS.dconst1 X158.here hx rfl (hb hby at_239) own_d1 ?_
        show Steps p.tables e below (T158.setTop (mkF m 240 #[.val (.long q0), .second, .val (.long q1), .second, .val (.long q2), .second, .val (.long q3), .second, iv p4, iv p5, .val (.long bb), .second, .val (.long n1), .second, .val (.long n2), .second, .val (.long n3), .second, iv kk, iv mm, rv a1, iv (1 : Int32), iv (1 : Int32), .val (.long lf), .second, .val (.double (own_gr n3 n2)), .second, .val (.double (own_gr n2 n1)), .second, .val (.double gg), .second, .unset, .unset, .unset, .unset, .unset, .unset, .unset, .unset] [(.double (FP.l2d 1)), (.double (FP.l2d n3))])) target
        exact kt
      exact ⟨(FP.l2d 1), (by simp only [if_neg hc180]), g182⟩
  have he3 : FP.dmul (FP.l2d n3) mx = own_ex n3 n2 n1 := own_e3 (by omega) (by omega) (by omega) hm177 hm183
  have fE : Fin64 (own_ex n3 n2 n1) := (own_exM n3 n2 n1).fin (by decide)
  have g184 : own_Go p e below s₁ (entryFrame m #[(.long q0), (.long q1), (.long q2), (.long q3), (.int p4), (.int p5)] maxLocals) T158 (mkF m 243 #[.val (.long q0), .second, .val (.long q1), .second, .val (.long q2), .second, .val (.long q3), .second, iv p4, iv p5, .val (.long bb), .second, .val (.long n1), .second, .val (.long n2), .second, .val (.long n3), .second, iv kk, iv mm, rv a1, iv (1 : Int32), iv (1 : Int32), .val (.long lf), .second, .val (.double (own_gr n3 n2)), .second, .val (.double (own_gr n2 n1)), .second, .val (.double gg), .second, .val (.double (FP.dmul (FP.l2d n3) mx)), .second, .unset, .unset, .unset, .unset, .unset, .unset] []) := by
    intro target kt
    refine g183 target ?_
    refine XS.dmulS X158.here hx rfl (hb hby at_240) rfl (by rw [he3]; exact fE.noNaN) rfl ?_
    show Steps p.tables e below (T158.setTop (mkF m 241 #[.val (.long q0), .second, .val (.long q1), .second, .val (.long q2), .second, .val (.long q3), .second, iv p4, iv p5, .val (.long bb), .second, .val (.long n1), .second, .val (.long n2), .second, .val (.long n3), .second, iv kk, iv mm, rv a1, iv (1 : Int32), iv (1 : Int32), .val (.long lf), .second, .val (.double (own_gr n3 n2)), .second, .val (.double (own_gr n2 n1)), .second, .val (.double gg), .second, .unset, .unset, .unset, .unset, .unset, .unset, .unset, .unset] [(.double (FP.dmul (FP.l2d n3) mx))])) target
    refine XS.dstore X158.here hx rfl (hb hby at_241) rfl (l' := #[.val (.long q0), .second, .val (.long q1), .second, .val (.long q2), .second, .val (.long q3), .second, iv p4, iv p5, .val (.long bb), .second, .val (.long n1), .second, .val (.long n2), .second, .val (.long n3), .second, iv kk, iv mm, rv a1, iv (1 : Int32), iv (1 : Int32), .val (.long lf), .second, .val (.double (own_gr n3 n2)), .second, .val (.double (own_gr n2 n1)), .second, .val (.double gg), .second, .val (.double (FP.dmul (FP.l2d n3) mx)), .second, .unset, .unset, .unset, .unset, .unset, .unset]) rfl ?_
    show Steps p.tables e below (T158.setTop (mkF m 243 #[.val (.long q0), .second, .val (.long q1), .second, .val (.long q2), .second, .val (.long q3), .second, iv p4, iv p5, .val (.long bb), .second, .val (.long n1), .second, .val (.long n2), .second, .val (.long n3), .second, iv kk, iv mm, rv a1, iv (1 : Int32), iv (1 : Int32), .val (.long lf), .second, .val (.double (own_gr n3 n2)), .second, .val (.double (own_gr n2 n1)), .second, .val (.double gg), .second, .val (.double (FP.dmul (FP.l2d n3) mx)), .second, .unset, .unset, .unset, .unset, .unset, .unset] [])) target
    exact kt
  rw [he3] at g184
  have g185 : own_Go p e below s₁ (entryFrame m #[(.long q0), (.long q1), (.long q2), (.long q3), (.int p4), (.int p5)] maxLocals) T158 (mkF m 245 #[.val (.long q0), .second, .val (.long q1), .second, .val (.long q2), .second, .val (.long q3), .second, iv p4, iv p5, .val (.long bb), .second, .val (.long n1), .second, .val (.long n2), .second, .val (.long n3), .second, iv kk, iv mm, rv a1, iv (1 : Int32), iv (1 : Int32), .val (.long lf), .second, .val (.double (own_gr n3 n2)), .second, .val (.double (own_gr n2 n1)), .second, .val (.double gg), .second, .val (.double (own_ex n3 n2 n1)), .second, .unset, .unset, .unset, .unset, .unset, .unset] [(.ref a1)]) := by
    intro target kt
    refine g184 target ?_
    refine XS.aload X158.here hx rfl (hb hby at_243) rfl rfl ?_
    show Steps p.tables e below (T158.setTop (mkF m 245 #[.val (.long q0), .second, .val (.long q1), .second, .val (.long q2), .second, .val (.long q3), .second, iv p4, iv p5, .val (.long bb), .second, .val (.long n1), .second, .val (.long n2), .second, .val (.long n3), .second, iv kk, iv mm, rv a1, iv (1 : Int32), iv (1 : Int32), .val (.long lf), .second, .val (.double (own_gr n3 n2)), .second, .val (.double (own_gr n2 n1)), .second, .val (.double gg), .second, .val (.double (own_ex n3 n2 n1)), .second, .unset, .unset, .unset, .unset, .unset, .unset] [(.ref a1)])) target
    exact kt
  obtain ⟨cq186, kq186, q186a, q186b, q186c⟩ := isOf hZ ehpc.symm P4.1
  obtain ⟨_, _, ⟨T186, L186, k186, n186⟩, -, X186, ⟨Lc186, hQ186, l186, y186, z186⟩, st186⟩ := X158.virtualBack hx (y := (⟨"com/example/ends_to_means/endstomeans/solver/ForwardPace", "mayAddLayer", "()Z"⟩ : MethodName)) (z := (⟨"com/example/ends_to_means/endstomeans/solver/ForwardPace", "mayAddLayer", "()Z"⟩ : MethodName)) hown (mvT hZ (hw _ (List.mem_of_getElem? (i := 43) rfl))) (mvT hZ (hw _ (List.mem_of_getElem? (i := 44) rfl))) (notFace_of_selects (args := #[]) (mvT hZ (hw _ (List.mem_of_getElem? (i := 46) rfl)))) (mvT hZ (hw _ (List.mem_of_getElem? (i := 46) rfl))) (mvT hZ (hw _ (List.mem_of_getElem? (i := 45) rfl))) (by decide) (backOf (W := 0) (rmMA l Z a0 hw [] a1 (FP.l2d 1) (0 + bb) (0 + mm.toInt64) (FP.l2d lf) kk n3 n2 n1 hpc n0 Z158 P4) hZ (hw _ (List.mem_of_getElem? (i := 47) rfl)) (hw _ (List.mem_of_getElem? (i := 6) rfl)) (by decide) (by decide)) q186a q186c (g := (mkF m 245 #[.val (.long q0), .second, .val (.long q1), .second, .val (.long q2), .second, .val (.long q3), .second, iv p4, iv p5, .val (.long bb), .second, .val (.long n1), .second, .val (.long n2), .second, .val (.long n3), .second, iv kk, iv mm, rv a1, iv (1 : Int32), iv (1 : Int32), .val (.long lf), .second, .val (.double (own_gr n3 n2)), .second, .val (.double (own_gr n2 n1)), .second, .val (.double gg), .second, .val (.double (own_ex n3 n2 n1)), .second, .unset, .unset, .unset, .unset, .unset, .unset] [(.ref a1)])) rfl (by rw [hml]; rfl) (Steps.refl _) (argsL := []) (rest := []) (lenOf pd_5 rfl) rfl (by show 2 * 0 + _ ≤ _; exact Nat.le_of_eq rfl) (hb hby at_245) (fun _ _ => ⟨rfl, ehpc.symm, (by decide : 1 + 0 ≤ _), (by decide : 8 + 0 ≤ _)⟩)
  dsimp only [Pt.U, Pt.locs, Pt.cells, Pt.slots] at X186 l186 y186 z186 st186 hQ186
  subst l186 y186 z186
  obtain ⟨rfl, Nq186, eq186⟩ := hQ186
  have N186 := Fr.app N158 Nq186
  have g187 : own_Go p e below s₁ (entryFrame m #[(.long q0), (.long q1), (.long q2), (.long q3), (.int p4), (.int p5)] maxLocals) T186 (mkF m 248 #[.val (.long q0), .second, .val (.long q1), .second, .val (.long q2), .second, .val (.long q3), .second, iv p4, iv p5, .val (.long bb), .second, .val (.long n1), .second, .val (.long n2), .second, .val (.long n3), .second, iv kk, iv mm, rv a1, iv (1 : Int32), iv (1 : Int32), .val (.long lf), .second, .val (.double (own_gr n3 n2)), .second, .val (.double (own_gr n2 n1)), .second, .val (.double gg), .second, .val (.double (own_ex n3 n2 n1)), .second, .unset, .unset, .unset, .unset, .unset, .unset] [(.int (own_ma (own_ex n3 n2 n1) (FP.l2d lf)))]) := fun target kt => g185 target (st186.trans kt)
  obtain ⟨t3, hm192, g192⟩ : ∃ (t3 : Int32), (t3 = (if 0 < (cmpValue (FP.dcmp (own_ex n3 n2 n1) (FP.l2d lf)) .g) then (0 : Int32) else (1 : Int32))) ∧ own_Go p e below s₁ (entryFrame m #[(.long q0), (.long q1), (.long q2), (.long q3), (.int p4), (.int p5)] maxLocals) T186 (mkF m 262 #[.val (.long q0), .second, .val (.long q1), .second, .val (.long q2), .second, .val (.long q3), .second, iv p4, iv p5, .val (.long bb), .second, .val (.long n1), .second, .val (.long n2), .second, .val (.long n3), .second, iv kk, iv mm, rv a1, iv (1 : Int32), iv (1 : Int32), .val (.long lf), .second, .val (.double (own_gr n3 n2)), .second, .val (.double (own_gr n2 n1)), .second, .val (.double gg), .second, .val (.double (own_ex n3 n2 n1)), .second, .unset, .unset, .unset, .unset, .unset, .unset] [(.int t3), (.int (own_ma (own_ex n3 n2 n1) (FP.l2d lf)))]) := by
    have g188 : own_Go p e below s₁ (entryFrame m #[(.long q0), (.long q1), (.long q2), (.long q3), (.int p4), (.int p5)] maxLocals) T186 (mkF m 254 #[.val (.long q0), .second, .val (.long q1), .second, .val (.long q2), .second, .val (.long q3), .second, iv p4, iv p5, .val (.long bb), .second, .val (.long n1), .second, .val (.long n2), .second, .val (.long n3), .second, iv kk, iv mm, rv a1, iv (1 : Int32), iv (1 : Int32), .val (.long lf), .second, .val (.double (own_gr n3 n2)), .second, .val (.double (own_gr n2 n1)), .second, .val (.double gg), .second, .val (.double (own_ex n3 n2 n1)), .second, .unset, .unset, .unset, .unset, .unset, .unset] [(.int (cmpValue (FP.dcmp (own_ex n3 n2 n1) (FP.l2d lf)) .g)), (.int (own_ma (own_ex n3 n2 n1) (FP.l2d lf)))]) := by
      intro target kt
      refine g187 target ?_
      refine XS.dload X186.here hx rfl (hb hby at_248) rfl ?_
      show Steps p.tables e below (T186.setTop (mkF m 250 #[.val (.long q0), .second, .val (.long q1), .second, .val (.long q2), .second, .val (.long q3), .second, iv p4, iv p5, .val (.long bb), .second, .val (.long n1), .second, .val (.long n2), .second, .val (.long n3), .second, iv kk, iv mm, rv a1, iv (1 : Int32), iv (1 : Int32), .val (.long lf), .second, .val (.double (own_gr n3 n2)), .second, .val (.double (own_gr n2 n1)), .second, .val (.double gg), .second, .val (.double (own_ex n3 n2 n1)), .second, .unset, .unset, .unset, .unset, .unset, .unset] [(.double (own_ex n3 n2 n1)), (.int (own_ma (own_ex n3 n2 n1) (FP.l2d lf)))])) target
      refine XT.lload X186.here hx rfl (hb hby at_250) rfl ?_
      show Steps p.tables e below (T186.setTop (mkF m 252 #[.val (.long q0), .second, .val (.long q1), .second, .val (.long q2), .second, .val (.long q3), .second, iv p4, iv p5, .val (.long bb), .second, .val (.long n1), .second, .val (.long n2), .second, .val (.long n3), .second, iv kk, iv mm, rv a1, iv (1 : Int32), iv (1 : Int32), .val (.long lf), .second, .val (.double (own_gr n3 n2)), .second, .val (.double (own_gr n2 n1)), .second, .val (.double gg), .second, .val (.double (own_ex n3 n2 n1)), .second, .unset, .unset, .unset, .unset, .unset, .unset] [(.long lf), (.double (own_ex n3 n2 n1)), (.int (own_ma (own_ex n3 n2 n1) (FP.l2d lf)))])) target
      refine XS.l2dS X186.here hx rfl (hb hby at_252) rfl rfl ?_
      show Steps p.tables e below (T186.setTop (mkF m 253 #[.val (.long q0), .second, .val (.long q1), .second, .val (.long q2), .second, .val (.long q3), .second, iv p4, iv p5, .val (.long bb), .second, .val (.long n1), .second, .val (.long n2), .second, .val (.long n3), .second, iv kk, iv mm, rv a1, iv (1 : Int32), iv (1 : Int32), .val (.long lf), .second, .val (.double (own_gr n3 n2)), .second, .val (.double (own_gr n2 n1)), .second, .val (.double gg), .second, .val (.double (own_ex n3 n2 n1)), .second, .unset, .unset, .unset, .unset, .unset, .unset] [(.double (FP.l2d lf)), (.double (own_ex n3 n2 n1)), (.int (own_ma (own_ex n3 n2 n1) (FP.l2d lf)))])) target
      refine XS.dcmpS X186.here hx rfl (hb hby at_253) rfl rfl ?_
      show Steps p.tables e below (T186.setTop (mkF m 254 #[.val (.long q0), .second, .val (.long q1), .second, .val (.long q2), .second, .val (.long q3), .second, iv p4, iv p5, .val (.long bb), .second, .val (.long n1), .second, .val (.long n2), .second, .val (.long n3), .second, iv kk, iv mm, rv a1, iv (1 : Int32), iv (1 : Int32), .val (.long lf), .second, .val (.double (own_gr n3 n2)), .second, .val (.double (own_gr n2 n1)), .second, .val (.double gg), .second, .val (.double (own_ex n3 n2 n1)), .second, .unset, .unset, .unset, .unset, .unset, .unset] [(.int (cmpValue (FP.dcmp (own_ex n3 n2 n1) (FP.l2d lf)) .g)), (.int (own_ma (own_ex n3 n2 n1) (FP.l2d lf)))])) target
      exact kt
    by_cases hc189 : 0 < (cmpValue (FP.dcmp (own_ex n3 n2 n1) (FP.l2d lf)) .g)
    · have g190 : own_Go p e below s₁ (entryFrame m #[(.long q0), (.long q1), (.long q2), (.long q3), (.int p4), (.int p5)] maxLocals) T186 (mkF m 262 #[.val (.long q0), .second, .val (.long q1), .second, .val (.long q2), .second, .val (.long q3), .second, iv p4, iv p5, .val (.long bb), .second, .val (.long n1), .second, .val (.long n2), .second, .val (.long n3), .second, iv kk, iv mm, rv a1, iv (1 : Int32), iv (1 : Int32), .val (.long lf), .second, .val (.double (own_gr n3 n2)), .second, .val (.double (own_gr n2 n1)), .second, .val (.double gg), .second, .val (.double (own_ex n3 n2 n1)), .second, .unset, .unset, .unset, .unset, .unset, .unset] [(.int (0 : Int32)), (.int (own_ma (own_ex n3 n2 n1) (FP.l2d lf)))]) := by
        intro target kt
        refine g188 target ?_
        refine XS.ifYes X186.here hx rfl (pc0 := 254) (pc' := 261) rfl (hb hby at_254) rfl (XT.i0_gt_t hc189) (by decide) (by decide) ?_
        show Steps p.tables e below (T186.setTop (mkF m 261 #[.val (.long q0), .second, .val (.long q1), .second, .val (.long q2), .second, .val (.long q3), .second, iv p4, iv p5, .val (.long bb), .second, .val (.long n1), .second, .val (.long n2), .second, .val (.long n3), .second, iv kk, iv mm, rv a1, iv (1 : Int32), iv (1 : Int32), .val (.long lf), .second, .val (.double (own_gr n3 n2)), .second, .val (.double (own_gr n2 n1)), .second, .val (.double gg), .second, .val (.double (own_ex n3 n2 n1)), .second, .unset, .unset, .unset, .unset, .unset, .unset] [(.int (own_ma (own_ex n3 n2 n1) (FP.l2d lf)))])) target
        refine XT.iconstV X186.here hx rfl (0 : Int32) (hb hby at_261) rfl ?_
        show Steps p.tables e below (T186.setTop (mkF m 262 #[.val (.long q0), .second, .val (.long q1), .second, .val (.long q2), .second, .val (.long q3), .second, iv p4, iv p5, .val (.long bb), .second, .val (.long n1), .second, .val (.long n2), .second, .val (.long n3), .second, iv kk, iv mm, rv a1, iv (1 : Int32), iv (1 : Int32), .val (.long lf), .second, .val (.double (own_gr n3 n2)), .second, .val (.double (own_gr n2 n1)), .second, .val (.double gg), .second, .val (.double (own_ex n3 n2 n1)), .second, .unset, .unset, .unset, .unset, .unset, .unset] [(.int (0 : Int32)), (.int (own_ma (own_ex n3 n2 n1) (FP.l2d lf)))])) target
        exact kt
      exact ⟨(0 : Int32), (by simp only [if_pos hc189]), g190⟩
    · have g191 : own_Go p e below s₁ (entryFrame m #[(.long q0), (.long q1), (.long q2), (.long q3), (.int p4), (.int p5)] maxLocals) T186 (mkF m 262 #[.val (.long q0), .second, .val (.long q1), .second, .val (.long q2), .second, .val (.long q3), .second, iv p4, iv p5, .val (.long bb), .second, .val (.long n1), .second, .val (.long n2), .second, .val (.long n3), .second, iv kk, iv mm, rv a1, iv (1 : Int32), iv (1 : Int32), .val (.long lf), .second, .val (.double (own_gr n3 n2)), .second, .val (.double (own_gr n2 n1)), .second, .val (.double gg), .second, .val (.double (own_ex n3 n2 n1)), .second, .unset, .unset, .unset, .unset, .unset, .unset] [(.int (1 : Int32)), (.int (own_ma (own_ex n3 n2 n1) (FP.l2d lf)))]) := by
        intro target kt
        refine g188 target ?_
        refine XS.ifNo X186.here hx rfl (hb hby at_254) rfl (XT.i0_gt_f hc189) ?_
        show Steps p.tables e below (T186.setTop (mkF m 257 #[.val (.long q0), .second, .val (.long q1), .second, .val (.long q2), .second, .val (.long q3), .second, iv p4, iv p5, .val (.long bb), .second, .val (.long n1), .second, .val (.long n2), .second, .val (.long n3), .second, iv kk, iv mm, rv a1, iv (1 : Int32), iv (1 : Int32), .val (.long lf), .second, .val (.double (own_gr n3 n2)), .second, .val (.double (own_gr n2 n1)), .second, .val (.double gg), .second, .val (.double (own_ex n3 n2 n1)), .second, .unset, .unset, .unset, .unset, .unset, .unset] [(.int (own_ma (own_ex n3 n2 n1) (FP.l2d lf)))])) target
        refine XT.iconstV X186.here hx rfl (1 : Int32) (hb hby at_257) rfl ?_
        show Steps p.tables e below (T186.setTop (mkF m 258 #[.val (.long q0), .second, .val (.long q1), .second, .val (.long q2), .second, .val (.long q3), .second, iv p4, iv p5, .val (.long bb), .second, .val (.long n1), .second, .val (.long n2), .second, .val (.long n3), .second, iv kk, iv mm, rv a1, iv (1 : Int32), iv (1 : Int32), .val (.long lf), .second, .val (.double (own_gr n3 n2)), .second, .val (.double (own_gr n2 n1)), .second, .val (.double gg), .second, .val (.double (own_ex n3 n2 n1)), .second, .unset, .unset, .unset, .unset, .unset, .unset] [(.int (1 : Int32)), (.int (own_ma (own_ex n3 n2 n1) (FP.l2d lf)))])) target
        refine XS.goto X186.here hx rfl (pc0 := 258) (pc' := 262) rfl (hb hby at_258) (by decide) (by decide) ?_
        show Steps p.tables e below (T186.setTop (mkF m 262 #[.val (.long q0), .second, .val (.long q1), .second, .val (.long q2), .second, .val (.long q3), .second, iv p4, iv p5, .val (.long bb), .second, .val (.long n1), .second, .val (.long n2), .second, .val (.long n3), .second, iv kk, iv mm, rv a1, iv (1 : Int32), iv (1 : Int32), .val (.long lf), .second, .val (.double (own_gr n3 n2)), .second, .val (.double (own_gr n2 n1)), .second, .val (.double gg), .second, .val (.double (own_ex n3 n2 n1)), .second, .unset, .unset, .unset, .unset, .unset, .unset] [(.int (1 : Int32)), (.int (own_ma (own_ex n3 n2 n1) (FP.l2d lf)))])) target
        exact kt
      exact ⟨(1 : Int32), (by simp only [if_neg hc189]), g191⟩
  have eM : (0 + mm.toInt64 + mm.toInt64) = (2 : Int64) * mm.toInt64 := by
    apply Int64.toInt_inj.mp
    rw [Int64.zero_add, XT.add64 (by rw [hml2]; constructor <;> omega), XT.mul64 (by rw [hml2, show (2 : Int64).toInt = 2 from rfl]; constructor <;> omega), show (2 : Int64).toInt = 2 from rfl]
    omega
  have eN : (0 + bb + bb) = (2 : Int64) * bb := by
    apply Int64.toInt_inj.mp
    rw [Int64.zero_add, XT.add64 (by constructor <;> omega), XT.mul64 (by rw [show (2 : Int64).toInt = 2 from rfl]; constructor <;> omega), show (2 : Int64).toInt = 2 from rfl]
    omega
  have hM2 : (2 : Int64) * mm.toInt64 ≠ 0 := by
    intro q
    have := congrArg Int64.toInt q
    rw [XT.mul64 (by rw [hml2, show (2 : Int64).toInt = 2 from rfl]; constructor <;> omega), hml2, show (2 : Int64).toInt = 2 from rfl, show (0 : Int64).toInt = 0 from rfl] at this
    omega
  have g193 : own_Go p e below s₁ (entryFrame m #[(.long q0), (.long q1), (.long q2), (.long q3), (.int p4), (.int p5)] maxLocals) T186 (mkF m 278 #[.val (.long q0), .second, .val (.long q1), .second, .val (.long q2), .second, .val (.long q3), .second, iv p4, iv p5, .val (.long bb), .second, .val (.long n1), .second, .val (.long n2), .second, .val (.long n3), .second, iv kk, iv mm, rv a1, iv (1 : Int32), iv (1 : Int32), .val (.long lf), .second, .val (.double (own_gr n3 n2)), .second, .val (.double (own_gr n2 n1)), .second, .val (.double gg), .second, .val (.double (own_ex n3 n2 n1)), .second, iv (1 : Int32), .unset, .unset, .unset, .unset, .unset] [(.int mm), (.long bb), (.ref a1)]) := by
    intro target kt
    refine g192 target ?_
    refine XS.icmpNo X186.here hx rfl (hb hby at_262) rfl (XT.ii_ne_f (by rw [hm192]; rfl)) ?_
    show Steps p.tables e below (T186.setTop (mkF m 265 #[.val (.long q0), .second, .val (.long q1), .second, .val (.long q2), .second, .val (.long q3), .second, iv p4, iv p5, .val (.long bb), .second, .val (.long n1), .second, .val (.long n2), .second, .val (.long n3), .second, iv kk, iv mm, rv a1, iv (1 : Int32), iv (1 : Int32), .val (.long lf), .second, .val (.double (own_gr n3 n2)), .second, .val (.double (own_gr n2 n1)), .second, .val (.double gg), .second, .val (.double (own_ex n3 n2 n1)), .second, .unset, .unset, .unset, .unset, .unset, .unset] [])) target
    refine XT.iconstV X186.here hx rfl (1 : Int32) (hb hby at_265) rfl ?_
    show Steps p.tables e below (T186.setTop (mkF m 266 #[.val (.long q0), .second, .val (.long q1), .second, .val (.long q2), .second, .val (.long q3), .second, iv p4, iv p5, .val (.long bb), .second, .val (.long n1), .second, .val (.long n2), .second, .val (.long n3), .second, iv kk, iv mm, rv a1, iv (1 : Int32), iv (1 : Int32), .val (.long lf), .second, .val (.double (own_gr n3 n2)), .second, .val (.double (own_gr n2 n1)), .second, .val (.double gg), .second, .val (.double (own_ex n3 n2 n1)), .second, .unset, .unset, .unset, .unset, .unset, .unset] [(.int (1 : Int32))])) target
    refine XS.goto X186.here hx rfl (pc0 := 266) (pc' := 270) rfl (hb hby at_266) (by decide) (by decide) ?_
    show Steps p.tables e below (T186.setTop (mkF m 270 #[.val (.long q0), .second, .val (.long q1), .second, .val (.long q2), .second, .val (.long q3), .second, iv p4, iv p5, .val (.long bb), .second, .val (.long n1), .second, .val (.long n2), .second, .val (.long n3), .second, iv kk, iv mm, rv a1, iv (1 : Int32), iv (1 : Int32), .val (.long lf), .second, .val (.double (own_gr n3 n2)), .second, .val (.double (own_gr n2 n1)), .second, .val (.double gg), .second, .val (.double (own_ex n3 n2 n1)), .second, .unset, .unset, .unset, .unset, .unset, .unset] [(.int (1 : Int32))])) target
    refine XS.istore X186.here hx rfl (hb hby at_270) rfl (l' := #[.val (.long q0), .second, .val (.long q1), .second, .val (.long q2), .second, .val (.long q3), .second, iv p4, iv p5, .val (.long bb), .second, .val (.long n1), .second, .val (.long n2), .second, .val (.long n3), .second, iv kk, iv mm, rv a1, iv (1 : Int32), iv (1 : Int32), .val (.long lf), .second, .val (.double (own_gr n3 n2)), .second, .val (.double (own_gr n2 n1)), .second, .val (.double gg), .second, .val (.double (own_ex n3 n2 n1)), .second, iv (1 : Int32), .unset, .unset, .unset, .unset, .unset]) rfl ?_
    show Steps p.tables e below (T186.setTop (mkF m 272 #[.val (.long q0), .second, .val (.long q1), .second, .val (.long q2), .second, .val (.long q3), .second, iv p4, iv p5, .val (.long bb), .second, .val (.long n1), .second, .val (.long n2), .second, .val (.long n3), .second, iv kk, iv mm, rv a1, iv (1 : Int32), iv (1 : Int32), .val (.long lf), .second, .val (.double (own_gr n3 n2)), .second, .val (.double (own_gr n2 n1)), .second, .val (.double gg), .second, .val (.double (own_ex n3 n2 n1)), .second, iv (1 : Int32), .unset, .unset, .unset, .unset, .unset] [])) target
    refine XS.aload X186.here hx rfl (hb hby at_272) rfl rfl ?_
    show Steps p.tables e below (T186.setTop (mkF m 274 #[.val (.long q0), .second, .val (.long q1), .second, .val (.long q2), .second, .val (.long q3), .second, iv p4, iv p5, .val (.long bb), .second, .val (.long n1), .second, .val (.long n2), .second, .val (.long n3), .second, iv kk, iv mm, rv a1, iv (1 : Int32), iv (1 : Int32), .val (.long lf), .second, .val (.double (own_gr n3 n2)), .second, .val (.double (own_gr n2 n1)), .second, .val (.double gg), .second, .val (.double (own_ex n3 n2 n1)), .second, iv (1 : Int32), .unset, .unset, .unset, .unset, .unset] [(.ref a1)])) target
    refine XT.lload X186.here hx rfl (hb hby at_274) rfl ?_
    show Steps p.tables e below (T186.setTop (mkF m 276 #[.val (.long q0), .second, .val (.long q1), .second, .val (.long q2), .second, .val (.long q3), .second, iv p4, iv p5, .val (.long bb), .second, .val (.long n1), .second, .val (.long n2), .second, .val (.long n3), .second, iv kk, iv mm, rv a1, iv (1 : Int32), iv (1 : Int32), .val (.long lf), .second, .val (.double (own_gr n3 n2)), .second, .val (.double (own_gr n2 n1)), .second, .val (.double gg), .second, .val (.double (own_ex n3 n2 n1)), .second, iv (1 : Int32), .unset, .unset, .unset, .unset, .unset] [(.long bb), (.ref a1)])) target
    refine XS.iload X186.here hx rfl (hb hby at_276) rfl ?_
    show Steps p.tables e below (T186.setTop (mkF m 278 #[.val (.long q0), .second, .val (.long q1), .second, .val (.long q2), .second, .val (.long q3), .second, iv p4, iv p5, .val (.long bb), .second, .val (.long n1), .second, .val (.long n2), .second, .val (.long n3), .second, iv kk, iv mm, rv a1, iv (1 : Int32), iv (1 : Int32), .val (.long lf), .second, .val (.double (own_gr n3 n2)), .second, .val (.double (own_gr n2 n1)), .second, .val (.double gg), .second, .val (.double (own_ex n3 n2 n1)), .second, iv (1 : Int32), .unset, .unset, .unset, .unset, .unset] [(.int mm), (.long bb), (.ref a1)])) target
    exact kt
  obtain ⟨cq194, kq194, q194a, q194b, q194c⟩ := isOf hZ eq186 P4.1
  obtain ⟨_, _, ⟨T194, L194, k194, n194⟩, -, X194, ⟨Lc194, hQ194, l194, y194, z194⟩, st194⟩ := X186.virtualBack hx (y := (⟨"com/example/ends_to_means/endstomeans/solver/ForwardPace", "backwardTook", "(JI)V"⟩ : MethodName)) (z := (⟨"com/example/ends_to_means/endstomeans/solver/ForwardPace", "backwardTook", "(JI)V"⟩ : MethodName)) hown (mvT hZ (hw _ (List.mem_of_getElem? (i := 15) rfl))) (mvT hZ (hw _ (List.mem_of_getElem? (i := 16) rfl))) (notFace_of_selects (args := #[]) (mvT hZ (hw _ (List.mem_of_getElem? (i := 18) rfl)))) (mvT hZ (hw _ (List.mem_of_getElem? (i := 18) rfl))) (mvT hZ (hw _ (List.mem_of_getElem? (i := 17) rfl))) (by decide) (backOf (W := 0) (rmBT l Z a0 hw [] a1 bb mm (FP.l2d 1) (0 + bb) (0 + mm.toInt64) (FP.l2d lf) kk n3 n2 n1 hpc n0 Z158 P4 (by rw [eM]; exact hM2) (l2d_mag 1) (l2d_fin lf) g_a1) hZ (hw _ (List.mem_of_getElem? (i := 19) rfl)) (hw _ (List.mem_of_getElem? (i := 6) rfl)) (by decide) (by decide)) q194a q194c (g := (mkF m 278 #[.val (.long q0), .second, .val (.long q1), .second, .val (.long q2), .second, .val (.long q3), .second, iv p4, iv p5, .val (.long bb), .second, .val (.long n1), .second, .val (.long n2), .second, .val (.long n3), .second, iv kk, iv mm, rv a1, iv (1 : Int32), iv (1 : Int32), .val (.long lf), .second, .val (.double (own_gr n3 n2)), .second, .val (.double (own_gr n2 n1)), .second, .val (.double gg), .second, .val (.double (own_ex n3 n2 n1)), .second, iv (1 : Int32), .unset, .unset, .unset, .unset, .unset] [(.int mm), (.long bb), (.ref a1)])) rfl (by rw [hml]; rfl) (Steps.refl _) (argsL := [(.long bb), (.int mm)]) (rest := []) (lenOf pd_4 rfl) rfl (by show 2 * 0 + _ ≤ _; exact Nat.le_of_eq rfl) (hb hby at_278) (fun _ _ => ⟨rfl, eq186, (by decide : 1 + 0 ≤ _), (by decide : 8 + 0 ≤ _)⟩)
  dsimp only [Pt.U, Pt.locs, Pt.cells, Pt.slots] at X194 l194 y194 z194 st194 hQ194
  subst l194 y194 z194
  obtain ⟨rfl, Nq194, K194, P5⟩ := hQ194
  have N194 := Fr.app N186 Nq194
  have g195 : own_Go p e below s₁ (entryFrame m #[(.long q0), (.long q1), (.long q2), (.long q3), (.int p4), (.int p5)] maxLocals) T194 (mkF m 281 #[.val (.long q0), .second, .val (.long q1), .second, .val (.long q2), .second, .val (.long q3), .second, iv p4, iv p5, .val (.long bb), .second, .val (.long n1), .second, .val (.long n2), .second, .val (.long n3), .second, iv kk, iv mm, rv a1, iv (1 : Int32), iv (1 : Int32), .val (.long lf), .second, .val (.double (own_gr n3 n2)), .second, .val (.double (own_gr n2 n1)), .second, .val (.double gg), .second, .val (.double (own_ex n3 n2 n1)), .second, iv (1 : Int32), .unset, .unset, .unset, .unset, .unset] []) := fun target kt => g193 target (st194.trans kt)
  have Z194 : n0 ≤ T194.heap.size := Nat.le_trans Z158 K194.1
  rw [eM, eN] at P5
  obtain ⟨hpd, ehpd⟩ : ∃ z, z = T194.heap := ⟨_, rfl⟩
  rw [← ehpd] at P5 Z194
  have g196 : own_Go p e below s₁ (entryFrame m #[(.long q0), (.long q1), (.long q2), (.long q3), (.int p4), (.int p5)] maxLocals) T194 (mkF m 284 #[.val (.long q0), .second, .val (.long q1), .second, .val (.long q2), .second, .val (.long q3), .second, iv p4, iv p5, .val (.long bb), .second, .val (.long n1), .second, .val (.long n2), .second, .val (.long n3), .second, iv kk, iv mm, rv a1, iv (1 : Int32), iv (1 : Int32), .val (.long lf), .second, .val (.double (own_gr n3 n2)), .second, .val (.double (own_gr n2 n1)), .second, .val (.double gg), .second, .val (.double (own_ex n3 n2 n1)), .second, iv (1 : Int32), .val (.double (FP.l2d 1)), .second, .unset, .unset, .unset] []) := by
    intro target kt
    refine g195 target ?_
    refine XS.dconst1 X194.here hx rfl (hb hby at_281) own_d1 ?_
    show Steps p.tables e below (T194.setTop (mkF m 282 #[.val (.long q0), .second, .val (.long q1), .second, .val (.long q2), .second, .val (.long q3), .second, iv p4, iv p5, .val (.long bb), .second, .val (.long n1), .second, .val (.long n2), .second, .val (.long n3), .second, iv kk, iv mm, rv a1, iv (1 : Int32), iv (1 : Int32), .val (.long lf), .second, .val (.double (own_gr n3 n2)), .second, .val (.double (own_gr n2 n1)), .second, .val (.double gg), .second, .val (.double (own_ex n3 n2 n1)), .second, iv (1 : Int32), .unset, .unset, .unset, .unset, .unset] [(.double (FP.l2d 1))])) target
    refine XS.dstore X194.here hx rfl (hb hby at_282) rfl (l' := #[.val (.long q0), .second, .val (.long q1), .second, .val (.long q2), .second, .val (.long q3), .second, iv p4, iv p5, .val (.long bb), .second, .val (.long n1), .second, .val (.long n2), .second, .val (.long n3), .second, iv kk, iv mm, rv a1, iv (1 : Int32), iv (1 : Int32), .val (.long lf), .second, .val (.double (own_gr n3 n2)), .second, .val (.double (own_gr n2 n1)), .second, .val (.double gg), .second, .val (.double (own_ex n3 n2 n1)), .second, iv (1 : Int32), .val (.double (FP.l2d 1)), .second, .unset, .unset, .unset]) rfl ?_
    show Steps p.tables e below (T194.setTop (mkF m 284 #[.val (.long q0), .second, .val (.long q1), .second, .val (.long q2), .second, .val (.long q3), .second, iv p4, iv p5, .val (.long bb), .second, .val (.long n1), .second, .val (.long n2), .second, .val (.long n3), .second, iv kk, iv mm, rv a1, iv (1 : Int32), iv (1 : Int32), .val (.long lf), .second, .val (.double (own_gr n3 n2)), .second, .val (.double (own_gr n2 n1)), .second, .val (.double gg), .second, .val (.double (own_ex n3 n2 n1)), .second, iv (1 : Int32), .val (.double (FP.l2d 1)), .second, .unset, .unset, .unset] [])) target
    exact kt
  obtain ⟨sh, hm204, g204⟩ : ∃ (sh : UInt64), (sh = (if kk = 0 then (FP.l2d 1) else (if 0 < (cmpValue (FP.dcmp (FP.ddiv (own_ex n3 n2 n1) (FP.i2d kk)) (FP.ddiv (FP.dmul (4611686018427387904 : UInt64) (FP.l2d ((2 : Int64) * bb))) (FP.l2d ((2 : Int64) * (mm.toInt64))))) .g) then (4593671619917905920 : UInt64) else (FP.l2d 1)))) ∧ own_Go p e below s₁ (entryFrame m #[(.long q0), (.long q1), (.long q2), (.long q3), (.int p4), (.int p5)] maxLocals) T194 (mkF m 324 #[.val (.long q0), .second, .val (.long q1), .second, .val (.long q2), .second, .val (.long q3), .second, iv p4, iv p5, .val (.long bb), .second, .val (.long n1), .second, .val (.long n2), .second, .val (.long n3), .second, iv kk, iv mm, rv a1, iv (1 : Int32), iv (1 : Int32), .val (.long lf), .second, .val (.double (own_gr n3 n2)), .second, .val (.double (own_gr n2 n1)), .second, .val (.double gg), .second, .val (.double (own_ex n3 n2 n1)), .second, iv (1 : Int32), .val (.double sh), .second, .unset, .unset, .unset] []) := by
    have g197 : own_Go p e below s₁ (entryFrame m #[(.long q0), (.long q1), (.long q2), (.long q3), (.int p4), (.int p5)] maxLocals) T194 (mkF m 286 #[.val (.long q0), .second, .val (.long q1), .second, .val (.long q2), .second, .val (.long q3), .second, iv p4, iv p5, .val (.long bb), .second, .val (.long n1), .second, .val (.long n2), .second, .val (.long n3), .second, iv kk, iv mm, rv a1, iv (1 : Int32), iv (1 : Int32), .val (.long lf), .second, .val (.double (own_gr n3 n2)), .second, .val (.double (own_gr n2 n1)), .second, .val (.double gg), .second, .val (.double (own_ex n3 n2 n1)), .second, iv (1 : Int32), .val (.double (FP.l2d 1)), .second, .unset, .unset, .unset] [(.int kk)]) := by
      intro target kt
      refine g196 target ?_
      refine XS.iload X194.here hx rfl (hb hby at_284) rfl ?_
      show Steps p.tables e below (T194.setTop (mkF m 286 #[.val (.long q0), .second, .val (.long q1), .second, .val (.long q2), .second, .val (.long q3), .second, iv p4, iv p5, .val (.long bb), .second, .val (.long n1), .second, .val (.long n2), .second, .val (.long n3), .second, iv kk, iv mm, rv a1, iv (1 : Int32), iv (1 : Int32), .val (.long lf), .second, .val (.double (own_gr n3 n2)), .second, .val (.double (own_gr n2 n1)), .second, .val (.double gg), .second, .val (.double (own_ex n3 n2 n1)), .second, iv (1 : Int32), .val (.double (FP.l2d 1)), .second, .unset, .unset, .unset] [(.int kk)])) target
      exact kt
    by_cases hc198 : kk = 0
    · have g199 : own_Go p e below s₁ (entryFrame m #[(.long q0), (.long q1), (.long q2), (.long q3), (.int p4), (.int p5)] maxLocals) T194 (mkF m 324 #[.val (.long q0), .second, .val (.long q1), .second, .val (.long q2), .second, .val (.long q3), .second, iv p4, iv p5, .val (.long bb), .second, .val (.long n1), .second, .val (.long n2), .second, .val (.long n3), .second, iv kk, iv mm, rv a1, iv (1 : Int32), iv (1 : Int32), .val (.long lf), .second, .val (.double (own_gr n3 n2)), .second, .val (.double (own_gr n2 n1)), .second, .val (.double gg), .second, .val (.double (own_ex n3 n2 n1)), .second, iv (1 : Int32), .val (.double (FP.l2d 1)), .second, .unset, .unset, .unset] []) := by
        intro target kt
        refine g197 target ?_
        refine XS.ifYes X194.here hx rfl (pc0 := 286) (pc' := 324) rfl (hb hby at_286) rfl (XT.i0_eq_t hc198) (by decide) (by decide) ?_
        show Steps p.tables e below (T194.setTop (mkF m 324 #[.val (.long q0), .second, .val (.long q1), .second, .val (.long q2), .second, .val (.long q3), .second, iv p4, iv p5, .val (.long bb), .second, .val (.long n1), .second, .val (.long n2), .second, .val (.long n3), .second, iv kk, iv mm, rv a1, iv (1 : Int32), iv (1 : Int32), .val (.long lf), .second, .val (.double (own_gr n3 n2)), .second, .val (.double (own_gr n2 n1)), .second, .val (.double gg), .second, .val (.double (own_ex n3 n2 n1)), .second, iv (1 : Int32), .val (.double (FP.l2d 1)), .second, .unset, .unset, .unset] [])) target
        exact kt
      exact ⟨(FP.l2d 1), (by simp only [if_pos hc198]), g199⟩
    · have g200 : own_Go p e below s₁ (entryFrame m #[(.long q0), (.long q1), (.long q2), (.long q3), (.int p4), (.int p5)] maxLocals) T194 (mkF m 316 #[.val (.long q0), .second, .val (.long q1), .second, .val (.long q2), .second, .val (.long q3), .second, iv p4, iv p5, .val (.long bb), .second, .val (.long n1), .second, .val (.long n2), .second, .val (.long n3), .second, iv kk, iv mm, rv a1, iv (1 : Int32), iv (1 : Int32), .val (.long lf), .second, .val (.double (own_gr n3 n2)), .second, .val (.double (own_gr n2 n1)), .second, .val (.double gg), .second, .val (.double (own_ex n3 n2 n1)), .second, iv (1 : Int32), .val (.double (FP.l2d 1)), .second, .unset, .unset, .unset] [(.int (cmpValue (FP.dcmp (FP.ddiv (own_ex n3 n2 n1) (FP.i2d kk)) (FP.ddiv (FP.dmul (4611686018427387904 : UInt64) (FP.l2d ((2 : Int64) * bb))) (FP.l2d ((2 : Int64) * (mm.toInt64))))) .g))]) := by
        intro target kt
        refine g197 target ?_
        refine XS.ifNo X194.here hx rfl (hb hby at_286) rfl (XT.i0_eq_f hc198) ?_
        show Steps p.tables e below (T194.setTop (mkF m 289 #[.val (.long q0), .second, .val (.long q1), .second, .val (.long q2), .second, .val (.long q3), .second, iv p4, iv p5, .val (.long bb), .second, .val (.long n1), .second, .val (.long n2), .second, .val (.long n3), .second, iv kk, iv mm, rv a1, iv (1 : Int32), iv (1 : Int32), .val (.long lf), .second, .val (.double (own_gr n3 n2)), .second, .val (.double (own_gr n2 n1)), .second, .val (.double gg), .second, .val (.double (own_ex n3 n2 n1)), .second, iv (1 : Int32), .val (.double (FP.l2d 1)), .second, .unset, .unset, .unset] [])) target
        refine XS.dload X194.here hx rfl (hb hby at_289) rfl ?_
        show Steps p.tables e below (T194.setTop (mkF m 291 #[.val (.long q0), .second, .val (.long q1), .second, .val (.long q2), .second, .val (.long q3), .second, iv p4, iv p5, .val (.long bb), .second, .val (.long n1), .second, .val (.long n2), .second, .val (.long n3), .second, iv kk, iv mm, rv a1, iv (1 : Int32), iv (1 : Int32), .val (.long lf), .second, .val (.double (own_gr n3 n2)), .second, .val (.double (own_gr n2 n1)), .second, .val (.double gg), .second, .val (.double (own_ex n3 n2 n1)), .second, iv (1 : Int32), .val (.double (FP.l2d 1)), .second, .unset, .unset, .unset] [(.double (own_ex n3 n2 n1))])) target
        refine XS.iload X194.here hx rfl (hb hby at_291) rfl ?_
        show Steps p.tables e below (T194.setTop (mkF m 293 #[.val (.long q0), .second, .val (.long q1), .second, .val (.long q2), .second, .val (.long q3), .second, iv p4, iv p5, .val (.long bb), .second, .val (.long n1), .second, .val (.long n2), .second, .val (.long n3), .second, iv kk, iv mm, rv a1, iv (1 : Int32), iv (1 : Int32), .val (.long lf), .second, .val (.double (own_gr n3 n2)), .second, .val (.double (own_gr n2 n1)), .second, .val (.double gg), .second, .val (.double (own_ex n3 n2 n1)), .second, iv (1 : Int32), .val (.double (FP.l2d 1)), .second, .unset, .unset, .unset] [(.int kk), (.double (own_ex n3 n2 n1))])) target
        refine XS.i2dS X194.here hx rfl (hb hby at_293) rfl rfl ?_
        show Steps p.tables e below (T194.setTop (mkF m 294 #[.val (.long q0), .second, .val (.long q1), .second, .val (.long q2), .second, .val (.long q3), .second, iv p4, iv p5, .val (.long bb), .second, .val (.long n1), .second, .val (.long n2), .second, .val (.long n3), .second, iv kk, iv mm, rv a1, iv (1 : Int32), iv (1 : Int32), .val (.long lf), .second, .val (.double (own_gr n3 n2)), .second, .val (.double (own_gr n2 n1)), .second, .val (.double gg), .second, .val (.double (own_ex n3 n2 n1)), .second, iv (1 : Int32), .val (.double (FP.l2d 1)), .second, .unset, .unset, .unset] [(.double (FP.i2d kk)), (.double (own_ex n3 n2 n1))])) target
        refine XS.ddivS X194.here hx rfl (hb hby at_294) rfl (ddiv_out fE.noNaN (i2d_fin _) (i2d_nz hc198)) rfl ?_
        show Steps p.tables e below (T194.setTop (mkF m 295 #[.val (.long q0), .second, .val (.long q1), .second, .val (.long q2), .second, .val (.long q3), .second, iv p4, iv p5, .val (.long bb), .second, .val (.long n1), .second, .val (.long n2), .second, .val (.long n3), .second, iv kk, iv mm, rv a1, iv (1 : Int32), iv (1 : Int32), .val (.long lf), .second, .val (.double (own_gr n3 n2)), .second, .val (.double (own_gr n2 n1)), .second, .val (.double gg), .second, .val (.double (own_ex n3 n2 n1)), .second, iv (1 : Int32), .val (.double (FP.l2d 1)), .second, .unset, .unset, .unset] [(.double (FP.ddiv (own_ex n3 n2 n1) (FP.i2d kk)))])) target
        refine X194.ldc2DoubleC hx hown (mvT hZ (hw _ (List.mem_of_getElem? (i := 63) rfl))) (g := (mkF m 295 #[.val (.long q0), .second, .val (.long q1), .second, .val (.long q2), .second, .val (.long q3), .second, iv p4, iv p5, .val (.long bb), .second, .val (.long n1), .second, .val (.long n2), .second, .val (.long n3), .second, iv kk, iv mm, rv a1, iv (1 : Int32), iv (1 : Int32), .val (.long lf), .second, .val (.double (own_gr n3 n2)), .second, .val (.double (own_gr n2 n1)), .second, .val (.double gg), .second, .val (.double (own_ex n3 n2 n1)), .second, iv (1 : Int32), .val (.double (FP.l2d 1)), .second, .unset, .unset, .unset] [(.double (FP.ddiv (own_ex n3 n2 n1) (FP.i2d kk)))])) rfl (hb hby at_295) _ ?_
        show Steps p.tables e below (T194.setTop (mkF m 298 #[.val (.long q0), .second, .val (.long q1), .second, .val (.long q2), .second, .val (.long q3), .second, iv p4, iv p5, .val (.long bb), .second, .val (.long n1), .second, .val (.long n2), .second, .val (.long n3), .second, iv kk, iv mm, rv a1, iv (1 : Int32), iv (1 : Int32), .val (.long lf), .second, .val (.double (own_gr n3 n2)), .second, .val (.double (own_gr n2 n1)), .second, .val (.double gg), .second, .val (.double (own_ex n3 n2 n1)), .second, iv (1 : Int32), .val (.double (FP.l2d 1)), .second, .unset, .unset, .unset] [(.double (4611686018427387904 : UInt64)), (.double (FP.ddiv (own_ex n3 n2 n1) (FP.i2d kk)))])) target
        refine X194.ldc2J hx hown (mvT hZ (hw _ (List.mem_of_getElem? (i := 64) rfl))) rfl (hb hby at_298) ?_
        show Steps p.tables e below (T194.setTop (mkF m 301 #[.val (.long q0), .second, .val (.long q1), .second, .val (.long q2), .second, .val (.long q3), .second, iv p4, iv p5, .val (.long bb), .second, .val (.long n1), .second, .val (.long n2), .second, .val (.long n3), .second, iv kk, iv mm, rv a1, iv (1 : Int32), iv (1 : Int32), .val (.long lf), .second, .val (.double (own_gr n3 n2)), .second, .val (.double (own_gr n2 n1)), .second, .val (.double gg), .second, .val (.double (own_ex n3 n2 n1)), .second, iv (1 : Int32), .val (.double (FP.l2d 1)), .second, .unset, .unset, .unset] [(.long (2 : Int64)), (.double (4611686018427387904 : UInt64)), (.double (FP.ddiv (own_ex n3 n2 n1) (FP.i2d kk)))])) target
        refine XT.lload X194.here hx rfl (hb hby at_301) rfl ?_
        show Steps p.tables e below (T194.setTop (mkF m 303 #[.val (.long q0), .second, .val (.long q1), .second, .val (.long q2), .second, .val (.long q3), .second, iv p4, iv p5, .val (.long bb), .second, .val (.long n1), .second, .val (.long n2), .second, .val (.long n3), .second, iv kk, iv mm, rv a1, iv (1 : Int32), iv (1 : Int32), .val (.long lf), .second, .val (.double (own_gr n3 n2)), .second, .val (.double (own_gr n2 n1)), .second, .val (.double gg), .second, .val (.double (own_ex n3 n2 n1)), .second, iv (1 : Int32), .val (.double (FP.l2d 1)), .second, .unset, .unset, .unset] [(.long bb), (.long (2 : Int64)), (.double (4611686018427387904 : UInt64)), (.double (FP.ddiv (own_ex n3 n2 n1) (FP.i2d kk)))])) target
        refine XT.lmul X194.here hx rfl (hb hby at_303) rfl ?_
        show Steps p.tables e below (T194.setTop (mkF m 304 #[.val (.long q0), .second, .val (.long q1), .second, .val (.long q2), .second, .val (.long q3), .second, iv p4, iv p5, .val (.long bb), .second, .val (.long n1), .second, .val (.long n2), .second, .val (.long n3), .second, iv kk, iv mm, rv a1, iv (1 : Int32), iv (1 : Int32), .val (.long lf), .second, .val (.double (own_gr n3 n2)), .second, .val (.double (own_gr n2 n1)), .second, .val (.double gg), .second, .val (.double (own_ex n3 n2 n1)), .second, iv (1 : Int32), .val (.double (FP.l2d 1)), .second, .unset, .unset, .unset] [(.long ((2 : Int64) * bb)), (.double (4611686018427387904 : UInt64)), (.double (FP.ddiv (own_ex n3 n2 n1) (FP.i2d kk)))])) target
        refine XS.l2dS X194.here hx rfl (hb hby at_304) rfl rfl ?_
        show Steps p.tables e below (T194.setTop (mkF m 305 #[.val (.long q0), .second, .val (.long q1), .second, .val (.long q2), .second, .val (.long q3), .second, iv p4, iv p5, .val (.long bb), .second, .val (.long n1), .second, .val (.long n2), .second, .val (.long n3), .second, iv kk, iv mm, rv a1, iv (1 : Int32), iv (1 : Int32), .val (.long lf), .second, .val (.double (own_gr n3 n2)), .second, .val (.double (own_gr n2 n1)), .second, .val (.double gg), .second, .val (.double (own_ex n3 n2 n1)), .second, iv (1 : Int32), .val (.double (FP.l2d 1)), .second, .unset, .unset, .unset] [(.double (FP.l2d ((2 : Int64) * bb))), (.double (4611686018427387904 : UInt64)), (.double (FP.ddiv (own_ex n3 n2 n1) (FP.i2d kk)))])) target
        refine XS.dmulS X194.here hx rfl (hb hby at_305) rfl (dmul_out own_twoF (l2d_fin _)) rfl ?_
        show Steps p.tables e below (T194.setTop (mkF m 306 #[.val (.long q0), .second, .val (.long q1), .second, .val (.long q2), .second, .val (.long q3), .second, iv p4, iv p5, .val (.long bb), .second, .val (.long n1), .second, .val (.long n2), .second, .val (.long n3), .second, iv kk, iv mm, rv a1, iv (1 : Int32), iv (1 : Int32), .val (.long lf), .second, .val (.double (own_gr n3 n2)), .second, .val (.double (own_gr n2 n1)), .second, .val (.double gg), .second, .val (.double (own_ex n3 n2 n1)), .second, iv (1 : Int32), .val (.double (FP.l2d 1)), .second, .unset, .unset, .unset] [(.double (FP.dmul (4611686018427387904 : UInt64) (FP.l2d ((2 : Int64) * bb)))), (.double (FP.ddiv (own_ex n3 n2 n1) (FP.i2d kk)))])) target
        refine X194.ldc2J hx hown (mvT hZ (hw _ (List.mem_of_getElem? (i := 64) rfl))) rfl (hb hby at_306) ?_
        show Steps p.tables e below (T194.setTop (mkF m 309 #[.val (.long q0), .second, .val (.long q1), .second, .val (.long q2), .second, .val (.long q3), .second, iv p4, iv p5, .val (.long bb), .second, .val (.long n1), .second, .val (.long n2), .second, .val (.long n3), .second, iv kk, iv mm, rv a1, iv (1 : Int32), iv (1 : Int32), .val (.long lf), .second, .val (.double (own_gr n3 n2)), .second, .val (.double (own_gr n2 n1)), .second, .val (.double gg), .second, .val (.double (own_ex n3 n2 n1)), .second, iv (1 : Int32), .val (.double (FP.l2d 1)), .second, .unset, .unset, .unset] [(.long (2 : Int64)), (.double (FP.dmul (4611686018427387904 : UInt64) (FP.l2d ((2 : Int64) * bb)))), (.double (FP.ddiv (own_ex n3 n2 n1) (FP.i2d kk)))])) target
        refine XS.iload X194.here hx rfl (hb hby at_309) rfl ?_
        show Steps p.tables e below (T194.setTop (mkF m 311 #[.val (.long q0), .second, .val (.long q1), .second, .val (.long q2), .second, .val (.long q3), .second, iv p4, iv p5, .val (.long bb), .second, .val (.long n1), .second, .val (.long n2), .second, .val (.long n3), .second, iv kk, iv mm, rv a1, iv (1 : Int32), iv (1 : Int32), .val (.long lf), .second, .val (.double (own_gr n3 n2)), .second, .val (.double (own_gr n2 n1)), .second, .val (.double gg), .second, .val (.double (own_ex n3 n2 n1)), .second, iv (1 : Int32), .val (.double (FP.l2d 1)), .second, .unset, .unset, .unset] [(.int mm), (.long (2 : Int64)), (.double (FP.dmul (4611686018427387904 : UInt64) (FP.l2d ((2 : Int64) * bb)))), (.double (FP.ddiv (own_ex n3 n2 n1) (FP.i2d kk)))])) target
        refine XT.i2l X194.here hx rfl (hb hby at_311) rfl ?_
        show Steps p.tables e below (T194.setTop (mkF m 312 #[.val (.long q0), .second, .val (.long q1), .second, .val (.long q2), .second, .val (.long q3), .second, iv p4, iv p5, .val (.long bb), .second, .val (.long n1), .second, .val (.long n2), .second, .val (.long n3), .second, iv kk, iv mm, rv a1, iv (1 : Int32), iv (1 : Int32), .val (.long lf), .second, .val (.double (own_gr n3 n2)), .second, .val (.double (own_gr n2 n1)), .second, .val (.double gg), .second, .val (.double (own_ex n3 n2 n1)), .second, iv (1 : Int32), .val (.double (FP.l2d 1)), .second, .unset, .unset, .unset] [(.long (mm.toInt64)), (.long (2 : Int64)), (.double (FP.dmul (4611686018427387904 : UInt64) (FP.l2d ((2 : Int64) * bb)))), (.double (FP.ddiv (own_ex n3 n2 n1) (FP.i2d kk)))])) target
        refine XT.lmul X194.here hx rfl (hb hby at_312) rfl ?_
        show Steps p.tables e below (T194.setTop (mkF m 313 #[.val (.long q0), .second, .val (.long q1), .second, .val (.long q2), .second, .val (.long q3), .second, iv p4, iv p5, .val (.long bb), .second, .val (.long n1), .second, .val (.long n2), .second, .val (.long n3), .second, iv kk, iv mm, rv a1, iv (1 : Int32), iv (1 : Int32), .val (.long lf), .second, .val (.double (own_gr n3 n2)), .second, .val (.double (own_gr n2 n1)), .second, .val (.double gg), .second, .val (.double (own_ex n3 n2 n1)), .second, iv (1 : Int32), .val (.double (FP.l2d 1)), .second, .unset, .unset, .unset] [(.long ((2 : Int64) * (mm.toInt64))), (.double (FP.dmul (4611686018427387904 : UInt64) (FP.l2d ((2 : Int64) * bb)))), (.double (FP.ddiv (own_ex n3 n2 n1) (FP.i2d kk)))])) target
        refine XS.l2dS X194.here hx rfl (hb hby at_313) rfl rfl ?_
        show Steps p.tables e below (T194.setTop (mkF m 314 #[.val (.long q0), .second, .val (.long q1), .second, .val (.long q2), .second, .val (.long q3), .second, iv p4, iv p5, .val (.long bb), .second, .val (.long n1), .second, .val (.long n2), .second, .val (.long n3), .second, iv kk, iv mm, rv a1, iv (1 : Int32), iv (1 : Int32), .val (.long lf), .second, .val (.double (own_gr n3 n2)), .second, .val (.double (own_gr n2 n1)), .second, .val (.double gg), .second, .val (.double (own_ex n3 n2 n1)), .second, iv (1 : Int32), .val (.double (FP.l2d 1)), .second, .unset, .unset, .unset] [(.double (FP.l2d ((2 : Int64) * (mm.toInt64)))), (.double (FP.dmul (4611686018427387904 : UInt64) (FP.l2d ((2 : Int64) * bb)))), (.double (FP.ddiv (own_ex n3 n2 n1) (FP.i2d kk)))])) target
        refine XS.ddivS X194.here hx rfl (hb hby at_314) rfl (ddiv_out (dmul_out own_twoF (l2d_fin _)) (l2d_fin _) (l2d_nz hM2)) rfl ?_
        show Steps p.tables e below (T194.setTop (mkF m 315 #[.val (.long q0), .second, .val (.long q1), .second, .val (.long q2), .second, .val (.long q3), .second, iv p4, iv p5, .val (.long bb), .second, .val (.long n1), .second, .val (.long n2), .second, .val (.long n3), .second, iv kk, iv mm, rv a1, iv (1 : Int32), iv (1 : Int32), .val (.long lf), .second, .val (.double (own_gr n3 n2)), .second, .val (.double (own_gr n2 n1)), .second, .val (.double gg), .second, .val (.double (own_ex n3 n2 n1)), .second, iv (1 : Int32), .val (.double (FP.l2d 1)), .second, .unset, .unset, .unset] [(.double (FP.ddiv (FP.dmul (4611686018427387904 : UInt64) (FP.l2d ((2 : Int64) * bb))) (FP.l2d ((2 : Int64) * (mm.toInt64))))), (.double (FP.ddiv (own_ex n3 n2 n1) (FP.i2d kk)))])) target
        refine XS.dcmpS X194.here hx rfl (hb hby at_315) rfl rfl ?_
        show Steps p.tables e below (T194.setTop (mkF m 316 #[.val (.long q0), .second, .val (.long q1), .second, .val (.long q2), .second, .val (.long q3), .second, iv p4, iv p5, .val (.long bb), .second, .val (.long n1), .second, .val (.long n2), .second, .val (.long n3), .second, iv kk, iv mm, rv a1, iv (1 : Int32), iv (1 : Int32), .val (.long lf), .second, .val (.double (own_gr n3 n2)), .second, .val (.double (own_gr n2 n1)), .second, .val (.double gg), .second, .val (.double (own_ex n3 n2 n1)), .second, iv (1 : Int32), .val (.double (FP.l2d 1)), .second, .unset, .unset, .unset] [(.int (cmpValue (FP.dcmp (FP.ddiv (own_ex n3 n2 n1) (FP.i2d kk)) (FP.ddiv (FP.dmul (4611686018427387904 : UInt64) (FP.l2d ((2 : Int64) * bb))) (FP.l2d ((2 : Int64) * (mm.toInt64))))) .g))])) target
        exact kt
      by_cases hc201 : 0 < (cmpValue (FP.dcmp (FP.ddiv (own_ex n3 n2 n1) (FP.i2d kk)) (FP.ddiv (FP.dmul (4611686018427387904 : UInt64) (FP.l2d ((2 : Int64) * bb))) (FP.l2d ((2 : Int64) * (mm.toInt64))))) .g)
      · have g202 : own_Go p e below s₁ (entryFrame m #[(.long q0), (.long q1), (.long q2), (.long q3), (.int p4), (.int p5)] maxLocals) T194 (mkF m 324 #[.val (.long q0), .second, .val (.long q1), .second, .val (.long q2), .second, .val (.long q3), .second, iv p4, iv p5, .val (.long bb), .second, .val (.long n1), .second, .val (.long n2), .second, .val (.long n3), .second, iv kk, iv mm, rv a1, iv (1 : Int32), iv (1 : Int32), .val (.long lf), .second, .val (.double (own_gr n3 n2)), .second, .val (.double (own_gr n2 n1)), .second, .val (.double gg), .second, .val (.double (own_ex n3 n2 n1)), .second, iv (1 : Int32), .val (.double (4593671619917905920 : UInt64)), .second, .unset, .unset, .unset] []) := by
          intro target kt
          refine g200 target ?_
          refine XS.ifNo X194.here hx rfl (hb hby at_316) rfl (XT.i0_le_f hc201) ?_
          show Steps p.tables e below (T194.setTop (mkF m 319 #[.val (.long q0), .second, .val (.long q1), .second, .val (.long q2), .second, .val (.long q3), .second, iv p4, iv p5, .val (.long bb), .second, .val (.long n1), .second, .val (.long n2), .second, .val (.long n3), .second, iv kk, iv mm, rv a1, iv (1 : Int32), iv (1 : Int32), .val (.long lf), .second, .val (.double (own_gr n3 n2)), .second, .val (.double (own_gr n2 n1)), .second, .val (.double gg), .second, .val (.double (own_ex n3 n2 n1)), .second, iv (1 : Int32), .val (.double (FP.l2d 1)), .second, .unset, .unset, .unset] [])) target
          refine X194.ldc2DoubleC hx hown (mvT hZ (hw _ (List.mem_of_getElem? (i := 66) rfl))) (g := (mkF m 319 #[.val (.long q0), .second, .val (.long q1), .second, .val (.long q2), .second, .val (.long q3), .second, iv p4, iv p5, .val (.long bb), .second, .val (.long n1), .second, .val (.long n2), .second, .val (.long n3), .second, iv kk, iv mm, rv a1, iv (1 : Int32), iv (1 : Int32), .val (.long lf), .second, .val (.double (own_gr n3 n2)), .second, .val (.double (own_gr n2 n1)), .second, .val (.double gg), .second, .val (.double (own_ex n3 n2 n1)), .second, iv (1 : Int32), .val (.double (FP.l2d 1)), .second, .unset, .unset, .unset] [])) rfl (hb hby at_319) _ ?_
          show Steps p.tables e below (T194.setTop (mkF m 322 #[.val (.long q0), .second, .val (.long q1), .second, .val (.long q2), .second, .val (.long q3), .second, iv p4, iv p5, .val (.long bb), .second, .val (.long n1), .second, .val (.long n2), .second, .val (.long n3), .second, iv kk, iv mm, rv a1, iv (1 : Int32), iv (1 : Int32), .val (.long lf), .second, .val (.double (own_gr n3 n2)), .second, .val (.double (own_gr n2 n1)), .second, .val (.double gg), .second, .val (.double (own_ex n3 n2 n1)), .second, iv (1 : Int32), .val (.double (FP.l2d 1)), .second, .unset, .unset, .unset] [(.double (4593671619917905920 : UInt64))])) target
          refine XS.dstore X194.here hx rfl (hb hby at_322) rfl (l' := #[.val (.long q0), .second, .val (.long q1), .second, .val (.long q2), .second, .val (.long q3), .second, iv p4, iv p5, .val (.long bb), .second, .val (.long n1), .second, .val (.long n2), .second, .val (.long n3), .second, iv kk, iv mm, rv a1, iv (1 : Int32), iv (1 : Int32), .val (.long lf), .second, .val (.double (own_gr n3 n2)), .second, .val (.double (own_gr n2 n1)), .second, .val (.double gg), .second, .val (.double (own_ex n3 n2 n1)), .second, iv (1 : Int32), .val (.double (4593671619917905920 : UInt64)), .second, .unset, .unset, .unset]) rfl ?_
          show Steps p.tables e below (T194.setTop (mkF m 324 #[.val (.long q0), .second, .val (.long q1), .second, .val (.long q2), .second, .val (.long q3), .second, iv p4, iv p5, .val (.long bb), .second, .val (.long n1), .second, .val (.long n2), .second, .val (.long n3), .second, iv kk, iv mm, rv a1, iv (1 : Int32), iv (1 : Int32), .val (.long lf), .second, .val (.double (own_gr n3 n2)), .second, .val (.double (own_gr n2 n1)), .second, .val (.double gg), .second, .val (.double (own_ex n3 n2 n1)), .second, iv (1 : Int32), .val (.double (4593671619917905920 : UInt64)), .second, .unset, .unset, .unset] [])) target
          exact kt
        exact ⟨(4593671619917905920 : UInt64), (by simp only [if_neg hc198, if_pos hc201]), g202⟩
      · have g203 : own_Go p e below s₁ (entryFrame m #[(.long q0), (.long q1), (.long q2), (.long q3), (.int p4), (.int p5)] maxLocals) T194 (mkF m 324 #[.val (.long q0), .second, .val (.long q1), .second, .val (.long q2), .second, .val (.long q3), .second, iv p4, iv p5, .val (.long bb), .second, .val (.long n1), .second, .val (.long n2), .second, .val (.long n3), .second, iv kk, iv mm, rv a1, iv (1 : Int32), iv (1 : Int32), .val (.long lf), .second, .val (.double (own_gr n3 n2)), .second, .val (.double (own_gr n2 n1)), .second, .val (.double gg), .second, .val (.double (own_ex n3 n2 n1)), .second, iv (1 : Int32), .val (.double (FP.l2d 1)), .second, .unset, .unset, .unset] []) := by
          intro target kt
          refine g200 target ?_
          refine XS.ifYes X194.here hx rfl (pc0 := 316) (pc' := 324) rfl (hb hby at_316) rfl (XT.i0_le_t hc201) (by decide) (by decide) ?_
          show Steps p.tables e below (T194.setTop (mkF m 324 #[.val (.long q0), .second, .val (.long q1), .second, .val (.long q2), .second, .val (.long q3), .second, iv p4, iv p5, .val (.long bb), .second, .val (.long n1), .second, .val (.long n2), .second, .val (.long n3), .second, iv kk, iv mm, rv a1, iv (1 : Int32), iv (1 : Int32), .val (.long lf), .second, .val (.double (own_gr n3 n2)), .second, .val (.double (own_gr n2 n1)), .second, .val (.double gg), .second, .val (.double (own_ex n3 n2 n1)), .second, iv (1 : Int32), .val (.double (FP.l2d 1)), .second, .unset, .unset, .unset] [])) target
          exact kt
        exact ⟨(FP.l2d 1), (by simp only [if_neg hc198, if_neg hc201]), g203⟩
  have eS : sh = (own_sh (FP.l2d 1) ((2 : Int64) * bb) ((2 : Int64) * mm.toInt64) kk (own_ex n3 n2 n1)) := by
    rw [hm204]
    rfl
  subst eS
  have fs : Fin64 (FP.dmul (own_sh (FP.l2d 1) ((2 : Int64) * bb) ((2 : Int64) * mm.toInt64) kk (own_ex n3 n2 n1)) (FP.l2d bb)) := own_shbF (l2d_mag 1) _ _ _ _ _
  have g205 : own_Go p e below s₁ (entryFrame m #[(.long q0), (.long q1), (.long q2), (.long q3), (.int p4), (.int p5)] maxLocals) T194 (mkF m 338 #[.val (.long q0), .second, .val (.long q1), .second, .val (.long q2), .second, .val (.long q3), .second, iv p4, iv p5, .val (.long bb), .second, .val (.long n1), .second, .val (.long n2), .second, .val (.long n3), .second, iv kk, iv mm, rv a1, iv (1 : Int32), iv (1 : Int32), .val (.long lf), .second, .val (.double (own_gr n3 n2)), .second, .val (.double (own_gr n2 n1)), .second, .val (.double gg), .second, .val (.double (own_ex n3 n2 n1)), .second, iv (1 : Int32), .val (.double (own_sh (FP.l2d 1) ((2 : Int64) * bb) ((2 : Int64) * mm.toInt64) kk (own_ex n3 n2 n1))), .second, .val (.double (FP.dadd (FP.l2d lf) (FP.dmul (own_sh (FP.l2d 1) ((2 : Int64) * bb) ((2 : Int64) * mm.toInt64) kk (own_ex n3 n2 n1)) (FP.l2d bb)))), .second, .unset] [(.ref a1)]) := by
    intro target kt
    refine g204 target ?_
    refine XT.lload X194.here hx rfl (hb hby at_324) rfl ?_
    show Steps p.tables e below (T194.setTop (mkF m 326 #[.val (.long q0), .second, .val (.long q1), .second, .val (.long q2), .second, .val (.long q3), .second, iv p4, iv p5, .val (.long bb), .second, .val (.long n1), .second, .val (.long n2), .second, .val (.long n3), .second, iv kk, iv mm, rv a1, iv (1 : Int32), iv (1 : Int32), .val (.long lf), .second, .val (.double (own_gr n3 n2)), .second, .val (.double (own_gr n2 n1)), .second, .val (.double gg), .second, .val (.double (own_ex n3 n2 n1)), .second, iv (1 : Int32), .val (.double (own_sh (FP.l2d 1) ((2 : Int64) * bb) ((2 : Int64) * mm.toInt64) kk (own_ex n3 n2 n1))), .second, .unset, .unset, .unset] [(.long lf)])) target
    refine XS.l2dS X194.here hx rfl (hb hby at_326) rfl rfl ?_
    show Steps p.tables e below (T194.setTop (mkF m 327 #[.val (.long q0), .second, .val (.long q1), .second, .val (.long q2), .second, .val (.long q3), .second, iv p4, iv p5, .val (.long bb), .second, .val (.long n1), .second, .val (.long n2), .second, .val (.long n3), .second, iv kk, iv mm, rv a1, iv (1 : Int32), iv (1 : Int32), .val (.long lf), .second, .val (.double (own_gr n3 n2)), .second, .val (.double (own_gr n2 n1)), .second, .val (.double gg), .second, .val (.double (own_ex n3 n2 n1)), .second, iv (1 : Int32), .val (.double (own_sh (FP.l2d 1) ((2 : Int64) * bb) ((2 : Int64) * mm.toInt64) kk (own_ex n3 n2 n1))), .second, .unset, .unset, .unset] [(.double (FP.l2d lf))])) target
    refine XS.dload X194.here hx rfl (hb hby at_327) rfl ?_
    show Steps p.tables e below (T194.setTop (mkF m 329 #[.val (.long q0), .second, .val (.long q1), .second, .val (.long q2), .second, .val (.long q3), .second, iv p4, iv p5, .val (.long bb), .second, .val (.long n1), .second, .val (.long n2), .second, .val (.long n3), .second, iv kk, iv mm, rv a1, iv (1 : Int32), iv (1 : Int32), .val (.long lf), .second, .val (.double (own_gr n3 n2)), .second, .val (.double (own_gr n2 n1)), .second, .val (.double gg), .second, .val (.double (own_ex n3 n2 n1)), .second, iv (1 : Int32), .val (.double (own_sh (FP.l2d 1) ((2 : Int64) * bb) ((2 : Int64) * mm.toInt64) kk (own_ex n3 n2 n1))), .second, .unset, .unset, .unset] [(.double (own_sh (FP.l2d 1) ((2 : Int64) * bb) ((2 : Int64) * mm.toInt64) kk (own_ex n3 n2 n1))), (.double (FP.l2d lf))])) target
    refine XT.lload X194.here hx rfl (hb hby at_329) rfl ?_
    show Steps p.tables e below (T194.setTop (mkF m 331 #[.val (.long q0), .second, .val (.long q1), .second, .val (.long q2), .second, .val (.long q3), .second, iv p4, iv p5, .val (.long bb), .second, .val (.long n1), .second, .val (.long n2), .second, .val (.long n3), .second, iv kk, iv mm, rv a1, iv (1 : Int32), iv (1 : Int32), .val (.long lf), .second, .val (.double (own_gr n3 n2)), .second, .val (.double (own_gr n2 n1)), .second, .val (.double gg), .second, .val (.double (own_ex n3 n2 n1)), .second, iv (1 : Int32), .val (.double (own_sh (FP.l2d 1) ((2 : Int64) * bb) ((2 : Int64) * mm.toInt64) kk (own_ex n3 n2 n1))), .second, .unset, .unset, .unset] [(.long bb), (.double (own_sh (FP.l2d 1) ((2 : Int64) * bb) ((2 : Int64) * mm.toInt64) kk (own_ex n3 n2 n1))), (.double (FP.l2d lf))])) target
    refine XS.l2dS X194.here hx rfl (hb hby at_331) rfl rfl ?_
    show Steps p.tables e below (T194.setTop (mkF m 332 #[.val (.long q0), .second, .val (.long q1), .second, .val (.long q2), .second, .val (.long q3), .second, iv p4, iv p5, .val (.long bb), .second, .val (.long n1), .second, .val (.long n2), .second, .val (.long n3), .second, iv kk, iv mm, rv a1, iv (1 : Int32), iv (1 : Int32), .val (.long lf), .second, .val (.double (own_gr n3 n2)), .second, .val (.double (own_gr n2 n1)), .second, .val (.double gg), .second, .val (.double (own_ex n3 n2 n1)), .second, iv (1 : Int32), .val (.double (own_sh (FP.l2d 1) ((2 : Int64) * bb) ((2 : Int64) * mm.toInt64) kk (own_ex n3 n2 n1))), .second, .unset, .unset, .unset] [(.double (FP.l2d bb)), (.double (own_sh (FP.l2d 1) ((2 : Int64) * bb) ((2 : Int64) * mm.toInt64) kk (own_ex n3 n2 n1))), (.double (FP.l2d lf))])) target
    refine XS.dmulS X194.here hx rfl (hb hby at_332) rfl fs.noNaN rfl ?_
    show Steps p.tables e below (T194.setTop (mkF m 333 #[.val (.long q0), .second, .val (.long q1), .second, .val (.long q2), .second, .val (.long q3), .second, iv p4, iv p5, .val (.long bb), .second, .val (.long n1), .second, .val (.long n2), .second, .val (.long n3), .second, iv kk, iv mm, rv a1, iv (1 : Int32), iv (1 : Int32), .val (.long lf), .second, .val (.double (own_gr n3 n2)), .second, .val (.double (own_gr n2 n1)), .second, .val (.double gg), .second, .val (.double (own_ex n3 n2 n1)), .second, iv (1 : Int32), .val (.double (own_sh (FP.l2d 1) ((2 : Int64) * bb) ((2 : Int64) * mm.toInt64) kk (own_ex n3 n2 n1))), .second, .unset, .unset, .unset] [(.double (FP.dmul (own_sh (FP.l2d 1) ((2 : Int64) * bb) ((2 : Int64) * mm.toInt64) kk (own_ex n3 n2 n1)) (FP.l2d bb))), (.double (FP.l2d lf))])) target
    refine XS.daddS X194.here hx rfl (hb hby at_333) rfl (dadd_out (l2d_fin lf).noNaN fs) rfl ?_
    show Steps p.tables e below (T194.setTop (mkF m 334 #[.val (.long q0), .second, .val (.long q1), .second, .val (.long q2), .second, .val (.long q3), .second, iv p4, iv p5, .val (.long bb), .second, .val (.long n1), .second, .val (.long n2), .second, .val (.long n3), .second, iv kk, iv mm, rv a1, iv (1 : Int32), iv (1 : Int32), .val (.long lf), .second, .val (.double (own_gr n3 n2)), .second, .val (.double (own_gr n2 n1)), .second, .val (.double gg), .second, .val (.double (own_ex n3 n2 n1)), .second, iv (1 : Int32), .val (.double (own_sh (FP.l2d 1) ((2 : Int64) * bb) ((2 : Int64) * mm.toInt64) kk (own_ex n3 n2 n1))), .second, .unset, .unset, .unset] [(.double (FP.dadd (FP.l2d lf) (FP.dmul (own_sh (FP.l2d 1) ((2 : Int64) * bb) ((2 : Int64) * mm.toInt64) kk (own_ex n3 n2 n1)) (FP.l2d bb))))])) target
    refine XS.dstore X194.here hx rfl (hb hby at_334) rfl (l' := #[.val (.long q0), .second, .val (.long q1), .second, .val (.long q2), .second, .val (.long q3), .second, iv p4, iv p5, .val (.long bb), .second, .val (.long n1), .second, .val (.long n2), .second, .val (.long n3), .second, iv kk, iv mm, rv a1, iv (1 : Int32), iv (1 : Int32), .val (.long lf), .second, .val (.double (own_gr n3 n2)), .second, .val (.double (own_gr n2 n1)), .second, .val (.double gg), .second, .val (.double (own_ex n3 n2 n1)), .second, iv (1 : Int32), .val (.double (own_sh (FP.l2d 1) ((2 : Int64) * bb) ((2 : Int64) * mm.toInt64) kk (own_ex n3 n2 n1))), .second, .val (.double (FP.dadd (FP.l2d lf) (FP.dmul (own_sh (FP.l2d 1) ((2 : Int64) * bb) ((2 : Int64) * mm.toInt64) kk (own_ex n3 n2 n1)) (FP.l2d bb)))), .second, .unset]) rfl ?_
    show Steps p.tables e below (T194.setTop (mkF m 336 #[.val (.long q0), .second, .val (.long q1), .second, .val (.long q2), .second, .val (.long q3), .second, iv p4, iv p5, .val (.long bb), .second, .val (.long n1), .second, .val (.long n2), .second, .val (.long n3), .second, iv kk, iv mm, rv a1, iv (1 : Int32), iv (1 : Int32), .val (.long lf), .second, .val (.double (own_gr n3 n2)), .second, .val (.double (own_gr n2 n1)), .second, .val (.double gg), .second, .val (.double (own_ex n3 n2 n1)), .second, iv (1 : Int32), .val (.double (own_sh (FP.l2d 1) ((2 : Int64) * bb) ((2 : Int64) * mm.toInt64) kk (own_ex n3 n2 n1))), .second, .val (.double (FP.dadd (FP.l2d lf) (FP.dmul (own_sh (FP.l2d 1) ((2 : Int64) * bb) ((2 : Int64) * mm.toInt64) kk (own_ex n3 n2 n1)) (FP.l2d bb)))), .second, .unset] [])) target
    refine XS.aload X194.here hx rfl (hb hby at_336) rfl rfl ?_
    show Steps p.tables e below (T194.setTop (mkF m 338 #[.val (.long q0), .second, .val (.long q1), .second, .val (.long q2), .second, .val (.long q3), .second, iv p4, iv p5, .val (.long bb), .second, .val (.long n1), .second, .val (.long n2), .second, .val (.long n3), .second, iv kk, iv mm, rv a1, iv (1 : Int32), iv (1 : Int32), .val (.long lf), .second, .val (.double (own_gr n3 n2)), .second, .val (.double (own_gr n2 n1)), .second, .val (.double gg), .second, .val (.double (own_ex n3 n2 n1)), .second, iv (1 : Int32), .val (.double (own_sh (FP.l2d 1) ((2 : Int64) * bb) ((2 : Int64) * mm.toInt64) kk (own_ex n3 n2 n1))), .second, .val (.double (FP.dadd (FP.l2d lf) (FP.dmul (own_sh (FP.l2d 1) ((2 : Int64) * bb) ((2 : Int64) * mm.toInt64) kk (own_ex n3 n2 n1)) (FP.l2d bb)))), .second, .unset] [(.ref a1)])) target
    exact kt
  obtain ⟨cq206, kq206, q206a, q206b, q206c⟩ := isOf hZ ehpd.symm P5.1
  obtain ⟨_, _, ⟨T206, L206, k206, n206⟩, -, X206, ⟨Lc206, hQ206, l206, y206, z206⟩, st206⟩ := X194.virtualBack hx (y := (⟨"com/example/ends_to_means/endstomeans/solver/ForwardPace", "mayAddLayer", "()Z"⟩ : MethodName)) (z := (⟨"com/example/ends_to_means/endstomeans/solver/ForwardPace", "mayAddLayer", "()Z"⟩ : MethodName)) hown (mvT hZ (hw _ (List.mem_of_getElem? (i := 43) rfl))) (mvT hZ (hw _ (List.mem_of_getElem? (i := 44) rfl))) (notFace_of_selects (args := #[]) (mvT hZ (hw _ (List.mem_of_getElem? (i := 46) rfl)))) (mvT hZ (hw _ (List.mem_of_getElem? (i := 46) rfl))) (mvT hZ (hw _ (List.mem_of_getElem? (i := 45) rfl))) (by decide) (backOf (W := 0) (rmMA l Z a0 hw [] a1 (FP.l2d 1) ((2 : Int64) * bb) ((2 : Int64) * mm.toInt64) (FP.dadd (FP.l2d lf) (FP.dmul (own_sh (FP.l2d 1) ((2 : Int64) * bb) ((2 : Int64) * mm.toInt64) kk (own_ex n3 n2 n1)) (FP.l2d bb))) kk n3 n2 n1 hpd n0 Z194 P5) hZ (hw _ (List.mem_of_getElem? (i := 47) rfl)) (hw _ (List.mem_of_getElem? (i := 6) rfl)) (by decide) (by decide)) q206a q206c (g := (mkF m 338 #[.val (.long q0), .second, .val (.long q1), .second, .val (.long q2), .second, .val (.long q3), .second, iv p4, iv p5, .val (.long bb), .second, .val (.long n1), .second, .val (.long n2), .second, .val (.long n3), .second, iv kk, iv mm, rv a1, iv (1 : Int32), iv (1 : Int32), .val (.long lf), .second, .val (.double (own_gr n3 n2)), .second, .val (.double (own_gr n2 n1)), .second, .val (.double gg), .second, .val (.double (own_ex n3 n2 n1)), .second, iv (1 : Int32), .val (.double (own_sh (FP.l2d 1) ((2 : Int64) * bb) ((2 : Int64) * mm.toInt64) kk (own_ex n3 n2 n1))), .second, .val (.double (FP.dadd (FP.l2d lf) (FP.dmul (own_sh (FP.l2d 1) ((2 : Int64) * bb) ((2 : Int64) * mm.toInt64) kk (own_ex n3 n2 n1)) (FP.l2d bb)))), .second, .unset] [(.ref a1)])) rfl (by rw [hml]; rfl) (Steps.refl _) (argsL := []) (rest := []) (lenOf pd_5 rfl) rfl (by show 2 * 0 + _ ≤ _; exact Nat.le_of_eq rfl) (hb hby at_338) (fun _ _ => ⟨rfl, ehpd.symm, (by decide : 1 + 0 ≤ _), (by decide : 8 + 0 ≤ _)⟩)
  dsimp only [Pt.U, Pt.locs, Pt.cells, Pt.slots] at X206 l206 y206 z206 st206 hQ206
  subst l206 y206 z206
  obtain ⟨rfl, Nq206, eq206⟩ := hQ206
  have N206 := Fr.app N194 Nq206
  have g207 : own_Go p e below s₁ (entryFrame m #[(.long q0), (.long q1), (.long q2), (.long q3), (.int p4), (.int p5)] maxLocals) T206 (mkF m 341 #[.val (.long q0), .second, .val (.long q1), .second, .val (.long q2), .second, .val (.long q3), .second, iv p4, iv p5, .val (.long bb), .second, .val (.long n1), .second, .val (.long n2), .second, .val (.long n3), .second, iv kk, iv mm, rv a1, iv (1 : Int32), iv (1 : Int32), .val (.long lf), .second, .val (.double (own_gr n3 n2)), .second, .val (.double (own_gr n2 n1)), .second, .val (.double gg), .second, .val (.double (own_ex n3 n2 n1)), .second, iv (1 : Int32), .val (.double (own_sh (FP.l2d 1) ((2 : Int64) * bb) ((2 : Int64) * mm.toInt64) kk (own_ex n3 n2 n1))), .second, .val (.double (FP.dadd (FP.l2d lf) (FP.dmul (own_sh (FP.l2d 1) ((2 : Int64) * bb) ((2 : Int64) * mm.toInt64) kk (own_ex n3 n2 n1)) (FP.l2d bb)))), .second, .unset] [(.int (own_ma (own_ex n3 n2 n1) (FP.dadd (FP.l2d lf) (FP.dmul (own_sh (FP.l2d 1) ((2 : Int64) * bb) ((2 : Int64) * mm.toInt64) kk (own_ex n3 n2 n1)) (FP.l2d bb)))))]) := fun target kt => g205 target (st206.trans kt)
  obtain ⟨t4, hm212, g212⟩ : ∃ (t4 : Int32), (t4 = (if 0 < (cmpValue (FP.dcmp (own_ex n3 n2 n1) (FP.dadd (FP.l2d lf) (FP.dmul (own_sh (FP.l2d 1) ((2 : Int64) * bb) ((2 : Int64) * mm.toInt64) kk (own_ex n3 n2 n1)) (FP.l2d bb)))) .g) then (0 : Int32) else (1 : Int32))) ∧ own_Go p e below s₁ (entryFrame m #[(.long q0), (.long q1), (.long q2), (.long q3), (.int p4), (.int p5)] maxLocals) T206 (mkF m 354 #[.val (.long q0), .second, .val (.long q1), .second, .val (.long q2), .second, .val (.long q3), .second, iv p4, iv p5, .val (.long bb), .second, .val (.long n1), .second, .val (.long n2), .second, .val (.long n3), .second, iv kk, iv mm, rv a1, iv (1 : Int32), iv (1 : Int32), .val (.long lf), .second, .val (.double (own_gr n3 n2)), .second, .val (.double (own_gr n2 n1)), .second, .val (.double gg), .second, .val (.double (own_ex n3 n2 n1)), .second, iv (1 : Int32), .val (.double (own_sh (FP.l2d 1) ((2 : Int64) * bb) ((2 : Int64) * mm.toInt64) kk (own_ex n3 n2 n1))), .second, .val (.double (FP.dadd (FP.l2d lf) (FP.dmul (own_sh (FP.l2d 1) ((2 : Int64) * bb) ((2 : Int64) * mm.toInt64) kk (own_ex n3 n2 n1)) (FP.l2d bb)))), .second, .unset] [(.int t4), (.int (own_ma (own_ex n3 n2 n1) (FP.dadd (FP.l2d lf) (FP.dmul (own_sh (FP.l2d 1) ((2 : Int64) * bb) ((2 : Int64) * mm.toInt64) kk (own_ex n3 n2 n1)) (FP.l2d bb)))))]) := by
    have g208 : own_Go p e below s₁ (entryFrame m #[(.long q0), (.long q1), (.long q2), (.long q3), (.int p4), (.int p5)] maxLocals) T206 (mkF m 346 #[.val (.long q0), .second, .val (.long q1), .second, .val (.long q2), .second, .val (.long q3), .second, iv p4, iv p5, .val (.long bb), .second, .val (.long n1), .second, .val (.long n2), .second, .val (.long n3), .second, iv kk, iv mm, rv a1, iv (1 : Int32), iv (1 : Int32), .val (.long lf), .second, .val (.double (own_gr n3 n2)), .second, .val (.double (own_gr n2 n1)), .second, .val (.double gg), .second, .val (.double (own_ex n3 n2 n1)), .second, iv (1 : Int32), .val (.double (own_sh (FP.l2d 1) ((2 : Int64) * bb) ((2 : Int64) * mm.toInt64) kk (own_ex n3 n2 n1))), .second, .val (.double (FP.dadd (FP.l2d lf) (FP.dmul (own_sh (FP.l2d 1) ((2 : Int64) * bb) ((2 : Int64) * mm.toInt64) kk (own_ex n3 n2 n1)) (FP.l2d bb)))), .second, .unset] [(.int (cmpValue (FP.dcmp (own_ex n3 n2 n1) (FP.dadd (FP.l2d lf) (FP.dmul (own_sh (FP.l2d 1) ((2 : Int64) * bb) ((2 : Int64) * mm.toInt64) kk (own_ex n3 n2 n1)) (FP.l2d bb)))) .g)), (.int (own_ma (own_ex n3 n2 n1) (FP.dadd (FP.l2d lf) (FP.dmul (own_sh (FP.l2d 1) ((2 : Int64) * bb) ((2 : Int64) * mm.toInt64) kk (own_ex n3 n2 n1)) (FP.l2d bb)))))]) := by
      intro target kt
      refine g207 target ?_
      refine XS.dload X206.here hx rfl (hb hby at_341) rfl ?_
      show Steps p.tables e below (T206.setTop (mkF m 343 #[.val (.long q0), .second, .val (.long q1), .second, .val (.long q2), .second, .val (.long q3), .second, iv p4, iv p5, .val (.long bb), .second, .val (.long n1), .second, .val (.long n2), .second, .val (.long n3), .second, iv kk, iv mm, rv a1, iv (1 : Int32), iv (1 : Int32), .val (.long lf), .second, .val (.double (own_gr n3 n2)), .second, .val (.double (own_gr n2 n1)), .second, .val (.double gg), .second, .val (.double (own_ex n3 n2 n1)), .second, iv (1 : Int32), .val (.double (own_sh (FP.l2d 1) ((2 : Int64) * bb) ((2 : Int64) * mm.toInt64) kk (own_ex n3 n2 n1))), .second, .val (.double (FP.dadd (FP.l2d lf) (FP.dmul (own_sh (FP.l2d 1) ((2 : Int64) * bb) ((2 : Int64) * mm.toInt64) kk (own_ex n3 n2 n1)) (FP.l2d bb)))), .second, .unset] [(.double (own_ex n3 n2 n1)), (.int (own_ma (own_ex n3 n2 n1) (FP.dadd (FP.l2d lf) (FP.dmul (own_sh (FP.l2d 1) ((2 : Int64) * bb) ((2 : Int64) * mm.toInt64) kk (own_ex n3 n2 n1)) (FP.l2d bb)))))])) target
      refine XS.dload X206.here hx rfl (hb hby at_343) rfl ?_
      show Steps p.tables e below (T206.setTop (mkF m 345 #[.val (.long q0), .second, .val (.long q1), .second, .val (.long q2), .second, .val (.long q3), .second, iv p4, iv p5, .val (.long bb), .second, .val (.long n1), .second, .val (.long n2), .second, .val (.long n3), .second, iv kk, iv mm, rv a1, iv (1 : Int32), iv (1 : Int32), .val (.long lf), .second, .val (.double (own_gr n3 n2)), .second, .val (.double (own_gr n2 n1)), .second, .val (.double gg), .second, .val (.double (own_ex n3 n2 n1)), .second, iv (1 : Int32), .val (.double (own_sh (FP.l2d 1) ((2 : Int64) * bb) ((2 : Int64) * mm.toInt64) kk (own_ex n3 n2 n1))), .second, .val (.double (FP.dadd (FP.l2d lf) (FP.dmul (own_sh (FP.l2d 1) ((2 : Int64) * bb) ((2 : Int64) * mm.toInt64) kk (own_ex n3 n2 n1)) (FP.l2d bb)))), .second, .unset] [(.double (FP.dadd (FP.l2d lf) (FP.dmul (own_sh (FP.l2d 1) ((2 : Int64) * bb) ((2 : Int64) * mm.toInt64) kk (own_ex n3 n2 n1)) (FP.l2d bb)))), (.double (own_ex n3 n2 n1)), (.int (own_ma (own_ex n3 n2 n1) (FP.dadd (FP.l2d lf) (FP.dmul (own_sh (FP.l2d 1) ((2 : Int64) * bb) ((2 : Int64) * mm.toInt64) kk (own_ex n3 n2 n1)) (FP.l2d bb)))))])) target
      refine XS.dcmpS X206.here hx rfl (hb hby at_345) rfl rfl ?_
      show Steps p.tables e below (T206.setTop (mkF m 346 #[.val (.long q0), .second, .val (.long q1), .second, .val (.long q2), .second, .val (.long q3), .second, iv p4, iv p5, .val (.long bb), .second, .val (.long n1), .second, .val (.long n2), .second, .val (.long n3), .second, iv kk, iv mm, rv a1, iv (1 : Int32), iv (1 : Int32), .val (.long lf), .second, .val (.double (own_gr n3 n2)), .second, .val (.double (own_gr n2 n1)), .second, .val (.double gg), .second, .val (.double (own_ex n3 n2 n1)), .second, iv (1 : Int32), .val (.double (own_sh (FP.l2d 1) ((2 : Int64) * bb) ((2 : Int64) * mm.toInt64) kk (own_ex n3 n2 n1))), .second, .val (.double (FP.dadd (FP.l2d lf) (FP.dmul (own_sh (FP.l2d 1) ((2 : Int64) * bb) ((2 : Int64) * mm.toInt64) kk (own_ex n3 n2 n1)) (FP.l2d bb)))), .second, .unset] [(.int (cmpValue (FP.dcmp (own_ex n3 n2 n1) (FP.dadd (FP.l2d lf) (FP.dmul (own_sh (FP.l2d 1) ((2 : Int64) * bb) ((2 : Int64) * mm.toInt64) kk (own_ex n3 n2 n1)) (FP.l2d bb)))) .g)), (.int (own_ma (own_ex n3 n2 n1) (FP.dadd (FP.l2d lf) (FP.dmul (own_sh (FP.l2d 1) ((2 : Int64) * bb) ((2 : Int64) * mm.toInt64) kk (own_ex n3 n2 n1)) (FP.l2d bb)))))])) target
      exact kt
    by_cases hc209 : 0 < (cmpValue (FP.dcmp (own_ex n3 n2 n1) (FP.dadd (FP.l2d lf) (FP.dmul (own_sh (FP.l2d 1) ((2 : Int64) * bb) ((2 : Int64) * mm.toInt64) kk (own_ex n3 n2 n1)) (FP.l2d bb)))) .g)
    · have g210 : own_Go p e below s₁ (entryFrame m #[(.long q0), (.long q1), (.long q2), (.long q3), (.int p4), (.int p5)] maxLocals) T206 (mkF m 354 #[.val (.long q0), .second, .val (.long q1), .second, .val (.long q2), .second, .val (.long q3), .second, iv p4, iv p5, .val (.long bb), .second, .val (.long n1), .second, .val (.long n2), .second, .val (.long n3), .second, iv kk, iv mm, rv a1, iv (1 : Int32), iv (1 : Int32), .val (.long lf), .second, .val (.double (own_gr n3 n2)), .second, .val (.double (own_gr n2 n1)), .second, .val (.double gg), .second, .val (.double (own_ex n3 n2 n1)), .second, iv (1 : Int32), .val (.double (own_sh (FP.l2d 1) ((2 : Int64) * bb) ((2 : Int64) * mm.toInt64) kk (own_ex n3 n2 n1))), .second, .val (.double (FP.dadd (FP.l2d lf) (FP.dmul (own_sh (FP.l2d 1) ((2 : Int64) * bb) ((2 : Int64) * mm.toInt64) kk (own_ex n3 n2 n1)) (FP.l2d bb)))), .second, .unset] [(.int (0 : Int32)), (.int (own_ma (own_ex n3 n2 n1) (FP.dadd (FP.l2d lf) (FP.dmul (own_sh (FP.l2d 1) ((2 : Int64) * bb) ((2 : Int64) * mm.toInt64) kk (own_ex n3 n2 n1)) (FP.l2d bb)))))]) := by
        intro target kt
        refine g208 target ?_
        refine XS.ifYes X206.here hx rfl (pc0 := 346) (pc' := 353) rfl (hb hby at_346) rfl (XT.i0_gt_t hc209) (by decide) (by decide) ?_
        show Steps p.tables e below (T206.setTop (mkF m 353 #[.val (.long q0), .second, .val (.long q1), .second, .val (.long q2), .second, .val (.long q3), .second, iv p4, iv p5, .val (.long bb), .second, .val (.long n1), .second, .val (.long n2), .second, .val (.long n3), .second, iv kk, iv mm, rv a1, iv (1 : Int32), iv (1 : Int32), .val (.long lf), .second, .val (.double (own_gr n3 n2)), .second, .val (.double (own_gr n2 n1)), .second, .val (.double gg), .second, .val (.double (own_ex n3 n2 n1)), .second, iv (1 : Int32), .val (.double (own_sh (FP.l2d 1) ((2 : Int64) * bb) ((2 : Int64) * mm.toInt64) kk (own_ex n3 n2 n1))), .second, .val (.double (FP.dadd (FP.l2d lf) (FP.dmul (own_sh (FP.l2d 1) ((2 : Int64) * bb) ((2 : Int64) * mm.toInt64) kk (own_ex n3 n2 n1)) (FP.l2d bb)))), .second, .unset] [(.int (own_ma (own_ex n3 n2 n1) (FP.dadd (FP.l2d lf) (FP.dmul (own_sh (FP.l2d 1) ((2 : Int64) * bb) ((2 : Int64) * mm.toInt64) kk (own_ex n3 n2 n1)) (FP.l2d bb)))))])) target
        refine XT.iconstV X206.here hx rfl (0 : Int32) (hb hby at_353) rfl ?_
        show Steps p.tables e below (T206.setTop (mkF m 354 #[.val (.long q0), .second, .val (.long q1), .second, .val (.long q2), .second, .val (.long q3), .second, iv p4, iv p5, .val (.long bb), .second, .val (.long n1), .second, .val (.long n2), .second, .val (.long n3), .second, iv kk, iv mm, rv a1, iv (1 : Int32), iv (1 : Int32), .val (.long lf), .second, .val (.double (own_gr n3 n2)), .second, .val (.double (own_gr n2 n1)), .second, .val (.double gg), .second, .val (.double (own_ex n3 n2 n1)), .second, iv (1 : Int32), .val (.double (own_sh (FP.l2d 1) ((2 : Int64) * bb) ((2 : Int64) * mm.toInt64) kk (own_ex n3 n2 n1))), .second, .val (.double (FP.dadd (FP.l2d lf) (FP.dmul (own_sh (FP.l2d 1) ((2 : Int64) * bb) ((2 : Int64) * mm.toInt64) kk (own_ex n3 n2 n1)) (FP.l2d bb)))), .second, .unset] [(.int (0 : Int32)), (.int (own_ma (own_ex n3 n2 n1) (FP.dadd (FP.l2d lf) (FP.dmul (own_sh (FP.l2d 1) ((2 : Int64) * bb) ((2 : Int64) * mm.toInt64) kk (own_ex n3 n2 n1)) (FP.l2d bb)))))])) target
        exact kt
      exact ⟨(0 : Int32), (by simp only [if_pos hc209]), g210⟩
    · have g211 : own_Go p e below s₁ (entryFrame m #[(.long q0), (.long q1), (.long q2), (.long q3), (.int p4), (.int p5)] maxLocals) T206 (mkF m 354 #[.val (.long q0), .second, .val (.long q1), .second, .val (.long q2), .second, .val (.long q3), .second, iv p4, iv p5, .val (.long bb), .second, .val (.long n1), .second, .val (.long n2), .second, .val (.long n3), .second, iv kk, iv mm, rv a1, iv (1 : Int32), iv (1 : Int32), .val (.long lf), .second, .val (.double (own_gr n3 n2)), .second, .val (.double (own_gr n2 n1)), .second, .val (.double gg), .second, .val (.double (own_ex n3 n2 n1)), .second, iv (1 : Int32), .val (.double (own_sh (FP.l2d 1) ((2 : Int64) * bb) ((2 : Int64) * mm.toInt64) kk (own_ex n3 n2 n1))), .second, .val (.double (FP.dadd (FP.l2d lf) (FP.dmul (own_sh (FP.l2d 1) ((2 : Int64) * bb) ((2 : Int64) * mm.toInt64) kk (own_ex n3 n2 n1)) (FP.l2d bb)))), .second, .unset] [(.int (1 : Int32)), (.int (own_ma (own_ex n3 n2 n1) (FP.dadd (FP.l2d lf) (FP.dmul (own_sh (FP.l2d 1) ((2 : Int64) * bb) ((2 : Int64) * mm.toInt64) kk (own_ex n3 n2 n1)) (FP.l2d bb)))))]) := by
        intro target kt
        refine g208 target ?_
        refine XS.ifNo X206.here hx rfl (hb hby at_346) rfl (XT.i0_gt_f hc209) ?_
        show Steps p.tables e below (T206.setTop (mkF m 349 #[.val (.long q0), .second, .val (.long q1), .second, .val (.long q2), .second, .val (.long q3), .second, iv p4, iv p5, .val (.long bb), .second, .val (.long n1), .second, .val (.long n2), .second, .val (.long n3), .second, iv kk, iv mm, rv a1, iv (1 : Int32), iv (1 : Int32), .val (.long lf), .second, .val (.double (own_gr n3 n2)), .second, .val (.double (own_gr n2 n1)), .second, .val (.double gg), .second, .val (.double (own_ex n3 n2 n1)), .second, iv (1 : Int32), .val (.double (own_sh (FP.l2d 1) ((2 : Int64) * bb) ((2 : Int64) * mm.toInt64) kk (own_ex n3 n2 n1))), .second, .val (.double (FP.dadd (FP.l2d lf) (FP.dmul (own_sh (FP.l2d 1) ((2 : Int64) * bb) ((2 : Int64) * mm.toInt64) kk (own_ex n3 n2 n1)) (FP.l2d bb)))), .second, .unset] [(.int (own_ma (own_ex n3 n2 n1) (FP.dadd (FP.l2d lf) (FP.dmul (own_sh (FP.l2d 1) ((2 : Int64) * bb) ((2 : Int64) * mm.toInt64) kk (own_ex n3 n2 n1)) (FP.l2d bb)))))])) target
        refine XT.iconstV X206.here hx rfl (1 : Int32) (hb hby at_349) rfl ?_
        show Steps p.tables e below (T206.setTop (mkF m 350 #[.val (.long q0), .second, .val (.long q1), .second, .val (.long q2), .second, .val (.long q3), .second, iv p4, iv p5, .val (.long bb), .second, .val (.long n1), .second, .val (.long n2), .second, .val (.long n3), .second, iv kk, iv mm, rv a1, iv (1 : Int32), iv (1 : Int32), .val (.long lf), .second, .val (.double (own_gr n3 n2)), .second, .val (.double (own_gr n2 n1)), .second, .val (.double gg), .second, .val (.double (own_ex n3 n2 n1)), .second, iv (1 : Int32), .val (.double (own_sh (FP.l2d 1) ((2 : Int64) * bb) ((2 : Int64) * mm.toInt64) kk (own_ex n3 n2 n1))), .second, .val (.double (FP.dadd (FP.l2d lf) (FP.dmul (own_sh (FP.l2d 1) ((2 : Int64) * bb) ((2 : Int64) * mm.toInt64) kk (own_ex n3 n2 n1)) (FP.l2d bb)))), .second, .unset] [(.int (1 : Int32)), (.int (own_ma (own_ex n3 n2 n1) (FP.dadd (FP.l2d lf) (FP.dmul (own_sh (FP.l2d 1) ((2 : Int64) * bb) ((2 : Int64) * mm.toInt64) kk (own_ex n3 n2 n1)) (FP.l2d bb)))))])) target
        refine XS.goto X206.here hx rfl (pc0 := 350) (pc' := 354) rfl (hb hby at_350) (by decide) (by decide) ?_
        show Steps p.tables e below (T206.setTop (mkF m 354 #[.val (.long q0), .second, .val (.long q1), .second, .val (.long q2), .second, .val (.long q3), .second, iv p4, iv p5, .val (.long bb), .second, .val (.long n1), .second, .val (.long n2), .second, .val (.long n3), .second, iv kk, iv mm, rv a1, iv (1 : Int32), iv (1 : Int32), .val (.long lf), .second, .val (.double (own_gr n3 n2)), .second, .val (.double (own_gr n2 n1)), .second, .val (.double gg), .second, .val (.double (own_ex n3 n2 n1)), .second, iv (1 : Int32), .val (.double (own_sh (FP.l2d 1) ((2 : Int64) * bb) ((2 : Int64) * mm.toInt64) kk (own_ex n3 n2 n1))), .second, .val (.double (FP.dadd (FP.l2d lf) (FP.dmul (own_sh (FP.l2d 1) ((2 : Int64) * bb) ((2 : Int64) * mm.toInt64) kk (own_ex n3 n2 n1)) (FP.l2d bb)))), .second, .unset] [(.int (1 : Int32)), (.int (own_ma (own_ex n3 n2 n1) (FP.dadd (FP.l2d lf) (FP.dmul (own_sh (FP.l2d 1) ((2 : Int64) * bb) ((2 : Int64) * mm.toInt64) kk (own_ex n3 n2 n1)) (FP.l2d bb)))))])) target
        exact kt
      exact ⟨(1 : Int32), (by simp only [if_neg hc209]), g211⟩
  have g213 : own_Go p e below s₁ (entryFrame m #[(.long q0), (.long q1), (.long q2), (.long q3), (.int p4), (.int p5)] maxLocals) T206 (mkF m 389 #[.val (.long q0), .second, .val (.long q1), .second, .val (.long q2), .second, .val (.long q3), .second, iv p4, iv p5, .val (.long bb), .second, .val (.long n1), .second, .val (.long n2), .second, .val (.long n3), .second, iv kk, iv mm, rv a1, iv (1 : Int32), iv (1 : Int32), .val (.long lf), .second, .val (.double (own_gr n3 n2)), .second, .val (.double (own_gr n2 n1)), .second, .val (.double gg), .second, .val (.double (own_ex n3 n2 n1)), .second, iv (1 : Int32), .val (.double (own_sh (FP.l2d 1) ((2 : Int64) * bb) ((2 : Int64) * mm.toInt64) kk (own_ex n3 n2 n1))), .second, .val (.double (FP.dadd (FP.l2d lf) (FP.dmul (own_sh (FP.l2d 1) ((2 : Int64) * bb) ((2 : Int64) * mm.toInt64) kk (own_ex n3 n2 n1)) (FP.l2d bb)))), .second, iv (1 : Int32)] [(.int (1 : Int32))]) := by
    intro target kt
    refine g212 target ?_
    refine XS.icmpNo X206.here hx rfl (hb hby at_354) rfl (XT.ii_ne_f (by rw [hm212]; rfl)) ?_
    show Steps p.tables e below (T206.setTop (mkF m 357 #[.val (.long q0), .second, .val (.long q1), .second, .val (.long q2), .second, .val (.long q3), .second, iv p4, iv p5, .val (.long bb), .second, .val (.long n1), .second, .val (.long n2), .second, .val (.long n3), .second, iv kk, iv mm, rv a1, iv (1 : Int32), iv (1 : Int32), .val (.long lf), .second, .val (.double (own_gr n3 n2)), .second, .val (.double (own_gr n2 n1)), .second, .val (.double gg), .second, .val (.double (own_ex n3 n2 n1)), .second, iv (1 : Int32), .val (.double (own_sh (FP.l2d 1) ((2 : Int64) * bb) ((2 : Int64) * mm.toInt64) kk (own_ex n3 n2 n1))), .second, .val (.double (FP.dadd (FP.l2d lf) (FP.dmul (own_sh (FP.l2d 1) ((2 : Int64) * bb) ((2 : Int64) * mm.toInt64) kk (own_ex n3 n2 n1)) (FP.l2d bb)))), .second, .unset] [])) target
    refine XT.iconstV X206.here hx rfl (1 : Int32) (hb hby at_357) rfl ?_
    show Steps p.tables e below (T206.setTop (mkF m 358 #[.val (.long q0), .second, .val (.long q1), .second, .val (.long q2), .second, .val (.long q3), .second, iv p4, iv p5, .val (.long bb), .second, .val (.long n1), .second, .val (.long n2), .second, .val (.long n3), .second, iv kk, iv mm, rv a1, iv (1 : Int32), iv (1 : Int32), .val (.long lf), .second, .val (.double (own_gr n3 n2)), .second, .val (.double (own_gr n2 n1)), .second, .val (.double gg), .second, .val (.double (own_ex n3 n2 n1)), .second, iv (1 : Int32), .val (.double (own_sh (FP.l2d 1) ((2 : Int64) * bb) ((2 : Int64) * mm.toInt64) kk (own_ex n3 n2 n1))), .second, .val (.double (FP.dadd (FP.l2d lf) (FP.dmul (own_sh (FP.l2d 1) ((2 : Int64) * bb) ((2 : Int64) * mm.toInt64) kk (own_ex n3 n2 n1)) (FP.l2d bb)))), .second, .unset] [(.int (1 : Int32))])) target
    refine XS.goto X206.here hx rfl (pc0 := 358) (pc' := 362) rfl (hb hby at_358) (by decide) (by decide) ?_
    show Steps p.tables e below (T206.setTop (mkF m 362 #[.val (.long q0), .second, .val (.long q1), .second, .val (.long q2), .second, .val (.long q3), .second, iv p4, iv p5, .val (.long bb), .second, .val (.long n1), .second, .val (.long n2), .second, .val (.long n3), .second, iv kk, iv mm, rv a1, iv (1 : Int32), iv (1 : Int32), .val (.long lf), .second, .val (.double (own_gr n3 n2)), .second, .val (.double (own_gr n2 n1)), .second, .val (.double gg), .second, .val (.double (own_ex n3 n2 n1)), .second, iv (1 : Int32), .val (.double (own_sh (FP.l2d 1) ((2 : Int64) * bb) ((2 : Int64) * mm.toInt64) kk (own_ex n3 n2 n1))), .second, .val (.double (FP.dadd (FP.l2d lf) (FP.dmul (own_sh (FP.l2d 1) ((2 : Int64) * bb) ((2 : Int64) * mm.toInt64) kk (own_ex n3 n2 n1)) (FP.l2d bb)))), .second, .unset] [(.int (1 : Int32))])) target
    refine XS.istore X206.here hx rfl (hb hby at_362) rfl (l' := #[.val (.long q0), .second, .val (.long q1), .second, .val (.long q2), .second, .val (.long q3), .second, iv p4, iv p5, .val (.long bb), .second, .val (.long n1), .second, .val (.long n2), .second, .val (.long n3), .second, iv kk, iv mm, rv a1, iv (1 : Int32), iv (1 : Int32), .val (.long lf), .second, .val (.double (own_gr n3 n2)), .second, .val (.double (own_gr n2 n1)), .second, .val (.double gg), .second, .val (.double (own_ex n3 n2 n1)), .second, iv (1 : Int32), .val (.double (own_sh (FP.l2d 1) ((2 : Int64) * bb) ((2 : Int64) * mm.toInt64) kk (own_ex n3 n2 n1))), .second, .val (.double (FP.dadd (FP.l2d lf) (FP.dmul (own_sh (FP.l2d 1) ((2 : Int64) * bb) ((2 : Int64) * mm.toInt64) kk (own_ex n3 n2 n1)) (FP.l2d bb)))), .second, iv (1 : Int32)]) rfl ?_
    show Steps p.tables e below (T206.setTop (mkF m 364 #[.val (.long q0), .second, .val (.long q1), .second, .val (.long q2), .second, .val (.long q3), .second, iv p4, iv p5, .val (.long bb), .second, .val (.long n1), .second, .val (.long n2), .second, .val (.long n3), .second, iv kk, iv mm, rv a1, iv (1 : Int32), iv (1 : Int32), .val (.long lf), .second, .val (.double (own_gr n3 n2)), .second, .val (.double (own_gr n2 n1)), .second, .val (.double gg), .second, .val (.double (own_ex n3 n2 n1)), .second, iv (1 : Int32), .val (.double (own_sh (FP.l2d 1) ((2 : Int64) * bb) ((2 : Int64) * mm.toInt64) kk (own_ex n3 n2 n1))), .second, .val (.double (FP.dadd (FP.l2d lf) (FP.dmul (own_sh (FP.l2d 1) ((2 : Int64) * bb) ((2 : Int64) * mm.toInt64) kk (own_ex n3 n2 n1)) (FP.l2d bb)))), .second, iv (1 : Int32)] [])) target
    refine XS.iload X206.here hx rfl (hb hby at_364) rfl ?_
    show Steps p.tables e below (T206.setTop (mkF m 366 #[.val (.long q0), .second, .val (.long q1), .second, .val (.long q2), .second, .val (.long q3), .second, iv p4, iv p5, .val (.long bb), .second, .val (.long n1), .second, .val (.long n2), .second, .val (.long n3), .second, iv kk, iv mm, rv a1, iv (1 : Int32), iv (1 : Int32), .val (.long lf), .second, .val (.double (own_gr n3 n2)), .second, .val (.double (own_gr n2 n1)), .second, .val (.double gg), .second, .val (.double (own_ex n3 n2 n1)), .second, iv (1 : Int32), .val (.double (own_sh (FP.l2d 1) ((2 : Int64) * bb) ((2 : Int64) * mm.toInt64) kk (own_ex n3 n2 n1))), .second, .val (.double (FP.dadd (FP.l2d lf) (FP.dmul (own_sh (FP.l2d 1) ((2 : Int64) * bb) ((2 : Int64) * mm.toInt64) kk (own_ex n3 n2 n1)) (FP.l2d bb)))), .second, iv (1 : Int32)] [(.int (1 : Int32))])) target
    refine XS.ifNo X206.here hx rfl (hb hby at_366) rfl (XT.i0_eq_f (by decide)) ?_
    show Steps p.tables e below (T206.setTop (mkF m 369 #[.val (.long q0), .second, .val (.long q1), .second, .val (.long q2), .second, .val (.long q3), .second, iv p4, iv p5, .val (.long bb), .second, .val (.long n1), .second, .val (.long n2), .second, .val (.long n3), .second, iv kk, iv mm, rv a1, iv (1 : Int32), iv (1 : Int32), .val (.long lf), .second, .val (.double (own_gr n3 n2)), .second, .val (.double (own_gr n2 n1)), .second, .val (.double gg), .second, .val (.double (own_ex n3 n2 n1)), .second, iv (1 : Int32), .val (.double (own_sh (FP.l2d 1) ((2 : Int64) * bb) ((2 : Int64) * mm.toInt64) kk (own_ex n3 n2 n1))), .second, .val (.double (FP.dadd (FP.l2d lf) (FP.dmul (own_sh (FP.l2d 1) ((2 : Int64) * bb) ((2 : Int64) * mm.toInt64) kk (own_ex n3 n2 n1)) (FP.l2d bb)))), .second, iv (1 : Int32)] [])) target
    refine XS.iload X206.here hx rfl (hb hby at_369) rfl ?_
    show Steps p.tables e below (T206.setTop (mkF m 371 #[.val (.long q0), .second, .val (.long q1), .second, .val (.long q2), .second, .val (.long q3), .second, iv p4, iv p5, .val (.long bb), .second, .val (.long n1), .second, .val (.long n2), .second, .val (.long n3), .second, iv kk, iv mm, rv a1, iv (1 : Int32), iv (1 : Int32), .val (.long lf), .second, .val (.double (own_gr n3 n2)), .second, .val (.double (own_gr n2 n1)), .second, .val (.double gg), .second, .val (.double (own_ex n3 n2 n1)), .second, iv (1 : Int32), .val (.double (own_sh (FP.l2d 1) ((2 : Int64) * bb) ((2 : Int64) * mm.toInt64) kk (own_ex n3 n2 n1))), .second, .val (.double (FP.dadd (FP.l2d lf) (FP.dmul (own_sh (FP.l2d 1) ((2 : Int64) * bb) ((2 : Int64) * mm.toInt64) kk (own_ex n3 n2 n1)) (FP.l2d bb)))), .second, iv (1 : Int32)] [(.int (1 : Int32))])) target
    refine XS.ifNo X206.here hx rfl (hb hby at_371) rfl (XT.i0_eq_f (by decide)) ?_
    show Steps p.tables e below (T206.setTop (mkF m 374 #[.val (.long q0), .second, .val (.long q1), .second, .val (.long q2), .second, .val (.long q3), .second, iv p4, iv p5, .val (.long bb), .second, .val (.long n1), .second, .val (.long n2), .second, .val (.long n3), .second, iv kk, iv mm, rv a1, iv (1 : Int32), iv (1 : Int32), .val (.long lf), .second, .val (.double (own_gr n3 n2)), .second, .val (.double (own_gr n2 n1)), .second, .val (.double gg), .second, .val (.double (own_ex n3 n2 n1)), .second, iv (1 : Int32), .val (.double (own_sh (FP.l2d 1) ((2 : Int64) * bb) ((2 : Int64) * mm.toInt64) kk (own_ex n3 n2 n1))), .second, .val (.double (FP.dadd (FP.l2d lf) (FP.dmul (own_sh (FP.l2d 1) ((2 : Int64) * bb) ((2 : Int64) * mm.toInt64) kk (own_ex n3 n2 n1)) (FP.l2d bb)))), .second, iv (1 : Int32)] [])) target
    refine XS.iload X206.here hx rfl (hb hby at_374) rfl ?_
    show Steps p.tables e below (T206.setTop (mkF m 376 #[.val (.long q0), .second, .val (.long q1), .second, .val (.long q2), .second, .val (.long q3), .second, iv p4, iv p5, .val (.long bb), .second, .val (.long n1), .second, .val (.long n2), .second, .val (.long n3), .second, iv kk, iv mm, rv a1, iv (1 : Int32), iv (1 : Int32), .val (.long lf), .second, .val (.double (own_gr n3 n2)), .second, .val (.double (own_gr n2 n1)), .second, .val (.double gg), .second, .val (.double (own_ex n3 n2 n1)), .second, iv (1 : Int32), .val (.double (own_sh (FP.l2d 1) ((2 : Int64) * bb) ((2 : Int64) * mm.toInt64) kk (own_ex n3 n2 n1))), .second, .val (.double (FP.dadd (FP.l2d lf) (FP.dmul (own_sh (FP.l2d 1) ((2 : Int64) * bb) ((2 : Int64) * mm.toInt64) kk (own_ex n3 n2 n1)) (FP.l2d bb)))), .second, iv (1 : Int32)] [(.int (1 : Int32))])) target
    refine XS.ifNo X206.here hx rfl (hb hby at_376) rfl (XT.i0_eq_f (by decide)) ?_
    show Steps p.tables e below (T206.setTop (mkF m 379 #[.val (.long q0), .second, .val (.long q1), .second, .val (.long q2), .second, .val (.long q3), .second, iv p4, iv p5, .val (.long bb), .second, .val (.long n1), .second, .val (.long n2), .second, .val (.long n3), .second, iv kk, iv mm, rv a1, iv (1 : Int32), iv (1 : Int32), .val (.long lf), .second, .val (.double (own_gr n3 n2)), .second, .val (.double (own_gr n2 n1)), .second, .val (.double gg), .second, .val (.double (own_ex n3 n2 n1)), .second, iv (1 : Int32), .val (.double (own_sh (FP.l2d 1) ((2 : Int64) * bb) ((2 : Int64) * mm.toInt64) kk (own_ex n3 n2 n1))), .second, .val (.double (FP.dadd (FP.l2d lf) (FP.dmul (own_sh (FP.l2d 1) ((2 : Int64) * bb) ((2 : Int64) * mm.toInt64) kk (own_ex n3 n2 n1)) (FP.l2d bb)))), .second, iv (1 : Int32)] [])) target
    refine XS.iload X206.here hx rfl (hb hby at_379) rfl ?_
    show Steps p.tables e below (T206.setTop (mkF m 381 #[.val (.long q0), .second, .val (.long q1), .second, .val (.long q2), .second, .val (.long q3), .second, iv p4, iv p5, .val (.long bb), .second, .val (.long n1), .second, .val (.long n2), .second, .val (.long n3), .second, iv kk, iv mm, rv a1, iv (1 : Int32), iv (1 : Int32), .val (.long lf), .second, .val (.double (own_gr n3 n2)), .second, .val (.double (own_gr n2 n1)), .second, .val (.double gg), .second, .val (.double (own_ex n3 n2 n1)), .second, iv (1 : Int32), .val (.double (own_sh (FP.l2d 1) ((2 : Int64) * bb) ((2 : Int64) * mm.toInt64) kk (own_ex n3 n2 n1))), .second, .val (.double (FP.dadd (FP.l2d lf) (FP.dmul (own_sh (FP.l2d 1) ((2 : Int64) * bb) ((2 : Int64) * mm.toInt64) kk (own_ex n3 n2 n1)) (FP.l2d bb)))), .second, iv (1 : Int32)] [(.int (1 : Int32))])) target
    refine XS.ifNo X206.here hx rfl (hb hby at_381) rfl (XT.i0_eq_f (by decide)) ?_
    show Steps p.tables e below (T206.setTop (mkF m 384 #[.val (.long q0), .second, .val (.long q1), .second, .val (.long q2), .second, .val (.long q3), .second, iv p4, iv p5, .val (.long bb), .second, .val (.long n1), .second, .val (.long n2), .second, .val (.long n3), .second, iv kk, iv mm, rv a1, iv (1 : Int32), iv (1 : Int32), .val (.long lf), .second, .val (.double (own_gr n3 n2)), .second, .val (.double (own_gr n2 n1)), .second, .val (.double gg), .second, .val (.double (own_ex n3 n2 n1)), .second, iv (1 : Int32), .val (.double (own_sh (FP.l2d 1) ((2 : Int64) * bb) ((2 : Int64) * mm.toInt64) kk (own_ex n3 n2 n1))), .second, .val (.double (FP.dadd (FP.l2d lf) (FP.dmul (own_sh (FP.l2d 1) ((2 : Int64) * bb) ((2 : Int64) * mm.toInt64) kk (own_ex n3 n2 n1)) (FP.l2d bb)))), .second, iv (1 : Int32)] [])) target
    refine XT.iconstV X206.here hx rfl (1 : Int32) (hb hby at_384) rfl ?_
    show Steps p.tables e below (T206.setTop (mkF m 385 #[.val (.long q0), .second, .val (.long q1), .second, .val (.long q2), .second, .val (.long q3), .second, iv p4, iv p5, .val (.long bb), .second, .val (.long n1), .second, .val (.long n2), .second, .val (.long n3), .second, iv kk, iv mm, rv a1, iv (1 : Int32), iv (1 : Int32), .val (.long lf), .second, .val (.double (own_gr n3 n2)), .second, .val (.double (own_gr n2 n1)), .second, .val (.double gg), .second, .val (.double (own_ex n3 n2 n1)), .second, iv (1 : Int32), .val (.double (own_sh (FP.l2d 1) ((2 : Int64) * bb) ((2 : Int64) * mm.toInt64) kk (own_ex n3 n2 n1))), .second, .val (.double (FP.dadd (FP.l2d lf) (FP.dmul (own_sh (FP.l2d 1) ((2 : Int64) * bb) ((2 : Int64) * mm.toInt64) kk (own_ex n3 n2 n1)) (FP.l2d bb)))), .second, iv (1 : Int32)] [(.int (1 : Int32))])) target
    refine XS.goto X206.here hx rfl (pc0 := 385) (pc' := 389) rfl (hb hby at_385) (by decide) (by decide) ?_
    show Steps p.tables e below (T206.setTop (mkF m 389 #[.val (.long q0), .second, .val (.long q1), .second, .val (.long q2), .second, .val (.long q3), .second, iv p4, iv p5, .val (.long bb), .second, .val (.long n1), .second, .val (.long n2), .second, .val (.long n3), .second, iv kk, iv mm, rv a1, iv (1 : Int32), iv (1 : Int32), .val (.long lf), .second, .val (.double (own_gr n3 n2)), .second, .val (.double (own_gr n2 n1)), .second, .val (.double gg), .second, .val (.double (own_ex n3 n2 n1)), .second, iv (1 : Int32), .val (.double (own_sh (FP.l2d 1) ((2 : Int64) * bb) ((2 : Int64) * mm.toInt64) kk (own_ex n3 n2 n1))), .second, .val (.double (FP.dadd (FP.l2d lf) (FP.dmul (own_sh (FP.l2d 1) ((2 : Int64) * bb) ((2 : Int64) * mm.toInt64) kk (own_ex n3 n2 n1)) (FP.l2d bb)))), .second, iv (1 : Int32)] [(.int (1 : Int32))])) target
    exact kt
  obtain ⟨fs, hr, hrun, hended, hW, hsame⟩ := X206.leave (v := some (.int (nar .boolean (1 : Int32)))) (fun h => by rw [Bd.returns] at h; cases h)
  refine ⟨_, _, g213 _ ?_, hrun, hended, _, _, rfl, ?_, ⟨_, rfl⟩, hW, hsame.mono (by decide) (by decide)⟩
  · exact retN X206 hx (t := .boolean) Bd.returns (by simp) (hb hby at_389) hr
  · show Q_rm0 Z q0 q1 q2 q3 p4 p5  h0 n0 _ T206.heap _
    rw [eq206]
    exact ⟨rfl, N206⟩
set_option maxRecDepth 65536 in
set_option maxHeartbeats 40000000 in
theorem comes_1 {Post : Tables → Env → Array Value → State → Outcome → State → Prop} (hpost : ∀ tb e args s v u, (limb_1_1.after args s (.returned v) u = true ∧ limb_1_2.after args s (.returned v) u = true ∧ True) → FrameEnd s (.returned v) u (Jvm.fieldLocs frame_1_writes args s ++ Jvm.arrayLocs frame_1_arrays args s ++ Jvm.staticLocs frame_1_statics s) 16 128 → Post tb e args s (.returned v) u) :
    ArmFor flags0 classFile x code maxLocals ret World_1 tables_1 room_1 Calls_1 rest_1 Pre_1 Post := by
  intro l hfl _ _ p e ha hc hk s m args below hf hA hF happ hP
  obtain ⟨hcalls, hrest, hpre⟩ := hP
  obtain ⟨-, -, -, hnamed, -, -, -, hat⟩ := (Spec.applies_iff hf).mp happ
  obtain ⟨hg, hn⟩ := and_e (Cond.before_iff.mp (show (Jvm.Cond.and given_1 narrow_1).before args s = true from hpre))
  obtain ⟨hcnt, hs0⟩ := and_e hg
  obtain ⟨ha0, hs1⟩ := and_e hs0
  obtain ⟨ha1, hs2⟩ := and_e hs1
  obtain ⟨ha2, hs3⟩ := and_e hs2
  obtain ⟨ha3, hs4⟩ := and_e hs3
  obtain ⟨ha4, hs5⟩ := and_e hs4
  have ha5 := hs5
  obtain ⟨w0, w1, w2, w3, w4, w5, rfl⟩ : ∃ w0 w1 w2 w3 w4 w5 : Value, args = #[w0, w1, w2, w3, w4, w5] := by
    have hs : args.size = 6 := by simpa [Cond.value, given_1] using hcnt
    obtain ⟨L⟩ := args
    match L, hs with
    | [w0, w1, w2, w3, w4, w5], _ => exact ⟨w0, w1, w2, w3, w4, w5, rfl⟩
  have hw := fun d (hd : d ∈ tables_1) => atoms_spec (ws := Jvm.Cond.code x code maxLocals ret :: tables_1) hat d (List.mem_cons_of_mem _ hd)
  have hfit : Fit s := fun {y c} hc i hi => by
    obtain ⟨ha, rfl⟩ := Array.getElem?_eq_some_iff.mp hc
    have q := List.all_eq_true.mp ((Array.all_eq_true_iff_forall_mem.mp hF) _ (Array.getElem_mem ha)) i (List.mem_range.mpr hi)
    simpa [Array.getElem?_eq_getElem hi] using q
  obtain ⟨i0, ei0⟩ := isL_v ha0
  obtain rfl : w0 = (.long i0) := Option.some.inj ei0
  obtain ⟨i1, ei1⟩ := isL_v ha1
  obtain rfl : w1 = (.long i1) := Option.some.inj ei1
  obtain ⟨i2, ei2⟩ := isL_v ha2
  obtain rfl : w2 = (.long i2) := Option.some.inj ei2
  obtain ⟨i3, ei3⟩ := isL_v ha3
  obtain rfl : w3 = (.long i3) := Option.some.inj ei3
  obtain ⟨i4, ei4⟩ := is_v ha4
  obtain rfl : w4 = (.int i4) := Option.some.inj ei4
  obtain ⟨i5, ei5⟩ := is_v ha5
  obtain rfl : w5 = (.int i5) := Option.some.inj ei5
  obtain ⟨n, o, h1, h2, h3, _, L, rfl, ⟨rfl, N⟩, hq⟩ := rm0 l s _ hw tables_1 i0 i1 i2 i3 i4 i5  s.heap s.heap.size (Nat.le_refl _)  p e ha hc hk s m _ below hf ((Spec.applies_iff_loose hf).mp happ).1 ⟨rfl, State.Warmed39.refl s, rfl⟩ trivial
  refine ⟨n, _, h1, h2, h3, hpost _ _ _ _ _ _ ⟨Cond.after_iff.mpr rfl, Cond.after_iff.mpr (eq_i res_at (Term.int_eval (1)) rfl), trivial⟩ ⟨hq.1, hq.2.1, (hq.2.2.sift fun y hy => Or.inr (N y hy)).mono (by decide) (by decide)⟩⟩
theorem main_1_1 : Claimed_1_1 := comes_1 fun _ _ _ _ _ _ h hF => ⟨h.1, hF⟩
theorem main_1_2 : Claimed_1_2 := comes_1 fun _ _ _ _ _ _ h hF => ⟨h.2.1, hF⟩
end Jvm.Pilot.@@N@@
namespace Jvm.Pilot.@@N@@
open Jvm Jvm.ClassFile Sem Op Lib Jvm.Free Jvm.Stand Jvm.Pilot.@@N@@.Jvm.D
/-! MADE BY PROGRAM (witnessworld.py) out of the Statement's table words and the real class files: 10 classes; the members and pool entries that the words name. The judged class is class 1, her method 1. -/
namespace start1
open Jvm.ClassFile
def u (s : String) : CpInfo := .utf8 (stringToUtf16 s)
/-- a pool by its gaps: so many unusable entries, then the entry; so many at the end -/
def gap : Nat → List CpInfo → List CpInfo
  | 0, r => r
  | n + 1, r => .unusable :: gap n r
def poolList (es : List (Nat × CpInfo)) (last : Nat) : List CpInfo := es.foldr (fun e r => gap e.1 (e.2 :: r)) (gap last [])
def pool (es : List (Nat × CpInfo)) (last : Nat) : Array CpInfo := ⟨poolList es last⟩
def fileOf (pool : Array CpInfo) (this : Nat) (attrs : Array Attribute := #[]) (ms : Array MethodInfo := #[]) (fl : Nat := 33) (sup : Nat := 0) (ifs : Array Nat := #[]) (fds : Array FieldInfo := #[]) : ClassFile where
  minorVersion := 0
  majorVersion := 65
  constantPool := pool
  accessFlags := fl
  thisClass := this
  superClass := sup
  interfaces := ifs
  fields := fds
  methods := ms
  attributes := attrs
def plain (name : String) (sup : Option ClassId) : Class where
  name := name
  kind := .ordinary
  loader := none
  accessFlags := 33
  super := sup
  interfaces := #[]
  cf := none
  fields := #[]
  methods := #[]
  instanceTypes := #[]
  staticTypes := #[]
  resolved := #[]
  callSites := []
  init := .initialized
  statics := none
  mirror := none

def pool0 : Array CpInfo := pool [(5, u "<init>"), (0, u "()V"), (1, .class_ 10), (1, u "java/lang/Object")] 113

def k0c0 : Code := { maxStack := 0, maxLocals := 1, code := object_method_1_code, exceptionTable := #[], attributes := #[] }
def k0m0 : Method := { name := "<init>", desc := "()V", sig := { parameters := [], returnType := none }, accessFlags := 1, code := some k0c0 }
/-- java/lang/Object -/
def k0 : Class := { plain "java/lang/Object" none with
  accessFlags := 33
  interfaces := #[]
  cf := some (fileOf pool0 8 #[] #[{ accessFlags := 1, nameIndex := 5, descriptorIndex := 6, attributes := #[] }] 33 0 #[] #[])
  fields := #[]
  methods := #[k0m0]
  instanceTypes := #[]
  staticTypes := #[]
  resolved := Array.replicate 124 none
  statics := none }

def pool1 : Array CpInfo := pool [(2, .class_ 4), (0, .nameAndType 5 6), (0, u "java/lang/Object"), (0, u "<init>"), (0, u "()V"), (0, .long 1125899906842623), (1, .long 2147483647), (1, .integer 2147483647), (0, .integer 1073741823), (0, .class_ 14), (0, u "com/example/ends_to_means/endstomeans/solver/ForwardPace"), (0, .methodref 13 3), (0, .methodref 13 17), (0, .nameAndType 18 19), (0, u "backwardTook"), (0, u "(JI)V"), (0, .methodref 13 21), (0, .nameAndType 22 19), (0, u "forwardTook"), (0, .methodref 13 24), (0, .nameAndType 25 26), (0, u "mayAddLayer"), (0, u "()Z"), (0, .double 4611686018427387904), (1, .long 2), (1, .double 4593671619917905920), (1, .class_ 34), (0, u "com/example/ends_to_means/endstomeans/solver/ForwardPaceForwardTookPinLaw"), (2, u "law"), (0, u "(JJJJII)Z")] 3

def k1m0 : Method := { name := "<init>", desc := "()V", sig := { parameters := [], returnType := none }, accessFlags := 2, code := none }
def k1c1 : Code := { maxStack := 8, maxLocals := 39, code := code, exceptionTable := #[], attributes := #[] }
def k1m1 : Method := { name := "law", desc := "(JJJJII)Z", sig := { parameters := [.long, .long, .long, .long, .int, .int], returnType := some .boolean }, accessFlags := 9, code := some k1c1 }
/-- com/example/ends_to_means/endstomeans/solver/ForwardPaceForwardTookPinLaw -/
def k1 : Class := { plain "com/example/ends_to_means/endstomeans/solver/ForwardPaceForwardTookPinLaw" (some 0) with
  accessFlags := 49
  interfaces := #[]
  cf := some (fileOf pool1 33 #[] #[{ accessFlags := 2, nameIndex := 5, descriptorIndex := 6, attributes := #[] }, { accessFlags := 9, nameIndex := 37, descriptorIndex := 38, attributes := #[] }] 49 2 #[] #[])
  fields := #[]
  methods := #[k1m0, k1m1]
  instanceTypes := #[]
  staticTypes := #[]
  resolved := Array.replicate 42 none
  statics := none }

def pool2 : Array CpInfo := pool [(1, .methodref 2 3), (0, .class_ 4), (0, .nameAndType 5 6), (0, u "java/lang/Object"), (0, u "<init>"), (0, u "()V"), (0, .fieldref 8 9), (0, .class_ 10), (0, .nameAndType 11 12), (0, u "com/example/ends_to_means/endstomeans/solver/ForwardPace"), (0, u "growingShare"), (0, u "D"), (0, .double 4611686018427387904), (3, .methodref 18 19), (0, .class_ 20), (0, .nameAndType 21 22), (0, u "java/lang/Math"), (0, u "min"), (0, u "(DD)D"), (0, .fieldref 8 24), (0, .nameAndType 25 26), (0, u "backwardNanos"), (0, u "J"), (0, .fieldref 8 28), (0, .nameAndType 29 26), (0, u "backwardMoves"), (0, .fieldref 8 31), (0, .nameAndType 32 12), (0, u "earnedNanos"), (0, .methodref 8 34), (0, .nameAndType 35 36), (0, u "share"), (0, u "()D"), (0, .fieldref 8 38), (0, .nameAndType 39 40), (0, u "layerMoves"), (0, u "I"), (0, .fieldref 8 42), (0, .nameAndType 43 26), (0, u "layerBeforeNanos"), (0, .fieldref 8 45), (0, .nameAndType 46 26), (0, u "layerBeforeThatNanos"), (0, .fieldref 8 48), (0, .nameAndType 49 26), (0, u "lastLayerNanos"), (0, .methodref 8 51), (0, .nameAndType 52 36), (0, u "expectedLayerNanos"), (0, .double 4593671619917905920), (1, .methodref 8 56), (0, .nameAndType 57 58), (0, u "growth"), (0, u "(JJ)D"), (0, .methodref 18 60), (0, .nameAndType 61 22), (0, u "max"), (0, u "MAX_SHARE"), (1, u "MIN_SHARE"), (0, u "MOST_LAYER_COST"), (3, u "backwardTook"), (0, u "(JI)V"), (0, u "forwardTook"), (0, u "mayAddLayer"), (0, u "()Z")] 4

def k2c0 : Code := { maxStack := 3, maxLocals := 1, code := prog_128_method_1_code, exceptionTable := #[], attributes := #[] }
def k2m0 : Method := { name := "<init>", desc := "()V", sig := { parameters := [], returnType := none }, accessFlags := 0, code := some k2c0 }
def k2c1 : Code := { maxStack := 7, maxLocals := 4, code := prog_128_method_3_code, exceptionTable := #[], attributes := #[] }
def k2m1 : Method := { name := "backwardTook", desc := "(JI)V", sig := { parameters := [.long, .int], returnType := none }, accessFlags := 0, code := some k2c1 }
def k2c2 : Code := { maxStack := 5, maxLocals := 4, code := prog_128_method_4_code, exceptionTable := #[], attributes := #[] }
def k2m2 : Method := { name := "forwardTook", desc := "(JI)V", sig := { parameters := [.long, .int], returnType := none }, accessFlags := 0, code := some k2c2 }
def k2c3 : Code := { maxStack := 4, maxLocals := 1, code := prog_128_method_5_code, exceptionTable := #[], attributes := #[] }
def k2m3 : Method := { name := "mayAddLayer", desc := "()Z", sig := { parameters := [], returnType := some .boolean }, accessFlags := 0, code := some k2c3 }
def k2c4 : Code := { maxStack := 6, maxLocals := 2, code := prog_128_method_7_code, exceptionTable := #[], attributes := #[] }
def k2m4 : Method := { name := "share", desc := "()D", sig := { parameters := [], returnType := some .double }, accessFlags := 2, code := some k2c4 }
def k2c5 : Code := { maxStack := 6, maxLocals := 3, code := prog_128_method_8_code, exceptionTable := #[], attributes := #[] }
def k2m5 : Method := { name := "expectedLayerNanos", desc := "()D", sig := { parameters := [], returnType := some .double }, accessFlags := 2, code := some k2c5 }
def k2c6 : Code := { maxStack := 4, maxLocals := 4, code := prog_128_method_9_code, exceptionTable := #[], attributes := #[] }
def k2m6 : Method := { name := "growth", desc := "(JJ)D", sig := { parameters := [.long, .long], returnType := some .double }, accessFlags := 10, code := some k2c6 }
/-- com/example/ends_to_means/endstomeans/solver/ForwardPace -/
def k2 : Class := { plain "com/example/ends_to_means/endstomeans/solver/ForwardPace" (some 0) with
  accessFlags := 48
  interfaces := #[]
  cf := some (fileOf pool2 8 #[] #[{ accessFlags := 0, nameIndex := 5, descriptorIndex := 6, attributes := #[] }, { accessFlags := 0, nameIndex := 69, descriptorIndex := 70, attributes := #[] }, { accessFlags := 0, nameIndex := 71, descriptorIndex := 70, attributes := #[] }, { accessFlags := 0, nameIndex := 72, descriptorIndex := 73, attributes := #[] }, { accessFlags := 2, nameIndex := 35, descriptorIndex := 36, attributes := #[] }, { accessFlags := 2, nameIndex := 52, descriptorIndex := 36, attributes := #[] }, { accessFlags := 10, nameIndex := 57, descriptorIndex := 58, attributes := #[] }] 48 2 #[] #[{ accessFlags := 26, nameIndex := 62, descriptorIndex := 12, attributes := #[] }, { accessFlags := 26, nameIndex := 64, descriptorIndex := 12, attributes := #[] }, { accessFlags := 26, nameIndex := 65, descriptorIndex := 12, attributes := #[] }, { accessFlags := 2, nameIndex := 11, descriptorIndex := 12, attributes := #[] }, { accessFlags := 2, nameIndex := 25, descriptorIndex := 26, attributes := #[] }, { accessFlags := 2, nameIndex := 29, descriptorIndex := 26, attributes := #[] }, { accessFlags := 2, nameIndex := 32, descriptorIndex := 12, attributes := #[] }, { accessFlags := 2, nameIndex := 39, descriptorIndex := 40, attributes := #[] }, { accessFlags := 2, nameIndex := 49, descriptorIndex := 26, attributes := #[] }, { accessFlags := 2, nameIndex := 43, descriptorIndex := 26, attributes := #[] }, { accessFlags := 2, nameIndex := 46, descriptorIndex := 26, attributes := #[] }])
  fields := #[{ name := "MAX_SHARE", type := .double, accessFlags := 26, slot := 0, constantValue := 0 }, { name := "MIN_SHARE", type := .double, accessFlags := 26, slot := 1, constantValue := 0 }, { name := "MOST_LAYER_COST", type := .double, accessFlags := 26, slot := 2, constantValue := 0 }, { name := "growingShare", type := .double, accessFlags := 2, slot := 0, constantValue := 0 }, { name := "backwardNanos", type := .long, accessFlags := 2, slot := 1, constantValue := 0 }, { name := "backwardMoves", type := .long, accessFlags := 2, slot := 2, constantValue := 0 }, { name := "earnedNanos", type := .double, accessFlags := 2, slot := 3, constantValue := 0 }, { name := "layerMoves", type := .int, accessFlags := 2, slot := 4, constantValue := 0 }, { name := "lastLayerNanos", type := .long, accessFlags := 2, slot := 5, constantValue := 0 }, { name := "layerBeforeNanos", type := .long, accessFlags := 2, slot := 6, constantValue := 0 }, { name := "layerBeforeThatNanos", type := .long, accessFlags := 2, slot := 7, constantValue := 0 }]
  methods := #[k2m0, k2m1, k2m2, k2m3, k2m4, k2m5, k2m6]
  instanceTypes := #[.double, .long, .long, .double, .int, .long, .long, .long]
  staticTypes := #[.double, .double, .double]
  resolved := Array.replicate 78 none
  statics := none }

def pool3 : Array CpInfo := pool [(1, .class_ 2), (0, u "java/lang/Math"), (1, .class_ 6), (1, u "java/lang/Object"), (0, u "<init>"), (0, u "()V"), (43, u "(DD)D"), (45, .class_ 100), (1, u "java/lang/Math$RandomNumberGeneratorHolder"), (71, u "negativeZeroFloatBits"), (0, u "J"), (2, u "negativeZeroDoubleBits"), (21, u "max"), (2, u "min"), (43, u "$assertionsDisabled"), (0, u "Z"), (91, u "twoToTheDoubleScaleDown"), (0, u "D"), (4, u "twoToTheDoubleScaleUp"), (9, u "E"), (3, u "PI"), (2, u "TAU"), (2, u "DEGREES_TO_RADIANS"), (0, u "RADIANS_TO_DEGREES")] 94

def k3m0 : Method := { name := "<init>", desc := "()V", sig := { parameters := [], returnType := none }, accessFlags := 2, code := none }
def k3c1 : Code := { maxStack := 4, maxLocals := 4, code := jdk_29_method_68_code, exceptionTable := #[], attributes := #[] }
def k3m1 : Method := { name := "max", desc := "(DD)D", sig := { parameters := [.double, .double], returnType := some .double }, accessFlags := 9, code := some k3c1 }
def k3c2 : Code := { maxStack := 4, maxLocals := 4, code := jdk_29_method_72_code, exceptionTable := #[], attributes := #[] }
def k3m2 : Method := { name := "min", desc := "(DD)D", sig := { parameters := [.double, .double], returnType := some .double }, accessFlags := 9, code := some k3c2 }
/-- java/lang/Math -/
def k3 : Class := { plain "java/lang/Math" (some 0) with
  accessFlags := 49
  interfaces := #[]
  cf := some (fileOf pool3 1 #[.nestMembers #[98]] #[{ accessFlags := 2, nameIndex := 7, descriptorIndex := 8, attributes := #[] }, { accessFlags := 9, nameIndex := 198, descriptorIndex := 52, attributes := #[] }, { accessFlags := 9, nameIndex := 201, descriptorIndex := 52, attributes := #[] }] 49 4 #[] #[{ accessFlags := 25, nameIndex := 354, descriptorIndex := 339, attributes := #[] }, { accessFlags := 25, nameIndex := 358, descriptorIndex := 339, attributes := #[] }, { accessFlags := 25, nameIndex := 361, descriptorIndex := 339, attributes := #[] }, { accessFlags := 26, nameIndex := 364, descriptorIndex := 339, attributes := #[] }, { accessFlags := 26, nameIndex := 365, descriptorIndex := 339, attributes := #[] }, { accessFlags := 26, nameIndex := 172, descriptorIndex := 173, attributes := #[] }, { accessFlags := 26, nameIndex := 176, descriptorIndex := 173, attributes := #[] }, { accessFlags := 8, nameIndex := 344, descriptorIndex := 339, attributes := #[] }, { accessFlags := 8, nameIndex := 338, descriptorIndex := 339, attributes := #[] }, { accessFlags := 4120, nameIndex := 245, descriptorIndex := 246, attributes := #[] }])
  fields := #[{ name := "E", type := .double, accessFlags := 25, slot := 0, constantValue := 0 }, { name := "PI", type := .double, accessFlags := 25, slot := 1, constantValue := 0 }, { name := "TAU", type := .double, accessFlags := 25, slot := 2, constantValue := 0 }, { name := "DEGREES_TO_RADIANS", type := .double, accessFlags := 26, slot := 3, constantValue := 0 }, { name := "RADIANS_TO_DEGREES", type := .double, accessFlags := 26, slot := 4, constantValue := 0 }, { name := "negativeZeroFloatBits", type := .long, accessFlags := 26, slot := 5, constantValue := 0 }, { name := "negativeZeroDoubleBits", type := .long, accessFlags := 26, slot := 6, constantValue := 0 }, { name := "twoToTheDoubleScaleUp", type := .double, accessFlags := 8, slot := 7, constantValue := 0 }, { name := "twoToTheDoubleScaleDown", type := .double, accessFlags := 8, slot := 8, constantValue := 0 }, { name := "$assertionsDisabled", type := .boolean, accessFlags := 4120, slot := 9, constantValue := 0 }]
  methods := #[k3m0, k3m1, k3m2]
  instanceTypes := #[]
  staticTypes := #[.double, .double, .double, .double, .double, .long, .long, .double, .double, .boolean]
  resolved := Array.replicate 460 none
  statics := none }

def pool4 : Array CpInfo := pool [(1, u "java/lang/Cloneable"), (0, .class_ 1), (0, u "java/lang/Object"), (0, .class_ 3)] 3

/-- java/lang/Cloneable -/
def k4 : Class := { plain "java/lang/Cloneable" (some 0) with
  accessFlags := 1537
  interfaces := #[]
  cf := some (fileOf pool4 2 #[] #[] 1537 4 #[] #[])
  fields := #[]
  methods := #[]
  instanceTypes := #[]
  staticTypes := #[]
  resolved := Array.replicate 8 none
  statics := none }

def pool5 : Array CpInfo := pool [(1, u "java/io/Serializable"), (0, .class_ 1), (0, u "java/lang/Object"), (0, .class_ 3)] 3

/-- java/io/Serializable -/
def k5 : Class := { plain "java/io/Serializable" (some 0) with
  accessFlags := 1537
  interfaces := #[]
  cf := some (fileOf pool5 2 #[] #[] 1537 4 #[] #[])
  fields := #[]
  methods := #[]
  instanceTypes := #[]
  staticTypes := #[]
  resolved := Array.replicate 8 none
  statics := none }

/-- the primitive byte -/
def k6 : Class := { plain "byte" none with kind := .primitive 'B', accessFlags := 0x411 }
/-- [B -/
def k7 : Class := { plain "[B" (some 0) with kind := .array 6 .byte, interfaces := #[4, 5], accessFlags := 1041 }

/-- the primitive int -/
def k8 : Class := { plain "int" none with kind := .primitive 'I', accessFlags := 0x411 }
/-- [I -/
def k9 : Class := { plain "[I" (some 0) with kind := .array 8 .int, interfaces := #[4, 5], accessFlags := 1041 }

def heap : Heap := #[]
def classes : Array Class := #[k0, k1, k2, k3, k4, k5, k6, k7, k8, k9]
def interned : List (Array UInt16 × Addr) := []
def slotsUsed : Nat := 0
def theMethod : MethodId := ⟨1, 1⟩
def args0 : Array Value := #[.long 5, .long 6, .long 7, .long 8, .int 9, .int 10]
def aboutOver (below : List Frame) : State where
  vm := { classes := classes, interned := interned.toArray }
  heap := heap
  slotsUsed := slotsUsed
  threads := #[{ frames := .invoking theMethod args0 :: below }]
def below0 : List Frame := [.native { method := ⟨0, 0⟩, args := #[] }]
def about1 : State := aboutOver below0
def p0 : Program := .bare "" "" ""
def e0 : Env := launch0.env 0 0 0
theorem w_frames : about1.frames = Frame.invoking theMethod args0 :: below0 := rfl
set_option maxRecDepth 65536 in
theorem w_args : argsFit about1.vm theMethod args0 = true := by decide +kernel
set_option maxRecDepth 65536 in
theorem w_heap : heapFits about1 = true := by decide +kernel
set_option maxRecDepth 65536 in
theorem w_runnable : about1.curStatus? = some .runnable := by decide +kernel
set_option maxRecDepth 65536 in
theorem w_alone : about1.alone = true := by decide +kernel
set_option maxRecDepth 65536 in
theorem w_named : about1.methodNamed? x = some theMethod := by decide +kernel
set_option maxRecDepth 65536 in
theorem w_hears : about1.hears theMethod below0 = true := by decide +kernel
set_option maxRecDepth 65536 in
theorem w_ripe : about1.ripe theMethod args0 below0 = true := by decide +kernel
theorem w_running : about1.status = .running := rfl
set_option maxRecDepth 65536 in
theorem w_room : about1.hasRoom e0.platform room_1 = true :=
  launch0.hasRoom_least _ room_1 (by decide +kernel) (by decide +kernel) (by decide +kernel) (by decide +kernel) (by decide +kernel) (by decide +kernel)
theorem allAtoms_all (ts : List Jvm.Cond) (a : Array Jvm.Value) (st : Jvm.State) : (allAtoms ts).before a st = ts.all (fun c => c.before a st) := by
  induction ts with
  | nil => rfl
  | cons c t ih =>
    show (Jvm.Cond.and c (allAtoms t)).before a st = _
    rw [Jvm.Cond.before_and, ih, List.all_cons]
def words1 : List Jvm.Cond := Jvm.Cond.code x code maxLocals ret :: tables_1
/-- a 'code' word, met by the world's own term for the bytes: nothing is compared byte by byte -/
theorem code_word {y : MethodName} {bytes : ByteArray} {mx : Nat} {rt : Option FieldType} {a : Array Value} {s : State} {m : MethodId} {meth : Method} {c : Code} (h1 : s.methodNamed? y = some m) (h2 : s.vm.method? m = some meth) (h3 : meth.code = some c) (h4 : c.code = bytes)
    (h5 : (c.maxLocals == mx && c.exceptionTable.isEmpty && decide (c.maxStack ≤ mostOperands) && decide (meth.sig.returnType = rt) && !meth.locks && decide (parseMethodDescriptor y.desc = some meth.sig)) = true) : (Jvm.Cond.code y bytes mx rt).before a s = true := by
  simp only [Bool.and_eq_true, beq_iff_eq, Bool.not_eq_true', decide_eq_true_eq] at h5
  obtain ⟨⟨⟨⟨⟨g1, g2⟩, g3⟩, g4⟩, g5⟩, g6⟩ := h5
  simp [Cond.before, Cond.holds, Cond.value, h1, h2, h3, h4, g1, g2, g3, g4, g5, g6]
def isCode : Jvm.Cond → Bool
  | .code _ _ _ _ => true
  | _ => false
theorem all_split {L : List Jvm.Cond} {P : Jvm.Cond → Bool} (h1 : L.all (fun c => isCode c || P c) = true) (h2 : ∀ c ∈ L.filter isCode, P c = true) : L.all P = true := by
  refine List.all_eq_true.mpr fun c hc => ?_
  have h := List.all_eq_true.mp h1 c hc
  rcases Bool.eq_false_or_eq_true (isCode c) with hi | hi
  · exact h2 c (List.mem_filter.mpr ⟨hc, hi⟩)
  · simpa [hi] using h
set_option maxRecDepth 65536 in
theorem w_c0 : (Jvm.Cond.code x code maxLocals ret).before args0 about1 = true := code_word (m := ⟨1, 1⟩) (meth := k1m1) (c := k1c1) (by decide +kernel) rfl rfl rfl (by decide +kernel)
set_option maxRecDepth 65536 in
theorem w_c1 : (Jvm.Cond.code ({ cls := "com/example/ends_to_means/endstomeans/solver/ForwardPace", name := "<init>", desc := "()V" } : Jvm.MethodName) prog_128_method_1_code (1 : Nat) (Option.none : Option Jvm.ClassFile.FieldType)).before args0 about1 = true := code_word (m := ⟨2, 0⟩) (meth := k2m0) (c := k2c0) (by decide +kernel) rfl rfl rfl (by decide +kernel)
set_option maxRecDepth 65536 in
theorem w_c2 : (Jvm.Cond.code ({ cls := "java/lang/Object", name := "<init>", desc := "()V" } : Jvm.MethodName) object_method_1_code (1 : Nat) (Option.none : Option Jvm.ClassFile.FieldType)).before args0 about1 = true := code_word (m := ⟨0, 0⟩) (meth := k0m0) (c := k0c0) (by decide +kernel) rfl rfl rfl (by decide +kernel)
set_option maxRecDepth 65536 in
theorem w_c3 : (Jvm.Cond.code ({ cls := "com/example/ends_to_means/endstomeans/solver/ForwardPace", name := "backwardTook", desc := "(JI)V" } : Jvm.MethodName) prog_128_method_3_code (4 : Nat) (Option.none : Option Jvm.ClassFile.FieldType)).before args0 about1 = true := code_word (m := ⟨2, 1⟩) (meth := k2m1) (c := k2c1) (by decide +kernel) rfl rfl rfl (by decide +kernel)
set_option maxRecDepth 65536 in
theorem w_c4 : (Jvm.Cond.code ({ cls := "com/example/ends_to_means/endstomeans/solver/ForwardPace", name := "share", desc := "()D" } : Jvm.MethodName) prog_128_method_7_code (2 : Nat) (Option.some Jvm.ClassFile.FieldType.double)).before args0 about1 = true := code_word (m := ⟨2, 4⟩) (meth := k2m4) (c := k2c4) (by decide +kernel) rfl rfl rfl (by decide +kernel)
set_option maxRecDepth 65536 in
theorem w_c5 : (Jvm.Cond.code ({ cls := "com/example/ends_to_means/endstomeans/solver/ForwardPace", name := "forwardTook", desc := "(JI)V" } : Jvm.MethodName) prog_128_method_4_code (4 : Nat) (Option.none : Option Jvm.ClassFile.FieldType)).before args0 about1 = true := code_word (m := ⟨2, 2⟩) (meth := k2m2) (c := k2c2) (by decide +kernel) rfl rfl rfl (by decide +kernel)
set_option maxRecDepth 65536 in
theorem w_c6 : (Jvm.Cond.code ({ cls := "com/example/ends_to_means/endstomeans/solver/ForwardPace", name := "mayAddLayer", desc := "()Z" } : Jvm.MethodName) prog_128_method_5_code (1 : Nat) (Option.some Jvm.ClassFile.FieldType.boolean)).before args0 about1 = true := code_word (m := ⟨2, 3⟩) (meth := k2m3) (c := k2c3) (by decide +kernel) rfl rfl rfl (by decide +kernel)
set_option maxRecDepth 65536 in
theorem w_c7 : (Jvm.Cond.code ({ cls := "com/example/ends_to_means/endstomeans/solver/ForwardPace", name := "expectedLayerNanos", desc := "()D" } : Jvm.MethodName) prog_128_method_8_code (3 : Nat) (Option.some Jvm.ClassFile.FieldType.double)).before args0 about1 = true := code_word (m := ⟨2, 5⟩) (meth := k2m5) (c := k2c5) (by decide +kernel) rfl rfl rfl (by decide +kernel)
set_option maxRecDepth 65536 in
theorem w_c8 : (Jvm.Cond.code ({ cls := "com/example/ends_to_means/endstomeans/solver/ForwardPace", name := "growth", desc := "(JJ)D" } : Jvm.MethodName) prog_128_method_9_code (4 : Nat) (Option.some Jvm.ClassFile.FieldType.double)).before args0 about1 = true := code_word (m := ⟨2, 6⟩) (meth := k2m6) (c := k2c6) (by decide +kernel) rfl rfl rfl (by decide +kernel)
set_option maxRecDepth 65536 in
theorem w_c9 : (Jvm.Cond.code ({ cls := "java/lang/Math", name := "min", desc := "(DD)D" } : Jvm.MethodName) jdk_29_method_72_code (4 : Nat) (Option.some Jvm.ClassFile.FieldType.double)).before args0 about1 = true := code_word (m := ⟨3, 2⟩) (meth := k3m2) (c := k3c2) (by decide +kernel) rfl rfl rfl (by decide +kernel)
set_option maxRecDepth 65536 in
theorem w_c10 : (Jvm.Cond.code ({ cls := "java/lang/Math", name := "max", desc := "(DD)D" } : Jvm.MethodName) jdk_29_method_68_code (4 : Nat) (Option.some Jvm.ClassFile.FieldType.double)).before args0 about1 = true := code_word (m := ⟨3, 1⟩) (meth := k3m1) (c := k3c1) (by decide +kernel) rfl rfl rfl (by decide +kernel)
def codes1 : List Jvm.Cond := [Jvm.Cond.code x code maxLocals ret, Jvm.Cond.code ({ cls := "com/example/ends_to_means/endstomeans/solver/ForwardPace", name := "<init>", desc := "()V" } : Jvm.MethodName) prog_128_method_1_code (1 : Nat) (Option.none : Option Jvm.ClassFile.FieldType), Jvm.Cond.code ({ cls := "java/lang/Object", name := "<init>", desc := "()V" } : Jvm.MethodName) object_method_1_code (1 : Nat) (Option.none : Option Jvm.ClassFile.FieldType), Jvm.Cond.code ({ cls := "com/example/ends_to_means/endstomeans/solver/ForwardPace", name := "backwardTook", desc := "(JI)V" } : Jvm.MethodName) prog_128_method_3_code (4 : Nat) (Option.none : Option Jvm.ClassFile.FieldType), Jvm.Cond.code ({ cls := "com/example/ends_to_means/endstomeans/solver/ForwardPace", name := "share", desc := "()D" } : Jvm.MethodName) prog_128_method_7_code (2 : Nat) (Option.some Jvm.ClassFile.FieldType.double), Jvm.Cond.code ({ cls := "com/example/ends_to_means/endstomeans/solver/ForwardPace", name := "forwardTook", desc := "(JI)V" } : Jvm.MethodName) prog_128_method_4_code (4 : Nat) (Option.none : Option Jvm.ClassFile.FieldType), Jvm.Cond.code ({ cls := "com/example/ends_to_means/endstomeans/solver/ForwardPace", name := "mayAddLayer", desc := "()Z" } : Jvm.MethodName) prog_128_method_5_code (1 : Nat) (Option.some Jvm.ClassFile.FieldType.boolean), Jvm.Cond.code ({ cls := "com/example/ends_to_means/endstomeans/solver/ForwardPace", name := "expectedLayerNanos", desc := "()D" } : Jvm.MethodName) prog_128_method_8_code (3 : Nat) (Option.some Jvm.ClassFile.FieldType.double), Jvm.Cond.code ({ cls := "com/example/ends_to_means/endstomeans/solver/ForwardPace", name := "growth", desc := "(JJ)D" } : Jvm.MethodName) prog_128_method_9_code (4 : Nat) (Option.some Jvm.ClassFile.FieldType.double), Jvm.Cond.code ({ cls := "java/lang/Math", name := "min", desc := "(DD)D" } : Jvm.MethodName) jdk_29_method_72_code (4 : Nat) (Option.some Jvm.ClassFile.FieldType.double), Jvm.Cond.code ({ cls := "java/lang/Math", name := "max", desc := "(DD)D" } : Jvm.MethodName) jdk_29_method_68_code (4 : Nat) (Option.some Jvm.ClassFile.FieldType.double)]
set_option maxRecDepth 65536 in
theorem codes_eq : words1.filter isCode = codes1 := rfl
theorem w_codes : ∀ c ∈ words1.filter isCode, c.before args0 about1 = true := by
  rw [codes_eq]
  intro c hc
  simp only [codes1, List.mem_cons, List.not_mem_nil, or_false] at hc
  rcases hc with rfl | rfl | rfl | rfl | rfl | rfl | rfl | rfl | rfl | rfl | rfl
  · exact w_c0
  · exact w_c1
  · exact w_c2
  · exact w_c3
  · exact w_c4
  · exact w_c5
  · exact w_c6
  · exact w_c7
  · exact w_c8
  · exact w_c9
  · exact w_c10
set_option maxRecDepth 65536 in
theorem w_t1 : (words1.take 24).all (fun c => isCode c || c.before args0 about1) = true := by decide +kernel
set_option maxRecDepth 65536 in
theorem w_t2 : ((words1.drop 24).take 24).all (fun c => isCode c || c.before args0 about1) = true := by decide +kernel
set_option maxRecDepth 65536 in
theorem w_t3 : ((words1.drop 24).drop 24).all (fun c => isCode c || c.before args0 about1) = true := by decide +kernel
theorem w_tables : (allAtoms (Jvm.Cond.code x code maxLocals ret :: tables_1)).before args0 about1 = true := by
  rw [allAtoms_all]
  show words1.all (fun c => c.before args0 about1) = true
  refine all_split ?_ w_codes
  rw [← List.take_append_drop 24 words1, List.all_append, w_t1, ← List.take_append_drop 24 (words1.drop 24), List.all_append, w_t2, w_t3]
  rfl
set_option maxRecDepth 65536 in
theorem w_case : (Jvm.Cond.and given_1 narrow_1).before args0 about1 = true := by decide +kernel
theorem w_applies : (headSpec (Jvm.Cond.code x code maxLocals ret :: tables_1) room_1).applies x e0.platform about1 = true :=
  (Spec.applies_iff w_frames).mpr ⟨w_running, w_runnable, w_alone, w_named, w_hears, w_ripe, w_room, w_tables⟩
theorem atStart : AtStart classFile x code maxLocals ret World_1 tables_1 room_1 Calls_1 rest_1 Pre_1 launch0 p0 e0 about1 theMethod args0 below0 :=
  ⟨lists_1, trivial, launch0.admits_env _ _ _, launch0.least_env, fairChoices_fair.cas, fairChoices_fair.clock, w_frames, w_args, w_heap, w_applies, trivial, trivial, w_case⟩
end start1
theorem witness_1 : WitnessClaimed_1 := ⟨start1.p0, start1.e0, start1.about1, start1.theMethod, start1.args0, start1.below0, start1.atStart⟩
end Jvm.Pilot.@@N@@
