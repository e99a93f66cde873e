import JvmDerived
import JvmDerived.Pilot.@@N@@Statement
import JvmDerived.Pilot.@@N@@Code
set_option linter.unusedVariables false
set_option linter.unusedSimpArgs false
namespace Jvm.RoadKit
open Sem ClassFile Op Lib Jvm.Stand Jvm.Free Jvm.LawKit
section New
variable {p : Program} {l : Launch} {e : Env} {R : Room} {s : State} {m : MethodId} {args : Array Value} {below : List Frame} {meth : Method} {c : Code} {T : State} {locs : List Loc} {cells slots : Nat}
theorem retI (X : Stand p l e R s m args below meth c T locs cells slots) (hx : p.tables.exec = Jvm.exec) {pc : Nat} {Ls : Array Slot} {z : Int32} {rest : List Value} (hret : meth.sig.returnType = some .int) (hd : decode c.code pc = .ok (.ireturn, 1)) {fs : List Frame}
    (hl : ∀ (f : JFrame) (acts : List Action), f.method = m → f.locked = none → f.entered = [] → (doReturn e (T.setTop f) acts (some (.int z))).1 = T.setFrames fs) : Steps p.tables e below (T.setTop (mkF m pc Ls (.int z :: rest))) (T.setFrames fs) := by
  have hm' : T.vm.method? m = some meth := X.method'
  have hn : narrow .int (.int z) = .int z := rfl
  show Steps p.tables e below (T.setTop { method := m, pc := pc, locals := Ls, stack := _ :: rest, locked := none }) _
  jvm_step X.here [X.here.top, hx, hd, hm', hret, hn]
  first | (intro acts; rw [hl _ acts rfl rfl rfl]) | rw [hl _ _ rfl rfl rfl]
  exact Steps.refl _
end New
end Jvm.RoadKit
namespace Jvm.Pilot.@@N@@
open Jvm Jvm.ClassFile Sem Op Lib Jvm.Free Jvm.Stand Jvm.LawKit Jvm.RoadKit Bundle Jvm.Pilot.@@N@@.Jvm.D
/-- whoever reaches a target from the frame F of T reaches it from the frame F0 of T0 -/
def own_Go (p : Program) (e : Env) (below : List Frame) (T0 : State) (F0 : JFrame) (T : State) (F : JFrame) : Prop := ∀ target, Steps p.tables e below (T.setTop F) target → Steps p.tables e below (T0.setTop F0) target
theorem own_Go.refl {p : Program} {e : Env} {below : List Frame} {T : State} {F : JFrame} : own_Go p e below T F T F := fun _ k => k
theorem own_Go.trans {p : Program} {e : Env} {below : List Frame} {T0 T1 T2 : State} {F0 F1 F2 : JFrame} (a : own_Go p e below T0 F0 T1 F1) (b : own_Go p e below T1 F1 T2 F2) : own_Go p e below T0 F0 T2 F2 := fun t k => a t (b t k)

theorem pd_0 : parseMethodDescriptor "(JJJ)J" = some ⟨[.long, .long, .long], some .long⟩ := by decide +kernel
/-! plain laws -/
theorem own_mod (a m : Int64) (A M : Nat) (ha : a.toInt = A) (hm : m.toInt = M) : (a % m).toInt = ((A % M : Nat) : Int) := by
  rw [Int64.toInt_mod, ha, hm, Int.tmod_eq_emod_of_nonneg (Int.natCast_nonneg A)]
  rfl
theorem own_mul (a b : Int64) (A B M : Nat) (ha : a.toInt = A) (hb : b.toInt = B) (hA : A < M) (hB : B < M) (hM : M ≤ 2147483647) : (a * b).toInt = ((A * B : Nat) : Int) := by
  have h1 : A * B ≤ 2147483647 * 2147483647 := Nat.mul_le_mul (by omega) (by omega)
  have e : a.toInt * b.toInt = ((A * B : Nat) : Int) := by rw [ha, hb, Int.natCast_mul]
  rw [XT.mul64 (by rw [e]; constructor <;> omega), e]
theorem own_mm (a b m : Int64) (A B M : Nat) (ha : a.toInt = A) (hb : b.toInt = B) (hm : m.toInt = M) (hA : A < M) (hB : B < M) (hM : M ≤ 2147483647) : ((a * b) % m).toInt = ((A * B % M : Nat) : Int) :=
  own_mod _ _ _ _ (own_mul a b A B M ha hb hA hB hM) hm
theorem own_ne {m : Int64} {M : Nat} (hm : m.toInt = M) (h2 : 2 ≤ M) : m ≠ 0 := fun h => by
  rw [h, show (0 : Int64).toInt = 0 from rfl] at hm
  omega
theorem own_half (x : Int64) (K : Nat) (hx : x.toInt = K) : (x >>> ((1 : Int32).toInt64 &&& 63)).toInt = ((K / 2 : Nat) : Int) := by
  have h := c_lshr x 1 1 (by decide)
  rw [show ((1 : Int32).toInt64 &&& 63) = ((1 : Int32) &&& 0x3f).toInt64 from by decide +kernel, h, hx]
  rfl
theorem own_uhalf (x : Int64) (K : Nat) (hx : x.toInt = K) : (XT.ushrL x (1 : Int32)).toInt = ((K / 2 : Nat) : Int) := by
  have h := c_lushr x 1 1 (by decide) (by decide)
  have hl := x.toInt_lt
  unfold XT.ushrL
  rw [show ((1 : Int32).toInt64.toUInt64 &&& Int64.toUInt64 63) = ((1 : Int32) &&& 0x3f).toInt64.toUInt64 from by decide +kernel, h, hx]
  rw [hx] at hl
  omega
theorem own_odd (x : Int64) (K : Nat) (hx : x.toInt = K) : (x &&& (1 : Int64)) = (0 : Int64) ↔ K % 2 = 0 := by
  rw [← Int64.toInt_inj, c_maskL x 1 1 (by decide) (by decide), hx, show (0 : Int64).toInt = 0 from rfl]
  omega
theorem own_pow (R S K M : Nat) : (if K % 2 = 0 then R else R * S % M) * (S * S % M) ^ (K / 2) % M = R * S ^ K % M := by
  have h : S ^ K = (S * S) ^ (K / 2) * S ^ (K % 2) := by
    rw [← Nat.pow_two, ← Nat.pow_mul, ← Nat.pow_add, Nat.div_add_mod]
  rcases Nat.mod_two_eq_zero_or_one K with h0 | h0
  · rw [if_pos h0, h, h0, Nat.pow_zero, Nat.mul_one, Nat.mul_mod, ← Nat.pow_mod, ← Nat.mul_mod]
  · rw [if_neg (by omega), h, h0, Nat.pow_one, Nat.mul_mod, Nat.mod_mod, ← Nat.pow_mod, ← Nat.mul_mod, Nat.mul_assoc, Nat.mul_comm S]
theorem own_last (B E M : Nat) : (if E % 2 = 0 then (B ^ (E / 2) % M) * (B ^ (E / 2) % M) % M else ((B ^ (E / 2) % M) * (B ^ (E / 2) % M) % M) * (B % M) % M) = B ^ E % M := by
  have h : B ^ E = B ^ (E / 2) * B ^ (E / 2) * B ^ (E % 2) := by
    rw [← Nat.pow_add, ← Nat.pow_add]
    congr 1
    omega
  rcases Nat.mod_two_eq_zero_or_one E with h0 | h0
  · rw [if_pos h0, h, h0, Nat.pow_zero, Nat.mul_one, ← Nat.mul_mod]
  · rw [if_neg (by omega), h, h0, Nat.pow_one, ← Nat.mul_mod (B ^ (E / 2)) (B ^ (E / 2)) M, ← Nat.mul_mod]
theorem own_mask (x : Int64) : ∃ B : Nat, (x &&& (9223372036854775807 : Int64)).toInt = (B : Int) := by
  have h := c_maskL x 9223372036854775807 63 (by decide) (by decide)
  exact ⟨(x.toInt % ((2 ^ 63 : Nat) : Int)).toNat, by rw [h]; omega⟩
theorem own_modulus (x : Int64) : ∃ M : Nat, ((2 : Int64) + ((x &&& (2147483647 : Int64)) % (2147483646 : Int64))).toInt = (M : Int) ∧ 2 ≤ M ∧ M ≤ 2147483647 := by
  have h := c_maskL x 2147483647 31 (by decide) (by decide)
  obtain ⟨N, hN⟩ : ∃ N : Nat, (x &&& (2147483647 : Int64)).toInt = (N : Int) := ⟨(x.toInt % ((2 ^ 31 : Nat) : Int)).toNat, by rw [h]; omega⟩
  have h2 := own_mod (x &&& (2147483647 : Int64)) (2147483646 : Int64) N 2147483646 hN rfl
  have h3 : N % 2147483646 < 2147483646 := Nat.mod_lt _ (by decide)
  refine ⟨2 + N % 2147483646, ?_, by omega, by omega⟩
  rw [XT.add64 (by rw [h2, show (2 : Int64).toInt = 2 from rfl]; constructor <;> omega), h2, show (2 : Int64).toInt = 2 from rfl]
  omega
theorem own_eq {a b : Int64} {A : Nat} (ha : a.toInt = A) (hb : b.toInt = A) : a = b := Int64.toInt_inj.mp (ha.trans hb.symm)
theorem own_lt {a b : Int64} {A B : Nat} (ha : a.toInt = A) (hb : b.toInt = B) (h : A < B) : a < b := by
  rw [Int64.lt_iff_toInt_lt, ha, hb]
  omega
theorem own_nneg {a : Int64} {A : Nat} (ha : a.toInt = A) : ¬ a < (0 : Int64) := by
  rw [Int64.lt_iff_toInt_lt, ha, show (0 : Int64).toInt = 0 from rfl]
  omega
section OwnRem
variable {p : Program} {l : Launch} {e : Env} {R : Room} {s : State} {m : MethodId} {args : Array Value} {below : List Frame} {meth : Method} {c : Code} {T : State} {locs : List Loc} {cells slots : Nat}
theorem own_irem {g : JFrame} {target : State} (X : Stand p l e R s m args below meth c T locs cells slots) (hx : p.tables.exec = Jvm.exec) (hg : g.method = m) {x y : Int32} {rest : List Value} (hd : decode c.code g.pc = .ok (.irem, 1)) (hs : g.stack = .int y :: .int x :: rest) (hy : y ≠ 0)
    (hr : Steps p.tables e below (T.setTop { g with pc := g.pc + 1, stack := .int (x % y) :: rest }) target) : Steps p.tables e below (T.setTop g) target := iremM X hx hg hd hs hy hr
theorem own_lrem {g : JFrame} {target : State} (X : Stand p l e R s m args below meth c T locs cells slots) (hx : p.tables.exec = Jvm.exec) (hg : g.method = m) {x y : Int64} {rest : List Value} (hd : decode c.code g.pc = .ok (.lrem, 1)) (hs : g.stack = .long y :: .long x :: rest) (hy : y ≠ 0)
    (hr : Steps p.tables e below (T.setTop { g with pc := g.pc + 1, stack := .long (x % y) :: rest }) target) : Steps p.tables e below (T.setTop g) target := by
  refine XT.lrem X.here hx hg hd hs hy ?_
  rw [lrem_mod]
  exact hr
end OwnRem

theorem d1_0 : decode prog_76_method_6_code 0 = .ok (.lconst 1, 1) := by decide +kernel
theorem d1_1 : decode prog_76_method_6_code 1 = .ok (.lstore 6, 2) := by decide +kernel
theorem d1_3 : decode prog_76_method_6_code 3 = .ok (.lload_n 0, 1) := by decide +kernel
theorem d1_4 : decode prog_76_method_6_code 4 = .ok (.lload 4, 2) := by decide +kernel
theorem d1_6 : decode prog_76_method_6_code 6 = .ok (.lrem, 1) := by decide +kernel
theorem d1_7 : decode prog_76_method_6_code 7 = .ok (.lstore 8, 2) := by decide +kernel
theorem d1_9 : decode prog_76_method_6_code 9 = .ok (.lload_n 2, 1) := by decide +kernel
theorem d1_10 : decode prog_76_method_6_code 10 = .ok (.lstore 10, 2) := by decide +kernel
theorem d1_12 : decode prog_76_method_6_code 12 = .ok (.lload 10, 2) := by decide +kernel
theorem d1_14 : decode prog_76_method_6_code 14 = .ok (.lconst 0, 1) := by decide +kernel
theorem d1_15 : decode prog_76_method_6_code 15 = .ok (.lcmp, 1) := by decide +kernel
theorem d1_16 : decode prog_76_method_6_code 16 = .ok (.ifCond .le 41, 3) := by decide +kernel
theorem d1_19 : decode prog_76_method_6_code 19 = .ok (.lload 10, 2) := by decide +kernel
theorem d1_21 : decode prog_76_method_6_code 21 = .ok (.lconst 1, 1) := by decide +kernel
theorem d1_22 : decode prog_76_method_6_code 22 = .ok (.land, 1) := by decide +kernel
theorem d1_23 : decode prog_76_method_6_code 23 = .ok (.lconst 0, 1) := by decide +kernel
theorem d1_24 : decode prog_76_method_6_code 24 = .ok (.lcmp, 1) := by decide +kernel
theorem d1_25 : decode prog_76_method_6_code 25 = .ok (.ifCond .eq 13, 3) := by decide +kernel
theorem d1_28 : decode prog_76_method_6_code 28 = .ok (.lload 6, 2) := by decide +kernel
theorem d1_30 : decode prog_76_method_6_code 30 = .ok (.lload 8, 2) := by decide +kernel
theorem d1_32 : decode prog_76_method_6_code 32 = .ok (.lmul, 1) := by decide +kernel
theorem d1_33 : decode prog_76_method_6_code 33 = .ok (.lload 4, 2) := by decide +kernel
theorem d1_35 : decode prog_76_method_6_code 35 = .ok (.lrem, 1) := by decide +kernel
theorem d1_36 : decode prog_76_method_6_code 36 = .ok (.lstore 6, 2) := by decide +kernel
theorem d1_38 : decode prog_76_method_6_code 38 = .ok (.lload 8, 2) := by decide +kernel
theorem d1_40 : decode prog_76_method_6_code 40 = .ok (.lload 8, 2) := by decide +kernel
theorem d1_42 : decode prog_76_method_6_code 42 = .ok (.lmul, 1) := by decide +kernel
theorem d1_43 : decode prog_76_method_6_code 43 = .ok (.lload 4, 2) := by decide +kernel
theorem d1_45 : decode prog_76_method_6_code 45 = .ok (.lrem, 1) := by decide +kernel
theorem d1_46 : decode prog_76_method_6_code 46 = .ok (.lstore 8, 2) := by decide +kernel
theorem d1_48 : decode prog_76_method_6_code 48 = .ok (.lload 10, 2) := by decide +kernel
theorem d1_50 : decode prog_76_method_6_code 50 = .ok (.iconst 1, 1) := by decide +kernel
theorem d1_51 : decode prog_76_method_6_code 51 = .ok (.lshr, 1) := by decide +kernel
theorem d1_52 : decode prog_76_method_6_code 52 = .ok (.lstore 10, 2) := by decide +kernel
theorem d1_54 : decode prog_76_method_6_code 54 = .ok (.goto (-42), 3) := by decide +kernel
theorem d1_57 : decode prog_76_method_6_code 57 = .ok (.lload 6, 2) := by decide +kernel
theorem d1_59 : decode prog_76_method_6_code 59 = .ok (.lreturn, 1) := by decide +kernel
theorem pn_rm1 : plainName "com/example/dichotome/dichotome/algebra/PrimeBasis" = true := by first | (simp [plainName, overriddenIn]; done) | decide +kernel
theorem ef_rm1 (m : MethodId) (bb : Int64) (ee : Int64) (mm : Int64) : entryFrame m #[(.long bb), (.long ee), (.long mm)] 12 = mkF m 0 #[.val (.long bb), .second, .val (.long ee), .second, .val (.long mm), .second, .unset, .unset, .unset, .unset, .unset, .unset] [] := by first | (simp [entryFrame, mkF, argsToLocals, Value.category]; done) | rfl
def Q_rm1 (Z : State) (bb : Int64) (ee : Int64) (mm : Int64) (B E M : Nat) (h0 : Heap) (n0 : Nat) (v : Option Value) (h : Heap) (L : List Loc) : Prop := ∃ r : Int64, v = some (.long r) ∧ r.toInt = ((B ^ E % M : Nat) : Int) ∧ Fr n0 L ∧ h = h0
set_option maxRecDepth 65536 in
set_option maxHeartbeats 40000000 in
theorem rm1 (l : Launch) (Z : State) (a0 : Array Value) (hw : ∀ d ∈ tables_1, d.before a0 Z = true) (ws : List Jvm.Cond) (bb : Int64) (ee : Int64) (mm : Int64) (B E M : Nat) (h0 : Heap) (n0 : Nat) (Z0 : n0 ≤ h0.size) (hb0 : bb.toInt = (B : Int)) (he0 : ee.toInt = (E : Int)) (hm0 : mm.toInt = (M : Int)) (hM2 : 2 ≤ M) (hM : M ≤ 2147483647) :
    MetFree l (⟨"com/example/dichotome/dichotome/algebra/PrimeBasis", "power", "(JJJ)J"⟩ : MethodName) (head1 (Jvm.Cond.code (⟨"com/example/dichotome/dichotome/algebra/PrimeBasis", "power", "(JJJ)J"⟩ : MethodName) prog_76_method_6_code 12 (some .long) :: ws) ({ frames := 0, cells := 0, slots := 0, locals := 0 } : Room)) (fun a U => a = #[(.long bb), (.long ee), (.long mm)] ∧ Z.Warmed39 U.vm ∧ U.heap = h0) (fun _ _ _ _ _ => True) (fun _ U o U' => ∃ v L, o = .returned v ∧ Q_rm1 Z bb ee mm B E M h0 n0 v U'.heap L ∧ FrameEnd U o U' L ({ frames := 0, cells := 0, slots := 0, locals := 0 } : Room).cells ({ frames := 0, cells := 0, slots := 0, locals := 0 } : Room).slots) := by
  refine MetFree.of_bodySF (plainFor_of_name pn_rm1) hisR ?_
  intro p e s m args below meth c s₁ Bd hml0 hP hK
  obtain ⟨rfl, hZ, hh⟩ := hP
  have hx := Bd.exec
  have hby := Bd.bytes
  have hml : c.maxLocals = 12 := hml0
  have hown : s.vm.findClass "com/example/dichotome/dichotome/algebra/PrimeBasis" = some m.cls := findClass_of_methodNamed Bd.named
  have hnm := (name_of_methodNamed Bd.named Bd.method).1
  have X0 : Stand p l e ({ frames := 0, cells := 0, slots := 0, locals := 0 } : Room) s m #[(.long bb), (.long ee), (.long mm)] below meth c s₁ [] 0 0 := Stand.of_body Bd
  have e0 : s₁.heap = h0 := by rw [← hh, Bd.state]; rfl
  have N0 := Fr.nil n0
  have g0 : own_Go p e below s₁ (entryFrame m #[(.long bb), (.long ee), (.long mm)] 12) s₁ (mkF m 0 #[.val (.long bb), .second, .val (.long ee), .second, .val (.long mm), .second, .unset, .unset, .unset, .unset, .unset, .unset] []) := fun t k => castTop (ef_rm1 m bb ee mm) k
  have hne : mm ≠ 0 := own_ne hm0 hM2
  have loop : ∀ (K : Nat) (r q xx : Int64) (R S : Nat), xx.toInt = (K : Int) → r.toInt = (R : Int) → q.toInt = (S : Int) → R < M → S < M →
      ∃ r' q' x' : Int64, r'.toInt = ((R * S ^ K % M : Nat) : Int) ∧ own_Go p e below s₁ (mkF m 12 #[.val (.long bb), .second, .val (.long ee), .second, .val (.long mm), .second, .val (.long r), .second, .val (.long q), .second, .val (.long xx), .second] []) s₁ (mkF m 57 #[.val (.long bb), .second, .val (.long ee), .second, .val (.long mm), .second, .val (.long r'), .second, .val (.long q'), .second, .val (.long x'), .second] []) := by
    intro K
    induction K using Nat.strongRecOn with
    | ind K ih =>
      intro r q xx R S hX hR hS hRM hSM
      by_cases hpos : (0 : Int64) < xx
      · have g1 : own_Go p e below s₁ (mkF m 12 #[.val (.long bb), .second, .val (.long ee), .second, .val (.long mm), .second, .val (.long r), .second, .val (.long q), .second, .val (.long xx), .second] []) s₁ (mkF m 19 #[.val (.long bb), .second, .val (.long ee), .second, .val (.long mm), .second, .val (.long r), .second, .val (.long q), .second, .val (.long xx), .second] []) := by
          intro target kt
          refine XT.lload X0.here hx rfl (hb hby d1_12) rfl ?_
          show Steps p.tables e below (s₁.setTop (mkF m 14 #[.val (.long bb), .second, .val (.long ee), .second, .val (.long mm), .second, .val (.long r), .second, .val (.long q), .second, .val (.long xx), .second] [(.long xx)])) target
          refine XT.lconstV X0.here hx rfl (0 : Int64) (hb hby d1_14) rfl ?_
          show Steps p.tables e below (s₁.setTop (mkF m 15 #[.val (.long bb), .second, .val (.long ee), .second, .val (.long mm), .second, .val (.long r), .second, .val (.long q), .second, .val (.long xx), .second] [(.long (0 : Int64)), (.long xx)])) target
          refine XT.lcmp X0.here hx rfl (hb hby d1_15) rfl ?_
          show Steps p.tables e below (s₁.setTop (mkF m 16 #[.val (.long bb), .second, .val (.long ee), .second, .val (.long mm), .second, .val (.long r), .second, .val (.long q), .second, .val (.long xx), .second] [(.int (XT.cmpL xx (0 : Int64)))])) target
          refine XS.ifNo X0.here hx rfl (hb hby d1_16) rfl (XT.ll_le_f hpos) ?_
          show Steps p.tables e below (s₁.setTop (mkF m 19 #[.val (.long bb), .second, .val (.long ee), .second, .val (.long mm), .second, .val (.long r), .second, .val (.long q), .second, .val (.long xx), .second] [])) target
          exact kt
        obtain ⟨r2, hm6, g6⟩ : ∃ (r2 : Int64), (r2 = (if (xx &&& (1 : Int64)) = (0 : Int64) then r else ((r * q) % mm))) ∧ own_Go p e below s₁ (mkF m 12 #[.val (.long bb), .second, .val (.long ee), .second, .val (.long mm), .second, .val (.long r), .second, .val (.long q), .second, .val (.long xx), .second] []) s₁ (mkF m 38 #[.val (.long bb), .second, .val (.long ee), .second, .val (.long mm), .second, .val (.long r2), .second, .val (.long q), .second, .val (.long xx), .second] []) := by
          have g2 : own_Go p e below s₁ (mkF m 12 #[.val (.long bb), .second, .val (.long ee), .second, .val (.long mm), .second, .val (.long r), .second, .val (.long q), .second, .val (.long xx), .second] []) s₁ (mkF m 25 #[.val (.long bb), .second, .val (.long ee), .second, .val (.long mm), .second, .val (.long r), .second, .val (.long q), .second, .val (.long xx), .second] [(.int (XT.cmpL (xx &&& (1 : Int64)) (0 : Int64)))]) := by
            intro target kt
            refine g1 target ?_
            refine XT.lload X0.here hx rfl (hb hby d1_19) rfl ?_
            show Steps p.tables e below (s₁.setTop (mkF m 21 #[.val (.long bb), .second, .val (.long ee), .second, .val (.long mm), .second, .val (.long r), .second, .val (.long q), .second, .val (.long xx), .second] [(.long xx)])) target
            refine XT.lconstV X0.here hx rfl (1 : Int64) (hb hby d1_21) rfl ?_
            show Steps p.tables e below (s₁.setTop (mkF m 22 #[.val (.long bb), .second, .val (.long ee), .second, .val (.long mm), .second, .val (.long r), .second, .val (.long q), .second, .val (.long xx), .second] [(.long (1 : Int64)), (.long xx)])) target
            refine XT.land X0.here hx rfl (hb hby d1_22) rfl ?_
            show Steps p.tables e below (s₁.setTop (mkF m 23 #[.val (.long bb), .second, .val (.long ee), .second, .val (.long mm), .second, .val (.long r), .second, .val (.long q), .second, .val (.long xx), .second] [(.long (xx &&& (1 : Int64)))])) target
            refine XT.lconstV X0.here hx rfl (0 : Int64) (hb hby d1_23) rfl ?_
            show Steps p.tables e below (s₁.setTop (mkF m 24 #[.val (.long bb), .second, .val (.long ee), .second, .val (.long mm), .second, .val (.long r), .second, .val (.long q), .second, .val (.long xx), .second] [(.long (0 : Int64)), (.long (xx &&& (1 : Int64)))])) target
            refine XT.lcmp X0.here hx rfl (hb hby d1_24) rfl ?_
            show Steps p.tables e below (s₁.setTop (mkF m 25 #[.val (.long bb), .second, .val (.long ee), .second, .val (.long mm), .second, .val (.long r), .second, .val (.long q), .second, .val (.long xx), .second] [(.int (XT.cmpL (xx &&& (1 : Int64)) (0 : Int64)))])) target
            exact kt
          by_cases hc3 : (xx &&& (1 : Int64)) = (0 : Int64)
          · have g4 : own_Go p e below s₁ (mkF m 12 #[.val (.long bb), .second, .val (.long ee), .second, .val (.long mm), .second, .val (.long r), .second, .val (.long q), .second, .val (.long xx), .second] []) s₁ (mkF m 38 #[.val (.long bb), .second, .val (.long ee), .second, .val (.long mm), .second, .val (.long r), .second, .val (.long q), .second, .val (.long xx), .second] []) := by
              intro target kt
              refine g2 target ?_
              refine XS.ifYes X0.here hx rfl (pc0 := 25) (pc' := 38) rfl (hb hby d1_25) rfl (XT.ll_eq_t hc3) (by decide) (by decide) ?_
              show Steps p.tables e below (s₁.setTop (mkF m 38 #[.val (.long bb), .second, .val (.long ee), .second, .val (.long mm), .second, .val (.long r), .second, .val (.long q), .second, .val (.long xx), .second] [])) target
              exact kt
            exact ⟨r, (by simp only [if_pos hc3]), g4⟩
          · have g5 : own_Go p e below s₁ (mkF m 12 #[.val (.long bb), .second, .val (.long ee), .second, .val (.long mm), .second, .val (.long r), .second, .val (.long q), .second, .val (.long xx), .second] []) s₁ (mkF m 38 #[.val (.long bb), .second, .val (.long ee), .second, .val (.long mm), .second, .val (.long ((r * q) % mm)), .second, .val (.long q), .second, .val (.long xx), .second] []) := by
              intro target kt
              refine g2 target ?_
              refine XS.ifNo X0.here hx rfl (hb hby d1_25) rfl (XT.ll_eq_f hc3) ?_
              show Steps p.tables e below (s₁.setTop (mkF m 28 #[.val (.long bb), .second, .val (.long ee), .second, .val (.long mm), .second, .val (.long r), .second, .val (.long q), .second, .val (.long xx), .second] [])) target
              refine XT.lload X0.here hx rfl (hb hby d1_28) rfl ?_
              show Steps p.tables e below (s₁.setTop (mkF m 30 #[.val (.long bb), .second, .val (.long ee), .second, .val (.long mm), .second, .val (.long r), .second, .val (.long q), .second, .val (.long xx), .second] [(.long r)])) target
              refine XT.lload X0.here hx rfl (hb hby d1_30) rfl ?_
              show Steps p.tables e below (s₁.setTop (mkF m 32 #[.val (.long bb), .second, .val (.long ee), .second, .val (.long mm), .second, .val (.long r), .second, .val (.long q), .second, .val (.long xx), .second] [(.long q), (.long r)])) target
              refine XT.lmul X0.here hx rfl (hb hby d1_32) rfl ?_
              show Steps p.tables e below (s₁.setTop (mkF m 33 #[.val (.long bb), .second, .val (.long ee), .second, .val (.long mm), .second, .val (.long r), .second, .val (.long q), .second, .val (.long xx), .second] [(.long (r * q))])) target
              refine XT.lload X0.here hx rfl (hb hby d1_33) rfl ?_
              show Steps p.tables e below (s₁.setTop (mkF m 35 #[.val (.long bb), .second, .val (.long ee), .second, .val (.long mm), .second, .val (.long r), .second, .val (.long q), .second, .val (.long xx), .second] [(.long mm), (.long (r * q))])) target
              refine own_lrem X0 hx rfl (hb hby d1_35) rfl hne ?_
              show Steps p.tables e below (s₁.setTop (mkF m 36 #[.val (.long bb), .second, .val (.long ee), .second, .val (.long mm), .second, .val (.long r), .second, .val (.long q), .second, .val (.long xx), .second] [(.long ((r * q) % mm))])) target
              refine XT.lstore X0.here hx rfl (hb hby d1_36) rfl (l' := #[.val (.long bb), .second, .val (.long ee), .second, .val (.long mm), .second, .val (.long ((r * q) % mm)), .second, .val (.long q), .second, .val (.long xx), .second]) rfl ?_
              show Steps p.tables e below (s₁.setTop (mkF m 38 #[.val (.long bb), .second, .val (.long ee), .second, .val (.long mm), .second, .val (.long ((r * q) % mm)), .second, .val (.long q), .second, .val (.long xx), .second] [])) target
              exact kt
            exact ⟨((r * q) % mm), (by simp only [if_neg hc3]), g5⟩
        have hR2 : r2.toInt = ((if K % 2 = 0 then R else R * S % M : Nat) : Int) := by
          by_cases hk : K % 2 = 0
          · rw [hm6, if_pos ((own_odd xx K hX).mpr hk), if_pos hk, hR]
          · rw [hm6, if_neg (fun h => hk ((own_odd xx K hX).mp h)), if_neg hk]
            exact own_mm r q mm R S M hR hS hm0 hRM hSM hM
        have hR2M : (if K % 2 = 0 then R else R * S % M) < M := by
          split
          · exact hRM
          · exact Nat.mod_lt _ (by omega)
        have g7 : own_Go p e below s₁ (mkF m 12 #[.val (.long bb), .second, .val (.long ee), .second, .val (.long mm), .second, .val (.long r), .second, .val (.long q), .second, .val (.long xx), .second] []) s₁ (mkF m 12 #[.val (.long bb), .second, .val (.long ee), .second, .val (.long mm), .second, .val (.long r2), .second, .val (.long ((q * q) % mm)), .second, .val (.long (xx >>> ((1 : Int32).toInt64 &&& 63))), .second] []) := by
          intro target kt
          refine g6 target ?_
          refine XT.lload X0.here hx rfl (hb hby d1_38) rfl ?_
          show Steps p.tables e below (s₁.setTop (mkF m 40 #[.val (.long bb), .second, .val (.long ee), .second, .val (.long mm), .second, .val (.long r2), .second, .val (.long q), .second, .val (.long xx), .second] [(.long q)])) target
          refine XT.lload X0.here hx rfl (hb hby d1_40) rfl ?_
          show Steps p.tables e below (s₁.setTop (mkF m 42 #[.val (.long bb), .second, .val (.long ee), .second, .val (.long mm), .second, .val (.long r2), .second, .val (.long q), .second, .val (.long xx), .second] [(.long q), (.long q)])) target
          refine XT.lmul X0.here hx rfl (hb hby d1_42) rfl ?_
          show Steps p.tables e below (s₁.setTop (mkF m 43 #[.val (.long bb), .second, .val (.long ee), .second, .val (.long mm), .second, .val (.long r2), .second, .val (.long q), .second, .val (.long xx), .second] [(.long (q * q))])) target
          refine XT.lload X0.here hx rfl (hb hby d1_43) rfl ?_
          show Steps p.tables e below (s₁.setTop (mkF m 45 #[.val (.long bb), .second, .val (.long ee), .second, .val (.long mm), .second, .val (.long r2), .second, .val (.long q), .second, .val (.long xx), .second] [(.long mm), (.long (q * q))])) target
          refine own_lrem X0 hx rfl (hb hby d1_45) rfl hne ?_
          show Steps p.tables e below (s₁.setTop (mkF m 46 #[.val (.long bb), .second, .val (.long ee), .second, .val (.long mm), .second, .val (.long r2), .second, .val (.long q), .second, .val (.long xx), .second] [(.long ((q * q) % mm))])) target
          refine XT.lstore X0.here hx rfl (hb hby d1_46) rfl (l' := #[.val (.long bb), .second, .val (.long ee), .second, .val (.long mm), .second, .val (.long r2), .second, .val (.long ((q * q) % mm)), .second, .val (.long xx), .second]) rfl ?_
          show Steps p.tables e below (s₁.setTop (mkF m 48 #[.val (.long bb), .second, .val (.long ee), .second, .val (.long mm), .second, .val (.long r2), .second, .val (.long ((q * q) % mm)), .second, .val (.long xx), .second] [])) target
          refine XT.lload X0.here hx rfl (hb hby d1_48) rfl ?_
          show Steps p.tables e below (s₁.setTop (mkF m 50 #[.val (.long bb), .second, .val (.long ee), .second, .val (.long mm), .second, .val (.long r2), .second, .val (.long ((q * q) % mm)), .second, .val (.long xx), .second] [(.long xx)])) target
          refine XT.iconstV X0.here hx rfl (1 : Int32) (hb hby d1_50) rfl ?_
          show Steps p.tables e below (s₁.setTop (mkF m 51 #[.val (.long bb), .second, .val (.long ee), .second, .val (.long mm), .second, .val (.long r2), .second, .val (.long ((q * q) % mm)), .second, .val (.long xx), .second] [(.int (1 : Int32)), (.long xx)])) target
          refine XT.lshr X0.here hx rfl (hb hby d1_51) rfl ?_
          show Steps p.tables e below (s₁.setTop (mkF m 52 #[.val (.long bb), .second, .val (.long ee), .second, .val (.long mm), .second, .val (.long r2), .second, .val (.long ((q * q) % mm)), .second, .val (.long xx), .second] [(.long (xx >>> ((1 : Int32).toInt64 &&& 63)))])) target
          refine XT.lstore X0.here hx rfl (hb hby d1_52) rfl (l' := #[.val (.long bb), .second, .val (.long ee), .second, .val (.long mm), .second, .val (.long r2), .second, .val (.long ((q * q) % mm)), .second, .val (.long (xx >>> ((1 : Int32).toInt64 &&& 63))), .second]) rfl ?_
          show Steps p.tables e below (s₁.setTop (mkF m 54 #[.val (.long bb), .second, .val (.long ee), .second, .val (.long mm), .second, .val (.long r2), .second, .val (.long ((q * q) % mm)), .second, .val (.long (xx >>> ((1 : Int32).toInt64 &&& 63))), .second] [])) target
          refine XS.goto X0.here hx rfl (pc0 := 54) (pc' := 12) rfl (hb hby d1_54) (by decide) (by decide) ?_
          show Steps p.tables e below (s₁.setTop (mkF m 12 #[.val (.long bb), .second, .val (.long ee), .second, .val (.long mm), .second, .val (.long r2), .second, .val (.long ((q * q) % mm)), .second, .val (.long (xx >>> ((1 : Int32).toInt64 &&& 63))), .second] [])) target
          exact kt
        have hKpos : 0 < K := by
          rw [Int64.lt_iff_toInt_lt, hX, show (0 : Int64).toInt = 0 from rfl] at hpos
          omega
        obtain ⟨r', q', x', hr', g'⟩ := ih (K / 2) (by omega) r2 ((q * q) % mm) (xx >>> ((1 : Int32).toInt64 &&& 63)) _ (S * S % M) (own_half xx K hX) hR2 (own_mm q q mm S S M hS hS hm0 hSM hSM hM) hR2M (Nat.mod_lt _ (by omega))
        exact ⟨r', q', x', by rw [hr', own_pow], own_Go.trans g7 g'⟩
      · have g8 : own_Go p e below s₁ (mkF m 12 #[.val (.long bb), .second, .val (.long ee), .second, .val (.long mm), .second, .val (.long r), .second, .val (.long q), .second, .val (.long xx), .second] []) s₁ (mkF m 57 #[.val (.long bb), .second, .val (.long ee), .second, .val (.long mm), .second, .val (.long r), .second, .val (.long q), .second, .val (.long xx), .second] []) := by
          intro target kt
          refine XT.lload X0.here hx rfl (hb hby d1_12) rfl ?_
          show Steps p.tables e below (s₁.setTop (mkF m 14 #[.val (.long bb), .second, .val (.long ee), .second, .val (.long mm), .second, .val (.long r), .second, .val (.long q), .second, .val (.long xx), .second] [(.long xx)])) target
          refine XT.lconstV X0.here hx rfl (0 : Int64) (hb hby d1_14) rfl ?_
          show Steps p.tables e below (s₁.setTop (mkF m 15 #[.val (.long bb), .second, .val (.long ee), .second, .val (.long mm), .second, .val (.long r), .second, .val (.long q), .second, .val (.long xx), .second] [(.long (0 : Int64)), (.long xx)])) target
          refine XT.lcmp X0.here hx rfl (hb hby d1_15) rfl ?_
          show Steps p.tables e below (s₁.setTop (mkF m 16 #[.val (.long bb), .second, .val (.long ee), .second, .val (.long mm), .second, .val (.long r), .second, .val (.long q), .second, .val (.long xx), .second] [(.int (XT.cmpL xx (0 : Int64)))])) target
          refine XS.ifYes X0.here hx rfl (pc0 := 16) (pc' := 57) rfl (hb hby d1_16) rfl (XT.ll_le_t hpos) (by decide) (by decide) ?_
          show Steps p.tables e below (s₁.setTop (mkF m 57 #[.val (.long bb), .second, .val (.long ee), .second, .val (.long mm), .second, .val (.long r), .second, .val (.long q), .second, .val (.long xx), .second] [])) target
          exact kt
        have hK0 : K = 0 := by
          rw [Int64.lt_iff_toInt_lt, hX, show (0 : Int64).toInt = 0 from rfl] at hpos
          omega
        exact ⟨r, q, xx, by rw [hK0, Nat.pow_zero, Nat.mul_one, Nat.mod_eq_of_lt hRM]; exact hR, g8⟩
  have g9 : own_Go p e below s₁ (entryFrame m #[(.long bb), (.long ee), (.long mm)] 12) s₁ (mkF m 12 #[.val (.long bb), .second, .val (.long ee), .second, .val (.long mm), .second, .val (.long (1 : Int64)), .second, .val (.long (bb % mm)), .second, .val (.long ee), .second] []) := by
    intro target kt
    refine g0 target ?_
    refine XT.lconstV X0.here hx rfl (1 : Int64) (hb hby d1_0) rfl ?_
    show Steps p.tables e below (s₁.setTop (mkF m 1 #[.val (.long bb), .second, .val (.long ee), .second, .val (.long mm), .second, .unset, .unset, .unset, .unset, .unset, .unset] [(.long (1 : Int64))])) target
    refine XT.lstore X0.here hx rfl (hb hby d1_1) rfl (l' := #[.val (.long bb), .second, .val (.long ee), .second, .val (.long mm), .second, .val (.long (1 : Int64)), .second, .unset, .unset, .unset, .unset]) rfl ?_
    show Steps p.tables e below (s₁.setTop (mkF m 3 #[.val (.long bb), .second, .val (.long ee), .second, .val (.long mm), .second, .val (.long (1 : Int64)), .second, .unset, .unset, .unset, .unset] [])) target
    refine XT.lloadN X0.here hx rfl (hb hby d1_3) rfl ?_
    show Steps p.tables e below (s₁.setTop (mkF m 4 #[.val (.long bb), .second, .val (.long ee), .second, .val (.long mm), .second, .val (.long (1 : Int64)), .second, .unset, .unset, .unset, .unset] [(.long bb)])) target
    refine XT.lload X0.here hx rfl (hb hby d1_4) rfl ?_
    show Steps p.tables e below (s₁.setTop (mkF m 6 #[.val (.long bb), .second, .val (.long ee), .second, .val (.long mm), .second, .val (.long (1 : Int64)), .second, .unset, .unset, .unset, .unset] [(.long mm), (.long bb)])) target
    refine own_lrem X0 hx rfl (hb hby d1_6) rfl hne ?_
    show Steps p.tables e below (s₁.setTop (mkF m 7 #[.val (.long bb), .second, .val (.long ee), .second, .val (.long mm), .second, .val (.long (1 : Int64)), .second, .unset, .unset, .unset, .unset] [(.long (bb % mm))])) target
    refine XT.lstore X0.here hx rfl (hb hby d1_7) rfl (l' := #[.val (.long bb), .second, .val (.long ee), .second, .val (.long mm), .second, .val (.long (1 : Int64)), .second, .val (.long (bb % mm)), .second, .unset, .unset]) rfl ?_
    show Steps p.tables e below (s₁.setTop (mkF m 9 #[.val (.long bb), .second, .val (.long ee), .second, .val (.long mm), .second, .val (.long (1 : Int64)), .second, .val (.long (bb % mm)), .second, .unset, .unset] [])) target
    refine XT.lloadN X0.here hx rfl (hb hby d1_9) rfl ?_
    show Steps p.tables e below (s₁.setTop (mkF m 10 #[.val (.long bb), .second, .val (.long ee), .second, .val (.long mm), .second, .val (.long (1 : Int64)), .second, .val (.long (bb % mm)), .second, .unset, .unset] [(.long ee)])) target
    refine XT.lstore X0.here hx rfl (hb hby d1_10) rfl (l' := #[.val (.long bb), .second, .val (.long ee), .second, .val (.long mm), .second, .val (.long (1 : Int64)), .second, .val (.long (bb % mm)), .second, .val (.long ee), .second]) rfl ?_
    show Steps p.tables e below (s₁.setTop (mkF m 12 #[.val (.long bb), .second, .val (.long ee), .second, .val (.long mm), .second, .val (.long (1 : Int64)), .second, .val (.long (bb % mm)), .second, .val (.long ee), .second] [])) target
    exact kt
  obtain ⟨r', q', x', hr', gl⟩ := loop E (1 : Int64) (bb % mm) ee 1 (B % M) he0 rfl (own_mod bb mm B M hb0 hm0) (by omega) (Nat.mod_lt _ (by omega))
  have gL := own_Go.trans g9 gl
  rw [Nat.one_mul, ← Nat.pow_mod] at hr'
  have g10 : own_Go p e below s₁ (entryFrame m #[(.long bb), (.long ee), (.long mm)] 12) s₁ (mkF m 59 #[.val (.long bb), .second, .val (.long ee), .second, .val (.long mm), .second, .val (.long r'), .second, .val (.long q'), .second, .val (.long x'), .second] [(.long r')]) := by
    intro target kt
    refine gL target ?_
    refine XT.lload X0.here hx rfl (hb hby d1_57) rfl ?_
    show Steps p.tables e below (s₁.setTop (mkF m 59 #[.val (.long bb), .second, .val (.long ee), .second, .val (.long mm), .second, .val (.long r'), .second, .val (.long q'), .second, .val (.long x'), .second] [(.long r')])) target
    exact kt
  obtain ⟨fs, hr, hrun, hended, hW, hsame⟩ := X0.leave (v := some (.long r')) (fun h => by rw [Bd.returns] at h; cases h)
  refine ⟨_, _, g10 _ ?_, hrun, hended, _, _, rfl, ?_, ⟨_, rfl⟩, hW, hsame.mono (by decide) (by decide)⟩
  · exact X0.lreturnOut hx Bd.returns (hb hby d1_59) hr
  · show Q_rm1 Z bb ee mm B E M h0 n0 _ s₁.heap _
    rw [e0]
    exact ⟨r', rfl, hr', N0, rfl⟩
theorem pn_rm0 : plainName "com/example/dichotome/dichotome/algebra/PrimeBasisPowerPinLaw" = true := by first | (simp [plainName, overriddenIn]; done) | decide +kernel
theorem ef_rm0 (m : MethodId) (p0 : Int64) (p1 : Int64) (p2 : Int64) : entryFrame m #[(.long p0), (.long p1), (.long p2)] maxLocals = mkF m 0 #[.val (.long p0), .second, .val (.long p1), .second, .val (.long p2), .second, .unset, .unset, .unset, .unset, .unset, .unset, .unset, .unset, .unset, .unset, .unset, .unset, .unset, .unset, .unset, .unset, .unset, .unset] [] := by first | (simp [entryFrame, mkF, argsToLocals, Value.category, maxLocals]; done) | rfl
def Q_rm0 (Z : State) (p0 : Int64) (p1 : Int64) (p2 : Int64)  (h0 : Heap) (n0 : Nat) (v : Option Value) (h : Heap) (L : List Loc) : Prop := v = some (.int (1 : Int32)) ∧ Fr n0 L
set_option maxRecDepth 65536 in
set_option maxHeartbeats 40000000 in
theorem rm0 (l : Launch) (Z : State) (a0 : Array Value) (hw : ∀ d ∈ tables_1, d.before a0 Z = true) (ws : List Jvm.Cond) (p0 : Int64) (p1 : Int64) (p2 : Int64)  (h0 : Heap) (n0 : Nat) (Z0 : n0 ≤ h0.size)  :
    MetFree l x (head1 (Jvm.Cond.code x code maxLocals ret :: ws) room_1) (fun a U => a = #[(.long p0), (.long p1), (.long p2)] ∧ Z.Warmed39 U.vm ∧ U.heap = h0) (fun _ _ _ _ _ => True) (fun _ U o U' => ∃ v L, o = .returned v ∧ Q_rm0 Z p0 p1 p2  h0 n0 v U'.heap L ∧ FrameEnd U o U' L room_1.cells room_1.slots) := by
  refine MetFree.of_bodySF (plainFor_of_name pn_rm0) hisR ?_
  intro p e s m args below meth c s₁ Bd hml0 hP hK
  obtain ⟨rfl, hZ, hh⟩ := hP
  have hx := Bd.exec
  have hby := Bd.bytes
  have hml : c.maxLocals = 24 := hml0
  have hown : s.vm.findClass "com/example/dichotome/dichotome/algebra/PrimeBasisPowerPinLaw" = some m.cls := findClass_of_methodNamed Bd.named
  have hnm := (name_of_methodNamed Bd.named Bd.method).1
  have X0 : Stand p l e room_1 s m #[(.long p0), (.long p1), (.long p2)] below meth c s₁ [] 0 0 := Stand.of_body Bd
  have e0 : s₁.heap = h0 := by rw [← hh, Bd.state]; rfl
  have N0 := Fr.nil n0
  have g0 : own_Go p e below s₁ (entryFrame m #[(.long p0), (.long p1), (.long p2)] maxLocals) s₁ (mkF m 0 #[.val (.long p0), .second, .val (.long p1), .second, .val (.long p2), .second, .unset, .unset, .unset, .unset, .unset, .unset, .unset, .unset, .unset, .unset, .unset, .unset, .unset, .unset, .unset, .unset, .unset, .unset] []) := fun t k => castTop (ef_rm0 m p0 p1 p2) k
  have g11 : own_Go p e below s₁ (entryFrame m #[(.long p0), (.long p1), (.long p2)] maxLocals) s₁ (mkF m 16 #[.val (.long p0), .second, .val (.long p1), .second, .val (.long p2), .second, .val (.long ((2 : Int64) + ((p2 &&& (2147483647 : Int64)) % (2147483646 : Int64)))), .second, .unset, .unset, .unset, .unset, .unset, .unset, .unset, .unset, .unset, .unset, .unset, .unset, .unset, .unset, .unset, .unset] []) := by
    intro target kt
    refine g0 target ?_
    refine X0.ldc2J hx hown (mvT hZ (hw _ (List.mem_of_getElem? (i := 0) rfl))) rfl (hb hby at_0) ?_
    show Steps p.tables e below (s₁.setTop (mkF m 3 #[.val (.long p0), .second, .val (.long p1), .second, .val (.long p2), .second, .unset, .unset, .unset, .unset, .unset, .unset, .unset, .unset, .unset, .unset, .unset, .unset, .unset, .unset, .unset, .unset, .unset, .unset] [(.long (2 : Int64))])) target
    refine XT.lload X0.here hx rfl (hb hby at_3) rfl ?_
    show Steps p.tables e below (s₁.setTop (mkF m 5 #[.val (.long p0), .second, .val (.long p1), .second, .val (.long p2), .second, .unset, .unset, .unset, .unset, .unset, .unset, .unset, .unset, .unset, .unset, .unset, .unset, .unset, .unset, .unset, .unset, .unset, .unset] [(.long p2), (.long (2 : Int64))])) target
    refine X0.ldc2J hx hown (mvT hZ (hw _ (List.mem_of_getElem? (i := 1) rfl))) rfl (hb hby at_5) ?_
    show Steps p.tables e below (s₁.setTop (mkF m 8 #[.val (.long p0), .second, .val (.long p1), .second, .val (.long p2), .second, .unset, .unset, .unset, .unset, .unset, .unset, .unset, .unset, .unset, .unset, .unset, .unset, .unset, .unset, .unset, .unset, .unset, .unset] [(.long (2147483647 : Int64)), (.long p2), (.long (2 : Int64))])) target
    refine XT.land X0.here hx rfl (hb hby at_8) rfl ?_
    show Steps p.tables e below (s₁.setTop (mkF m 9 #[.val (.long p0), .second, .val (.long p1), .second, .val (.long p2), .second, .unset, .unset, .unset, .unset, .unset, .unset, .unset, .unset, .unset, .unset, .unset, .unset, .unset, .unset, .unset, .unset, .unset, .unset] [(.long (p2 &&& (2147483647 : Int64))), (.long (2 : Int64))])) target
    refine X0.ldc2J hx hown (mvT hZ (hw _ (List.mem_of_getElem? (i := 2) rfl))) rfl (hb hby at_9) ?_
    show Steps p.tables e below (s₁.setTop (mkF m 12 #[.val (.long p0), .second, .val (.long p1), .second, .val (.long p2), .second, .unset, .unset, .unset, .unset, .unset, .unset, .unset, .unset, .unset, .unset, .unset, .unset, .unset, .unset, .unset, .unset, .unset, .unset] [(.long (2147483646 : Int64)), (.long (p2 &&& (2147483647 : Int64))), (.long (2 : Int64))])) target
    refine own_lrem X0 hx rfl (hb hby at_12) rfl (by decide) ?_
    show Steps p.tables e below (s₁.setTop (mkF m 13 #[.val (.long p0), .second, .val (.long p1), .second, .val (.long p2), .second, .unset, .unset, .unset, .unset, .unset, .unset, .unset, .unset, .unset, .unset, .unset, .unset, .unset, .unset, .unset, .unset, .unset, .unset] [(.long ((p2 &&& (2147483647 : Int64)) % (2147483646 : Int64))), (.long (2 : Int64))])) target
    refine XT.ladd X0.here hx rfl (hb hby at_13) rfl ?_
    show Steps p.tables e below (s₁.setTop (mkF m 14 #[.val (.long p0), .second, .val (.long p1), .second, .val (.long p2), .second, .unset, .unset, .unset, .unset, .unset, .unset, .unset, .unset, .unset, .unset, .unset, .unset, .unset, .unset, .unset, .unset, .unset, .unset] [(.long ((2 : Int64) + ((p2 &&& (2147483647 : Int64)) % (2147483646 : Int64))))])) target
    refine XT.lstore X0.here hx rfl (hb hby at_14) rfl (l' := #[.val (.long p0), .second, .val (.long p1), .second, .val (.long p2), .second, .val (.long ((2 : Int64) + ((p2 &&& (2147483647 : Int64)) % (2147483646 : Int64)))), .second, .unset, .unset, .unset, .unset, .unset, .unset, .unset, .unset, .unset, .unset, .unset, .unset, .unset, .unset, .unset, .unset]) rfl ?_
    show Steps p.tables e below (s₁.setTop (mkF m 16 #[.val (.long p0), .second, .val (.long p1), .second, .val (.long p2), .second, .val (.long ((2 : Int64) + ((p2 &&& (2147483647 : Int64)) % (2147483646 : Int64)))), .second, .unset, .unset, .unset, .unset, .unset, .unset, .unset, .unset, .unset, .unset, .unset, .unset, .unset, .unset, .unset, .unset] [])) target
    exact kt
  obtain ⟨mm, e_mm⟩ : ∃ z : Int64, z = ((2 : Int64) + ((p2 &&& (2147483647 : Int64)) % (2147483646 : Int64))) := ⟨_, rfl⟩
  rw [← e_mm] at g11
  have g12 : own_Go p e below s₁ (entryFrame m #[(.long p0), (.long p1), (.long p2)] maxLocals) s₁ (mkF m 23 #[.val (.long p0), .second, .val (.long p1), .second, .val (.long p2), .second, .val (.long mm), .second, .val (.long (p0 &&& (9223372036854775807 : Int64))), .second, .unset, .unset, .unset, .unset, .unset, .unset, .unset, .unset, .unset, .unset, .unset, .unset, .unset, .unset] []) := by
    intro target kt
    refine g11 target ?_
    refine XT.lloadN X0.here hx rfl (hb hby at_16) rfl ?_
    show Steps p.tables e below (s₁.setTop (mkF m 17 #[.val (.long p0), .second, .val (.long p1), .second, .val (.long p2), .second, .val (.long mm), .second, .unset, .unset, .unset, .unset, .unset, .unset, .unset, .unset, .unset, .unset, .unset, .unset, .unset, .unset, .unset, .unset] [(.long p0)])) target
    refine X0.ldc2J hx hown (mvT hZ (hw _ (List.mem_of_getElem? (i := 3) rfl))) rfl (hb hby at_17) ?_
    show Steps p.tables e below (s₁.setTop (mkF m 20 #[.val (.long p0), .second, .val (.long p1), .second, .val (.long p2), .second, .val (.long mm), .second, .unset, .unset, .unset, .unset, .unset, .unset, .unset, .unset, .unset, .unset, .unset, .unset, .unset, .unset, .unset, .unset] [(.long (9223372036854775807 : Int64)), (.long p0)])) target
    refine XT.land X0.here hx rfl (hb hby at_20) rfl ?_
    show Steps p.tables e below (s₁.setTop (mkF m 21 #[.val (.long p0), .second, .val (.long p1), .second, .val (.long p2), .second, .val (.long mm), .second, .unset, .unset, .unset, .unset, .unset, .unset, .unset, .unset, .unset, .unset, .unset, .unset, .unset, .unset, .unset, .unset] [(.long (p0 &&& (9223372036854775807 : Int64)))])) target
    refine XT.lstore X0.here hx rfl (hb hby at_21) rfl (l' := #[.val (.long p0), .second, .val (.long p1), .second, .val (.long p2), .second, .val (.long mm), .second, .val (.long (p0 &&& (9223372036854775807 : Int64))), .second, .unset, .unset, .unset, .unset, .unset, .unset, .unset, .unset, .unset, .unset, .unset, .unset, .unset, .unset]) rfl ?_
    show Steps p.tables e below (s₁.setTop (mkF m 23 #[.val (.long p0), .second, .val (.long p1), .second, .val (.long p2), .second, .val (.long mm), .second, .val (.long (p0 &&& (9223372036854775807 : Int64))), .second, .unset, .unset, .unset, .unset, .unset, .unset, .unset, .unset, .unset, .unset, .unset, .unset, .unset, .unset] [])) target
    exact kt
  obtain ⟨bb, e_bb⟩ : ∃ z : Int64, z = (p0 &&& (9223372036854775807 : Int64)) := ⟨_, rfl⟩
  rw [← e_bb] at g12
  have g13 : own_Go p e below s₁ (entryFrame m #[(.long p0), (.long p1), (.long p2)] maxLocals) s₁ (mkF m 30 #[.val (.long p0), .second, .val (.long p1), .second, .val (.long p2), .second, .val (.long mm), .second, .val (.long bb), .second, .val (.long (p1 &&& (9223372036854775807 : Int64))), .second, .unset, .unset, .unset, .unset, .unset, .unset, .unset, .unset, .unset, .unset, .unset, .unset] []) := by
    intro target kt
    refine g12 target ?_
    refine XT.lloadN X0.here hx rfl (hb hby at_23) rfl ?_
    show Steps p.tables e below (s₁.setTop (mkF m 24 #[.val (.long p0), .second, .val (.long p1), .second, .val (.long p2), .second, .val (.long mm), .second, .val (.long bb), .second, .unset, .unset, .unset, .unset, .unset, .unset, .unset, .unset, .unset, .unset, .unset, .unset, .unset, .unset] [(.long p1)])) target
    refine X0.ldc2J hx hown (mvT hZ (hw _ (List.mem_of_getElem? (i := 3) rfl))) rfl (hb hby at_24) ?_
    show Steps p.tables e below (s₁.setTop (mkF m 27 #[.val (.long p0), .second, .val (.long p1), .second, .val (.long p2), .second, .val (.long mm), .second, .val (.long bb), .second, .unset, .unset, .unset, .unset, .unset, .unset, .unset, .unset, .unset, .unset, .unset, .unset, .unset, .unset] [(.long (9223372036854775807 : Int64)), (.long p1)])) target
    refine XT.land X0.here hx rfl (hb hby at_27) rfl ?_
    show Steps p.tables e below (s₁.setTop (mkF m 28 #[.val (.long p0), .second, .val (.long p1), .second, .val (.long p2), .second, .val (.long mm), .second, .val (.long bb), .second, .unset, .unset, .unset, .unset, .unset, .unset, .unset, .unset, .unset, .unset, .unset, .unset, .unset, .unset] [(.long (p1 &&& (9223372036854775807 : Int64)))])) target
    refine XT.lstore X0.here hx rfl (hb hby at_28) rfl (l' := #[.val (.long p0), .second, .val (.long p1), .second, .val (.long p2), .second, .val (.long mm), .second, .val (.long bb), .second, .val (.long (p1 &&& (9223372036854775807 : Int64))), .second, .unset, .unset, .unset, .unset, .unset, .unset, .unset, .unset, .unset, .unset, .unset, .unset]) rfl ?_
    show Steps p.tables e below (s₁.setTop (mkF m 30 #[.val (.long p0), .second, .val (.long p1), .second, .val (.long p2), .second, .val (.long mm), .second, .val (.long bb), .second, .val (.long (p1 &&& (9223372036854775807 : Int64))), .second, .unset, .unset, .unset, .unset, .unset, .unset, .unset, .unset, .unset, .unset, .unset, .unset] [])) target
    exact kt
  obtain ⟨ee, e_ee⟩ : ∃ z : Int64, z = (p1 &&& (9223372036854775807 : Int64)) := ⟨_, rfl⟩
  rw [← e_ee] at g13
  have g14 : own_Go p e below s₁ (entryFrame m #[(.long p0), (.long p1), (.long p2)] maxLocals) s₁ (mkF m 36 #[.val (.long p0), .second, .val (.long p1), .second, .val (.long p2), .second, .val (.long mm), .second, .val (.long bb), .second, .val (.long ee), .second, .val (.long (XT.ushrL ee (1 : Int32))), .second, .unset, .unset, .unset, .unset, .unset, .unset, .unset, .unset, .unset, .unset] []) := by
    intro target kt
    refine g13 target ?_
    refine XT.lload X0.here hx rfl (hb hby at_30) rfl ?_
    show Steps p.tables e below (s₁.setTop (mkF m 32 #[.val (.long p0), .second, .val (.long p1), .second, .val (.long p2), .second, .val (.long mm), .second, .val (.long bb), .second, .val (.long ee), .second, .unset, .unset, .unset, .unset, .unset, .unset, .unset, .unset, .unset, .unset, .unset, .unset] [(.long ee)])) target
    refine XT.iconstV X0.here hx rfl (1 : Int32) (hb hby at_32) rfl ?_
    show Steps p.tables e below (s₁.setTop (mkF m 33 #[.val (.long p0), .second, .val (.long p1), .second, .val (.long p2), .second, .val (.long mm), .second, .val (.long bb), .second, .val (.long ee), .second, .unset, .unset, .unset, .unset, .unset, .unset, .unset, .unset, .unset, .unset, .unset, .unset] [(.int (1 : Int32)), (.long ee)])) target
    refine XT.lushr X0.here hx rfl (hb hby at_33) rfl ?_
    show Steps p.tables e below (s₁.setTop (mkF m 34 #[.val (.long p0), .second, .val (.long p1), .second, .val (.long p2), .second, .val (.long mm), .second, .val (.long bb), .second, .val (.long ee), .second, .unset, .unset, .unset, .unset, .unset, .unset, .unset, .unset, .unset, .unset, .unset, .unset] [(.long (XT.ushrL ee (1 : Int32)))])) target
    refine XT.lstore X0.here hx rfl (hb hby at_34) rfl (l' := #[.val (.long p0), .second, .val (.long p1), .second, .val (.long p2), .second, .val (.long mm), .second, .val (.long bb), .second, .val (.long ee), .second, .val (.long (XT.ushrL ee (1 : Int32))), .second, .unset, .unset, .unset, .unset, .unset, .unset, .unset, .unset, .unset, .unset]) rfl ?_
    show Steps p.tables e below (s₁.setTop (mkF m 36 #[.val (.long p0), .second, .val (.long p1), .second, .val (.long p2), .second, .val (.long mm), .second, .val (.long bb), .second, .val (.long ee), .second, .val (.long (XT.ushrL ee (1 : Int32))), .second, .unset, .unset, .unset, .unset, .unset, .unset, .unset, .unset, .unset, .unset] [])) target
    exact kt
  obtain ⟨hf, e_hf⟩ : ∃ z : Int64, z = (XT.ushrL ee (1 : Int32)) := ⟨_, rfl⟩
  rw [← e_hf] at g14
  obtain ⟨M, hm0, hM2, hM⟩ : ∃ M : Nat, mm.toInt = (M : Int) ∧ 2 ≤ M ∧ M ≤ 2147483647 := by rw [e_mm]; exact own_modulus p2
  have hne : mm ≠ 0 := own_ne hm0 hM2
  obtain ⟨B, hb0⟩ : ∃ B : Nat, bb.toInt = (B : Int) := by rw [e_bb]; exact own_mask p0
  obtain ⟨E, he0⟩ : ∃ E : Nat, ee.toInt = (E : Int) := by rw [e_ee]; exact own_mask p1
  have hh0 : hf.toInt = ((E / 2 : Nat) : Int) := by rw [e_hf]; exact own_uhalf ee E he0
  have g15 : own_Go p e below s₁ (entryFrame m #[(.long p0), (.long p1), (.long p2)] maxLocals) s₁ (mkF m 41 #[.val (.long p0), .second, .val (.long p1), .second, .val (.long p2), .second, .val (.long mm), .second, .val (.long bb), .second, .val (.long ee), .second, .val (.long hf), .second, .unset, .unset, .unset, .unset, .unset, .unset, .unset, .unset, .unset, .unset] [(.long mm), (.long (0 : Int64)), (.long bb)]) := by
    intro target kt
    refine g14 target ?_
    refine XT.lload X0.here hx rfl (hb hby at_36) rfl ?_
    show Steps p.tables e below (s₁.setTop (mkF m 38 #[.val (.long p0), .second, .val (.long p1), .second, .val (.long p2), .second, .val (.long mm), .second, .val (.long bb), .second, .val (.long ee), .second, .val (.long hf), .second, .unset, .unset, .unset, .unset, .unset, .unset, .unset, .unset, .unset, .unset] [(.long bb)])) target
    refine XT.lconstV X0.here hx rfl (0 : Int64) (hb hby at_38) rfl ?_
    show Steps p.tables e below (s₁.setTop (mkF m 39 #[.val (.long p0), .second, .val (.long p1), .second, .val (.long p2), .second, .val (.long mm), .second, .val (.long bb), .second, .val (.long ee), .second, .val (.long hf), .second, .unset, .unset, .unset, .unset, .unset, .unset, .unset, .unset, .unset, .unset] [(.long (0 : Int64)), (.long bb)])) target
    refine XT.lload X0.here hx rfl (hb hby at_39) rfl ?_
    show Steps p.tables e below (s₁.setTop (mkF m 41 #[.val (.long p0), .second, .val (.long p1), .second, .val (.long p2), .second, .val (.long mm), .second, .val (.long bb), .second, .val (.long ee), .second, .val (.long hf), .second, .unset, .unset, .unset, .unset, .unset, .unset, .unset, .unset, .unset, .unset] [(.long mm), (.long (0 : Int64)), (.long bb)])) target
    exact kt
  obtain ⟨_, _, ⟨T16, L16, k16, n16⟩, -, X16, ⟨Lc16, hQ16, l16, y16, z16⟩, st16⟩ := Jvm.LawKit.callS X0 hx (y := (⟨"com/example/dichotome/dichotome/algebra/PrimeBasis", "power", "(JJJ)J"⟩ : MethodName)) hown (mvT hZ (hw _ (List.mem_of_getElem? (i := 4) rfl))) (mvT hZ (hw _ (List.mem_of_getElem? (i := 5) rfl))) (mvT hZ (hw _ (List.mem_of_getElem? (i := 6) rfl))) (mvT hZ (hw _ (List.mem_of_getElem? (i := 7) rfl))) (by decide) (backOf (W := 0) (rm1 l Z a0 hw [] bb (0 : Int64) mm B 0 M h0 n0 Z0 hb0 rfl hm0 hM2 hM) hZ (hw _ (List.mem_of_getElem? (i := 7) rfl)) (hw _ (List.mem_of_getElem? (i := 6) rfl)) (by decide) (by decide)) (g := (mkF m 41 #[.val (.long p0), .second, .val (.long p1), .second, .val (.long p2), .second, .val (.long mm), .second, .val (.long bb), .second, .val (.long ee), .second, .val (.long hf), .second, .unset, .unset, .unset, .unset, .unset, .unset, .unset, .unset, .unset, .unset] [(.long mm), (.long (0 : Int64)), (.long bb)])) rfl (by rw [hml]; rfl) (argsL := [(.long bb), (.long (0 : Int64)), (.long mm)]) (rest := []) (lenOf pd_0 rfl) rfl (by show 2 * 0 + _ ≤ _; exact Nat.le_of_eq rfl) (hb hby at_41) (fun _ _ => ⟨rfl, e0, (by decide : 0 + 0 ≤ _), (by decide : 0 + 0 ≤ _)⟩)
  dsimp only [Pt.U, Pt.locs, Pt.cells, Pt.slots] at X16 l16 y16 z16 st16 hQ16
  subst l16 y16 z16
  obtain ⟨r0, rfl, hr0, Nq16, eq16⟩ := hQ16
  have N16 := Fr.app N0 Nq16
  have g17 : own_Go p e below s₁ (entryFrame m #[(.long p0), (.long p1), (.long p2)] maxLocals) T16 (mkF m 44 #[.val (.long p0), .second, .val (.long p1), .second, .val (.long p2), .second, .val (.long mm), .second, .val (.long bb), .second, .val (.long ee), .second, .val (.long hf), .second, .unset, .unset, .unset, .unset, .unset, .unset, .unset, .unset, .unset, .unset] [(.long r0)]) := fun target kt => g15 target (st16 target kt)
  have g18 : own_Go p e below s₁ (entryFrame m #[(.long p0), (.long p1), (.long p2)] maxLocals) T16 (mkF m 52 #[.val (.long p0), .second, .val (.long p1), .second, .val (.long p2), .second, .val (.long mm), .second, .val (.long bb), .second, .val (.long ee), .second, .val (.long hf), .second, .val (.long r0), .second, .unset, .unset, .unset, .unset, .unset, .unset, .unset, .unset] [(.long mm), (.long ee), (.long bb)]) := by
    intro target kt
    refine g17 target ?_
    refine XT.lstore X16.here hx rfl (hb hby at_44) rfl (l' := #[.val (.long p0), .second, .val (.long p1), .second, .val (.long p2), .second, .val (.long mm), .second, .val (.long bb), .second, .val (.long ee), .second, .val (.long hf), .second, .val (.long r0), .second, .unset, .unset, .unset, .unset, .unset, .unset, .unset, .unset]) rfl ?_
    show Steps p.tables e below (T16.setTop (mkF m 46 #[.val (.long p0), .second, .val (.long p1), .second, .val (.long p2), .second, .val (.long mm), .second, .val (.long bb), .second, .val (.long ee), .second, .val (.long hf), .second, .val (.long r0), .second, .unset, .unset, .unset, .unset, .unset, .unset, .unset, .unset] [])) target
    refine XT.lload X16.here hx rfl (hb hby at_46) rfl ?_
    show Steps p.tables e below (T16.setTop (mkF m 48 #[.val (.long p0), .second, .val (.long p1), .second, .val (.long p2), .second, .val (.long mm), .second, .val (.long bb), .second, .val (.long ee), .second, .val (.long hf), .second, .val (.long r0), .second, .unset, .unset, .unset, .unset, .unset, .unset, .unset, .unset] [(.long bb)])) target
    refine XT.lload X16.here hx rfl (hb hby at_48) rfl ?_
    show Steps p.tables e below (T16.setTop (mkF m 50 #[.val (.long p0), .second, .val (.long p1), .second, .val (.long p2), .second, .val (.long mm), .second, .val (.long bb), .second, .val (.long ee), .second, .val (.long hf), .second, .val (.long r0), .second, .unset, .unset, .unset, .unset, .unset, .unset, .unset, .unset] [(.long ee), (.long bb)])) target
    refine XT.lload X16.here hx rfl (hb hby at_50) rfl ?_
    show Steps p.tables e below (T16.setTop (mkF m 52 #[.val (.long p0), .second, .val (.long p1), .second, .val (.long p2), .second, .val (.long mm), .second, .val (.long bb), .second, .val (.long ee), .second, .val (.long hf), .second, .val (.long r0), .second, .unset, .unset, .unset, .unset, .unset, .unset, .unset, .unset] [(.long mm), (.long ee), (.long bb)])) target
    exact kt
  obtain ⟨_, _, ⟨T19, L19, k19, n19⟩, -, X19, ⟨Lc19, hQ19, l19, y19, z19⟩, st19⟩ := Jvm.LawKit.callS X16 hx (y := (⟨"com/example/dichotome/dichotome/algebra/PrimeBasis", "power", "(JJJ)J"⟩ : MethodName)) hown (mvT hZ (hw _ (List.mem_of_getElem? (i := 4) rfl))) (mvT hZ (hw _ (List.mem_of_getElem? (i := 5) rfl))) (mvT hZ (hw _ (List.mem_of_getElem? (i := 6) rfl))) (mvT hZ (hw _ (List.mem_of_getElem? (i := 7) rfl))) (by decide) (backOf (W := 0) (rm1 l Z a0 hw [] bb ee mm B E M h0 n0 Z0 hb0 he0 hm0 hM2 hM) hZ (hw _ (List.mem_of_getElem? (i := 7) rfl)) (hw _ (List.mem_of_getElem? (i := 6) rfl)) (by decide) (by decide)) (g := (mkF m 52 #[.val (.long p0), .second, .val (.long p1), .second, .val (.long p2), .second, .val (.long mm), .second, .val (.long bb), .second, .val (.long ee), .second, .val (.long hf), .second, .val (.long r0), .second, .unset, .unset, .unset, .unset, .unset, .unset, .unset, .unset] [(.long mm), (.long ee), (.long bb)])) rfl (by rw [hml]; rfl) (argsL := [(.long bb), (.long ee), (.long mm)]) (rest := []) (lenOf pd_0 rfl) rfl (by show 2 * 0 + _ ≤ _; exact Nat.le_of_eq rfl) (hb hby at_52) (fun _ _ => ⟨rfl, eq16, (by decide : 0 + 0 ≤ _), (by decide : 0 + 0 ≤ _)⟩)
  dsimp only [Pt.U, Pt.locs, Pt.cells, Pt.slots] at X19 l19 y19 z19 st19 hQ19
  subst l19 y19 z19
  obtain ⟨r1, rfl, hr1, Nq19, eq19⟩ := hQ19
  have N19 := Fr.app N16 Nq19
  have g20 : own_Go p e below s₁ (entryFrame m #[(.long p0), (.long p1), (.long p2)] maxLocals) T19 (mkF m 55 #[.val (.long p0), .second, .val (.long p1), .second, .val (.long p2), .second, .val (.long mm), .second, .val (.long bb), .second, .val (.long ee), .second, .val (.long hf), .second, .val (.long r0), .second, .unset, .unset, .unset, .unset, .unset, .unset, .unset, .unset] [(.long r1)]) := fun target kt => g18 target (st19 target kt)
  have g21 : own_Go p e below s₁ (entryFrame m #[(.long p0), (.long p1), (.long p2)] maxLocals) T19 (mkF m 63 #[.val (.long p0), .second, .val (.long p1), .second, .val (.long p2), .second, .val (.long mm), .second, .val (.long bb), .second, .val (.long ee), .second, .val (.long hf), .second, .val (.long r0), .second, .val (.long r1), .second, .unset, .unset, .unset, .unset, .unset, .unset] [(.long mm), (.long hf), (.long bb)]) := by
    intro target kt
    refine g20 target ?_
    refine XT.lstore X19.here hx rfl (hb hby at_55) rfl (l' := #[.val (.long p0), .second, .val (.long p1), .second, .val (.long p2), .second, .val (.long mm), .second, .val (.long bb), .second, .val (.long ee), .second, .val (.long hf), .second, .val (.long r0), .second, .val (.long r1), .second, .unset, .unset, .unset, .unset, .unset, .unset]) rfl ?_
    show Steps p.tables e below (T19.setTop (mkF m 57 #[.val (.long p0), .second, .val (.long p1), .second, .val (.long p2), .second, .val (.long mm), .second, .val (.long bb), .second, .val (.long ee), .second, .val (.long hf), .second, .val (.long r0), .second, .val (.long r1), .second, .unset, .unset, .unset, .unset, .unset, .unset] [])) target
    refine XT.lload X19.here hx rfl (hb hby at_57) rfl ?_
    show Steps p.tables e below (T19.setTop (mkF m 59 #[.val (.long p0), .second, .val (.long p1), .second, .val (.long p2), .second, .val (.long mm), .second, .val (.long bb), .second, .val (.long ee), .second, .val (.long hf), .second, .val (.long r0), .second, .val (.long r1), .second, .unset, .unset, .unset, .unset, .unset, .unset] [(.long bb)])) target
    refine XT.lload X19.here hx rfl (hb hby at_59) rfl ?_
    show Steps p.tables e below (T19.setTop (mkF m 61 #[.val (.long p0), .second, .val (.long p1), .second, .val (.long p2), .second, .val (.long mm), .second, .val (.long bb), .second, .val (.long ee), .second, .val (.long hf), .second, .val (.long r0), .second, .val (.long r1), .second, .unset, .unset, .unset, .unset, .unset, .unset] [(.long hf), (.long bb)])) target
    refine XT.lload X19.here hx rfl (hb hby at_61) rfl ?_
    show Steps p.tables e below (T19.setTop (mkF m 63 #[.val (.long p0), .second, .val (.long p1), .second, .val (.long p2), .second, .val (.long mm), .second, .val (.long bb), .second, .val (.long ee), .second, .val (.long hf), .second, .val (.long r0), .second, .val (.long r1), .second, .unset, .unset, .unset, .unset, .unset, .unset] [(.long mm), (.long hf), (.long bb)])) target
    exact kt
  obtain ⟨_, _, ⟨T22, L22, k22, n22⟩, -, X22, ⟨Lc22, hQ22, l22, y22, z22⟩, st22⟩ := Jvm.LawKit.callS X19 hx (y := (⟨"com/example/dichotome/dichotome/algebra/PrimeBasis", "power", "(JJJ)J"⟩ : MethodName)) hown (mvT hZ (hw _ (List.mem_of_getElem? (i := 4) rfl))) (mvT hZ (hw _ (List.mem_of_getElem? (i := 5) rfl))) (mvT hZ (hw _ (List.mem_of_getElem? (i := 6) rfl))) (mvT hZ (hw _ (List.mem_of_getElem? (i := 7) rfl))) (by decide) (backOf (W := 0) (rm1 l Z a0 hw [] bb hf mm B (E / 2) M h0 n0 Z0 hb0 hh0 hm0 hM2 hM) hZ (hw _ (List.mem_of_getElem? (i := 7) rfl)) (hw _ (List.mem_of_getElem? (i := 6) rfl)) (by decide) (by decide)) (g := (mkF m 63 #[.val (.long p0), .second, .val (.long p1), .second, .val (.long p2), .second, .val (.long mm), .second, .val (.long bb), .second, .val (.long ee), .second, .val (.long hf), .second, .val (.long r0), .second, .val (.long r1), .second, .unset, .unset, .unset, .unset, .unset, .unset] [(.long mm), (.long hf), (.long bb)])) rfl (by rw [hml]; rfl) (argsL := [(.long bb), (.long hf), (.long mm)]) (rest := []) (lenOf pd_0 rfl) rfl (by show 2 * 0 + _ ≤ _; exact Nat.le_of_eq rfl) (hb hby at_63) (fun _ _ => ⟨rfl, eq19, (by decide : 0 + 0 ≤ _), (by decide : 0 + 0 ≤ _)⟩)
  dsimp only [Pt.U, Pt.locs, Pt.cells, Pt.slots] at X22 l22 y22 z22 st22 hQ22
  subst l22 y22 z22
  obtain ⟨r2, rfl, hr2, Nq22, eq22⟩ := hQ22
  have N22 := Fr.app N19 Nq22
  have g23 : own_Go p e below s₁ (entryFrame m #[(.long p0), (.long p1), (.long p2)] maxLocals) T22 (mkF m 66 #[.val (.long p0), .second, .val (.long p1), .second, .val (.long p2), .second, .val (.long mm), .second, .val (.long bb), .second, .val (.long ee), .second, .val (.long hf), .second, .val (.long r0), .second, .val (.long r1), .second, .unset, .unset, .unset, .unset, .unset, .unset] [(.long r2)]) := fun target kt => g21 target (st22 target kt)
  have q0 : r0 = (1 : Int64) := own_eq (A := 1) (by rw [hr0, Nat.pow_zero, Nat.mod_eq_of_lt (by omega)]) rfl
  have hlt : B ^ (E / 2) % M < M := Nat.mod_lt _ (by omega)
  have hlt1 : B ^ E % M < M := Nat.mod_lt _ (by omega)
  have g24 : own_Go p e below s₁ (entryFrame m #[(.long p0), (.long p1), (.long p2)] maxLocals) T22 (mkF m 104 #[.val (.long p0), .second, .val (.long p1), .second, .val (.long p2), .second, .val (.long mm), .second, .val (.long bb), .second, .val (.long ee), .second, .val (.long hf), .second, .val (.long r0), .second, .val (.long r1), .second, .val (.long r2), .second, .val (.long ((r2 * r2) % mm)), .second, .unset, .unset] []) := by
    intro target kt
    refine g23 target ?_
    refine XT.lstore X22.here hx rfl (hb hby at_66) rfl (l' := #[.val (.long p0), .second, .val (.long p1), .second, .val (.long p2), .second, .val (.long mm), .second, .val (.long bb), .second, .val (.long ee), .second, .val (.long hf), .second, .val (.long r0), .second, .val (.long r1), .second, .val (.long r2), .second, .unset, .unset, .unset, .unset]) rfl ?_
    show Steps p.tables e below (T22.setTop (mkF m 68 #[.val (.long p0), .second, .val (.long p1), .second, .val (.long p2), .second, .val (.long mm), .second, .val (.long bb), .second, .val (.long ee), .second, .val (.long hf), .second, .val (.long r0), .second, .val (.long r1), .second, .val (.long r2), .second, .unset, .unset, .unset, .unset] [])) target
    refine XT.lload X22.here hx rfl (hb hby at_68) rfl ?_
    show Steps p.tables e below (T22.setTop (mkF m 70 #[.val (.long p0), .second, .val (.long p1), .second, .val (.long p2), .second, .val (.long mm), .second, .val (.long bb), .second, .val (.long ee), .second, .val (.long hf), .second, .val (.long r0), .second, .val (.long r1), .second, .val (.long r2), .second, .unset, .unset, .unset, .unset] [(.long r0)])) target
    refine XT.lconstV X22.here hx rfl (1 : Int64) (hb hby at_70) rfl ?_
    show Steps p.tables e below (T22.setTop (mkF m 71 #[.val (.long p0), .second, .val (.long p1), .second, .val (.long p2), .second, .val (.long mm), .second, .val (.long bb), .second, .val (.long ee), .second, .val (.long hf), .second, .val (.long r0), .second, .val (.long r1), .second, .val (.long r2), .second, .unset, .unset, .unset, .unset] [(.long (1 : Int64)), (.long r0)])) target
    refine XT.lcmp X22.here hx rfl (hb hby at_71) rfl ?_
    show Steps p.tables e below (T22.setTop (mkF m 72 #[.val (.long p0), .second, .val (.long p1), .second, .val (.long p2), .second, .val (.long mm), .second, .val (.long bb), .second, .val (.long ee), .second, .val (.long hf), .second, .val (.long r0), .second, .val (.long r1), .second, .val (.long r2), .second, .unset, .unset, .unset, .unset] [(.int (XT.cmpL r0 (1 : Int64)))])) target
    refine XS.ifYes X22.here hx rfl (pc0 := 72) (pc' := 77) rfl (hb hby at_72) rfl (XT.ll_eq_t q0) (by decide) (by decide) ?_
    show Steps p.tables e below (T22.setTop (mkF m 77 #[.val (.long p0), .second, .val (.long p1), .second, .val (.long p2), .second, .val (.long mm), .second, .val (.long bb), .second, .val (.long ee), .second, .val (.long hf), .second, .val (.long r0), .second, .val (.long r1), .second, .val (.long r2), .second, .unset, .unset, .unset, .unset] [])) target
    refine XT.lload X22.here hx rfl (hb hby at_77) rfl ?_
    show Steps p.tables e below (T22.setTop (mkF m 79 #[.val (.long p0), .second, .val (.long p1), .second, .val (.long p2), .second, .val (.long mm), .second, .val (.long bb), .second, .val (.long ee), .second, .val (.long hf), .second, .val (.long r0), .second, .val (.long r1), .second, .val (.long r2), .second, .unset, .unset, .unset, .unset] [(.long r2)])) target
    refine XT.lconstV X22.here hx rfl (0 : Int64) (hb hby at_79) rfl ?_
    show Steps p.tables e below (T22.setTop (mkF m 80 #[.val (.long p0), .second, .val (.long p1), .second, .val (.long p2), .second, .val (.long mm), .second, .val (.long bb), .second, .val (.long ee), .second, .val (.long hf), .second, .val (.long r0), .second, .val (.long r1), .second, .val (.long r2), .second, .unset, .unset, .unset, .unset] [(.long (0 : Int64)), (.long r2)])) target
    refine XT.lcmp X22.here hx rfl (hb hby at_80) rfl ?_
    show Steps p.tables e below (T22.setTop (mkF m 81 #[.val (.long p0), .second, .val (.long p1), .second, .val (.long p2), .second, .val (.long mm), .second, .val (.long bb), .second, .val (.long ee), .second, .val (.long hf), .second, .val (.long r0), .second, .val (.long r1), .second, .val (.long r2), .second, .unset, .unset, .unset, .unset] [(.int (XT.cmpL r2 (0 : Int64)))])) target
    refine XS.ifNo X22.here hx rfl (hb hby at_81) rfl (XT.ll_lt_f (own_nneg hr2)) ?_
    show Steps p.tables e below (T22.setTop (mkF m 84 #[.val (.long p0), .second, .val (.long p1), .second, .val (.long p2), .second, .val (.long mm), .second, .val (.long bb), .second, .val (.long ee), .second, .val (.long hf), .second, .val (.long r0), .second, .val (.long r1), .second, .val (.long r2), .second, .unset, .unset, .unset, .unset] [])) target
    refine XT.lload X22.here hx rfl (hb hby at_84) rfl ?_
    show Steps p.tables e below (T22.setTop (mkF m 86 #[.val (.long p0), .second, .val (.long p1), .second, .val (.long p2), .second, .val (.long mm), .second, .val (.long bb), .second, .val (.long ee), .second, .val (.long hf), .second, .val (.long r0), .second, .val (.long r1), .second, .val (.long r2), .second, .unset, .unset, .unset, .unset] [(.long r2)])) target
    refine XT.lload X22.here hx rfl (hb hby at_86) rfl ?_
    show Steps p.tables e below (T22.setTop (mkF m 88 #[.val (.long p0), .second, .val (.long p1), .second, .val (.long p2), .second, .val (.long mm), .second, .val (.long bb), .second, .val (.long ee), .second, .val (.long hf), .second, .val (.long r0), .second, .val (.long r1), .second, .val (.long r2), .second, .unset, .unset, .unset, .unset] [(.long mm), (.long r2)])) target
    refine XT.lcmp X22.here hx rfl (hb hby at_88) rfl ?_
    show Steps p.tables e below (T22.setTop (mkF m 89 #[.val (.long p0), .second, .val (.long p1), .second, .val (.long p2), .second, .val (.long mm), .second, .val (.long bb), .second, .val (.long ee), .second, .val (.long hf), .second, .val (.long r0), .second, .val (.long r1), .second, .val (.long r2), .second, .unset, .unset, .unset, .unset] [(.int (XT.cmpL r2 mm))])) target
    refine XS.ifYes X22.here hx rfl (pc0 := 89) (pc' := 94) rfl (hb hby at_89) rfl (XT.ll_lt_t (own_lt hr2 hm0 hlt)) (by decide) (by decide) ?_
    show Steps p.tables e below (T22.setTop (mkF m 94 #[.val (.long p0), .second, .val (.long p1), .second, .val (.long p2), .second, .val (.long mm), .second, .val (.long bb), .second, .val (.long ee), .second, .val (.long hf), .second, .val (.long r0), .second, .val (.long r1), .second, .val (.long r2), .second, .unset, .unset, .unset, .unset] [])) target
    refine XT.lload X22.here hx rfl (hb hby at_94) rfl ?_
    show Steps p.tables e below (T22.setTop (mkF m 96 #[.val (.long p0), .second, .val (.long p1), .second, .val (.long p2), .second, .val (.long mm), .second, .val (.long bb), .second, .val (.long ee), .second, .val (.long hf), .second, .val (.long r0), .second, .val (.long r1), .second, .val (.long r2), .second, .unset, .unset, .unset, .unset] [(.long r2)])) target
    refine XT.lload X22.here hx rfl (hb hby at_96) rfl ?_
    show Steps p.tables e below (T22.setTop (mkF m 98 #[.val (.long p0), .second, .val (.long p1), .second, .val (.long p2), .second, .val (.long mm), .second, .val (.long bb), .second, .val (.long ee), .second, .val (.long hf), .second, .val (.long r0), .second, .val (.long r1), .second, .val (.long r2), .second, .unset, .unset, .unset, .unset] [(.long r2), (.long r2)])) target
    refine XT.lmul X22.here hx rfl (hb hby at_98) rfl ?_
    show Steps p.tables e below (T22.setTop (mkF m 99 #[.val (.long p0), .second, .val (.long p1), .second, .val (.long p2), .second, .val (.long mm), .second, .val (.long bb), .second, .val (.long ee), .second, .val (.long hf), .second, .val (.long r0), .second, .val (.long r1), .second, .val (.long r2), .second, .unset, .unset, .unset, .unset] [(.long (r2 * r2))])) target
    refine XT.lload X22.here hx rfl (hb hby at_99) rfl ?_
    show Steps p.tables e below (T22.setTop (mkF m 101 #[.val (.long p0), .second, .val (.long p1), .second, .val (.long p2), .second, .val (.long mm), .second, .val (.long bb), .second, .val (.long ee), .second, .val (.long hf), .second, .val (.long r0), .second, .val (.long r1), .second, .val (.long r2), .second, .unset, .unset, .unset, .unset] [(.long mm), (.long (r2 * r2))])) target
    refine own_lrem X22 hx rfl (hb hby at_101) rfl hne ?_
    show Steps p.tables e below (T22.setTop (mkF m 102 #[.val (.long p0), .second, .val (.long p1), .second, .val (.long p2), .second, .val (.long mm), .second, .val (.long bb), .second, .val (.long ee), .second, .val (.long hf), .second, .val (.long r0), .second, .val (.long r1), .second, .val (.long r2), .second, .unset, .unset, .unset, .unset] [(.long ((r2 * r2) % mm))])) target
    refine XT.lstore X22.here hx rfl (hb hby at_102) rfl (l' := #[.val (.long p0), .second, .val (.long p1), .second, .val (.long p2), .second, .val (.long mm), .second, .val (.long bb), .second, .val (.long ee), .second, .val (.long hf), .second, .val (.long r0), .second, .val (.long r1), .second, .val (.long r2), .second, .val (.long ((r2 * r2) % mm)), .second, .unset, .unset]) rfl ?_
    show Steps p.tables e below (T22.setTop (mkF m 104 #[.val (.long p0), .second, .val (.long p1), .second, .val (.long p2), .second, .val (.long mm), .second, .val (.long bb), .second, .val (.long ee), .second, .val (.long hf), .second, .val (.long r0), .second, .val (.long r1), .second, .val (.long r2), .second, .val (.long ((r2 * r2) % mm)), .second, .unset, .unset] [])) target
    exact kt
  obtain ⟨sq, e_sq⟩ : ∃ z : Int64, z = ((r2 * r2) % mm) := ⟨_, rfl⟩
  rw [← e_sq] at g24
  have hsq : sq.toInt = (((B ^ (E / 2) % M) * (B ^ (E / 2) % M) % M : Nat) : Int) := by rw [e_sq]; exact own_mm r2 r2 mm _ _ M hr2 hr2 hm0 hlt hlt hM
  obtain ⟨ex, hm29, g29⟩ : ∃ (ex : Int64), (ex = (if (ee &&& (1 : Int64)) = (0 : Int64) then sq else ((sq * (bb % mm)) % mm))) ∧ own_Go p e below s₁ (entryFrame m #[(.long p0), (.long p1), (.long p2)] maxLocals) T22 (mkF m 129 #[.val (.long p0), .second, .val (.long p1), .second, .val (.long p2), .second, .val (.long mm), .second, .val (.long bb), .second, .val (.long ee), .second, .val (.long hf), .second, .val (.long r0), .second, .val (.long r1), .second, .val (.long r2), .second, .val (.long sq), .second, .unset, .unset] [(.long ex)]) := by
    have g25 : own_Go p e below s₁ (entryFrame m #[(.long p0), (.long p1), (.long p2)] maxLocals) T22 (mkF m 110 #[.val (.long p0), .second, .val (.long p1), .second, .val (.long p2), .second, .val (.long mm), .second, .val (.long bb), .second, .val (.long ee), .second, .val (.long hf), .second, .val (.long r0), .second, .val (.long r1), .second, .val (.long r2), .second, .val (.long sq), .second, .unset, .unset] [(.int (XT.cmpL (ee &&& (1 : Int64)) (0 : Int64)))]) := by
      intro target kt
      refine g24 target ?_
      refine XT.lload X22.here hx rfl (hb hby at_104) rfl ?_
      show Steps p.tables e below (T22.setTop (mkF m 106 #[.val (.long p0), .second, .val (.long p1), .second, .val (.long p2), .second, .val (.long mm), .second, .val (.long bb), .second, .val (.long ee), .second, .val (.long hf), .second, .val (.long r0), .second, .val (.long r1), .second, .val (.long r2), .second, .val (.long sq), .second, .unset, .unset] [(.long ee)])) target
      refine XT.lconstV X22.here hx rfl (1 : Int64) (hb hby at_106) rfl ?_
      show Steps p.tables e below (T22.setTop (mkF m 107 #[.val (.long p0), .second, .val (.long p1), .second, .val (.long p2), .second, .val (.long mm), .second, .val (.long bb), .second, .val (.long ee), .second, .val (.long hf), .second, .val (.long r0), .second, .val (.long r1), .second, .val (.long r2), .second, .val (.long sq), .second, .unset, .unset] [(.long (1 : Int64)), (.long ee)])) target
      refine XT.land X22.here hx rfl (hb hby at_107) rfl ?_
      show Steps p.tables e below (T22.setTop (mkF m 108 #[.val (.long p0), .second, .val (.long p1), .second, .val (.long p2), .second, .val (.long mm), .second, .val (.long bb), .second, .val (.long ee), .second, .val (.long hf), .second, .val (.long r0), .second, .val (.long r1), .second, .val (.long r2), .second, .val (.long sq), .second, .unset, .unset] [(.long (ee &&& (1 : Int64)))])) target
      refine XT.lconstV X22.here hx rfl (0 : Int64) (hb hby at_108) rfl ?_
      show Steps p.tables e below (T22.setTop (mkF m 109 #[.val (.long p0), .second, .val (.long p1), .second, .val (.long p2), .second, .val (.long mm), .second, .val (.long bb), .second, .val (.long ee), .second, .val (.long hf), .second, .val (.long r0), .second, .val (.long r1), .second, .val (.long r2), .second, .val (.long sq), .second, .unset, .unset] [(.long (0 : Int64)), (.long (ee &&& (1 : Int64)))])) target
      refine XT.lcmp X22.here hx rfl (hb hby at_109) rfl ?_
      show Steps p.tables e below (T22.setTop (mkF m 110 #[.val (.long p0), .second, .val (.long p1), .second, .val (.long p2), .second, .val (.long mm), .second, .val (.long bb), .second, .val (.long ee), .second, .val (.long hf), .second, .val (.long r0), .second, .val (.long r1), .second, .val (.long r2), .second, .val (.long sq), .second, .unset, .unset] [(.int (XT.cmpL (ee &&& (1 : Int64)) (0 : Int64)))])) target
      exact kt
    by_cases hc26 : (ee &&& (1 : Int64)) = (0 : Int64)
    · have g27 : own_Go p e below s₁ (entryFrame m #[(.long p0), (.long p1), (.long p2)] maxLocals) T22 (mkF m 129 #[.val (.long p0), .second, .val (.long p1), .second, .val (.long p2), .second, .val (.long mm), .second, .val (.long bb), .second, .val (.long ee), .second, .val (.long hf), .second, .val (.long r0), .second, .val (.long r1), .second, .val (.long r2), .second, .val (.long sq), .second, .unset, .unset] [(.long sq)]) := by
        intro target kt
        refine g25 target ?_
        refine XS.ifYes X22.here hx rfl (pc0 := 110) (pc' := 127) rfl (hb hby at_110) rfl (XT.ll_eq_t hc26) (by decide) (by decide) ?_
        show Steps p.tables e below (T22.setTop (mkF m 127 #[.val (.long p0), .second, .val (.long p1), .second, .val (.long p2), .second, .val (.long mm), .second, .val (.long bb), .second, .val (.long ee), .second, .val (.long hf), .second, .val (.long r0), .second, .val (.long r1), .second, .val (.long r2), .second, .val (.long sq), .second, .unset, .unset] [])) target
        refine XT.lload X22.here hx rfl (hb hby at_127) rfl ?_
        show Steps p.tables e below (T22.setTop (mkF m 129 #[.val (.long p0), .second, .val (.long p1), .second, .val (.long p2), .second, .val (.long mm), .second, .val (.long bb), .second, .val (.long ee), .second, .val (.long hf), .second, .val (.long r0), .second, .val (.long r1), .second, .val (.long r2), .second, .val (.long sq), .second, .unset, .unset] [(.long sq)])) target
        exact kt
      exact ⟨sq, (by simp only [if_pos hc26]), g27⟩
    · have g28 : own_Go p e below s₁ (entryFrame m #[(.long p0), (.long p1), (.long p2)] maxLocals) T22 (mkF m 129 #[.val (.long p0), .second, .val (.long p1), .second, .val (.long p2), .second, .val (.long mm), .second, .val (.long bb), .second, .val (.long ee), .second, .val (.long hf), .second, .val (.long r0), .second, .val (.long r1), .second, .val (.long r2), .second, .val (.long sq), .second, .unset, .unset] [(.long ((sq * (bb % mm)) % mm))]) := by
        intro target kt
        refine g25 target ?_
        refine XS.ifNo X22.here hx rfl (hb hby at_110) rfl (XT.ll_eq_f hc26) ?_
        show Steps p.tables e below (T22.setTop (mkF m 113 #[.val (.long p0), .second, .val (.long p1), .second, .val (.long p2), .second, .val (.long mm), .second, .val (.long bb), .second, .val (.long ee), .second, .val (.long hf), .second, .val (.long r0), .second, .val (.long r1), .second, .val (.long r2), .second, .val (.long sq), .second, .unset, .unset] [])) target
        refine XT.lload X22.here hx rfl (hb hby at_113) rfl ?_
        show Steps p.tables e below (T22.setTop (mkF m 115 #[.val (.long p0), .second, .val (.long p1), .second, .val (.long p2), .second, .val (.long mm), .second, .val (.long bb), .second, .val (.long ee), .second, .val (.long hf), .second, .val (.long r0), .second, .val (.long r1), .second, .val (.long r2), .second, .val (.long sq), .second, .unset, .unset] [(.long sq)])) target
        refine XT.lload X22.here hx rfl (hb hby at_115) rfl ?_
        show Steps p.tables e below (T22.setTop (mkF m 117 #[.val (.long p0), .second, .val (.long p1), .second, .val (.long p2), .second, .val (.long mm), .second, .val (.long bb), .second, .val (.long ee), .second, .val (.long hf), .second, .val (.long r0), .second, .val (.long r1), .second, .val (.long r2), .second, .val (.long sq), .second, .unset, .unset] [(.long bb), (.long sq)])) target
        refine XT.lload X22.here hx rfl (hb hby at_117) rfl ?_
        show Steps p.tables e below (T22.setTop (mkF m 119 #[.val (.long p0), .second, .val (.long p1), .second, .val (.long p2), .second, .val (.long mm), .second, .val (.long bb), .second, .val (.long ee), .second, .val (.long hf), .second, .val (.long r0), .second, .val (.long r1), .second, .val (.long r2), .second, .val (.long sq), .second, .unset, .unset] [(.long mm), (.long bb), (.long sq)])) target
        refine own_lrem X22 hx rfl (hb hby at_119) rfl hne ?_
        show Steps p.tables e below (T22.setTop (mkF m 120 #[.val (.long p0), .second, .val (.long p1), .second, .val (.long p2), .second, .val (.long mm), .second, .val (.long bb), .second, .val (.long ee), .second, .val (.long hf), .second, .val (.long r0), .second, .val (.long r1), .second, .val (.long r2), .second, .val (.long sq), .second, .unset, .unset] [(.long (bb % mm)), (.long sq)])) target
        refine XT.lmul X22.here hx rfl (hb hby at_120) rfl ?_
        show Steps p.tables e below (T22.setTop (mkF m 121 #[.val (.long p0), .second, .val (.long p1), .second, .val (.long p2), .second, .val (.long mm), .second, .val (.long bb), .second, .val (.long ee), .second, .val (.long hf), .second, .val (.long r0), .second, .val (.long r1), .second, .val (.long r2), .second, .val (.long sq), .second, .unset, .unset] [(.long (sq * (bb % mm)))])) target
        refine XT.lload X22.here hx rfl (hb hby at_121) rfl ?_
        show Steps p.tables e below (T22.setTop (mkF m 123 #[.val (.long p0), .second, .val (.long p1), .second, .val (.long p2), .second, .val (.long mm), .second, .val (.long bb), .second, .val (.long ee), .second, .val (.long hf), .second, .val (.long r0), .second, .val (.long r1), .second, .val (.long r2), .second, .val (.long sq), .second, .unset, .unset] [(.long mm), (.long (sq * (bb % mm)))])) target
        refine own_lrem X22 hx rfl (hb hby at_123) rfl hne ?_
        show Steps p.tables e below (T22.setTop (mkF m 124 #[.val (.long p0), .second, .val (.long p1), .second, .val (.long p2), .second, .val (.long mm), .second, .val (.long bb), .second, .val (.long ee), .second, .val (.long hf), .second, .val (.long r0), .second, .val (.long r1), .second, .val (.long r2), .second, .val (.long sq), .second, .unset, .unset] [(.long ((sq * (bb % mm)) % mm))])) target
        refine XS.goto X22.here hx rfl (pc0 := 124) (pc' := 129) rfl (hb hby at_124) (by decide) (by decide) ?_
        show Steps p.tables e below (T22.setTop (mkF m 129 #[.val (.long p0), .second, .val (.long p1), .second, .val (.long p2), .second, .val (.long mm), .second, .val (.long bb), .second, .val (.long ee), .second, .val (.long hf), .second, .val (.long r0), .second, .val (.long r1), .second, .val (.long r2), .second, .val (.long sq), .second, .unset, .unset] [(.long ((sq * (bb % mm)) % mm))])) target
        exact kt
      exact ⟨((sq * (bb % mm)) % mm), (by simp only [if_neg hc26]), g28⟩
  have hex : ex.toInt = ((B ^ E % M : Nat) : Int) := by
    rw [← own_last, hm29]
    by_cases hk : E % 2 = 0
    · rw [if_pos ((own_odd ee E he0).mpr hk), if_pos hk, hsq]
    · rw [if_neg (fun h => hk ((own_odd ee E he0).mp h)), if_neg hk]
      exact own_mm sq (bb % mm) mm _ (B % M) M hsq (own_mod bb mm B M hb0 hm0) hm0 (Nat.mod_lt _ (by omega)) (Nat.mod_lt _ (by omega)) hM
  have g30 : own_Go p e below s₁ (entryFrame m #[(.long p0), (.long p1), (.long p2)] maxLocals) T22 (mkF m 159 #[.val (.long p0), .second, .val (.long p1), .second, .val (.long p2), .second, .val (.long mm), .second, .val (.long bb), .second, .val (.long ee), .second, .val (.long hf), .second, .val (.long r0), .second, .val (.long r1), .second, .val (.long r2), .second, .val (.long sq), .second, .val (.long ex), .second] [(.int (1 : Int32))]) := by
    intro target kt
    refine g29 target ?_
    refine XT.lstore X22.here hx rfl (hb hby at_129) rfl (l' := #[.val (.long p0), .second, .val (.long p1), .second, .val (.long p2), .second, .val (.long mm), .second, .val (.long bb), .second, .val (.long ee), .second, .val (.long hf), .second, .val (.long r0), .second, .val (.long r1), .second, .val (.long r2), .second, .val (.long sq), .second, .val (.long ex), .second]) rfl ?_
    show Steps p.tables e below (T22.setTop (mkF m 131 #[.val (.long p0), .second, .val (.long p1), .second, .val (.long p2), .second, .val (.long mm), .second, .val (.long bb), .second, .val (.long ee), .second, .val (.long hf), .second, .val (.long r0), .second, .val (.long r1), .second, .val (.long r2), .second, .val (.long sq), .second, .val (.long ex), .second] [])) target
    refine XT.lload X22.here hx rfl (hb hby at_131) rfl ?_
    show Steps p.tables e below (T22.setTop (mkF m 133 #[.val (.long p0), .second, .val (.long p1), .second, .val (.long p2), .second, .val (.long mm), .second, .val (.long bb), .second, .val (.long ee), .second, .val (.long hf), .second, .val (.long r0), .second, .val (.long r1), .second, .val (.long r2), .second, .val (.long sq), .second, .val (.long ex), .second] [(.long r1)])) target
    refine XT.lconstV X22.here hx rfl (0 : Int64) (hb hby at_133) rfl ?_
    show Steps p.tables e below (T22.setTop (mkF m 134 #[.val (.long p0), .second, .val (.long p1), .second, .val (.long p2), .second, .val (.long mm), .second, .val (.long bb), .second, .val (.long ee), .second, .val (.long hf), .second, .val (.long r0), .second, .val (.long r1), .second, .val (.long r2), .second, .val (.long sq), .second, .val (.long ex), .second] [(.long (0 : Int64)), (.long r1)])) target
    refine XT.lcmp X22.here hx rfl (hb hby at_134) rfl ?_
    show Steps p.tables e below (T22.setTop (mkF m 135 #[.val (.long p0), .second, .val (.long p1), .second, .val (.long p2), .second, .val (.long mm), .second, .val (.long bb), .second, .val (.long ee), .second, .val (.long hf), .second, .val (.long r0), .second, .val (.long r1), .second, .val (.long r2), .second, .val (.long sq), .second, .val (.long ex), .second] [(.int (XT.cmpL r1 (0 : Int64)))])) target
    refine XS.ifNo X22.here hx rfl (hb hby at_135) rfl (XT.ll_lt_f (own_nneg hr1)) ?_
    show Steps p.tables e below (T22.setTop (mkF m 138 #[.val (.long p0), .second, .val (.long p1), .second, .val (.long p2), .second, .val (.long mm), .second, .val (.long bb), .second, .val (.long ee), .second, .val (.long hf), .second, .val (.long r0), .second, .val (.long r1), .second, .val (.long r2), .second, .val (.long sq), .second, .val (.long ex), .second] [])) target
    refine XT.lload X22.here hx rfl (hb hby at_138) rfl ?_
    show Steps p.tables e below (T22.setTop (mkF m 140 #[.val (.long p0), .second, .val (.long p1), .second, .val (.long p2), .second, .val (.long mm), .second, .val (.long bb), .second, .val (.long ee), .second, .val (.long hf), .second, .val (.long r0), .second, .val (.long r1), .second, .val (.long r2), .second, .val (.long sq), .second, .val (.long ex), .second] [(.long r1)])) target
    refine XT.lload X22.here hx rfl (hb hby at_140) rfl ?_
    show Steps p.tables e below (T22.setTop (mkF m 142 #[.val (.long p0), .second, .val (.long p1), .second, .val (.long p2), .second, .val (.long mm), .second, .val (.long bb), .second, .val (.long ee), .second, .val (.long hf), .second, .val (.long r0), .second, .val (.long r1), .second, .val (.long r2), .second, .val (.long sq), .second, .val (.long ex), .second] [(.long mm), (.long r1)])) target
    refine XT.lcmp X22.here hx rfl (hb hby at_142) rfl ?_
    show Steps p.tables e below (T22.setTop (mkF m 143 #[.val (.long p0), .second, .val (.long p1), .second, .val (.long p2), .second, .val (.long mm), .second, .val (.long bb), .second, .val (.long ee), .second, .val (.long hf), .second, .val (.long r0), .second, .val (.long r1), .second, .val (.long r2), .second, .val (.long sq), .second, .val (.long ex), .second] [(.int (XT.cmpL r1 mm))])) target
    refine XS.ifNo X22.here hx rfl (hb hby at_143) rfl (XT.ll_ge_f (own_lt hr1 hm0 hlt1)) ?_
    show Steps p.tables e below (T22.setTop (mkF m 146 #[.val (.long p0), .second, .val (.long p1), .second, .val (.long p2), .second, .val (.long mm), .second, .val (.long bb), .second, .val (.long ee), .second, .val (.long hf), .second, .val (.long r0), .second, .val (.long r1), .second, .val (.long r2), .second, .val (.long sq), .second, .val (.long ex), .second] [])) target
    refine XT.lload X22.here hx rfl (hb hby at_146) rfl ?_
    show Steps p.tables e below (T22.setTop (mkF m 148 #[.val (.long p0), .second, .val (.long p1), .second, .val (.long p2), .second, .val (.long mm), .second, .val (.long bb), .second, .val (.long ee), .second, .val (.long hf), .second, .val (.long r0), .second, .val (.long r1), .second, .val (.long r2), .second, .val (.long sq), .second, .val (.long ex), .second] [(.long r1)])) target
    refine XT.lload X22.here hx rfl (hb hby at_148) rfl ?_
    show Steps p.tables e below (T22.setTop (mkF m 150 #[.val (.long p0), .second, .val (.long p1), .second, .val (.long p2), .second, .val (.long mm), .second, .val (.long bb), .second, .val (.long ee), .second, .val (.long hf), .second, .val (.long r0), .second, .val (.long r1), .second, .val (.long r2), .second, .val (.long sq), .second, .val (.long ex), .second] [(.long ex), (.long r1)])) target
    refine XT.lcmp X22.here hx rfl (hb hby at_150) rfl ?_
    show Steps p.tables e below (T22.setTop (mkF m 151 #[.val (.long p0), .second, .val (.long p1), .second, .val (.long p2), .second, .val (.long mm), .second, .val (.long bb), .second, .val (.long ee), .second, .val (.long hf), .second, .val (.long r0), .second, .val (.long r1), .second, .val (.long r2), .second, .val (.long sq), .second, .val (.long ex), .second] [(.int (XT.cmpL r1 ex))])) target
    refine XS.ifNo X22.here hx rfl (hb hby at_151) rfl (XT.ll_ne_f (own_eq hr1 hex)) ?_
    show Steps p.tables e below (T22.setTop (mkF m 154 #[.val (.long p0), .second, .val (.long p1), .second, .val (.long p2), .second, .val (.long mm), .second, .val (.long bb), .second, .val (.long ee), .second, .val (.long hf), .second, .val (.long r0), .second, .val (.long r1), .second, .val (.long r2), .second, .val (.long sq), .second, .val (.long ex), .second] [])) target
    refine XT.iconstV X22.here hx rfl (1 : Int32) (hb hby at_154) rfl ?_
    show Steps p.tables e below (T22.setTop (mkF m 155 #[.val (.long p0), .second, .val (.long p1), .second, .val (.long p2), .second, .val (.long mm), .second, .val (.long bb), .second, .val (.long ee), .second, .val (.long hf), .second, .val (.long r0), .second, .val (.long r1), .second, .val (.long r2), .second, .val (.long sq), .second, .val (.long ex), .second] [(.int (1 : Int32))])) target
    refine XS.goto X22.here hx rfl (pc0 := 155) (pc' := 159) rfl (hb hby at_155) (by decide) (by decide) ?_
    show Steps p.tables e below (T22.setTop (mkF m 159 #[.val (.long p0), .second, .val (.long p1), .second, .val (.long p2), .second, .val (.long mm), .second, .val (.long bb), .second, .val (.long ee), .second, .val (.long hf), .second, .val (.long r0), .second, .val (.long r1), .second, .val (.long r2), .second, .val (.long sq), .second, .val (.long ex), .second] [(.int (1 : Int32))])) target
    exact kt
  obtain ⟨fs, hr, hrun, hended, hW, hsame⟩ := X22.leave (v := some (.int (nar .boolean (1 : Int32)))) (fun h => by rw [Bd.returns] at h; cases h)
  refine ⟨_, _, g30 _ ?_, hrun, hended, _, _, rfl, ?_, ⟨_, rfl⟩, hW, hsame.mono (by decide) (by decide)⟩
  · exact retN X22 hx (t := .boolean) Bd.returns (by simp) (hb hby at_159) hr
  · show Q_rm0 Z p0 p1 p2  h0 n0 _ T22.heap _
    rw [eq22]
    exact ⟨rfl, N22⟩
set_option maxRecDepth 65536 in
set_option maxHeartbeats 40000000 in
theorem comes_1 {Post : Tables → Env → Array Value → State → Outcome → State → Prop} (hpost : ∀ tb e args s v u, (limb_1_1.after args s (.returned v) u = true ∧ limb_1_2.after args s (.returned v) u = true ∧ True) → FrameEnd s (.returned v) u (Jvm.fieldLocs frame_1_writes args s ++ Jvm.arrayLocs frame_1_arrays args s ++ Jvm.staticLocs frame_1_statics s) 0 0 → Post tb e args s (.returned v) u) :
    ArmFor flags0 classFile x code maxLocals ret World_1 tables_1 room_1 Calls_1 rest_1 Pre_1 Post := by
  intro l hfl _ _ p e ha hc hk s m args below hf hA hF happ hP
  obtain ⟨hcalls, hrest, hpre⟩ := hP
  obtain ⟨-, -, -, hnamed, -, -, -, hat⟩ := (Spec.applies_iff hf).mp happ
  obtain ⟨hg, hn⟩ := and_e (Cond.before_iff.mp (show (Jvm.Cond.and given_1 narrow_1).before args s = true from hpre))
  obtain ⟨hcnt, hs0⟩ := and_e hg
  obtain ⟨ha0, hs1⟩ := and_e hs0
  obtain ⟨ha1, hs2⟩ := and_e hs1
  have ha2 := hs2
  obtain ⟨w0, w1, w2, rfl⟩ : ∃ w0 w1 w2 : Value, args = #[w0, w1, w2] := by
    have hs : args.size = 3 := by simpa [Cond.value, given_1] using hcnt
    obtain ⟨L⟩ := args
    match L, hs with
    | [w0, w1, w2], _ => exact ⟨w0, w1, w2, rfl⟩
  have hw := fun d (hd : d ∈ tables_1) => atoms_spec (ws := Jvm.Cond.code x code maxLocals ret :: tables_1) hat d (List.mem_cons_of_mem _ hd)
  have hfit : Fit s := fun {y c} hc i hi => by
    obtain ⟨ha, rfl⟩ := Array.getElem?_eq_some_iff.mp hc
    have q := List.all_eq_true.mp ((Array.all_eq_true_iff_forall_mem.mp hF) _ (Array.getElem_mem ha)) i (List.mem_range.mpr hi)
    simpa [Array.getElem?_eq_getElem hi] using q
  obtain ⟨i0, ei0⟩ := isL_v ha0
  obtain rfl : w0 = (.long i0) := Option.some.inj ei0
  obtain ⟨i1, ei1⟩ := isL_v ha1
  obtain rfl : w1 = (.long i1) := Option.some.inj ei1
  obtain ⟨i2, ei2⟩ := isL_v ha2
  obtain rfl : w2 = (.long i2) := Option.some.inj ei2
  obtain ⟨n, o, h1, h2, h3, _, L, rfl, ⟨rfl, N⟩, hq⟩ := rm0 l s _ hw tables_1 i0 i1 i2  s.heap s.heap.size (Nat.le_refl _)  p e ha hc hk s m _ below hf ((Spec.applies_iff_loose hf).mp happ).1 ⟨rfl, State.Warmed39.refl s, rfl⟩ trivial
  refine ⟨n, _, h1, h2, h3, hpost _ _ _ _ _ _ ⟨Cond.after_iff.mpr rfl, Cond.after_iff.mpr (eq_i res_at (Term.int_eval (1)) rfl), trivial⟩ ⟨hq.1, hq.2.1, (hq.2.2.sift fun y hy => Or.inr (N y hy)).mono (by decide) (by decide)⟩⟩
theorem main_1_1 : Claimed_1_1 := comes_1 fun _ _ _ _ _ _ h hF => ⟨h.1, hF⟩
theorem main_1_2 : Claimed_1_2 := comes_1 fun _ _ _ _ _ _ h hF => ⟨h.2.1, hF⟩
end Jvm.Pilot.@@N@@
namespace Jvm.Pilot.@@N@@
open Jvm Jvm.ClassFile Sem Op Lib Jvm.Free Jvm.Stand Jvm.Pilot.@@N@@.Jvm.D
/-! MADE BY PROGRAM (witnessworld.py) out of the Statement's table words and the real class files: 9 classes; the members and pool entries that the words name. The judged class is class 1, her method 1. -/
namespace start1
open Jvm.ClassFile
def u (s : String) : CpInfo := .utf8 (stringToUtf16 s)
/-- a pool by its gaps: so many unusable entries, then the entry; so many at the end -/
def gap : Nat → List CpInfo → List CpInfo
  | 0, r => r
  | n + 1, r => .unusable :: gap n r
def poolList (es : List (Nat × CpInfo)) (last : Nat) : List CpInfo := es.foldr (fun e r => gap e.1 (e.2 :: r)) (gap last [])
def pool (es : List (Nat × CpInfo)) (last : Nat) : Array CpInfo := ⟨poolList es last⟩
def fileOf (pool : Array CpInfo) (this : Nat) (attrs : Array Attribute := #[]) (ms : Array MethodInfo := #[]) (fl : Nat := 33) (sup : Nat := 0) (ifs : Array Nat := #[]) (fds : Array FieldInfo := #[]) : ClassFile where
  minorVersion := 0
  majorVersion := 65
  constantPool := pool
  accessFlags := fl
  thisClass := this
  superClass := sup
  interfaces := ifs
  fields := fds
  methods := ms
  attributes := attrs
def plain (name : String) (sup : Option ClassId) : Class where
  name := name
  kind := .ordinary
  loader := none
  accessFlags := 33
  super := sup
  interfaces := #[]
  cf := none
  fields := #[]
  methods := #[]
  instanceTypes := #[]
  staticTypes := #[]
  resolved := #[]
  callSites := []
  init := .initialized
  statics := none
  mirror := none

def pool0 : Array CpInfo := pool [(5, u "<init>"), (0, u "()V"), (1, .class_ 10), (1, u "java/lang/Object")] 113

def k0m0 : Method := { name := "<init>", desc := "()V", sig := { parameters := [], returnType := none }, accessFlags := 1, code := none }
/-- java/lang/Object -/
def k0 : Class := { plain "java/lang/Object" none with
  accessFlags := 33
  interfaces := #[]
  cf := some (fileOf pool0 8 #[] #[{ accessFlags := 1, nameIndex := 5, descriptorIndex := 6, attributes := #[] }] 33 0 #[] #[])
  fields := #[]
  methods := #[k0m0]
  instanceTypes := #[]
  staticTypes := #[]
  resolved := Array.replicate 124 none
  statics := none }

def pool1 : Array CpInfo := pool [(2, .class_ 4), (1, u "java/lang/Object"), (0, u "<init>"), (0, u "()V"), (0, .long 2), (1, .long 2147483647), (1, .long 2147483646), (3, .long 9223372036854775807), (1, .methodref 18 19), (0, .class_ 20), (0, .nameAndType 21 22), (0, u "com/example/dichotome/dichotome/algebra/PrimeBasis"), (0, u "power"), (0, u "(JJJ)J"), (0, .class_ 24), (0, u "com/example/dichotome/dichotome/algebra/PrimeBasisPowerPinLaw"), (2, u "law"), (0, u "(JJJ)Z")] 3

def k1m0 : Method := { name := "<init>", desc := "()V", sig := { parameters := [], returnType := none }, accessFlags := 1, code := none }
def k1c1 : Code := { maxStack := 6, maxLocals := 24, code := code, exceptionTable := #[], attributes := #[] }
def k1m1 : Method := { name := "law", desc := "(JJJ)Z", sig := { parameters := [.long, .long, .long], returnType := some .boolean }, accessFlags := 9, code := some k1c1 }
/-- com/example/dichotome/dichotome/algebra/PrimeBasisPowerPinLaw -/
def k1 : Class := { plain "com/example/dichotome/dichotome/algebra/PrimeBasisPowerPinLaw" (some 0) with
  accessFlags := 49
  interfaces := #[]
  cf := some (fileOf pool1 23 #[] #[{ accessFlags := 1, nameIndex := 5, descriptorIndex := 6, attributes := #[] }, { accessFlags := 9, nameIndex := 27, descriptorIndex := 28, attributes := #[] }] 49 2 #[] #[])
  fields := #[]
  methods := #[k1m0, k1m1]
  instanceTypes := #[]
  staticTypes := #[]
  resolved := Array.replicate 32 none
  statics := none }

def pool2 : Array CpInfo := pool [(2, .class_ 4), (1, u "java/lang/Object"), (3, .class_ 10), (1, u "com/example/dichotome/dichotome/algebra/PrimeBasis"), (0, u "primes"), (0, u "[I"), (2, u "reciprocals"), (0, u "[D"), (5, u "Ljava/math/BigInteger;"), (10, u "zero"), (2, u "product"), (6, u "largest"), (11, u "BASES"), (0, u "Ljava/util/List;"), (39, u "PRIMES"), (33, u "power"), (0, u "(JJJ)J"), (26, u "radix"), (53, .class_ 214), (1, u "com/example/dichotome/dichotome/algebra/PrimeBasis$Radix"), (19, u "Lcom/example/dichotome/dichotome/algebra/PrimeBasis$Radix;"), (12, u "BITS"), (0, u "I"), (2, u "TERMS"), (1, u "MAX_PRIMES")] 42

def k2c0 : Code := { maxStack := 4, maxLocals := 12, code := prog_76_method_6_code, exceptionTable := #[], attributes := #[] }
def k2m0 : Method := { name := "power", desc := "(JJJ)J", sig := { parameters := [.long, .long, .long], returnType := some .long }, accessFlags := 8, code := some k2c0 }
/-- com/example/dichotome/dichotome/algebra/PrimeBasis -/
def k2 : Class := { plain "com/example/dichotome/dichotome/algebra/PrimeBasis" (some 0) with
  accessFlags := 48
  interfaces := #[]
  cf := some (fileOf pool2 8 #[.nestMembers #[212]] #[{ accessFlags := 8, nameIndex := 130, descriptorIndex := 131, attributes := #[] }] 48 2 #[] #[{ accessFlags := 24, nameIndex := 247, descriptorIndex := 248, attributes := #[] }, { accessFlags := 24, nameIndex := 251, descriptorIndex := 248, attributes := #[] }, { accessFlags := 24, nameIndex := 253, descriptorIndex := 248, attributes := #[] }, { accessFlags := 26, nameIndex := 96, descriptorIndex := 56, attributes := #[] }, { accessFlags := 26, nameIndex := 55, descriptorIndex := 56, attributes := #[] }, { accessFlags := 18, nameIndex := 11, descriptorIndex := 12, attributes := #[] }, { accessFlags := 18, nameIndex := 15, descriptorIndex := 16, attributes := #[] }, { accessFlags := 18, nameIndex := 33, descriptorIndex := 12, attributes := #[] }, { accessFlags := 18, nameIndex := 36, descriptorIndex := 22, attributes := #[] }, { accessFlags := 18, nameIndex := 43, descriptorIndex := 22, attributes := #[] }, { accessFlags := 66, nameIndex := 158, descriptorIndex := 234, attributes := #[] }])
  fields := #[{ name := "BITS", type := .int, accessFlags := 24, slot := 0, constantValue := 0 }, { name := "TERMS", type := .int, accessFlags := 24, slot := 1, constantValue := 0 }, { name := "MAX_PRIMES", type := .int, accessFlags := 24, slot := 2, constantValue := 0 }, { name := "PRIMES", type := (.object "java/util/List"), accessFlags := 26, slot := 3, constantValue := 0 }, { name := "BASES", type := (.object "java/util/List"), accessFlags := 26, slot := 4, constantValue := 0 }, { name := "primes", type := (.array .int), accessFlags := 18, slot := 0, constantValue := 0 }, { name := "reciprocals", type := (.array .double), accessFlags := 18, slot := 1, constantValue := 0 }, { name := "zero", type := (.array .int), accessFlags := 18, slot := 2, constantValue := 0 }, { name := "product", type := (.object "java/math/BigInteger"), accessFlags := 18, slot := 3, constantValue := 0 }, { name := "largest", type := (.object "java/math/BigInteger"), accessFlags := 18, slot := 4, constantValue := 0 }, { name := "radix", type := (.object "com/example/dichotome/dichotome/algebra/PrimeBasis$Radix"), accessFlags := 66, slot := 5, constantValue := 0 }]
  methods := #[k2m0]
  instanceTypes := #[(.array .int), (.array .double), (.array .int), (.object "java/math/BigInteger"), (.object "java/math/BigInteger"), (.object "com/example/dichotome/dichotome/algebra/PrimeBasis$Radix")]
  staticTypes := #[.int, .int, .int, (.object "java/util/List"), (.object "java/util/List")]
  resolved := Array.replicate 296 none
  statics := none }

def pool3 : Array CpInfo := pool [(1, u "java/lang/Cloneable"), (0, .class_ 1), (0, u "java/lang/Object"), (0, .class_ 3)] 3

/-- java/lang/Cloneable -/
def k3 : Class := { plain "java/lang/Cloneable" (some 0) with
  accessFlags := 1537
  interfaces := #[]
  cf := some (fileOf pool3 2 #[] #[] 1537 4 #[] #[])
  fields := #[]
  methods := #[]
  instanceTypes := #[]
  staticTypes := #[]
  resolved := Array.replicate 8 none
  statics := none }

def pool4 : Array CpInfo := pool [(1, u "java/io/Serializable"), (0, .class_ 1), (0, u "java/lang/Object"), (0, .class_ 3)] 3

/-- java/io/Serializable -/
def k4 : Class := { plain "java/io/Serializable" (some 0) with
  accessFlags := 1537
  interfaces := #[]
  cf := some (fileOf pool4 2 #[] #[] 1537 4 #[] #[])
  fields := #[]
  methods := #[]
  instanceTypes := #[]
  staticTypes := #[]
  resolved := Array.replicate 8 none
  statics := none }

/-- the primitive byte -/
def k5 : Class := { plain "byte" none with kind := .primitive 'B', accessFlags := 0x411 }
/-- [B -/
def k6 : Class := { plain "[B" (some 0) with kind := .array 5 .byte, interfaces := #[3, 4], accessFlags := 1041 }

/-- the primitive int -/
def k7 : Class := { plain "int" none with kind := .primitive 'I', accessFlags := 0x411 }
/-- [I -/
def k8 : Class := { plain "[I" (some 0) with kind := .array 7 .int, interfaces := #[3, 4], accessFlags := 1041 }

def heap : Heap := #[]
def classes : Array Class := #[k0, k1, k2, k3, k4, k5, k6, k7, k8]
def interned : List (Array UInt16 × Addr) := []
def slotsUsed : Nat := 0
def theMethod : MethodId := ⟨1, 1⟩
def args0 : Array Value := #[.long 5, .long 6, .long 7]
def aboutOver (below : List Frame) : State where
  vm := { classes := classes, interned := interned.toArray }
  heap := heap
  slotsUsed := slotsUsed
  threads := #[{ frames := .invoking theMethod args0 :: below }]
def below0 : List Frame := [.native { method := ⟨0, 0⟩, args := #[] }]
def about1 : State := aboutOver below0
def p0 : Program := .bare "" "" ""
def e0 : Env := launch0.env 0 0 0
theorem w_frames : about1.frames = Frame.invoking theMethod args0 :: below0 := rfl
set_option maxRecDepth 65536 in
theorem w_args : argsFit about1.vm theMethod args0 = true := by decide +kernel
set_option maxRecDepth 65536 in
theorem w_heap : heapFits about1 = true := by decide +kernel
set_option maxRecDepth 65536 in
theorem w_runnable : about1.curStatus? = some .runnable := by decide +kernel
set_option maxRecDepth 65536 in
theorem w_alone : about1.alone = true := by decide +kernel
set_option maxRecDepth 65536 in
theorem w_named : about1.methodNamed? x = some theMethod := by decide +kernel
set_option maxRecDepth 65536 in
theorem w_hears : about1.hears theMethod below0 = true := by decide +kernel
set_option maxRecDepth 65536 in
theorem w_ripe : about1.ripe theMethod args0 below0 = true := by decide +kernel
theorem w_running : about1.status = .running := rfl
set_option maxRecDepth 65536 in
theorem w_room : about1.hasRoom e0.platform room_1 = true :=
  launch0.hasRoom_least _ room_1 (by decide +kernel) (by decide +kernel) (by decide +kernel) (by decide +kernel) (by decide +kernel) (by decide +kernel)
theorem allAtoms_all (ts : List Jvm.Cond) (a : Array Jvm.Value) (st : Jvm.State) : (allAtoms ts).before a st = ts.all (fun c => c.before a st) := by
  induction ts with
  | nil => rfl
  | cons c t ih =>
    show (Jvm.Cond.and c (allAtoms t)).before a st = _
    rw [Jvm.Cond.before_and, ih, List.all_cons]
def words1 : List Jvm.Cond := Jvm.Cond.code x code maxLocals ret :: tables_1
/-- a 'code' word, met by the world's own term for the bytes: nothing is compared byte by byte -/
theorem code_word {y : MethodName} {bytes : ByteArray} {mx : Nat} {rt : Option FieldType} {a : Array Value} {s : State} {m : MethodId} {meth : Method} {c : Code} (h1 : s.methodNamed? y = some m) (h2 : s.vm.method? m = some meth) (h3 : meth.code = some c) (h4 : c.code = bytes)
    (h5 : (c.maxLocals == mx && c.exceptionTable.isEmpty && decide (c.maxStack ≤ mostOperands) && decide (meth.sig.returnType = rt) && !meth.locks && decide (parseMethodDescriptor y.desc = some meth.sig)) = true) : (Jvm.Cond.code y bytes mx rt).before a s = true := by
  simp only [Bool.and_eq_true, beq_iff_eq, Bool.not_eq_true', decide_eq_true_eq] at h5
  obtain ⟨⟨⟨⟨⟨g1, g2⟩, g3⟩, g4⟩, g5⟩, g6⟩ := h5
  simp [Cond.before, Cond.holds, Cond.value, h1, h2, h3, h4, g1, g2, g3, g4, g5, g6]
def isCode : Jvm.Cond → Bool
  | .code _ _ _ _ => true
  | _ => false
theorem all_split {L : List Jvm.Cond} {P : Jvm.Cond → Bool} (h1 : L.all (fun c => isCode c || P c) = true) (h2 : ∀ c ∈ L.filter isCode, P c = true) : L.all P = true := by
  refine List.all_eq_true.mpr fun c hc => ?_
  have h := List.all_eq_true.mp h1 c hc
  rcases Bool.eq_false_or_eq_true (isCode c) with hi | hi
  · exact h2 c (List.mem_filter.mpr ⟨hc, hi⟩)
  · simpa [hi] using h
set_option maxRecDepth 65536 in
theorem w_c0 : (Jvm.Cond.code x code maxLocals ret).before args0 about1 = true := code_word (m := ⟨1, 1⟩) (meth := k1m1) (c := k1c1) (by decide +kernel) rfl rfl rfl (by decide +kernel)
set_option maxRecDepth 65536 in
theorem w_c1 : (Jvm.Cond.code ({ cls := "com/example/dichotome/dichotome/algebra/PrimeBasis", name := "power", desc := "(JJJ)J" } : Jvm.MethodName) prog_76_method_6_code (12 : Nat) (Option.some Jvm.ClassFile.FieldType.long)).before args0 about1 = true := code_word (m := ⟨2, 0⟩) (meth := k2m0) (c := k2c0) (by decide +kernel) rfl rfl rfl (by decide +kernel)
def codes1 : List Jvm.Cond := [Jvm.Cond.code x code maxLocals ret, Jvm.Cond.code ({ cls := "com/example/dichotome/dichotome/algebra/PrimeBasis", name := "power", desc := "(JJJ)J" } : Jvm.MethodName) prog_76_method_6_code (12 : Nat) (Option.some Jvm.ClassFile.FieldType.long)]
set_option maxRecDepth 65536 in
theorem codes_eq : words1.filter isCode = codes1 := rfl
theorem w_codes : ∀ c ∈ words1.filter isCode, c.before args0 about1 = true := by
  rw [codes_eq]
  intro c hc
  simp only [codes1, List.mem_cons, List.not_mem_nil, or_false] at hc
  rcases hc with rfl | rfl
  · exact w_c0
  · exact w_c1
set_option maxRecDepth 65536 in
theorem w_t1 : words1.all (fun c => isCode c || c.before args0 about1) = true := by decide +kernel
theorem w_tables : (allAtoms (Jvm.Cond.code x code maxLocals ret :: tables_1)).before args0 about1 = true := by
  rw [allAtoms_all]
  show words1.all (fun c => c.before args0 about1) = true
  refine all_split ?_ w_codes
  rw [w_t1]
set_option maxRecDepth 65536 in
theorem w_case : (Jvm.Cond.and given_1 narrow_1).before args0 about1 = true := by decide +kernel
theorem w_applies : (headSpec (Jvm.Cond.code x code maxLocals ret :: tables_1) room_1).applies x e0.platform about1 = true :=
  (Spec.applies_iff w_frames).mpr ⟨w_running, w_runnable, w_alone, w_named, w_hears, w_ripe, w_room, w_tables⟩
theorem atStart : AtStart classFile x code maxLocals ret World_1 tables_1 room_1 Calls_1 rest_1 Pre_1 launch0 p0 e0 about1 theMethod args0 below0 :=
  ⟨lists_1, trivial, launch0.admits_env _ _ _, launch0.least_env, fairChoices_fair.cas, fairChoices_fair.clock, w_frames, w_args, w_heap, w_applies, trivial, trivial, w_case⟩
end start1
theorem witness_1 : WitnessClaimed_1 := ⟨start1.p0, start1.e0, start1.about1, start1.theMethod, start1.args0, start1.below0, start1.atStart⟩
end Jvm.Pilot.@@N@@
