import JvmDerived
import JvmDerived.Pilot.@@N@@Statement
import JvmDerived.Pilot.@@N@@Code
set_option linter.unusedVariables false
set_option linter.unusedSimpArgs false
namespace Jvm.RoadKit
open Sem ClassFile Op Lib Jvm.Stand Jvm.Free Jvm.LawKit
section New
variable {p : Program} {l : Launch} {e : Env} {R : Room} {s : State} {m : MethodId} {args : Array Value} {below : List Frame} {meth : Method} {c : Code} {T : State} {locs : List Loc} {cells slots : Nat}
theorem retI (X : Stand p l e R s m args below meth c T locs cells slots) (hx : p.tables.exec = Jvm.exec) {pc : Nat} {Ls : Array Slot} {z : Int32} {rest : List Value} (hret : meth.sig.returnType = some .int) (hd : decode c.code pc = .ok (.ireturn, 1)) {fs : List Frame}
    (hl : ∀ (f : JFrame) (acts : List Action), f.method = m → f.locked = none → f.entered = [] → (doReturn e (T.setTop f) acts (some (.int z))).1 = T.setFrames fs) : Steps p.tables e below (T.setTop (mkF m pc Ls (.int z :: rest))) (T.setFrames fs) := by
  have hm' : T.vm.method? m = some meth := X.method'
  have hn : narrow .int (.int z) = .int z := rfl
  show Steps p.tables e below (T.setTop { method := m, pc := pc, locals := Ls, stack := _ :: rest, locked := none }) _
  jvm_step X.here [X.here.top, hx, hd, hm', hret, hn]
  first | (intro acts; rw [hl _ acts rfl rfl rfl]) | rw [hl _ _ rfl rfl rfl]
  exact Steps.refl _
end New
end Jvm.RoadKit
namespace Jvm.Pilot.@@N@@
open Jvm Jvm.ClassFile Sem Op Lib Jvm.Free Jvm.Stand Jvm.LawKit Jvm.RoadKit Bundle Jvm.Pilot.@@N@@.Jvm.D
/-- whoever reaches a target from the frame F of T reaches it from the frame F0 of T0 -/
def own_Go (p : Program) (e : Env) (below : List Frame) (T0 : State) (F0 : JFrame) (T : State) (F : JFrame) : Prop := ∀ target, Steps p.tables e below (T.setTop F) target → Steps p.tables e below (T0.setTop F0) target
theorem own_Go.refl {p : Program} {e : Env} {below : List Frame} {T : State} {F : JFrame} : own_Go p e below T F T F := fun _ k => k
theorem own_Go.trans {p : Program} {e : Env} {below : List Frame} {T0 T1 T2 : State} {F0 F1 F2 : JFrame} (a : own_Go p e below T0 F0 T1 F1) (b : own_Go p e below T1 F1 T2 F2) : own_Go p e below T0 F0 T2 F2 := fun t k => a t (b t k)

theorem pd_0 : parseMethodDescriptor "(J)J" = some ⟨[.long], some .long⟩ := by decide +kernel
theorem pd_1 : parseMethodDescriptor "(J)V" = some ⟨[.long], none⟩ := by decide +kernel
theorem pd_2 : parseMethodDescriptor "()J" = some ⟨[], some .long⟩ := by decide +kernel
/-! plain laws -/
theorem own_xsB (x : BitVec 64) (k : Nat) (hk : 64 ≤ 3 * k) : ((x ^^^ (x >>> k)) ^^^ ((x ^^^ (x >>> k)) >>> k)) ^^^ ((x ^^^ (x >>> k)) >>> (2 * k)) = x := by
  apply BitVec.eq_of_getLsbD_eq
  intro i hi
  simp only [BitVec.getLsbD_xor, BitVec.getLsbD_ushiftRight]
  have h3 : x.getLsbD (k + (2 * k + i)) = false := BitVec.getLsbD_of_ge x _ (by omega)
  have e1 : k + (k + i) = 2 * k + i := by omega
  rw [h3, e1]
  cases x.getLsbD i <;> cases x.getLsbD (k + i) <;> cases x.getLsbD (2 * k + i) <;> rfl
theorem own_sh (x : Int64) (y : Int32) (k : Nat) (hk : k < 64) (hy : y.toInt64.toUInt64 &&& Int64.toUInt64 63 = UInt64.ofNat k) : (XT.ushrL x y).toBitVec = x.toBitVec >>> k := by
  unfold XT.ushrL
  rw [hy]
  show (x.toUInt64 >>> UInt64.ofNat k).toBitVec = _
  rw [UInt64.toBitVec_shiftRight]
  apply BitVec.eq_of_toNat_eq
  simp only [BitVec.ushiftRight_eq', BitVec.toNat_ushiftRight, BitVec.toNat_umod]
  have : (UInt64.ofNat k).toBitVec.toNat = k := by
    show k % 2 ^ 64 = k
    omega
  rw [this]
  have e : k % (64 : BitVec 64).toNat = k := by
    show k % 64 = k
    omega
  rw [e]
  rfl
theorem own_xs (x : Int64) (y1 y2 : Int32) (k : Nat) (hk : 64 ≤ 3 * k) (hk2 : 2 * k < 64) (h1 : y1.toInt64.toUInt64 &&& Int64.toUInt64 63 = UInt64.ofNat k) (h2 : y2.toInt64.toUInt64 &&& Int64.toUInt64 63 = UInt64.ofNat (2 * k)) :
    ((x ^^^ XT.ushrL x y1) ^^^ XT.ushrL (x ^^^ XT.ushrL x y1) y1) ^^^ XT.ushrL (x ^^^ XT.ushrL x y1) y2 = x := by
  apply Int64.toBitVec_inj.mp
  simp only [Int64.toBitVec_xor, own_sh _ y1 k (by omega) h1, own_sh _ y2 (2 * k) hk2 h2]
  exact own_xsB x.toBitVec k hk
def own_si (a x : Int64) : Int64 := x * ((2 : Int64) - (a * x))
def own_inv (a : Int64) : Int64 := own_si a (own_si a (own_si a (own_si a (own_si a a))))
def own_A : Int64 := -4658895280553007687
def own_B : Int64 := -7723592293110705685
def own_mix (z : Int64) : Int64 :=
  let z1 := (z ^^^ XT.ushrL z 30) * own_A
  let z2 := (z1 ^^^ XT.ushrL z1 27) * own_B
  z2 ^^^ XT.ushrL z2 31
def own_un (o : Int64) : Int64 :=
  let m2 := (o ^^^ XT.ushrL o 31) ^^^ XT.ushrL o 62
  let mx := m2 * own_inv own_B
  let m1 := (mx ^^^ XT.ushrL mx 27) ^^^ XT.ushrL mx 54
  let sx := m1 * own_inv own_A
  (sx ^^^ XT.ushrL sx 30) ^^^ XT.ushrL sx 60
theorem own_iA : own_A * own_inv own_A = 1 := by decide +kernel
theorem own_iB : own_B * own_inv own_B = 1 := by decide +kernel
theorem own_back (z : Int64) : own_un (own_mix z) = z := by
  unfold own_un own_mix
  dsimp only
  rw [own_xs _ 31 62 31 (by omega) (by omega) (by decide +kernel) (by decide +kernel), Int64.mul_assoc, own_iB, Int64.mul_one]
  rw [own_xs _ 27 54 27 (by omega) (by omega) (by decide +kernel) (by decide +kernel), Int64.mul_assoc, own_iA, Int64.mul_one]
  exact own_xs _ 30 60 30 (by omega) (by omega) (by decide +kernel) (by decide +kernel)
theorem d1_0 : decode prog_89_method_1_code 0 = .ok (.aload_n 0, 1) := by decide +kernel
theorem d1_1 : decode prog_89_method_1_code 1 = .ok (.invokespecial 1, 3) := by decide +kernel
theorem d1_4 : decode prog_89_method_1_code 4 = .ok (.aload_n 0, 1) := by decide +kernel
theorem d1_5 : decode prog_89_method_1_code 5 = .ok (.lload_n 1, 1) := by decide +kernel
theorem d1_6 : decode prog_89_method_1_code 6 = .ok (.putfield 7, 3) := by decide +kernel
theorem d1_9 : decode prog_89_method_1_code 9 = .ok (.return_, 1) := by decide +kernel
theorem pn_rm1 : plainName "com/example/dichotome/dichotome/algebra/SeededRandom" = true := by first | (simp [plainName, overriddenIn]; done) | decide +kernel
theorem ef_rm1 (m : MethodId) (a1 : Addr) (q1 : Int64) : entryFrame m #[(.ref a1), (.long q1)] 3 = mkF m 0 #[.val (.ref a1), .val (.long q1), .second] [] := by first | (simp [entryFrame, mkF, argsToLocals, Value.category]; done) | rfl
def Q_rm1 (Z : State) (a1 : Addr) (q1 : Int64)  (h0 : Heap) (n0 : Nat) (v : Option Value) (h : Heap) (L : List Loc) : Prop := v = none ∧ Fr n0 L ∧ Keep h0 h [a1] ∧ Exa Z h a1 "com/example/dichotome/dichotome/algebra/SeededRandom" ∧ Fld Z h a1 "com/example/dichotome/dichotome/algebra/SeededRandom" "state" "J" (.long q1)
set_option maxRecDepth 65536 in
set_option maxHeartbeats 40000000 in
theorem rm1 (l : Launch) (Z : State) (a0 : Array Value) (hw : ∀ d ∈ tables_1, d.before a0 Z = true) (ws : List Jvm.Cond) (a1 : Addr) (q1 : Int64)  (h0 : Heap) (n0 : Nat) (Z0 : n0 ≤ h0.size) (F1 : Fld Z h0 a1 "com/example/dichotome/dichotome/algebra/SeededRandom" "state" "J" (.long (0 : Int64))) (E1 : Exa Z h0 a1 "com/example/dichotome/dichotome/algebra/SeededRandom") (ga : n0 ≤ a1) :
    MetFree l (⟨"com/example/dichotome/dichotome/algebra/SeededRandom", "<init>", "(J)V"⟩ : MethodName) (head1 (Jvm.Cond.code (⟨"com/example/dichotome/dichotome/algebra/SeededRandom", "<init>", "(J)V"⟩ : MethodName) prog_89_method_1_code 3 none :: ws) ({ frames := 1, cells := 0, slots := 0, locals := 12 } : Room)) (fun a U => a = #[(.ref a1), (.long q1)] ∧ Z.Warmed39 U.vm ∧ U.heap = h0) (fun _ _ _ _ _ => True) (fun _ U o U' => ∃ v L, o = .returned v ∧ Q_rm1 Z a1 q1  h0 n0 v U'.heap L ∧ FrameEnd U o U' L ({ frames := 1, cells := 0, slots := 0, locals := 12 } : Room).cells ({ frames := 1, cells := 0, slots := 0, locals := 12 } : Room).slots) := by
  refine MetFree.of_bodySF (plainFor_of_name pn_rm1) hisR ?_
  intro p e s m args below meth c s₁ Bd hml0 hP hK
  obtain ⟨rfl, hZ, hh⟩ := hP
  have hx := Bd.exec
  have hby := Bd.bytes
  have hml : c.maxLocals = 3 := hml0
  have hown : s.vm.findClass "com/example/dichotome/dichotome/algebra/SeededRandom" = some m.cls := findClass_of_methodNamed Bd.named
  have hnm := (name_of_methodNamed Bd.named Bd.method).1
  have X0 : Stand p l e ({ frames := 1, cells := 0, slots := 0, locals := 12 } : Room) s m #[(.ref a1), (.long q1)] below meth c s₁ [] 0 0 := Stand.of_body Bd
  have e0 : s₁.heap = h0 := by rw [← hh, Bd.state]; rfl
  have N0 := Fr.nil n0
  have g0 : own_Go p e below s₁ (entryFrame m #[(.ref a1), (.long q1)] 3) s₁ (mkF m 0 #[.val (.ref a1), .val (.long q1), .second] []) := fun t k => castTop (ef_rm1 m a1 q1) k
  have g1 : own_Go p e below s₁ (entryFrame m #[(.ref a1), (.long q1)] 3) s₁ (mkF m 1 #[.val (.ref a1), .val (.long q1), .second] [(.ref a1)]) := by
    intro target kt
    refine g0 target ?_
    refine XS.aloadN X0.here hx rfl (hb hby d1_0) rfl rfl ?_
    show Steps p.tables e below (s₁.setTop (mkF m 1 #[.val (.ref a1), .val (.long q1), .second] [(.ref a1)])) target
    exact kt
  obtain ⟨T2, X2, e2, st2⟩ := initO X0 hx hZ hown (hw _ (List.mem_of_getElem? (i := 6) rfl)) (hw _ (List.mem_of_getElem? (i := 7) rfl)) (hw _ (List.mem_of_getElem? (i := 8) rfl)) e0 (g := (mkF m 1 #[.val (.ref a1), .val (.long q1), .second] [(.ref a1)])) rfl (by rw [hml]; rfl) rfl (hb hby d1_1) (by decide) (W := 0) (by show 2 * 0 + _ ≤ _; exact Nat.le_of_eq rfl) (by decide)
  have g3 : own_Go p e below s₁ (entryFrame m #[(.ref a1), (.long q1)] 3) T2 (mkF m 4 #[.val (.ref a1), .val (.long q1), .second] []) := fun target kt => g1 target (st2 target kt)
  have g4 : own_Go p e below s₁ (entryFrame m #[(.ref a1), (.long q1)] 3) T2 (mkF m 6 #[.val (.ref a1), .val (.long q1), .second] [(.long q1), (.ref a1)]) := by
    intro target kt
    refine g3 target ?_
    refine XS.aloadN X2.here hx rfl (hb hby d1_4) rfl rfl ?_
    show Steps p.tables e below (T2.setTop (mkF m 5 #[.val (.ref a1), .val (.long q1), .second] [(.ref a1)])) target
    refine XT.lloadN X2.here hx rfl (hb hby d1_5) rfl ?_
    show Steps p.tables e below (T2.setTop (mkF m 6 #[.val (.ref a1), .val (.long q1), .second] [(.long q1), (.ref a1)])) target
    exact kt
  obtain ⟨T5, h5, X5, e5, W5, st5⟩ := putF X2 hx hZ hown (host := "") (Or.inl (hw _ (List.mem_of_getElem? (i := 9) rfl))) Via.refl e2 F1 E1 (Or.inl (hw _ (List.mem_of_getElem? (i := 10) rfl))) (hw _ (List.mem_of_getElem? (i := 1) rfl)) (ty := .long) (by decide) rfl rfl (g := (mkF m 6 #[.val (.ref a1), .val (.long q1), .second] [(.long q1), (.ref a1)])) rfl rfl (hb hby d1_6)
  have g6 : own_Go p e below s₁ (entryFrame m #[(.ref a1), (.long q1)] 3) T5 (mkF m 9 #[.val (.ref a1), .val (.long q1), .second] []) := fun target kt => g4 target (st5 target kt)
  have N5 := Fr.snoc X5 N0 ga
  obtain ⟨fs, hr, hrun, hended, hW, hsame⟩ := X5.leave (v := none) (fun _ => rfl)
  refine ⟨_, _, g6 _ ?_, hrun, hended, _, _, rfl, ?_, ⟨_, rfl⟩, hW, hsame.mono (by decide) (by decide)⟩
  · exact X5.returnOut hx Bd.returns (hb hby d1_9) hr
  · show Q_rm1 Z a1 q1  h0 n0 _ T5.heap _
    rw [e5]
    exact ⟨rfl, N5, (Keep.refl _ _).wr W5 (Or.inl (List.mem_of_getElem? (i := 0) rfl)), E1.wr W5, F1.same W5⟩
theorem d3_0 : decode prog_89_method_2_code 0 = .ok (.aload_n 0, 1) := by decide +kernel
theorem d3_1 : decode prog_89_method_2_code 1 = .ok (.dup, 1) := by decide +kernel
theorem d3_2 : decode prog_89_method_2_code 2 = .ok (.getfield 7, 3) := by decide +kernel
theorem d3_5 : decode prog_89_method_2_code 5 = .ok (.ldc2_w 13, 3) := by decide +kernel
theorem d3_8 : decode prog_89_method_2_code 8 = .ok (.ladd, 1) := by decide +kernel
theorem d3_9 : decode prog_89_method_2_code 9 = .ok (.putfield 7, 3) := by decide +kernel
theorem d3_12 : decode prog_89_method_2_code 12 = .ok (.aload_n 0, 1) := by decide +kernel
theorem d3_13 : decode prog_89_method_2_code 13 = .ok (.getfield 7, 3) := by decide +kernel
theorem d3_16 : decode prog_89_method_2_code 16 = .ok (.lstore_n 1, 1) := by decide +kernel
theorem d3_17 : decode prog_89_method_2_code 17 = .ok (.lload_n 1, 1) := by decide +kernel
theorem d3_18 : decode prog_89_method_2_code 18 = .ok (.lload_n 1, 1) := by decide +kernel
theorem d3_19 : decode prog_89_method_2_code 19 = .ok (.bipush 30, 2) := by decide +kernel
theorem d3_21 : decode prog_89_method_2_code 21 = .ok (.lushr, 1) := by decide +kernel
theorem d3_22 : decode prog_89_method_2_code 22 = .ok (.lxor, 1) := by decide +kernel
theorem d3_23 : decode prog_89_method_2_code 23 = .ok (.ldc2_w 15, 3) := by decide +kernel
theorem d3_26 : decode prog_89_method_2_code 26 = .ok (.lmul, 1) := by decide +kernel
theorem d3_27 : decode prog_89_method_2_code 27 = .ok (.lstore_n 1, 1) := by decide +kernel
theorem d3_28 : decode prog_89_method_2_code 28 = .ok (.lload_n 1, 1) := by decide +kernel
theorem d3_29 : decode prog_89_method_2_code 29 = .ok (.lload_n 1, 1) := by decide +kernel
theorem d3_30 : decode prog_89_method_2_code 30 = .ok (.bipush 27, 2) := by decide +kernel
theorem d3_32 : decode prog_89_method_2_code 32 = .ok (.lushr, 1) := by decide +kernel
theorem d3_33 : decode prog_89_method_2_code 33 = .ok (.lxor, 1) := by decide +kernel
theorem d3_34 : decode prog_89_method_2_code 34 = .ok (.ldc2_w 17, 3) := by decide +kernel
theorem d3_37 : decode prog_89_method_2_code 37 = .ok (.lmul, 1) := by decide +kernel
theorem d3_38 : decode prog_89_method_2_code 38 = .ok (.lstore_n 1, 1) := by decide +kernel
theorem d3_39 : decode prog_89_method_2_code 39 = .ok (.lload_n 1, 1) := by decide +kernel
theorem d3_40 : decode prog_89_method_2_code 40 = .ok (.lload_n 1, 1) := by decide +kernel
theorem d3_41 : decode prog_89_method_2_code 41 = .ok (.bipush 31, 2) := by decide +kernel
theorem d3_43 : decode prog_89_method_2_code 43 = .ok (.lushr, 1) := by decide +kernel
theorem d3_44 : decode prog_89_method_2_code 44 = .ok (.lxor, 1) := by decide +kernel
theorem d3_45 : decode prog_89_method_2_code 45 = .ok (.lreturn, 1) := by decide +kernel
theorem pn_rm3 : plainName "com/example/dichotome/dichotome/algebra/SeededRandom" = true := by first | (simp [plainName, overriddenIn]; done) | decide +kernel
theorem ef_rm3 (m : MethodId) (a1 : Addr) : entryFrame m #[(.ref a1)] 3 = mkF m 0 #[.val (.ref a1), .unset, .unset] [] := by first | (simp [entryFrame, mkF, argsToLocals, Value.category]; done) | rfl
def Q_rm3 (Z : State) (a1 : Addr) (st : Int64) (h0 : Heap) (n0 : Nat) (v : Option Value) (h : Heap) (L : List Loc) : Prop := v = some (.long (own_mix (st + (-7046029254386353131 : Int64)))) ∧ Fr n0 L ∧ Keep h0 h [a1] ∧ Exa Z h a1 "com/example/dichotome/dichotome/algebra/SeededRandom" ∧ Fld Z h a1 "com/example/dichotome/dichotome/algebra/SeededRandom" "state" "J" (.long (st + (-7046029254386353131 : Int64)))
set_option maxRecDepth 65536 in
set_option maxHeartbeats 40000000 in
theorem rm3 (l : Launch) (Z : State) (a0 : Array Value) (hw : ∀ d ∈ tables_1, d.before a0 Z = true) (ws : List Jvm.Cond) (a1 : Addr) (st : Int64) (h0 : Heap) (n0 : Nat) (Z0 : n0 ≤ h0.size) (F1 : Fld Z h0 a1 "com/example/dichotome/dichotome/algebra/SeededRandom" "state" "J" (.long st)) (E1 : Exa Z h0 a1 "com/example/dichotome/dichotome/algebra/SeededRandom") (ga : n0 ≤ a1) :
    MetFree l (⟨"com/example/dichotome/dichotome/algebra/SeededRandom", "nextLong", "()J"⟩ : MethodName) (head1 (Jvm.Cond.code (⟨"com/example/dichotome/dichotome/algebra/SeededRandom", "nextLong", "()J"⟩ : MethodName) prog_89_method_2_code 3 (some .long) :: ws) ({ frames := 0, cells := 0, slots := 0, locals := 0 } : Room)) (fun a U => a = #[(.ref a1)] ∧ Z.Warmed39 U.vm ∧ U.heap = h0) (fun _ _ _ _ _ => True) (fun _ U o U' => ∃ v L, o = .returned v ∧ Q_rm3 Z a1 st h0 n0 v U'.heap L ∧ FrameEnd U o U' L ({ frames := 0, cells := 0, slots := 0, locals := 0 } : Room).cells ({ frames := 0, cells := 0, slots := 0, locals := 0 } : Room).slots) := by
  refine MetFree.of_bodySF (plainFor_of_name pn_rm3) hisR ?_
  intro p e s m args below meth c s₁ Bd hml0 hP hK
  obtain ⟨rfl, hZ, hh⟩ := hP
  have hx := Bd.exec
  have hby := Bd.bytes
  have hml : c.maxLocals = 3 := hml0
  have hown : s.vm.findClass "com/example/dichotome/dichotome/algebra/SeededRandom" = some m.cls := findClass_of_methodNamed Bd.named
  have hnm := (name_of_methodNamed Bd.named Bd.method).1
  have X0 : Stand p l e ({ frames := 0, cells := 0, slots := 0, locals := 0 } : Room) s m #[(.ref a1)] below meth c s₁ [] 0 0 := Stand.of_body Bd
  have e0 : s₁.heap = h0 := by rw [← hh, Bd.state]; rfl
  have N0 := Fr.nil n0
  have g0 : own_Go p e below s₁ (entryFrame m #[(.ref a1)] 3) s₁ (mkF m 0 #[.val (.ref a1), .unset, .unset] []) := fun t k => castTop (ef_rm3 m a1) k
  have g7 : own_Go p e below s₁ (entryFrame m #[(.ref a1)] 3) s₁ (mkF m 2 #[.val (.ref a1), .unset, .unset] [(.ref a1), (.ref a1)]) := by
    intro target kt
    refine g0 target ?_
    refine XS.aloadN X0.here hx rfl (hb hby d3_0) rfl rfl ?_
    show Steps p.tables e below (s₁.setTop (mkF m 1 #[.val (.ref a1), .unset, .unset] [(.ref a1)])) target
    refine XS.dup X0.here hx rfl (hb hby d3_1) rfl rfl ?_
    show Steps p.tables e below (s₁.setTop (mkF m 2 #[.val (.ref a1), .unset, .unset] [(.ref a1), (.ref a1)])) target
    exact kt
  obtain ⟨T8, X8, e8, st8⟩ := getF X0 hx hZ hown (host := "") (Or.inl (hw _ (List.mem_of_getElem? (i := 9) rfl))) Via.refl e0 F1 (g := (mkF m 2 #[.val (.ref a1), .unset, .unset] [(.ref a1), (.ref a1)])) rfl rfl (hb hby d3_2)
  have g9 : own_Go p e below s₁ (entryFrame m #[(.ref a1)] 3) T8 (mkF m 5 #[.val (.ref a1), .unset, .unset] [(.long st), (.ref a1)]) := fun target kt => g7 target (st8 target kt)
  have g10 : own_Go p e below s₁ (entryFrame m #[(.ref a1)] 3) T8 (mkF m 9 #[.val (.ref a1), .unset, .unset] [(.long (st + (-7046029254386353131 : Int64))), (.ref a1)]) := by
    intro target kt
    refine g9 target ?_
    refine X8.ldc2J hx hown (mvT hZ (hw _ (List.mem_of_getElem? (i := 16) rfl))) rfl (hb hby d3_5) ?_
    show Steps p.tables e below (T8.setTop (mkF m 8 #[.val (.ref a1), .unset, .unset] [(.long (-7046029254386353131 : Int64)), (.long st), (.ref a1)])) target
    refine XT.ladd X8.here hx rfl (hb hby d3_8) rfl ?_
    show Steps p.tables e below (T8.setTop (mkF m 9 #[.val (.ref a1), .unset, .unset] [(.long (st + (-7046029254386353131 : Int64))), (.ref a1)])) target
    exact kt
  obtain ⟨T11, h11, X11, e11, W11, st11⟩ := putF X8 hx hZ hown (host := "") (Or.inl (hw _ (List.mem_of_getElem? (i := 9) rfl))) Via.refl e8 F1 E1 (Or.inl (hw _ (List.mem_of_getElem? (i := 10) rfl))) (hw _ (List.mem_of_getElem? (i := 1) rfl)) (ty := .long) (by decide) rfl rfl (g := (mkF m 9 #[.val (.ref a1), .unset, .unset] [(.long (st + (-7046029254386353131 : Int64))), (.ref a1)])) rfl rfl (hb hby d3_9)
  have g12 : own_Go p e below s₁ (entryFrame m #[(.ref a1)] 3) T11 (mkF m 12 #[.val (.ref a1), .unset, .unset] []) := fun target kt => g10 target (st11 target kt)
  have N11 := Fr.snoc X11 N0 ga
  have F2 := F1.same W11
  have g13 : own_Go p e below s₁ (entryFrame m #[(.ref a1)] 3) T11 (mkF m 13 #[.val (.ref a1), .unset, .unset] [(.ref a1)]) := by
    intro target kt
    refine g12 target ?_
    refine XS.aloadN X11.here hx rfl (hb hby d3_12) rfl rfl ?_
    show Steps p.tables e below (T11.setTop (mkF m 13 #[.val (.ref a1), .unset, .unset] [(.ref a1)])) target
    exact kt
  obtain ⟨T14, X14, e14, st14⟩ := getF X11 hx hZ hown (host := "") (Or.inl (hw _ (List.mem_of_getElem? (i := 9) rfl))) Via.refl e11 F2 (g := (mkF m 13 #[.val (.ref a1), .unset, .unset] [(.ref a1)])) rfl rfl (hb hby d3_13)
  have g15 : own_Go p e below s₁ (entryFrame m #[(.ref a1)] 3) T14 (mkF m 16 #[.val (.ref a1), .unset, .unset] [(.long (st + (-7046029254386353131 : Int64)))]) := fun target kt => g13 target (st14 target kt)
  have g16 : own_Go p e below s₁ (entryFrame m #[(.ref a1)] 3) T14 (mkF m 17 #[.val (.ref a1), .val (.long (st + (-7046029254386353131 : Int64))), .second] []) := by
    intro target kt
    refine g15 target ?_
    refine XT.lstoreN X14.here hx rfl (hb hby d3_16) rfl (l' := #[.val (.ref a1), .val (.long (st + (-7046029254386353131 : Int64))), .second]) rfl ?_
    show Steps p.tables e below (T14.setTop (mkF m 17 #[.val (.ref a1), .val (.long (st + (-7046029254386353131 : Int64))), .second] [])) target
    exact kt
  obtain ⟨z0, e_z0⟩ : ∃ z : Int64, z = (st + (-7046029254386353131 : Int64)) := ⟨_, rfl⟩
  rw [← e_z0] at g16
  have g17 : own_Go p e below s₁ (entryFrame m #[(.ref a1)] 3) T14 (mkF m 28 #[.val (.ref a1), .val (.long ((z0 ^^^ (XT.ushrL z0 (30 : Int32))) * (-4658895280553007687 : Int64))), .second] []) := by
    intro target kt
    refine g16 target ?_
    refine XT.lloadN X14.here hx rfl (hb hby d3_17) rfl ?_
    show Steps p.tables e below (T14.setTop (mkF m 18 #[.val (.ref a1), .val (.long z0), .second] [(.long z0)])) target
    refine XT.lloadN X14.here hx rfl (hb hby d3_18) rfl ?_
    show Steps p.tables e below (T14.setTop (mkF m 19 #[.val (.ref a1), .val (.long z0), .second] [(.long z0), (.long z0)])) target
    refine XT.bipushV X14.here hx rfl (30 : Int32) (hb hby d3_19) rfl ?_
    show Steps p.tables e below (T14.setTop (mkF m 21 #[.val (.ref a1), .val (.long z0), .second] [(.int (30 : Int32)), (.long z0), (.long z0)])) target
    refine XT.lushr X14.here hx rfl (hb hby d3_21) rfl ?_
    show Steps p.tables e below (T14.setTop (mkF m 22 #[.val (.ref a1), .val (.long z0), .second] [(.long (XT.ushrL z0 (30 : Int32))), (.long z0)])) target
    refine XT.lxor X14.here hx rfl (hb hby d3_22) rfl ?_
    show Steps p.tables e below (T14.setTop (mkF m 23 #[.val (.ref a1), .val (.long z0), .second] [(.long (z0 ^^^ (XT.ushrL z0 (30 : Int32))))])) target
    refine X14.ldc2J hx hown (mvT hZ (hw _ (List.mem_of_getElem? (i := 17) rfl))) rfl (hb hby d3_23) ?_
    show Steps p.tables e below (T14.setTop (mkF m 26 #[.val (.ref a1), .val (.long z0), .second] [(.long (-4658895280553007687 : Int64)), (.long (z0 ^^^ (XT.ushrL z0 (30 : Int32))))])) target
    refine XT.lmul X14.here hx rfl (hb hby d3_26) rfl ?_
    show Steps p.tables e below (T14.setTop (mkF m 27 #[.val (.ref a1), .val (.long z0), .second] [(.long ((z0 ^^^ (XT.ushrL z0 (30 : Int32))) * (-4658895280553007687 : Int64)))])) target
    refine XT.lstoreN X14.here hx rfl (hb hby d3_27) rfl (l' := #[.val (.ref a1), .val (.long ((z0 ^^^ (XT.ushrL z0 (30 : Int32))) * (-4658895280553007687 : Int64))), .second]) rfl ?_
    show Steps p.tables e below (T14.setTop (mkF m 28 #[.val (.ref a1), .val (.long ((z0 ^^^ (XT.ushrL z0 (30 : Int32))) * (-4658895280553007687 : Int64))), .second] [])) target
    exact kt
  obtain ⟨z1, e_z1⟩ : ∃ z : Int64, z = ((z0 ^^^ (XT.ushrL z0 (30 : Int32))) * (-4658895280553007687 : Int64)) := ⟨_, rfl⟩
  rw [← e_z1] at g17
  have g18 : own_Go p e below s₁ (entryFrame m #[(.ref a1)] 3) T14 (mkF m 39 #[.val (.ref a1), .val (.long ((z1 ^^^ (XT.ushrL z1 (27 : Int32))) * (-7723592293110705685 : Int64))), .second] []) := by
    intro target kt
    refine g17 target ?_
    refine XT.lloadN X14.here hx rfl (hb hby d3_28) rfl ?_
    show Steps p.tables e below (T14.setTop (mkF m 29 #[.val (.ref a1), .val (.long z1), .second] [(.long z1)])) target
    refine XT.lloadN X14.here hx rfl (hb hby d3_29) rfl ?_
    show Steps p.tables e below (T14.setTop (mkF m 30 #[.val (.ref a1), .val (.long z1), .second] [(.long z1), (.long z1)])) target
    refine XT.bipushV X14.here hx rfl (27 : Int32) (hb hby d3_30) rfl ?_
    show Steps p.tables e below (T14.setTop (mkF m 32 #[.val (.ref a1), .val (.long z1), .second] [(.int (27 : Int32)), (.long z1), (.long z1)])) target
    refine XT.lushr X14.here hx rfl (hb hby d3_32) rfl ?_
    show Steps p.tables e below (T14.setTop (mkF m 33 #[.val (.ref a1), .val (.long z1), .second] [(.long (XT.ushrL z1 (27 : Int32))), (.long z1)])) target
    refine XT.lxor X14.here hx rfl (hb hby d3_33) rfl ?_
    show Steps p.tables e below (T14.setTop (mkF m 34 #[.val (.ref a1), .val (.long z1), .second] [(.long (z1 ^^^ (XT.ushrL z1 (27 : Int32))))])) target
    refine X14.ldc2J hx hown (mvT hZ (hw _ (List.mem_of_getElem? (i := 18) rfl))) rfl (hb hby d3_34) ?_
    show Steps p.tables e below (T14.setTop (mkF m 37 #[.val (.ref a1), .val (.long z1), .second] [(.long (-7723592293110705685 : Int64)), (.long (z1 ^^^ (XT.ushrL z1 (27 : Int32))))])) target
    refine XT.lmul X14.here hx rfl (hb hby d3_37) rfl ?_
    show Steps p.tables e below (T14.setTop (mkF m 38 #[.val (.ref a1), .val (.long z1), .second] [(.long ((z1 ^^^ (XT.ushrL z1 (27 : Int32))) * (-7723592293110705685 : Int64)))])) target
    refine XT.lstoreN X14.here hx rfl (hb hby d3_38) rfl (l' := #[.val (.ref a1), .val (.long ((z1 ^^^ (XT.ushrL z1 (27 : Int32))) * (-7723592293110705685 : Int64))), .second]) rfl ?_
    show Steps p.tables e below (T14.setTop (mkF m 39 #[.val (.ref a1), .val (.long ((z1 ^^^ (XT.ushrL z1 (27 : Int32))) * (-7723592293110705685 : Int64))), .second] [])) target
    exact kt
  obtain ⟨z2, e_z2⟩ : ∃ z : Int64, z = ((z1 ^^^ (XT.ushrL z1 (27 : Int32))) * (-7723592293110705685 : Int64)) := ⟨_, rfl⟩
  rw [← e_z2] at g18
  have hv : (z2 ^^^ XT.ushrL z2 (31 : Int32)) = own_mix (st + (-7046029254386353131 : Int64)) := by rw [e_z2, e_z1, e_z0]; rfl
  have g19 : own_Go p e below s₁ (entryFrame m #[(.ref a1)] 3) T14 (mkF m 45 #[.val (.ref a1), .val (.long z2), .second] [(.long (z2 ^^^ (XT.ushrL z2 (31 : Int32))))]) := by
    intro target kt
    refine g18 target ?_
    refine XT.lloadN X14.here hx rfl (hb hby d3_39) rfl ?_
    show Steps p.tables e below (T14.setTop (mkF m 40 #[.val (.ref a1), .val (.long z2), .second] [(.long z2)])) target
    refine XT.lloadN X14.here hx rfl (hb hby d3_40) rfl ?_
    show Steps p.tables e below (T14.setTop (mkF m 41 #[.val (.ref a1), .val (.long z2), .second] [(.long z2), (.long z2)])) target
    refine XT.bipushV X14.here hx rfl (31 : Int32) (hb hby d3_41) rfl ?_
    show Steps p.tables e below (T14.setTop (mkF m 43 #[.val (.ref a1), .val (.long z2), .second] [(.int (31 : Int32)), (.long z2), (.long z2)])) target
    refine XT.lushr X14.here hx rfl (hb hby d3_43) rfl ?_
    show Steps p.tables e below (T14.setTop (mkF m 44 #[.val (.ref a1), .val (.long z2), .second] [(.long (XT.ushrL z2 (31 : Int32))), (.long z2)])) target
    refine XT.lxor X14.here hx rfl (hb hby d3_44) rfl ?_
    show Steps p.tables e below (T14.setTop (mkF m 45 #[.val (.ref a1), .val (.long z2), .second] [(.long (z2 ^^^ (XT.ushrL z2 (31 : Int32))))])) target
    exact kt
  rw [hv] at g19
  obtain ⟨fs, hr, hrun, hended, hW, hsame⟩ := X14.leave (v := some (.long (own_mix (st + (-7046029254386353131 : Int64))))) (fun h => by rw [Bd.returns] at h; cases h)
  refine ⟨_, _, g19 _ ?_, hrun, hended, _, _, rfl, ?_, ⟨_, rfl⟩, hW, hsame.mono (by decide) (by decide)⟩
  · exact X14.lreturnOut hx Bd.returns (hb hby d3_45) hr
  · show Q_rm3 Z a1 st h0 n0 _ T14.heap _
    rw [e14]
    exact ⟨rfl, N11, (Keep.refl _ _).wr W11 (Or.inl (List.mem_of_getElem? (i := 0) rfl)), E1.wr W11, F2⟩
theorem d4_0 : decode method_2_code 0 = .ok (.lload_n 0, 1) := by decide +kernel
theorem d4_1 : decode method_2_code 1 = .ok (.lstore_n 2, 1) := by decide +kernel
theorem d4_2 : decode method_2_code 2 = .ok (.lload_n 2, 1) := by decide +kernel
theorem d4_3 : decode method_2_code 3 = .ok (.ldc2_w 7, 3) := by decide +kernel
theorem d4_6 : decode method_2_code 6 = .ok (.lload_n 0, 1) := by decide +kernel
theorem d4_7 : decode method_2_code 7 = .ok (.lload_n 2, 1) := by decide +kernel
theorem d4_8 : decode method_2_code 8 = .ok (.lmul, 1) := by decide +kernel
theorem d4_9 : decode method_2_code 9 = .ok (.lsub, 1) := by decide +kernel
theorem d4_10 : decode method_2_code 10 = .ok (.lmul, 1) := by decide +kernel
theorem d4_11 : decode method_2_code 11 = .ok (.lstore_n 2, 1) := by decide +kernel
theorem d4_12 : decode method_2_code 12 = .ok (.lload_n 2, 1) := by decide +kernel
theorem d4_13 : decode method_2_code 13 = .ok (.ldc2_w 7, 3) := by decide +kernel
theorem d4_16 : decode method_2_code 16 = .ok (.lload_n 0, 1) := by decide +kernel
theorem d4_17 : decode method_2_code 17 = .ok (.lload_n 2, 1) := by decide +kernel
theorem d4_18 : decode method_2_code 18 = .ok (.lmul, 1) := by decide +kernel
theorem d4_19 : decode method_2_code 19 = .ok (.lsub, 1) := by decide +kernel
theorem d4_20 : decode method_2_code 20 = .ok (.lmul, 1) := by decide +kernel
theorem d4_21 : decode method_2_code 21 = .ok (.lstore_n 2, 1) := by decide +kernel
theorem d4_22 : decode method_2_code 22 = .ok (.lload_n 2, 1) := by decide +kernel
theorem d4_23 : decode method_2_code 23 = .ok (.ldc2_w 7, 3) := by decide +kernel
theorem d4_26 : decode method_2_code 26 = .ok (.lload_n 0, 1) := by decide +kernel
theorem d4_27 : decode method_2_code 27 = .ok (.lload_n 2, 1) := by decide +kernel
theorem d4_28 : decode method_2_code 28 = .ok (.lmul, 1) := by decide +kernel
theorem d4_29 : decode method_2_code 29 = .ok (.lsub, 1) := by decide +kernel
theorem d4_30 : decode method_2_code 30 = .ok (.lmul, 1) := by decide +kernel
theorem d4_31 : decode method_2_code 31 = .ok (.lstore_n 2, 1) := by decide +kernel
theorem d4_32 : decode method_2_code 32 = .ok (.lload_n 2, 1) := by decide +kernel
theorem d4_33 : decode method_2_code 33 = .ok (.ldc2_w 7, 3) := by decide +kernel
theorem d4_36 : decode method_2_code 36 = .ok (.lload_n 0, 1) := by decide +kernel
theorem d4_37 : decode method_2_code 37 = .ok (.lload_n 2, 1) := by decide +kernel
theorem d4_38 : decode method_2_code 38 = .ok (.lmul, 1) := by decide +kernel
theorem d4_39 : decode method_2_code 39 = .ok (.lsub, 1) := by decide +kernel
theorem d4_40 : decode method_2_code 40 = .ok (.lmul, 1) := by decide +kernel
theorem d4_41 : decode method_2_code 41 = .ok (.lstore_n 2, 1) := by decide +kernel
theorem d4_42 : decode method_2_code 42 = .ok (.lload_n 2, 1) := by decide +kernel
theorem d4_43 : decode method_2_code 43 = .ok (.ldc2_w 7, 3) := by decide +kernel
theorem d4_46 : decode method_2_code 46 = .ok (.lload_n 0, 1) := by decide +kernel
theorem d4_47 : decode method_2_code 47 = .ok (.lload_n 2, 1) := by decide +kernel
theorem d4_48 : decode method_2_code 48 = .ok (.lmul, 1) := by decide +kernel
theorem d4_49 : decode method_2_code 49 = .ok (.lsub, 1) := by decide +kernel
theorem d4_50 : decode method_2_code 50 = .ok (.lmul, 1) := by decide +kernel
theorem d4_51 : decode method_2_code 51 = .ok (.lstore_n 2, 1) := by decide +kernel
theorem d4_52 : decode method_2_code 52 = .ok (.lload_n 2, 1) := by decide +kernel
theorem d4_53 : decode method_2_code 53 = .ok (.lreturn, 1) := by decide +kernel
theorem pn_rm4 : plainName "com/example/dichotome/dichotome/algebra/SeededRandomNextLongPinLaw" = true := by first | (simp [plainName, overriddenIn]; done) | decide +kernel
theorem ef_rm4 (m : MethodId) (q1 : Int64) : entryFrame m #[(.long q1)] 4 = mkF m 0 #[.val (.long q1), .second, .unset, .unset] [] := by first | (simp [entryFrame, mkF, argsToLocals, Value.category]; done) | rfl
def Q_rm4 (Z : State) (q1 : Int64)  (h0 : Heap) (n0 : Nat) (v : Option Value) (h : Heap) (L : List Loc) : Prop := v = some (.long (own_inv q1)) ∧ Fr n0 L ∧ h = h0
set_option maxRecDepth 65536 in
set_option maxHeartbeats 40000000 in
theorem rm4 (l : Launch) (Z : State) (a0 : Array Value) (hw : ∀ d ∈ tables_1, d.before a0 Z = true) (ws : List Jvm.Cond) (q1 : Int64)  (h0 : Heap) (n0 : Nat) (Z0 : n0 ≤ h0.size)  :
    MetFree l (⟨"com/example/dichotome/dichotome/algebra/SeededRandomNextLongPinLaw", "inverse", "(J)J"⟩ : MethodName) (head1 (Jvm.Cond.code (⟨"com/example/dichotome/dichotome/algebra/SeededRandomNextLongPinLaw", "inverse", "(J)J"⟩ : MethodName) method_2_code 4 (some .long) :: ws) ({ frames := 0, cells := 0, slots := 0, locals := 0 } : Room)) (fun a U => a = #[(.long q1)] ∧ Z.Warmed39 U.vm ∧ U.heap = h0) (fun _ _ _ _ _ => True) (fun _ U o U' => ∃ v L, o = .returned v ∧ Q_rm4 Z q1  h0 n0 v U'.heap L ∧ FrameEnd U o U' L ({ frames := 0, cells := 0, slots := 0, locals := 0 } : Room).cells ({ frames := 0, cells := 0, slots := 0, locals := 0 } : Room).slots) := by
  refine MetFree.of_bodySF (plainFor_of_name pn_rm4) hisR ?_
  intro p e s m args below meth c s₁ Bd hml0 hP hK
  obtain ⟨rfl, hZ, hh⟩ := hP
  have hx := Bd.exec
  have hby := Bd.bytes
  have hml : c.maxLocals = 4 := hml0
  have hown : s.vm.findClass "com/example/dichotome/dichotome/algebra/SeededRandomNextLongPinLaw" = some m.cls := findClass_of_methodNamed Bd.named
  have hnm := (name_of_methodNamed Bd.named Bd.method).1
  have X0 : Stand p l e ({ frames := 0, cells := 0, slots := 0, locals := 0 } : Room) s m #[(.long q1)] below meth c s₁ [] 0 0 := Stand.of_body Bd
  have e0 : s₁.heap = h0 := by rw [← hh, Bd.state]; rfl
  have N0 := Fr.nil n0
  have g0 : own_Go p e below s₁ (entryFrame m #[(.long q1)] 4) s₁ (mkF m 0 #[.val (.long q1), .second, .unset, .unset] []) := fun t k => castTop (ef_rm4 m q1) k
  have g20 : own_Go p e below s₁ (entryFrame m #[(.long q1)] 4) s₁ (mkF m 12 #[.val (.long q1), .second, .val (.long (q1 * ((2 : Int64) - (q1 * q1)))), .second] []) := by
    intro target kt
    refine g0 target ?_
    refine XT.lloadN X0.here hx rfl (hb hby d4_0) rfl ?_
    show Steps p.tables e below (s₁.setTop (mkF m 1 #[.val (.long q1), .second, .unset, .unset] [(.long q1)])) target
    refine XT.lstoreN X0.here hx rfl (hb hby d4_1) rfl (l' := #[.val (.long q1), .second, .val (.long q1), .second]) rfl ?_
    show Steps p.tables e below (s₁.setTop (mkF m 2 #[.val (.long q1), .second, .val (.long q1), .second] [])) target
    refine XT.lloadN X0.here hx rfl (hb hby d4_2) rfl ?_
    show Steps p.tables e below (s₁.setTop (mkF m 3 #[.val (.long q1), .second, .val (.long q1), .second] [(.long q1)])) target
    refine X0.ldc2J hx hown (mvT hZ (hw _ (List.mem_of_getElem? (i := 24) rfl))) rfl (hb hby d4_3) ?_
    show Steps p.tables e below (s₁.setTop (mkF m 6 #[.val (.long q1), .second, .val (.long q1), .second] [(.long (2 : Int64)), (.long q1)])) target
    refine XT.lloadN X0.here hx rfl (hb hby d4_6) rfl ?_
    show Steps p.tables e below (s₁.setTop (mkF m 7 #[.val (.long q1), .second, .val (.long q1), .second] [(.long q1), (.long (2 : Int64)), (.long q1)])) target
    refine XT.lloadN X0.here hx rfl (hb hby d4_7) rfl ?_
    show Steps p.tables e below (s₁.setTop (mkF m 8 #[.val (.long q1), .second, .val (.long q1), .second] [(.long q1), (.long q1), (.long (2 : Int64)), (.long q1)])) target
    refine XT.lmul X0.here hx rfl (hb hby d4_8) rfl ?_
    show Steps p.tables e below (s₁.setTop (mkF m 9 #[.val (.long q1), .second, .val (.long q1), .second] [(.long (q1 * q1)), (.long (2 : Int64)), (.long q1)])) target
    refine XT.lsub X0.here hx rfl (hb hby d4_9) rfl ?_
    show Steps p.tables e below (s₁.setTop (mkF m 10 #[.val (.long q1), .second, .val (.long q1), .second] [(.long ((2 : Int64) - (q1 * q1))), (.long q1)])) target
    refine XT.lmul X0.here hx rfl (hb hby d4_10) rfl ?_
    show Steps p.tables e below (s₁.setTop (mkF m 11 #[.val (.long q1), .second, .val (.long q1), .second] [(.long (q1 * ((2 : Int64) - (q1 * q1))))])) target
    refine XT.lstoreN X0.here hx rfl (hb hby d4_11) rfl (l' := #[.val (.long q1), .second, .val (.long (q1 * ((2 : Int64) - (q1 * q1)))), .second]) rfl ?_
    show Steps p.tables e below (s₁.setTop (mkF m 12 #[.val (.long q1), .second, .val (.long (q1 * ((2 : Int64) - (q1 * q1)))), .second] [])) target
    exact kt
  obtain ⟨x1, e_x1⟩ : ∃ z : Int64, z = (q1 * ((2 : Int64) - (q1 * q1))) := ⟨_, rfl⟩
  rw [← e_x1] at g20
  have g21 : own_Go p e below s₁ (entryFrame m #[(.long q1)] 4) s₁ (mkF m 22 #[.val (.long q1), .second, .val (.long (x1 * ((2 : Int64) - (q1 * x1)))), .second] []) := by
    intro target kt
    refine g20 target ?_
    refine XT.lloadN X0.here hx rfl (hb hby d4_12) rfl ?_
    show Steps p.tables e below (s₁.setTop (mkF m 13 #[.val (.long q1), .second, .val (.long x1), .second] [(.long x1)])) target
    refine X0.ldc2J hx hown (mvT hZ (hw _ (List.mem_of_getElem? (i := 24) rfl))) rfl (hb hby d4_13) ?_
    show Steps p.tables e below (s₁.setTop (mkF m 16 #[.val (.long q1), .second, .val (.long x1), .second] [(.long (2 : Int64)), (.long x1)])) target
    refine XT.lloadN X0.here hx rfl (hb hby d4_16) rfl ?_
    show Steps p.tables e below (s₁.setTop (mkF m 17 #[.val (.long q1), .second, .val (.long x1), .second] [(.long q1), (.long (2 : Int64)), (.long x1)])) target
    refine XT.lloadN X0.here hx rfl (hb hby d4_17) rfl ?_
    show Steps p.tables e below (s₁.setTop (mkF m 18 #[.val (.long q1), .second, .val (.long x1), .second] [(.long x1), (.long q1), (.long (2 : Int64)), (.long x1)])) target
    refine XT.lmul X0.here hx rfl (hb hby d4_18) rfl ?_
    show Steps p.tables e below (s₁.setTop (mkF m 19 #[.val (.long q1), .second, .val (.long x1), .second] [(.long (q1 * x1)), (.long (2 : Int64)), (.long x1)])) target
    refine XT.lsub X0.here hx rfl (hb hby d4_19) rfl ?_
    show Steps p.tables e below (s₁.setTop (mkF m 20 #[.val (.long q1), .second, .val (.long x1), .second] [(.long ((2 : Int64) - (q1 * x1))), (.long x1)])) target
    refine XT.lmul X0.here hx rfl (hb hby d4_20) rfl ?_
    show Steps p.tables e below (s₁.setTop (mkF m 21 #[.val (.long q1), .second, .val (.long x1), .second] [(.long (x1 * ((2 : Int64) - (q1 * x1))))])) target
    refine XT.lstoreN X0.here hx rfl (hb hby d4_21) rfl (l' := #[.val (.long q1), .second, .val (.long (x1 * ((2 : Int64) - (q1 * x1)))), .second]) rfl ?_
    show Steps p.tables e below (s₁.setTop (mkF m 22 #[.val (.long q1), .second, .val (.long (x1 * ((2 : Int64) - (q1 * x1)))), .second] [])) target
    exact kt
  obtain ⟨x2, e_x2⟩ : ∃ z : Int64, z = (x1 * ((2 : Int64) - (q1 * x1))) := ⟨_, rfl⟩
  rw [← e_x2] at g21
  have g22 : own_Go p e below s₁ (entryFrame m #[(.long q1)] 4) s₁ (mkF m 32 #[.val (.long q1), .second, .val (.long (x2 * ((2 : Int64) - (q1 * x2)))), .second] []) := by
    intro target kt
    refine g21 target ?_
    refine XT.lloadN X0.here hx rfl (hb hby d4_22) rfl ?_
    show Steps p.tables e below (s₁.setTop (mkF m 23 #[.val (.long q1), .second, .val (.long x2), .second] [(.long x2)])) target
    refine X0.ldc2J hx hown (mvT hZ (hw _ (List.mem_of_getElem? (i := 24) rfl))) rfl (hb hby d4_23) ?_
    show Steps p.tables e below (s₁.setTop (mkF m 26 #[.val (.long q1), .second, .val (.long x2), .second] [(.long (2 : Int64)), (.long x2)])) target
    refine XT.lloadN X0.here hx rfl (hb hby d4_26) rfl ?_
    show Steps p.tables e below (s₁.setTop (mkF m 27 #[.val (.long q1), .second, .val (.long x2), .second] [(.long q1), (.long (2 : Int64)), (.long x2)])) target
    refine XT.lloadN X0.here hx rfl (hb hby d4_27) rfl ?_
    show Steps p.tables e below (s₁.setTop (mkF m 28 #[.val (.long q1), .second, .val (.long x2), .second] [(.long x2), (.long q1), (.long (2 : Int64)), (.long x2)])) target
    refine XT.lmul X0.here hx rfl (hb hby d4_28) rfl ?_
    show Steps p.tables e below (s₁.setTop (mkF m 29 #[.val (.long q1), .second, .val (.long x2), .second] [(.long (q1 * x2)), (.long (2 : Int64)), (.long x2)])) target
    refine XT.lsub X0.here hx rfl (hb hby d4_29) rfl ?_
    show Steps p.tables e below (s₁.setTop (mkF m 30 #[.val (.long q1), .second, .val (.long x2), .second] [(.long ((2 : Int64) - (q1 * x2))), (.long x2)])) target
    refine XT.lmul X0.here hx rfl (hb hby d4_30) rfl ?_
    show Steps p.tables e below (s₁.setTop (mkF m 31 #[.val (.long q1), .second, .val (.long x2), .second] [(.long (x2 * ((2 : Int64) - (q1 * x2))))])) target
    refine XT.lstoreN X0.here hx rfl (hb hby d4_31) rfl (l' := #[.val (.long q1), .second, .val (.long (x2 * ((2 : Int64) - (q1 * x2)))), .second]) rfl ?_
    show Steps p.tables e below (s₁.setTop (mkF m 32 #[.val (.long q1), .second, .val (.long (x2 * ((2 : Int64) - (q1 * x2)))), .second] [])) target
    exact kt
  obtain ⟨x3, e_x3⟩ : ∃ z : Int64, z = (x2 * ((2 : Int64) - (q1 * x2))) := ⟨_, rfl⟩
  rw [← e_x3] at g22
  have g23 : own_Go p e below s₁ (entryFrame m #[(.long q1)] 4) s₁ (mkF m 42 #[.val (.long q1), .second, .val (.long (x3 * ((2 : Int64) - (q1 * x3)))), .second] []) := by
    intro target kt
    refine g22 target ?_
    refine XT.lloadN X0.here hx rfl (hb hby d4_32) rfl ?_
    show Steps p.tables e below (s₁.setTop (mkF m 33 #[.val (.long q1), .second, .val (.long x3), .second] [(.long x3)])) target
    refine X0.ldc2J hx hown (mvT hZ (hw _ (List.mem_of_getElem? (i := 24) rfl))) rfl (hb hby d4_33) ?_
    show Steps p.tables e below (s₁.setTop (mkF m 36 #[.val (.long q1), .second, .val (.long x3), .second] [(.long (2 : Int64)), (.long x3)])) target
    refine XT.lloadN X0.here hx rfl (hb hby d4_36) rfl ?_
    show Steps p.tables e below (s₁.setTop (mkF m 37 #[.val (.long q1), .second, .val (.long x3), .second] [(.long q1), (.long (2 : Int64)), (.long x3)])) target
    refine XT.lloadN X0.here hx rfl (hb hby d4_37) rfl ?_
    show Steps p.tables e below (s₁.setTop (mkF m 38 #[.val (.long q1), .second, .val (.long x3), .second] [(.long x3), (.long q1), (.long (2 : Int64)), (.long x3)])) target
    refine XT.lmul X0.here hx rfl (hb hby d4_38) rfl ?_
    show Steps p.tables e below (s₁.setTop (mkF m 39 #[.val (.long q1), .second, .val (.long x3), .second] [(.long (q1 * x3)), (.long (2 : Int64)), (.long x3)])) target
    refine XT.lsub X0.here hx rfl (hb hby d4_39) rfl ?_
    show Steps p.tables e below (s₁.setTop (mkF m 40 #[.val (.long q1), .second, .val (.long x3), .second] [(.long ((2 : Int64) - (q1 * x3))), (.long x3)])) target
    refine XT.lmul X0.here hx rfl (hb hby d4_40) rfl ?_
    show Steps p.tables e below (s₁.setTop (mkF m 41 #[.val (.long q1), .second, .val (.long x3), .second] [(.long (x3 * ((2 : Int64) - (q1 * x3))))])) target
    refine XT.lstoreN X0.here hx rfl (hb hby d4_41) rfl (l' := #[.val (.long q1), .second, .val (.long (x3 * ((2 : Int64) - (q1 * x3)))), .second]) rfl ?_
    show Steps p.tables e below (s₁.setTop (mkF m 42 #[.val (.long q1), .second, .val (.long (x3 * ((2 : Int64) - (q1 * x3)))), .second] [])) target
    exact kt
  obtain ⟨x4, e_x4⟩ : ∃ z : Int64, z = (x3 * ((2 : Int64) - (q1 * x3))) := ⟨_, rfl⟩
  rw [← e_x4] at g23
  have g24 : own_Go p e below s₁ (entryFrame m #[(.long q1)] 4) s₁ (mkF m 52 #[.val (.long q1), .second, .val (.long (x4 * ((2 : Int64) - (q1 * x4)))), .second] []) := by
    intro target kt
    refine g23 target ?_
    refine XT.lloadN X0.here hx rfl (hb hby d4_42) rfl ?_
    show Steps p.tables e below (s₁.setTop (mkF m 43 #[.val (.long q1), .second, .val (.long x4), .second] [(.long x4)])) target
    refine X0.ldc2J hx hown (mvT hZ (hw _ (List.mem_of_getElem? (i := 24) rfl))) rfl (hb hby d4_43) ?_
    show Steps p.tables e below (s₁.setTop (mkF m 46 #[.val (.long q1), .second, .val (.long x4), .second] [(.long (2 : Int64)), (.long x4)])) target
    refine XT.lloadN X0.here hx rfl (hb hby d4_46) rfl ?_
    show Steps p.tables e below (s₁.setTop (mkF m 47 #[.val (.long q1), .second, .val (.long x4), .second] [(.long q1), (.long (2 : Int64)), (.long x4)])) target
    refine XT.lloadN X0.here hx rfl (hb hby d4_47) rfl ?_
    show Steps p.tables e below (s₁.setTop (mkF m 48 #[.val (.long q1), .second, .val (.long x4), .second] [(.long x4), (.long q1), (.long (2 : Int64)), (.long x4)])) target
    refine XT.lmul X0.here hx rfl (hb hby d4_48) rfl ?_
    show Steps p.tables e below (s₁.setTop (mkF m 49 #[.val (.long q1), .second, .val (.long x4), .second] [(.long (q1 * x4)), (.long (2 : Int64)), (.long x4)])) target
    refine XT.lsub X0.here hx rfl (hb hby d4_49) rfl ?_
    show Steps p.tables e below (s₁.setTop (mkF m 50 #[.val (.long q1), .second, .val (.long x4), .second] [(.long ((2 : Int64) - (q1 * x4))), (.long x4)])) target
    refine XT.lmul X0.here hx rfl (hb hby d4_50) rfl ?_
    show Steps p.tables e below (s₁.setTop (mkF m 51 #[.val (.long q1), .second, .val (.long x4), .second] [(.long (x4 * ((2 : Int64) - (q1 * x4))))])) target
    refine XT.lstoreN X0.here hx rfl (hb hby d4_51) rfl (l' := #[.val (.long q1), .second, .val (.long (x4 * ((2 : Int64) - (q1 * x4)))), .second]) rfl ?_
    show Steps p.tables e below (s₁.setTop (mkF m 52 #[.val (.long q1), .second, .val (.long (x4 * ((2 : Int64) - (q1 * x4)))), .second] [])) target
    exact kt
  obtain ⟨x5, e_x5⟩ : ∃ z : Int64, z = (x4 * ((2 : Int64) - (q1 * x4))) := ⟨_, rfl⟩
  rw [← e_x5] at g24
  have hv : x5 = own_inv q1 := by rw [e_x5, e_x4, e_x3, e_x2, e_x1]; rfl
  have g25 : own_Go p e below s₁ (entryFrame m #[(.long q1)] 4) s₁ (mkF m 53 #[.val (.long q1), .second, .val (.long x5), .second] [(.long x5)]) := by
    intro target kt
    refine g24 target ?_
    refine XT.lloadN X0.here hx rfl (hb hby d4_52) rfl ?_
    show Steps p.tables e below (s₁.setTop (mkF m 53 #[.val (.long q1), .second, .val (.long x5), .second] [(.long x5)])) target
    exact kt
  rw [hv] at g25
  obtain ⟨fs, hr, hrun, hended, hW, hsame⟩ := X0.leave (v := some (.long (own_inv q1))) (fun h => by rw [Bd.returns] at h; cases h)
  refine ⟨_, _, g25 _ ?_, hrun, hended, _, _, rfl, ?_, ⟨_, rfl⟩, hW, hsame.mono (by decide) (by decide)⟩
  · exact X0.lreturnOut hx Bd.returns (hb hby d4_53) hr
  · show Q_rm4 Z q1  h0 n0 _ s₁.heap _
    rw [e0]
    exact ⟨rfl, N0, rfl⟩
theorem d5_0 : decode method_3_code 0 = .ok (.lload_n 0, 1) := by decide +kernel
theorem d5_1 : decode method_3_code 1 = .ok (.lload_n 0, 1) := by decide +kernel
theorem d5_2 : decode method_3_code 2 = .ok (.bipush 31, 2) := by decide +kernel
theorem d5_4 : decode method_3_code 4 = .ok (.lushr, 1) := by decide +kernel
theorem d5_5 : decode method_3_code 5 = .ok (.lxor, 1) := by decide +kernel
theorem d5_6 : decode method_3_code 6 = .ok (.lload_n 0, 1) := by decide +kernel
theorem d5_7 : decode method_3_code 7 = .ok (.bipush 62, 2) := by decide +kernel
theorem d5_9 : decode method_3_code 9 = .ok (.lushr, 1) := by decide +kernel
theorem d5_10 : decode method_3_code 10 = .ok (.lxor, 1) := by decide +kernel
theorem d5_11 : decode method_3_code 11 = .ok (.lstore_n 2, 1) := by decide +kernel
theorem d5_12 : decode method_3_code 12 = .ok (.lload_n 2, 1) := by decide +kernel
theorem d5_13 : decode method_3_code 13 = .ok (.ldc2_w 11, 3) := by decide +kernel
theorem d5_16 : decode method_3_code 16 = .ok (.invokestatic 13, 3) := by decide +kernel
theorem d5_19 : decode method_3_code 19 = .ok (.lmul, 1) := by decide +kernel
theorem d5_20 : decode method_3_code 20 = .ok (.lstore 4, 2) := by decide +kernel
theorem d5_22 : decode method_3_code 22 = .ok (.lload 4, 2) := by decide +kernel
theorem d5_24 : decode method_3_code 24 = .ok (.lload 4, 2) := by decide +kernel
theorem d5_26 : decode method_3_code 26 = .ok (.bipush 27, 2) := by decide +kernel
theorem d5_28 : decode method_3_code 28 = .ok (.lushr, 1) := by decide +kernel
theorem d5_29 : decode method_3_code 29 = .ok (.lxor, 1) := by decide +kernel
theorem d5_30 : decode method_3_code 30 = .ok (.lload 4, 2) := by decide +kernel
theorem d5_32 : decode method_3_code 32 = .ok (.bipush 54, 2) := by decide +kernel
theorem d5_34 : decode method_3_code 34 = .ok (.lushr, 1) := by decide +kernel
theorem d5_35 : decode method_3_code 35 = .ok (.lxor, 1) := by decide +kernel
theorem d5_36 : decode method_3_code 36 = .ok (.lstore 6, 2) := by decide +kernel
theorem d5_38 : decode method_3_code 38 = .ok (.lload 6, 2) := by decide +kernel
theorem d5_40 : decode method_3_code 40 = .ok (.ldc2_w 17, 3) := by decide +kernel
theorem d5_43 : decode method_3_code 43 = .ok (.invokestatic 13, 3) := by decide +kernel
theorem d5_46 : decode method_3_code 46 = .ok (.lmul, 1) := by decide +kernel
theorem d5_47 : decode method_3_code 47 = .ok (.lstore 8, 2) := by decide +kernel
theorem d5_49 : decode method_3_code 49 = .ok (.lload 8, 2) := by decide +kernel
theorem d5_51 : decode method_3_code 51 = .ok (.lload 8, 2) := by decide +kernel
theorem d5_53 : decode method_3_code 53 = .ok (.bipush 30, 2) := by decide +kernel
theorem d5_55 : decode method_3_code 55 = .ok (.lushr, 1) := by decide +kernel
theorem d5_56 : decode method_3_code 56 = .ok (.lxor, 1) := by decide +kernel
theorem d5_57 : decode method_3_code 57 = .ok (.lload 8, 2) := by decide +kernel
theorem d5_59 : decode method_3_code 59 = .ok (.bipush 60, 2) := by decide +kernel
theorem d5_61 : decode method_3_code 61 = .ok (.lushr, 1) := by decide +kernel
theorem d5_62 : decode method_3_code 62 = .ok (.lxor, 1) := by decide +kernel
theorem d5_63 : decode method_3_code 63 = .ok (.lreturn, 1) := by decide +kernel
theorem pn_rm5 : plainName "com/example/dichotome/dichotome/algebra/SeededRandomNextLongPinLaw" = true := by first | (simp [plainName, overriddenIn]; done) | decide +kernel
theorem ef_rm5 (m : MethodId) (q1 : Int64) : entryFrame m #[(.long q1)] 10 = mkF m 0 #[.val (.long q1), .second, .unset, .unset, .unset, .unset, .unset, .unset, .unset, .unset] [] := by first | (simp [entryFrame, mkF, argsToLocals, Value.category]; done) | rfl
def Q_rm5 (Z : State) (q1 : Int64)  (h0 : Heap) (n0 : Nat) (v : Option Value) (h : Heap) (L : List Loc) : Prop := v = some (.long (own_un q1)) ∧ Fr n0 L ∧ h = h0
set_option maxRecDepth 65536 in
set_option maxHeartbeats 40000000 in
theorem rm5 (l : Launch) (Z : State) (a0 : Array Value) (hw : ∀ d ∈ tables_1, d.before a0 Z = true) (ws : List Jvm.Cond) (q1 : Int64)  (h0 : Heap) (n0 : Nat) (Z0 : n0 ≤ h0.size)  :
    MetFree l (⟨"com/example/dichotome/dichotome/algebra/SeededRandomNextLongPinLaw", "unmix", "(J)J"⟩ : MethodName) (head1 (Jvm.Cond.code (⟨"com/example/dichotome/dichotome/algebra/SeededRandomNextLongPinLaw", "unmix", "(J)J"⟩ : MethodName) method_3_code 10 (some .long) :: ws) ({ frames := 1, cells := 0, slots := 0, locals := 20 } : Room)) (fun a U => a = #[(.long q1)] ∧ Z.Warmed39 U.vm ∧ U.heap = h0) (fun _ _ _ _ _ => True) (fun _ U o U' => ∃ v L, o = .returned v ∧ Q_rm5 Z q1  h0 n0 v U'.heap L ∧ FrameEnd U o U' L ({ frames := 1, cells := 0, slots := 0, locals := 20 } : Room).cells ({ frames := 1, cells := 0, slots := 0, locals := 20 } : Room).slots) := by
  refine MetFree.of_bodySF (plainFor_of_name pn_rm5) hisR ?_
  intro p e s m args below meth c s₁ Bd hml0 hP hK
  obtain ⟨rfl, hZ, hh⟩ := hP
  have hx := Bd.exec
  have hby := Bd.bytes
  have hml : c.maxLocals = 10 := hml0
  have hown : s.vm.findClass "com/example/dichotome/dichotome/algebra/SeededRandomNextLongPinLaw" = some m.cls := findClass_of_methodNamed Bd.named
  have hnm := (name_of_methodNamed Bd.named Bd.method).1
  have X0 : Stand p l e ({ frames := 1, cells := 0, slots := 0, locals := 20 } : Room) s m #[(.long q1)] below meth c s₁ [] 0 0 := Stand.of_body Bd
  have e0 : s₁.heap = h0 := by rw [← hh, Bd.state]; rfl
  have N0 := Fr.nil n0
  have g0 : own_Go p e below s₁ (entryFrame m #[(.long q1)] 10) s₁ (mkF m 0 #[.val (.long q1), .second, .unset, .unset, .unset, .unset, .unset, .unset, .unset, .unset] []) := fun t k => castTop (ef_rm5 m q1) k
  have g26 : own_Go p e below s₁ (entryFrame m #[(.long q1)] 10) s₁ (mkF m 12 #[.val (.long q1), .second, .val (.long ((q1 ^^^ (XT.ushrL q1 (31 : Int32))) ^^^ (XT.ushrL q1 (62 : Int32)))), .second, .unset, .unset, .unset, .unset, .unset, .unset] []) := by
    intro target kt
    refine g0 target ?_
    refine XT.lloadN X0.here hx rfl (hb hby d5_0) rfl ?_
    show Steps p.tables e below (s₁.setTop (mkF m 1 #[.val (.long q1), .second, .unset, .unset, .unset, .unset, .unset, .unset, .unset, .unset] [(.long q1)])) target
    refine XT.lloadN X0.here hx rfl (hb hby d5_1) rfl ?_
    show Steps p.tables e below (s₁.setTop (mkF m 2 #[.val (.long q1), .second, .unset, .unset, .unset, .unset, .unset, .unset, .unset, .unset] [(.long q1), (.long q1)])) target
    refine XT.bipushV X0.here hx rfl (31 : Int32) (hb hby d5_2) rfl ?_
    show Steps p.tables e below (s₁.setTop (mkF m 4 #[.val (.long q1), .second, .unset, .unset, .unset, .unset, .unset, .unset, .unset, .unset] [(.int (31 : Int32)), (.long q1), (.long q1)])) target
    refine XT.lushr X0.here hx rfl (hb hby d5_4) rfl ?_
    show Steps p.tables e below (s₁.setTop (mkF m 5 #[.val (.long q1), .second, .unset, .unset, .unset, .unset, .unset, .unset, .unset, .unset] [(.long (XT.ushrL q1 (31 : Int32))), (.long q1)])) target
    refine XT.lxor X0.here hx rfl (hb hby d5_5) rfl ?_
    show Steps p.tables e below (s₁.setTop (mkF m 6 #[.val (.long q1), .second, .unset, .unset, .unset, .unset, .unset, .unset, .unset, .unset] [(.long (q1 ^^^ (XT.ushrL q1 (31 : Int32))))])) target
    refine XT.lloadN X0.here hx rfl (hb hby d5_6) rfl ?_
    show Steps p.tables e below (s₁.setTop (mkF m 7 #[.val (.long q1), .second, .unset, .unset, .unset, .unset, .unset, .unset, .unset, .unset] [(.long q1), (.long (q1 ^^^ (XT.ushrL q1 (31 : Int32))))])) target
    refine XT.bipushV X0.here hx rfl (62 : Int32) (hb hby d5_7) rfl ?_
    show Steps p.tables e below (s₁.setTop (mkF m 9 #[.val (.long q1), .second, .unset, .unset, .unset, .unset, .unset, .unset, .unset, .unset] [(.int (62 : Int32)), (.long q1), (.long (q1 ^^^ (XT.ushrL q1 (31 : Int32))))])) target
    refine XT.lushr X0.here hx rfl (hb hby d5_9) rfl ?_
    show Steps p.tables e below (s₁.setTop (mkF m 10 #[.val (.long q1), .second, .unset, .unset, .unset, .unset, .unset, .unset, .unset, .unset] [(.long (XT.ushrL q1 (62 : Int32))), (.long (q1 ^^^ (XT.ushrL q1 (31 : Int32))))])) target
    refine XT.lxor X0.here hx rfl (hb hby d5_10) rfl ?_
    show Steps p.tables e below (s₁.setTop (mkF m 11 #[.val (.long q1), .second, .unset, .unset, .unset, .unset, .unset, .unset, .unset, .unset] [(.long ((q1 ^^^ (XT.ushrL q1 (31 : Int32))) ^^^ (XT.ushrL q1 (62 : Int32))))])) target
    refine XT.lstoreN X0.here hx rfl (hb hby d5_11) rfl (l' := #[.val (.long q1), .second, .val (.long ((q1 ^^^ (XT.ushrL q1 (31 : Int32))) ^^^ (XT.ushrL q1 (62 : Int32)))), .second, .unset, .unset, .unset, .unset, .unset, .unset]) rfl ?_
    show Steps p.tables e below (s₁.setTop (mkF m 12 #[.val (.long q1), .second, .val (.long ((q1 ^^^ (XT.ushrL q1 (31 : Int32))) ^^^ (XT.ushrL q1 (62 : Int32)))), .second, .unset, .unset, .unset, .unset, .unset, .unset] [])) target
    exact kt
  obtain ⟨m2, e_m2⟩ : ∃ z : Int64, z = ((q1 ^^^ (XT.ushrL q1 (31 : Int32))) ^^^ (XT.ushrL q1 (62 : Int32))) := ⟨_, rfl⟩
  rw [← e_m2] at g26
  have g27 : own_Go p e below s₁ (entryFrame m #[(.long q1)] 10) s₁ (mkF m 16 #[.val (.long q1), .second, .val (.long m2), .second, .unset, .unset, .unset, .unset, .unset, .unset] [(.long (-7723592293110705685 : Int64)), (.long m2)]) := by
    intro target kt
    refine g26 target ?_
    refine XT.lloadN X0.here hx rfl (hb hby d5_12) rfl ?_
    show Steps p.tables e below (s₁.setTop (mkF m 13 #[.val (.long q1), .second, .val (.long m2), .second, .unset, .unset, .unset, .unset, .unset, .unset] [(.long m2)])) target
    refine X0.ldc2J hx hown (mvT hZ (hw _ (List.mem_of_getElem? (i := 25) rfl))) rfl (hb hby d5_13) ?_
    show Steps p.tables e below (s₁.setTop (mkF m 16 #[.val (.long q1), .second, .val (.long m2), .second, .unset, .unset, .unset, .unset, .unset, .unset] [(.long (-7723592293110705685 : Int64)), (.long m2)])) target
    exact kt
  obtain ⟨_, _, ⟨T28, L28, k28, n28⟩, -, X28, ⟨Lc28, hQ28, l28, y28, z28⟩, st28⟩ := Jvm.LawKit.callS X0 hx (y := (⟨"com/example/dichotome/dichotome/algebra/SeededRandomNextLongPinLaw", "inverse", "(J)J"⟩ : MethodName)) hown (mvT hZ (hw _ (List.mem_of_getElem? (i := 20) rfl))) (mvT hZ (hw _ (List.mem_of_getElem? (i := 21) rfl))) (mvT hZ (hw _ (List.mem_of_getElem? (i := 22) rfl))) (mvT hZ (hw _ (List.mem_of_getElem? (i := 23) rfl))) (by decide) (backOf (W := 2) (rm4 l Z a0 hw [] (-7723592293110705685 : Int64) h0 n0 Z0) hZ (hw _ (List.mem_of_getElem? (i := 23) rfl)) (hw _ (List.mem_of_getElem? (i := 22) rfl)) (by decide) (by decide)) (g := (mkF m 16 #[.val (.long q1), .second, .val (.long m2), .second, .unset, .unset, .unset, .unset, .unset, .unset] [(.long (-7723592293110705685 : Int64)), (.long m2)])) rfl (by rw [hml]; rfl) (argsL := [(.long (-7723592293110705685 : Int64))]) (rest := [(.long m2)]) (lenOf pd_0 rfl) rfl (by show 2 * 0 + _ ≤ _; exact Nat.le_of_eq rfl) (hb hby d5_16) (fun _ _ => ⟨rfl, e0, (by decide : 0 + 0 ≤ _), (by decide : 0 + 0 ≤ _)⟩)
  dsimp only [Pt.U, Pt.locs, Pt.cells, Pt.slots] at X28 l28 y28 z28 st28 hQ28
  subst l28 y28 z28
  obtain ⟨rfl, Nq28, eq28⟩ := hQ28
  have N28 := Fr.app N0 Nq28
  have g29 : own_Go p e below s₁ (entryFrame m #[(.long q1)] 10) T28 (mkF m 19 #[.val (.long q1), .second, .val (.long m2), .second, .unset, .unset, .unset, .unset, .unset, .unset] [(.long (own_inv (-7723592293110705685 : Int64))), (.long m2)]) := fun target kt => g27 target (st28 target kt)
  have g30 : own_Go p e below s₁ (entryFrame m #[(.long q1)] 10) T28 (mkF m 22 #[.val (.long q1), .second, .val (.long m2), .second, .val (.long (m2 * (own_inv (-7723592293110705685 : Int64)))), .second, .unset, .unset, .unset, .unset] []) := by
    intro target kt
    refine g29 target ?_
    refine XT.lmul X28.here hx rfl (hb hby d5_19) rfl ?_
    show Steps p.tables e below (T28.setTop (mkF m 20 #[.val (.long q1), .second, .val (.long m2), .second, .unset, .unset, .unset, .unset, .unset, .unset] [(.long (m2 * (own_inv (-7723592293110705685 : Int64))))])) target
    refine XT.lstore X28.here hx rfl (hb hby d5_20) rfl (l' := #[.val (.long q1), .second, .val (.long m2), .second, .val (.long (m2 * (own_inv (-7723592293110705685 : Int64)))), .second, .unset, .unset, .unset, .unset]) rfl ?_
    show Steps p.tables e below (T28.setTop (mkF m 22 #[.val (.long q1), .second, .val (.long m2), .second, .val (.long (m2 * (own_inv (-7723592293110705685 : Int64)))), .second, .unset, .unset, .unset, .unset] [])) target
    exact kt
  obtain ⟨mx, e_mx⟩ : ∃ z : Int64, z = (m2 * (own_inv (-7723592293110705685 : Int64))) := ⟨_, rfl⟩
  rw [← e_mx] at g30
  have g31 : own_Go p e below s₁ (entryFrame m #[(.long q1)] 10) T28 (mkF m 38 #[.val (.long q1), .second, .val (.long m2), .second, .val (.long mx), .second, .val (.long ((mx ^^^ (XT.ushrL mx (27 : Int32))) ^^^ (XT.ushrL mx (54 : Int32)))), .second, .unset, .unset] []) := by
    intro target kt
    refine g30 target ?_
    refine XT.lload X28.here hx rfl (hb hby d5_22) rfl ?_
    show Steps p.tables e below (T28.setTop (mkF m 24 #[.val (.long q1), .second, .val (.long m2), .second, .val (.long mx), .second, .unset, .unset, .unset, .unset] [(.long mx)])) target
    refine XT.lload X28.here hx rfl (hb hby d5_24) rfl ?_
    show Steps p.tables e below (T28.setTop (mkF m 26 #[.val (.long q1), .second, .val (.long m2), .second, .val (.long mx), .second, .unset, .unset, .unset, .unset] [(.long mx), (.long mx)])) target
    refine XT.bipushV X28.here hx rfl (27 : Int32) (hb hby d5_26) rfl ?_
    show Steps p.tables e below (T28.setTop (mkF m 28 #[.val (.long q1), .second, .val (.long m2), .second, .val (.long mx), .second, .unset, .unset, .unset, .unset] [(.int (27 : Int32)), (.long mx), (.long mx)])) target
    refine XT.lushr X28.here hx rfl (hb hby d5_28) rfl ?_
    show Steps p.tables e below (T28.setTop (mkF m 29 #[.val (.long q1), .second, .val (.long m2), .second, .val (.long mx), .second, .unset, .unset, .unset, .unset] [(.long (XT.ushrL mx (27 : Int32))), (.long mx)])) target
    refine XT.lxor X28.here hx rfl (hb hby d5_29) rfl ?_
    show Steps p.tables e below (T28.setTop (mkF m 30 #[.val (.long q1), .second, .val (.long m2), .second, .val (.long mx), .second, .unset, .unset, .unset, .unset] [(.long (mx ^^^ (XT.ushrL mx (27 : Int32))))])) target
    refine XT.lload X28.here hx rfl (hb hby d5_30) rfl ?_
    show Steps p.tables e below (T28.setTop (mkF m 32 #[.val (.long q1), .second, .val (.long m2), .second, .val (.long mx), .second, .unset, .unset, .unset, .unset] [(.long mx), (.long (mx ^^^ (XT.ushrL mx (27 : Int32))))])) target
    refine XT.bipushV X28.here hx rfl (54 : Int32) (hb hby d5_32) rfl ?_
    show Steps p.tables e below (T28.setTop (mkF m 34 #[.val (.long q1), .second, .val (.long m2), .second, .val (.long mx), .second, .unset, .unset, .unset, .unset] [(.int (54 : Int32)), (.long mx), (.long (mx ^^^ (XT.ushrL mx (27 : Int32))))])) target
    refine XT.lushr X28.here hx rfl (hb hby d5_34) rfl ?_
    show Steps p.tables e below (T28.setTop (mkF m 35 #[.val (.long q1), .second, .val (.long m2), .second, .val (.long mx), .second, .unset, .unset, .unset, .unset] [(.long (XT.ushrL mx (54 : Int32))), (.long (mx ^^^ (XT.ushrL mx (27 : Int32))))])) target
    refine XT.lxor X28.here hx rfl (hb hby d5_35) rfl ?_
    show Steps p.tables e below (T28.setTop (mkF m 36 #[.val (.long q1), .second, .val (.long m2), .second, .val (.long mx), .second, .unset, .unset, .unset, .unset] [(.long ((mx ^^^ (XT.ushrL mx (27 : Int32))) ^^^ (XT.ushrL mx (54 : Int32))))])) target
    refine XT.lstore X28.here hx rfl (hb hby d5_36) rfl (l' := #[.val (.long q1), .second, .val (.long m2), .second, .val (.long mx), .second, .val (.long ((mx ^^^ (XT.ushrL mx (27 : Int32))) ^^^ (XT.ushrL mx (54 : Int32)))), .second, .unset, .unset]) rfl ?_
    show Steps p.tables e below (T28.setTop (mkF m 38 #[.val (.long q1), .second, .val (.long m2), .second, .val (.long mx), .second, .val (.long ((mx ^^^ (XT.ushrL mx (27 : Int32))) ^^^ (XT.ushrL mx (54 : Int32)))), .second, .unset, .unset] [])) target
    exact kt
  obtain ⟨m1, e_m1⟩ : ∃ z : Int64, z = ((mx ^^^ (XT.ushrL mx (27 : Int32))) ^^^ (XT.ushrL mx (54 : Int32))) := ⟨_, rfl⟩
  rw [← e_m1] at g31
  have g32 : own_Go p e below s₁ (entryFrame m #[(.long q1)] 10) T28 (mkF m 43 #[.val (.long q1), .second, .val (.long m2), .second, .val (.long mx), .second, .val (.long m1), .second, .unset, .unset] [(.long (-4658895280553007687 : Int64)), (.long m1)]) := by
    intro target kt
    refine g31 target ?_
    refine XT.lload X28.here hx rfl (hb hby d5_38) rfl ?_
    show Steps p.tables e below (T28.setTop (mkF m 40 #[.val (.long q1), .second, .val (.long m2), .second, .val (.long mx), .second, .val (.long m1), .second, .unset, .unset] [(.long m1)])) target
    refine X28.ldc2J hx hown (mvT hZ (hw _ (List.mem_of_getElem? (i := 19) rfl))) rfl (hb hby d5_40) ?_
    show Steps p.tables e below (T28.setTop (mkF m 43 #[.val (.long q1), .second, .val (.long m2), .second, .val (.long mx), .second, .val (.long m1), .second, .unset, .unset] [(.long (-4658895280553007687 : Int64)), (.long m1)])) target
    exact kt
  obtain ⟨_, _, ⟨T33, L33, k33, n33⟩, -, X33, ⟨Lc33, hQ33, l33, y33, z33⟩, st33⟩ := Jvm.LawKit.callS X28 hx (y := (⟨"com/example/dichotome/dichotome/algebra/SeededRandomNextLongPinLaw", "inverse", "(J)J"⟩ : MethodName)) hown (mvT hZ (hw _ (List.mem_of_getElem? (i := 20) rfl))) (mvT hZ (hw _ (List.mem_of_getElem? (i := 21) rfl))) (mvT hZ (hw _ (List.mem_of_getElem? (i := 22) rfl))) (mvT hZ (hw _ (List.mem_of_getElem? (i := 23) rfl))) (by decide) (backOf (W := 2) (rm4 l Z a0 hw [] (-4658895280553007687 : Int64) h0 n0 Z0) hZ (hw _ (List.mem_of_getElem? (i := 23) rfl)) (hw _ (List.mem_of_getElem? (i := 22) rfl)) (by decide) (by decide)) (g := (mkF m 43 #[.val (.long q1), .second, .val (.long m2), .second, .val (.long mx), .second, .val (.long m1), .second, .unset, .unset] [(.long (-4658895280553007687 : Int64)), (.long m1)])) rfl (by rw [hml]; rfl) (argsL := [(.long (-4658895280553007687 : Int64))]) (rest := [(.long m1)]) (lenOf pd_0 rfl) rfl (by show 2 * 0 + _ ≤ _; exact Nat.le_of_eq rfl) (hb hby d5_43) (fun _ _ => ⟨rfl, eq28, (by decide : 0 + 0 ≤ _), (by decide : 0 + 0 ≤ _)⟩)
  dsimp only [Pt.U, Pt.locs, Pt.cells, Pt.slots] at X33 l33 y33 z33 st33 hQ33
  subst l33 y33 z33
  obtain ⟨rfl, Nq33, eq33⟩ := hQ33
  have N33 := Fr.app N28 Nq33
  have g34 : own_Go p e below s₁ (entryFrame m #[(.long q1)] 10) T33 (mkF m 46 #[.val (.long q1), .second, .val (.long m2), .second, .val (.long mx), .second, .val (.long m1), .second, .unset, .unset] [(.long (own_inv (-4658895280553007687 : Int64))), (.long m1)]) := fun target kt => g32 target (st33 target kt)
  have g35 : own_Go p e below s₁ (entryFrame m #[(.long q1)] 10) T33 (mkF m 49 #[.val (.long q1), .second, .val (.long m2), .second, .val (.long mx), .second, .val (.long m1), .second, .val (.long (m1 * (own_inv (-4658895280553007687 : Int64)))), .second] []) := by
    intro target kt
    refine g34 target ?_
    refine XT.lmul X33.here hx rfl (hb hby d5_46) rfl ?_
    show Steps p.tables e below (T33.setTop (mkF m 47 #[.val (.long q1), .second, .val (.long m2), .second, .val (.long mx), .second, .val (.long m1), .second, .unset, .unset] [(.long (m1 * (own_inv (-4658895280553007687 : Int64))))])) target
    refine XT.lstore X33.here hx rfl (hb hby d5_47) rfl (l' := #[.val (.long q1), .second, .val (.long m2), .second, .val (.long mx), .second, .val (.long m1), .second, .val (.long (m1 * (own_inv (-4658895280553007687 : Int64)))), .second]) rfl ?_
    show Steps p.tables e below (T33.setTop (mkF m 49 #[.val (.long q1), .second, .val (.long m2), .second, .val (.long mx), .second, .val (.long m1), .second, .val (.long (m1 * (own_inv (-4658895280553007687 : Int64)))), .second] [])) target
    exact kt
  obtain ⟨sx, e_sx⟩ : ∃ z : Int64, z = (m1 * (own_inv (-4658895280553007687 : Int64))) := ⟨_, rfl⟩
  rw [← e_sx] at g35
  have hv : ((sx ^^^ XT.ushrL sx (30 : Int32)) ^^^ XT.ushrL sx (60 : Int32)) = own_un q1 := by rw [e_sx, e_m1, e_mx, e_m2]; rfl
  have g36 : own_Go p e below s₁ (entryFrame m #[(.long q1)] 10) T33 (mkF m 63 #[.val (.long q1), .second, .val (.long m2), .second, .val (.long mx), .second, .val (.long m1), .second, .val (.long sx), .second] [(.long ((sx ^^^ (XT.ushrL sx (30 : Int32))) ^^^ (XT.ushrL sx (60 : Int32))))]) := by
    intro target kt
    refine g35 target ?_
    refine XT.lload X33.here hx rfl (hb hby d5_49) rfl ?_
    show Steps p.tables e below (T33.setTop (mkF m 51 #[.val (.long q1), .second, .val (.long m2), .second, .val (.long mx), .second, .val (.long m1), .second, .val (.long sx), .second] [(.long sx)])) target
    refine XT.lload X33.here hx rfl (hb hby d5_51) rfl ?_
    show Steps p.tables e below (T33.setTop (mkF m 53 #[.val (.long q1), .second, .val (.long m2), .second, .val (.long mx), .second, .val (.long m1), .second, .val (.long sx), .second] [(.long sx), (.long sx)])) target
    refine XT.bipushV X33.here hx rfl (30 : Int32) (hb hby d5_53) rfl ?_
    show Steps p.tables e below (T33.setTop (mkF m 55 #[.val (.long q1), .second, .val (.long m2), .second, .val (.long mx), .second, .val (.long m1), .second, .val (.long sx), .second] [(.int (30 : Int32)), (.long sx), (.long sx)])) target
    refine XT.lushr X33.here hx rfl (hb hby d5_55) rfl ?_
    show Steps p.tables e below (T33.setTop (mkF m 56 #[.val (.long q1), .second, .val (.long m2), .second, .val (.long mx), .second, .val (.long m1), .second, .val (.long sx), .second] [(.long (XT.ushrL sx (30 : Int32))), (.long sx)])) target
    refine XT.lxor X33.here hx rfl (hb hby d5_56) rfl ?_
    show Steps p.tables e below (T33.setTop (mkF m 57 #[.val (.long q1), .second, .val (.long m2), .second, .val (.long mx), .second, .val (.long m1), .second, .val (.long sx), .second] [(.long (sx ^^^ (XT.ushrL sx (30 : Int32))))])) target
    refine XT.lload X33.here hx rfl (hb hby d5_57) rfl ?_
    show Steps p.tables e below (T33.setTop (mkF m 59 #[.val (.long q1), .second, .val (.long m2), .second, .val (.long mx), .second, .val (.long m1), .second, .val (.long sx), .second] [(.long sx), (.long (sx ^^^ (XT.ushrL sx (30 : Int32))))])) target
    refine XT.bipushV X33.here hx rfl (60 : Int32) (hb hby d5_59) rfl ?_
    show Steps p.tables e below (T33.setTop (mkF m 61 #[.val (.long q1), .second, .val (.long m2), .second, .val (.long mx), .second, .val (.long m1), .second, .val (.long sx), .second] [(.int (60 : Int32)), (.long sx), (.long (sx ^^^ (XT.ushrL sx (30 : Int32))))])) target
    refine XT.lushr X33.here hx rfl (hb hby d5_61) rfl ?_
    show Steps p.tables e below (T33.setTop (mkF m 62 #[.val (.long q1), .second, .val (.long m2), .second, .val (.long mx), .second, .val (.long m1), .second, .val (.long sx), .second] [(.long (XT.ushrL sx (60 : Int32))), (.long (sx ^^^ (XT.ushrL sx (30 : Int32))))])) target
    refine XT.lxor X33.here hx rfl (hb hby d5_62) rfl ?_
    show Steps p.tables e below (T33.setTop (mkF m 63 #[.val (.long q1), .second, .val (.long m2), .second, .val (.long mx), .second, .val (.long m1), .second, .val (.long sx), .second] [(.long ((sx ^^^ (XT.ushrL sx (30 : Int32))) ^^^ (XT.ushrL sx (60 : Int32))))])) target
    exact kt
  rw [hv] at g36
  obtain ⟨fs, hr, hrun, hended, hW, hsame⟩ := X33.leave (v := some (.long (own_un q1))) (fun h => by rw [Bd.returns] at h; cases h)
  refine ⟨_, _, g36 _ ?_, hrun, hended, _, _, rfl, ?_, ⟨_, rfl⟩, hW, hsame.mono (by decide) (by decide)⟩
  · exact X33.lreturnOut hx Bd.returns (hb hby d5_63) hr
  · show Q_rm5 Z q1  h0 n0 _ T33.heap _
    rw [eq33]
    exact ⟨rfl, N33, rfl⟩
theorem pn_rm0 : plainName "com/example/dichotome/dichotome/algebra/SeededRandomNextLongPinLaw" = true := by first | (simp [plainName, overriddenIn]; done) | decide +kernel
theorem ef_rm0 (m : MethodId) (p0 : Int64) : entryFrame m #[(.long p0)] maxLocals = mkF m 0 #[.val (.long p0), .second, .unset, .unset, .unset, .unset, .unset] [] := by first | (simp [entryFrame, mkF, argsToLocals, Value.category, maxLocals]; done) | rfl
def Q_rm0 (Z : State) (p0 : Int64)  (h0 : Heap) (n0 : Nat) (v : Option Value) (h : Heap) (L : List Loc) : Prop := v = some (.int (1 : Int32)) ∧ Fr n0 L
set_option maxRecDepth 65536 in
set_option maxHeartbeats 40000000 in
theorem rm0 (l : Launch) (Z : State) (a0 : Array Value) (hw : ∀ d ∈ tables_1, d.before a0 Z = true) (ws : List Jvm.Cond) (p0 : Int64)  (h0 : Heap) (n0 : Nat) (Z0 : n0 ≤ h0.size)  :
    MetFree l x (head1 (Jvm.Cond.code x code maxLocals ret :: ws) room_1) (fun a U => a = #[(.long p0)] ∧ Z.Warmed39 U.vm ∧ U.heap = h0) (fun _ _ _ _ _ => True) (fun _ U o U' => ∃ v L, o = .returned v ∧ Q_rm0 Z p0  h0 n0 v U'.heap L ∧ FrameEnd U o U' L room_1.cells room_1.slots) := by
  refine MetFree.of_bodySF (plainFor_of_name pn_rm0) hisR ?_
  intro p e s m args below meth c s₁ Bd hml0 hP hK
  obtain ⟨rfl, hZ, hh⟩ := hP
  have hx := Bd.exec
  have hby := Bd.bytes
  have hml : c.maxLocals = 7 := hml0
  have hown : s.vm.findClass "com/example/dichotome/dichotome/algebra/SeededRandomNextLongPinLaw" = some m.cls := findClass_of_methodNamed Bd.named
  have hnm := (name_of_methodNamed Bd.named Bd.method).1
  have X0 : Stand p l e room_1 s m #[(.long p0)] below meth c s₁ [] 0 0 := Stand.of_body Bd
  have e0 : s₁.heap = h0 := by rw [← hh, Bd.state]; rfl
  have N0 := Fr.nil n0
  have g0 : own_Go p e below s₁ (entryFrame m #[(.long p0)] maxLocals) s₁ (mkF m 0 #[.val (.long p0), .second, .unset, .unset, .unset, .unset, .unset] []) := fun t k => castTop (ef_rm0 m p0) k
  obtain ⟨T37, h37, X37, e37, E37, A37, D37, -, st37⟩ := newO X0 hx hZ hown (hw _ (List.mem_of_getElem? (i := 0) rfl)) (hw _ (List.mem_of_getElem? (i := 1) rfl)) (hw _ (List.mem_of_getElem? (i := 2) rfl)) e0 (g := (mkF m 0 #[.val (.long p0), .second, .unset, .unset, .unset, .unset, .unset] [])) rfl (hb hby at_0) (by decide) (by decide)
  obtain ⟨b1, ga37⟩ : ∃ z, z = h0.size := ⟨_, rfl⟩
  rw [← ga37] at A37 D37 st37
  have Z37 : n0 ≤ h37.size := Nat.le_trans Z0 E37.1
  have g_b1 : n0 ≤ b1 := Nat.le_trans Z0 (Nat.le_of_eq ga37.symm)
  have F_state_b1 : Fld Z h37 b1 "com/example/dichotome/dichotome/algebra/SeededRandom" "state" "J" (.long (0 : Int64)) := D37 (Or.inl (hw _ (List.mem_of_getElem? (i := 10) rfl))) (ty := .long) (by decide)
  have g38 : own_Go p e below s₁ (entryFrame m #[(.long p0)] maxLocals) T37 (mkF m 3 #[.val (.long p0), .second, .unset, .unset, .unset, .unset, .unset] [(.ref b1)]) := fun target kt => g0 target (st37 target kt)
  have g39 : own_Go p e below s₁ (entryFrame m #[(.long p0)] maxLocals) T37 (mkF m 5 #[.val (.long p0), .second, .unset, .unset, .unset, .unset, .unset] [(.long p0), (.ref b1), (.ref b1)]) := by
    intro target kt
    refine g38 target ?_
    refine XS.dup X37.here hx rfl (hb hby at_3) rfl rfl ?_
    show Steps p.tables e below (T37.setTop (mkF m 4 #[.val (.long p0), .second, .unset, .unset, .unset, .unset, .unset] [(.ref b1), (.ref b1)])) target
    refine XT.lloadN X37.here hx rfl (hb hby at_4) rfl ?_
    show Steps p.tables e below (T37.setTop (mkF m 5 #[.val (.long p0), .second, .unset, .unset, .unset, .unset, .unset] [(.long p0), (.ref b1), (.ref b1)])) target
    exact kt
  obtain ⟨_, _, ⟨T40, L40, k40, n40⟩, -, X40, ⟨Lc40, hQ40, l40, y40, z40⟩, st40⟩ := X37.specialBack hx (y := (⟨"com/example/dichotome/dichotome/algebra/SeededRandom", "<init>", "(J)V"⟩ : MethodName)) rfl hown (mvT hZ (hw _ (List.mem_of_getElem? (i := 3) rfl))) (mvT hZ (hw _ (List.mem_of_getElem? (i := 4) rfl))) (mvT hZ (hw _ (List.mem_of_getElem? (i := 5) rfl))) (by decide) (backOf (W := 1) (rm1 l Z a0 hw [] b1 p0 h37 n0 Z37 F_state_b1 A37 g_b1) hZ (hw _ (List.mem_of_getElem? (i := 5) rfl)) (hw _ (List.mem_of_getElem? (i := 2) rfl)) (by decide) (by decide)) (g := (mkF m 5 #[.val (.long p0), .second, .unset, .unset, .unset, .unset, .unset] [(.long p0), (.ref b1), (.ref b1)])) rfl (by rw [hml]; rfl) (Steps.refl _) (a := b1) (argsL := [(.long p0)]) (rest := [(.ref b1)]) (lenOf pd_1 rfl) rfl (by show 2 * 0 + _ ≤ _; exact Nat.le_of_eq rfl) (hb hby at_5) (fun _ _ => ⟨rfl, e37, (by decide : 1 + 0 ≤ _), (by decide : 1 + 0 ≤ _)⟩)
  dsimp only [Pt.U, Pt.locs, Pt.cells, Pt.slots] at X40 l40 y40 z40 st40 hQ40
  subst l40 y40 z40
  obtain ⟨rfl, Nq40, K40, E40, F40⟩ := hQ40
  have N40 := Fr.app N0 Nq40
  have g41 : own_Go p e below s₁ (entryFrame m #[(.long p0)] maxLocals) T40 (mkF m 8 #[.val (.long p0), .second, .unset, .unset, .unset, .unset, .unset] [(.ref b1)]) := fun target kt => g39 target (st40.trans kt)
  have Z40 : n0 ≤ T40.heap.size := Nat.le_trans Z37 K40.1
  have g42 : own_Go p e below s₁ (entryFrame m #[(.long p0)] maxLocals) T40 (mkF m 10 #[.val (.long p0), .second, .val (.ref b1), .unset, .unset, .unset, .unset] [(.ref b1)]) := by
    intro target kt
    refine g41 target ?_
    refine XS.astoreN X40.here hx rfl (hb hby at_8) rfl rfl (l' := #[.val (.long p0), .second, .val (.ref b1), .unset, .unset, .unset, .unset]) rfl ?_
    show Steps p.tables e below (T40.setTop (mkF m 9 #[.val (.long p0), .second, .val (.ref b1), .unset, .unset, .unset, .unset] [])) target
    refine XS.aloadN X40.here hx rfl (hb hby at_9) rfl rfl ?_
    show Steps p.tables e below (T40.setTop (mkF m 10 #[.val (.long p0), .second, .val (.ref b1), .unset, .unset, .unset, .unset] [(.ref b1)])) target
    exact kt
  obtain ⟨cq43, kq43, q43a, q43b, q43c⟩ := isOf hZ rfl E40
  obtain ⟨_, _, ⟨T43, L43, k43, n43⟩, -, X43, ⟨Lc43, hQ43, l43, y43, z43⟩, st43⟩ := X40.virtualBack hx (y := (⟨"com/example/dichotome/dichotome/algebra/SeededRandom", "nextLong", "()J"⟩ : MethodName)) (z := (⟨"com/example/dichotome/dichotome/algebra/SeededRandom", "nextLong", "()J"⟩ : MethodName)) hown (mvT hZ (hw _ (List.mem_of_getElem? (i := 11) rfl))) (mvT hZ (hw _ (List.mem_of_getElem? (i := 12) rfl))) (notFace_of_selects (args := #[]) (mvT hZ (hw _ (List.mem_of_getElem? (i := 14) rfl)))) (mvT hZ (hw _ (List.mem_of_getElem? (i := 14) rfl))) (mvT hZ (hw _ (List.mem_of_getElem? (i := 13) rfl))) (by decide) (backOf (W := 0) (rm3 l Z a0 hw [] b1 p0 T40.heap n0 Z40 F40 E40 g_b1) hZ (hw _ (List.mem_of_getElem? (i := 15) rfl)) (hw _ (List.mem_of_getElem? (i := 2) rfl)) (by decide) (by decide)) q43a q43c (g := (mkF m 10 #[.val (.long p0), .second, .val (.ref b1), .unset, .unset, .unset, .unset] [(.ref b1)])) rfl (by rw [hml]; rfl) (Steps.refl _) (argsL := []) (rest := []) (lenOf pd_2 rfl) rfl (by show 2 * 0 + _ ≤ _; exact Nat.le_of_eq rfl) (hb hby at_10) (fun _ _ => ⟨rfl, rfl, (by decide : 1 + 0 ≤ _), (by decide : 1 + 0 ≤ _)⟩)
  dsimp only [Pt.U, Pt.locs, Pt.cells, Pt.slots] at X43 l43 y43 z43 st43 hQ43
  subst l43 y43 z43
  obtain ⟨rfl, Nq43, K43, E43, F43⟩ := hQ43
  have N43 := Fr.app N40 Nq43
  have g44 : own_Go p e below s₁ (entryFrame m #[(.long p0)] maxLocals) T43 (mkF m 13 #[.val (.long p0), .second, .val (.ref b1), .unset, .unset, .unset, .unset] [(.long (own_mix (p0 + (-7046029254386353131 : Int64))))]) := fun target kt => g42 target (st43.trans kt)
  have Z43 : n0 ≤ T43.heap.size := Nat.le_trans Z40 K43.1
  have g45 : own_Go p e below s₁ (entryFrame m #[(.long p0)] maxLocals) T43 (mkF m 15 #[.val (.long p0), .second, .val (.ref b1), .val (.long (own_mix (p0 + (-7046029254386353131 : Int64)))), .second, .unset, .unset] [(.ref b1)]) := by
    intro target kt
    refine g44 target ?_
    refine XT.lstoreN X43.here hx rfl (hb hby at_13) rfl (l' := #[.val (.long p0), .second, .val (.ref b1), .val (.long (own_mix (p0 + (-7046029254386353131 : Int64)))), .second, .unset, .unset]) rfl ?_
    show Steps p.tables e below (T43.setTop (mkF m 14 #[.val (.long p0), .second, .val (.ref b1), .val (.long (own_mix (p0 + (-7046029254386353131 : Int64)))), .second, .unset, .unset] [])) target
    refine XS.aloadN X43.here hx rfl (hb hby at_14) rfl rfl ?_
    show Steps p.tables e below (T43.setTop (mkF m 15 #[.val (.long p0), .second, .val (.ref b1), .val (.long (own_mix (p0 + (-7046029254386353131 : Int64)))), .second, .unset, .unset] [(.ref b1)])) target
    exact kt
  obtain ⟨cq46, kq46, q46a, q46b, q46c⟩ := isOf hZ rfl E43
  obtain ⟨_, _, ⟨T46, L46, k46, n46⟩, -, X46, ⟨Lc46, hQ46, l46, y46, z46⟩, st46⟩ := X43.virtualBack hx (y := (⟨"com/example/dichotome/dichotome/algebra/SeededRandom", "nextLong", "()J"⟩ : MethodName)) (z := (⟨"com/example/dichotome/dichotome/algebra/SeededRandom", "nextLong", "()J"⟩ : MethodName)) hown (mvT hZ (hw _ (List.mem_of_getElem? (i := 11) rfl))) (mvT hZ (hw _ (List.mem_of_getElem? (i := 12) rfl))) (notFace_of_selects (args := #[]) (mvT hZ (hw _ (List.mem_of_getElem? (i := 14) rfl)))) (mvT hZ (hw _ (List.mem_of_getElem? (i := 14) rfl))) (mvT hZ (hw _ (List.mem_of_getElem? (i := 13) rfl))) (by decide) (backOf (W := 0) (rm3 l Z a0 hw [] b1 (p0 + (-7046029254386353131 : Int64)) T43.heap n0 Z43 F43 E43 g_b1) hZ (hw _ (List.mem_of_getElem? (i := 15) rfl)) (hw _ (List.mem_of_getElem? (i := 2) rfl)) (by decide) (by decide)) q46a q46c (g := (mkF m 15 #[.val (.long p0), .second, .val (.ref b1), .val (.long (own_mix (p0 + (-7046029254386353131 : Int64)))), .second, .unset, .unset] [(.ref b1)])) rfl (by rw [hml]; rfl) (Steps.refl _) (argsL := []) (rest := []) (lenOf pd_2 rfl) rfl (by show 2 * 0 + _ ≤ _; exact Nat.le_of_eq rfl) (hb hby at_15) (fun _ _ => ⟨rfl, rfl, (by decide : 1 + 0 ≤ _), (by decide : 1 + 0 ≤ _)⟩)
  dsimp only [Pt.U, Pt.locs, Pt.cells, Pt.slots] at X46 l46 y46 z46 st46 hQ46
  subst l46 y46 z46
  obtain ⟨rfl, Nq46, K46, E46, F46⟩ := hQ46
  have N46 := Fr.app N43 Nq46
  have g47 : own_Go p e below s₁ (entryFrame m #[(.long p0)] maxLocals) T46 (mkF m 18 #[.val (.long p0), .second, .val (.ref b1), .val (.long (own_mix (p0 + (-7046029254386353131 : Int64)))), .second, .unset, .unset] [(.long (own_mix (p0 + (-7046029254386353131 : Int64) + (-7046029254386353131 : Int64))))]) := fun target kt => g45 target (st46.trans kt)
  have Z46 : n0 ≤ T46.heap.size := Nat.le_trans Z43 K46.1
  obtain ⟨hp, ehp⟩ : ∃ z, z = T46.heap := ⟨_, rfl⟩
  rw [← ehp] at Z46
  have g48 : own_Go p e below s₁ (entryFrame m #[(.long p0)] maxLocals) T46 (mkF m 26 #[.val (.long p0), .second, .val (.ref b1), .val (.long (own_mix (p0 + (-7046029254386353131 : Int64)))), .second, .val (.long (own_mix (p0 + (-7046029254386353131 : Int64) + (-7046029254386353131 : Int64)))), .second] [(.long (-4658895280553007687 : Int64)), (.long (-4658895280553007687 : Int64))]) := by
    intro target kt
    refine g47 target ?_
    refine XT.lstore X46.here hx rfl (hb hby at_18) rfl (l' := #[.val (.long p0), .second, .val (.ref b1), .val (.long (own_mix (p0 + (-7046029254386353131 : Int64)))), .second, .val (.long (own_mix (p0 + (-7046029254386353131 : Int64) + (-7046029254386353131 : Int64)))), .second]) rfl ?_
    show Steps p.tables e below (T46.setTop (mkF m 20 #[.val (.long p0), .second, .val (.ref b1), .val (.long (own_mix (p0 + (-7046029254386353131 : Int64)))), .second, .val (.long (own_mix (p0 + (-7046029254386353131 : Int64) + (-7046029254386353131 : Int64)))), .second] [])) target
    refine X46.ldc2J hx hown (mvT hZ (hw _ (List.mem_of_getElem? (i := 19) rfl))) rfl (hb hby at_20) ?_
    show Steps p.tables e below (T46.setTop (mkF m 23 #[.val (.long p0), .second, .val (.ref b1), .val (.long (own_mix (p0 + (-7046029254386353131 : Int64)))), .second, .val (.long (own_mix (p0 + (-7046029254386353131 : Int64) + (-7046029254386353131 : Int64)))), .second] [(.long (-4658895280553007687 : Int64))])) target
    refine X46.ldc2J hx hown (mvT hZ (hw _ (List.mem_of_getElem? (i := 19) rfl))) rfl (hb hby at_23) ?_
    show Steps p.tables e below (T46.setTop (mkF m 26 #[.val (.long p0), .second, .val (.ref b1), .val (.long (own_mix (p0 + (-7046029254386353131 : Int64)))), .second, .val (.long (own_mix (p0 + (-7046029254386353131 : Int64) + (-7046029254386353131 : Int64)))), .second] [(.long (-4658895280553007687 : Int64)), (.long (-4658895280553007687 : Int64))])) target
    exact kt
  obtain ⟨_, _, ⟨T49, L49, k49, n49⟩, -, X49, ⟨Lc49, hQ49, l49, y49, z49⟩, st49⟩ := Jvm.LawKit.callS X46 hx (y := (⟨"com/example/dichotome/dichotome/algebra/SeededRandomNextLongPinLaw", "inverse", "(J)J"⟩ : MethodName)) hown (mvT hZ (hw _ (List.mem_of_getElem? (i := 20) rfl))) (mvT hZ (hw _ (List.mem_of_getElem? (i := 21) rfl))) (mvT hZ (hw _ (List.mem_of_getElem? (i := 22) rfl))) (mvT hZ (hw _ (List.mem_of_getElem? (i := 23) rfl))) (by decide) (backOf (W := 2) (rm4 l Z a0 hw [] (-4658895280553007687 : Int64) hp n0 Z46) hZ (hw _ (List.mem_of_getElem? (i := 23) rfl)) (hw _ (List.mem_of_getElem? (i := 22) rfl)) (by decide) (by decide)) (g := (mkF m 26 #[.val (.long p0), .second, .val (.ref b1), .val (.long (own_mix (p0 + (-7046029254386353131 : Int64)))), .second, .val (.long (own_mix (p0 + (-7046029254386353131 : Int64) + (-7046029254386353131 : Int64)))), .second] [(.long (-4658895280553007687 : Int64)), (.long (-4658895280553007687 : Int64))])) rfl (by rw [hml]; rfl) (argsL := [(.long (-4658895280553007687 : Int64))]) (rest := [(.long (-4658895280553007687 : Int64))]) (lenOf pd_0 rfl) rfl (by show 2 * 0 + _ ≤ _; exact Nat.le_of_eq rfl) (hb hby at_26) (fun _ _ => ⟨rfl, ehp.symm, (by decide : 1 + 0 ≤ _), (by decide : 1 + 0 ≤ _)⟩)
  dsimp only [Pt.U, Pt.locs, Pt.cells, Pt.slots] at X49 l49 y49 z49 st49 hQ49
  subst l49 y49 z49
  obtain ⟨rfl, Nq49, eq49⟩ := hQ49
  have N49 := Fr.app N46 Nq49
  have g50 : own_Go p e below s₁ (entryFrame m #[(.long p0)] maxLocals) T49 (mkF m 29 #[.val (.long p0), .second, .val (.ref b1), .val (.long (own_mix (p0 + (-7046029254386353131 : Int64)))), .second, .val (.long (own_mix (p0 + (-7046029254386353131 : Int64) + (-7046029254386353131 : Int64)))), .second] [(.long (own_inv (-4658895280553007687 : Int64))), (.long (-4658895280553007687 : Int64))]) := fun target kt => g48 target (st49 target kt)
  have g51 : own_Go p e below s₁ (entryFrame m #[(.long p0)] maxLocals) T49 (mkF m 41 #[.val (.long p0), .second, .val (.ref b1), .val (.long (own_mix (p0 + (-7046029254386353131 : Int64)))), .second, .val (.long (own_mix (p0 + (-7046029254386353131 : Int64) + (-7046029254386353131 : Int64)))), .second] [(.long (-7723592293110705685 : Int64)), (.long (-7723592293110705685 : Int64))]) := by
    intro target kt
    refine g50 target ?_
    refine XT.lmul X49.here hx rfl (hb hby at_29) rfl ?_
    show Steps p.tables e below (T49.setTop (mkF m 30 #[.val (.long p0), .second, .val (.ref b1), .val (.long (own_mix (p0 + (-7046029254386353131 : Int64)))), .second, .val (.long (own_mix (p0 + (-7046029254386353131 : Int64) + (-7046029254386353131 : Int64)))), .second] [(.long ((-4658895280553007687 : Int64) * (own_inv (-4658895280553007687 : Int64))))])) target
    refine XT.lconstV X49.here hx rfl (1 : Int64) (hb hby at_30) rfl ?_
    show Steps p.tables e below (T49.setTop (mkF m 31 #[.val (.long p0), .second, .val (.ref b1), .val (.long (own_mix (p0 + (-7046029254386353131 : Int64)))), .second, .val (.long (own_mix (p0 + (-7046029254386353131 : Int64) + (-7046029254386353131 : Int64)))), .second] [(.long (1 : Int64)), (.long ((-4658895280553007687 : Int64) * (own_inv (-4658895280553007687 : Int64))))])) target
    refine XT.lcmp X49.here hx rfl (hb hby at_31) rfl ?_
    show Steps p.tables e below (T49.setTop (mkF m 32 #[.val (.long p0), .second, .val (.ref b1), .val (.long (own_mix (p0 + (-7046029254386353131 : Int64)))), .second, .val (.long (own_mix (p0 + (-7046029254386353131 : Int64) + (-7046029254386353131 : Int64)))), .second] [(.int (XT.cmpL ((-4658895280553007687 : Int64) * (own_inv (-4658895280553007687 : Int64))) (1 : Int64)))])) target
    refine XS.ifNo X49.here hx rfl (hb hby at_32) rfl (XT.ll_ne_f own_iA) ?_
    show Steps p.tables e below (T49.setTop (mkF m 35 #[.val (.long p0), .second, .val (.ref b1), .val (.long (own_mix (p0 + (-7046029254386353131 : Int64)))), .second, .val (.long (own_mix (p0 + (-7046029254386353131 : Int64) + (-7046029254386353131 : Int64)))), .second] [])) target
    refine X49.ldc2J hx hown (mvT hZ (hw _ (List.mem_of_getElem? (i := 25) rfl))) rfl (hb hby at_35) ?_
    show Steps p.tables e below (T49.setTop (mkF m 38 #[.val (.long p0), .second, .val (.ref b1), .val (.long (own_mix (p0 + (-7046029254386353131 : Int64)))), .second, .val (.long (own_mix (p0 + (-7046029254386353131 : Int64) + (-7046029254386353131 : Int64)))), .second] [(.long (-7723592293110705685 : Int64))])) target
    refine X49.ldc2J hx hown (mvT hZ (hw _ (List.mem_of_getElem? (i := 25) rfl))) rfl (hb hby at_38) ?_
    show Steps p.tables e below (T49.setTop (mkF m 41 #[.val (.long p0), .second, .val (.ref b1), .val (.long (own_mix (p0 + (-7046029254386353131 : Int64)))), .second, .val (.long (own_mix (p0 + (-7046029254386353131 : Int64) + (-7046029254386353131 : Int64)))), .second] [(.long (-7723592293110705685 : Int64)), (.long (-7723592293110705685 : Int64))])) target
    exact kt
  obtain ⟨_, _, ⟨T52, L52, k52, n52⟩, -, X52, ⟨Lc52, hQ52, l52, y52, z52⟩, st52⟩ := Jvm.LawKit.callS X49 hx (y := (⟨"com/example/dichotome/dichotome/algebra/SeededRandomNextLongPinLaw", "inverse", "(J)J"⟩ : MethodName)) hown (mvT hZ (hw _ (List.mem_of_getElem? (i := 20) rfl))) (mvT hZ (hw _ (List.mem_of_getElem? (i := 21) rfl))) (mvT hZ (hw _ (List.mem_of_getElem? (i := 22) rfl))) (mvT hZ (hw _ (List.mem_of_getElem? (i := 23) rfl))) (by decide) (backOf (W := 2) (rm4 l Z a0 hw [] (-7723592293110705685 : Int64) hp n0 Z46) hZ (hw _ (List.mem_of_getElem? (i := 23) rfl)) (hw _ (List.mem_of_getElem? (i := 22) rfl)) (by decide) (by decide)) (g := (mkF m 41 #[.val (.long p0), .second, .val (.ref b1), .val (.long (own_mix (p0 + (-7046029254386353131 : Int64)))), .second, .val (.long (own_mix (p0 + (-7046029254386353131 : Int64) + (-7046029254386353131 : Int64)))), .second] [(.long (-7723592293110705685 : Int64)), (.long (-7723592293110705685 : Int64))])) rfl (by rw [hml]; rfl) (argsL := [(.long (-7723592293110705685 : Int64))]) (rest := [(.long (-7723592293110705685 : Int64))]) (lenOf pd_0 rfl) rfl (by show 2 * 0 + _ ≤ _; exact Nat.le_of_eq rfl) (hb hby at_41) (fun _ _ => ⟨rfl, eq49, (by decide : 1 + 0 ≤ _), (by decide : 1 + 0 ≤ _)⟩)
  dsimp only [Pt.U, Pt.locs, Pt.cells, Pt.slots] at X52 l52 y52 z52 st52 hQ52
  subst l52 y52 z52
  obtain ⟨rfl, Nq52, eq52⟩ := hQ52
  have N52 := Fr.app N49 Nq52
  have g53 : own_Go p e below s₁ (entryFrame m #[(.long p0)] maxLocals) T52 (mkF m 44 #[.val (.long p0), .second, .val (.ref b1), .val (.long (own_mix (p0 + (-7046029254386353131 : Int64)))), .second, .val (.long (own_mix (p0 + (-7046029254386353131 : Int64) + (-7046029254386353131 : Int64)))), .second] [(.long (own_inv (-7723592293110705685 : Int64))), (.long (-7723592293110705685 : Int64))]) := fun target kt => g51 target (st52 target kt)
  have g54 : own_Go p e below s₁ (entryFrame m #[(.long p0)] maxLocals) T52 (mkF m 53 #[.val (.long p0), .second, .val (.ref b1), .val (.long (own_mix (p0 + (-7046029254386353131 : Int64)))), .second, .val (.long (own_mix (p0 + (-7046029254386353131 : Int64) + (-7046029254386353131 : Int64)))), .second] [(.long (own_mix (p0 + (-7046029254386353131 : Int64))))]) := by
    intro target kt
    refine g53 target ?_
    refine XT.lmul X52.here hx rfl (hb hby at_44) rfl ?_
    show Steps p.tables e below (T52.setTop (mkF m 45 #[.val (.long p0), .second, .val (.ref b1), .val (.long (own_mix (p0 + (-7046029254386353131 : Int64)))), .second, .val (.long (own_mix (p0 + (-7046029254386353131 : Int64) + (-7046029254386353131 : Int64)))), .second] [(.long ((-7723592293110705685 : Int64) * (own_inv (-7723592293110705685 : Int64))))])) target
    refine XT.lconstV X52.here hx rfl (1 : Int64) (hb hby at_45) rfl ?_
    show Steps p.tables e below (T52.setTop (mkF m 46 #[.val (.long p0), .second, .val (.ref b1), .val (.long (own_mix (p0 + (-7046029254386353131 : Int64)))), .second, .val (.long (own_mix (p0 + (-7046029254386353131 : Int64) + (-7046029254386353131 : Int64)))), .second] [(.long (1 : Int64)), (.long ((-7723592293110705685 : Int64) * (own_inv (-7723592293110705685 : Int64))))])) target
    refine XT.lcmp X52.here hx rfl (hb hby at_46) rfl ?_
    show Steps p.tables e below (T52.setTop (mkF m 47 #[.val (.long p0), .second, .val (.ref b1), .val (.long (own_mix (p0 + (-7046029254386353131 : Int64)))), .second, .val (.long (own_mix (p0 + (-7046029254386353131 : Int64) + (-7046029254386353131 : Int64)))), .second] [(.int (XT.cmpL ((-7723592293110705685 : Int64) * (own_inv (-7723592293110705685 : Int64))) (1 : Int64)))])) target
    refine XS.ifYes X52.here hx rfl (pc0 := 47) (pc' := 52) rfl (hb hby at_47) rfl (XT.ll_eq_t own_iB) (by decide) (by decide) ?_
    show Steps p.tables e below (T52.setTop (mkF m 52 #[.val (.long p0), .second, .val (.ref b1), .val (.long (own_mix (p0 + (-7046029254386353131 : Int64)))), .second, .val (.long (own_mix (p0 + (-7046029254386353131 : Int64) + (-7046029254386353131 : Int64)))), .second] [])) target
    refine XT.lloadN X52.here hx rfl (hb hby at_52) rfl ?_
    show Steps p.tables e below (T52.setTop (mkF m 53 #[.val (.long p0), .second, .val (.ref b1), .val (.long (own_mix (p0 + (-7046029254386353131 : Int64)))), .second, .val (.long (own_mix (p0 + (-7046029254386353131 : Int64) + (-7046029254386353131 : Int64)))), .second] [(.long (own_mix (p0 + (-7046029254386353131 : Int64))))])) target
    exact kt
  obtain ⟨_, _, ⟨T55, L55, k55, n55⟩, -, X55, ⟨Lc55, hQ55, l55, y55, z55⟩, st55⟩ := Jvm.LawKit.callS X52 hx (y := (⟨"com/example/dichotome/dichotome/algebra/SeededRandomNextLongPinLaw", "unmix", "(J)J"⟩ : MethodName)) hown (mvT hZ (hw _ (List.mem_of_getElem? (i := 26) rfl))) (mvT hZ (hw _ (List.mem_of_getElem? (i := 27) rfl))) (mvT hZ (hw _ (List.mem_of_getElem? (i := 22) rfl))) (mvT hZ (hw _ (List.mem_of_getElem? (i := 28) rfl))) (by decide) (backOf (W := 0) (rm5 l Z a0 hw [] (own_mix (p0 + (-7046029254386353131 : Int64))) hp n0 Z46) hZ (hw _ (List.mem_of_getElem? (i := 28) rfl)) (hw _ (List.mem_of_getElem? (i := 22) rfl)) (by decide) (by decide)) (g := (mkF m 53 #[.val (.long p0), .second, .val (.ref b1), .val (.long (own_mix (p0 + (-7046029254386353131 : Int64)))), .second, .val (.long (own_mix (p0 + (-7046029254386353131 : Int64) + (-7046029254386353131 : Int64)))), .second] [(.long (own_mix (p0 + (-7046029254386353131 : Int64))))])) rfl (by rw [hml]; rfl) (argsL := [(.long (own_mix (p0 + (-7046029254386353131 : Int64))))]) (rest := []) (lenOf pd_0 rfl) rfl (by show 2 * 0 + _ ≤ _; exact Nat.le_of_eq rfl) (hb hby at_53) (fun _ _ => ⟨rfl, eq52, (by decide : 1 + 0 ≤ _), (by decide : 1 + 0 ≤ _)⟩)
  dsimp only [Pt.U, Pt.locs, Pt.cells, Pt.slots] at X55 l55 y55 z55 st55 hQ55
  subst l55 y55 z55
  obtain ⟨rfl, Nq55, eq55⟩ := hQ55
  have N55 := Fr.app N52 Nq55
  have g56 : own_Go p e below s₁ (entryFrame m #[(.long p0)] maxLocals) T55 (mkF m 56 #[.val (.long p0), .second, .val (.ref b1), .val (.long (own_mix (p0 + (-7046029254386353131 : Int64)))), .second, .val (.long (own_mix (p0 + (-7046029254386353131 : Int64) + (-7046029254386353131 : Int64)))), .second] [(.long (own_un (own_mix (p0 + (-7046029254386353131 : Int64)))))]) := fun target kt => g54 target (st55 target kt)
  have g57 : own_Go p e below s₁ (entryFrame m #[(.long p0)] maxLocals) T55 (mkF m 67 #[.val (.long p0), .second, .val (.ref b1), .val (.long (own_mix (p0 + (-7046029254386353131 : Int64)))), .second, .val (.long (own_mix (p0 + (-7046029254386353131 : Int64) + (-7046029254386353131 : Int64)))), .second] [(.long (own_mix (p0 + (-7046029254386353131 : Int64) + (-7046029254386353131 : Int64))))]) := by
    intro target kt
    refine g56 target ?_
    refine XT.lloadN X55.here hx rfl (hb hby at_56) rfl ?_
    show Steps p.tables e below (T55.setTop (mkF m 57 #[.val (.long p0), .second, .val (.ref b1), .val (.long (own_mix (p0 + (-7046029254386353131 : Int64)))), .second, .val (.long (own_mix (p0 + (-7046029254386353131 : Int64) + (-7046029254386353131 : Int64)))), .second] [(.long p0), (.long (own_un (own_mix (p0 + (-7046029254386353131 : Int64)))))])) target
    refine X55.ldc2J hx hown (mvT hZ (hw _ (List.mem_of_getElem? (i := 29) rfl))) rfl (hb hby at_57) ?_
    show Steps p.tables e below (T55.setTop (mkF m 60 #[.val (.long p0), .second, .val (.ref b1), .val (.long (own_mix (p0 + (-7046029254386353131 : Int64)))), .second, .val (.long (own_mix (p0 + (-7046029254386353131 : Int64) + (-7046029254386353131 : Int64)))), .second] [(.long (-7046029254386353131 : Int64)), (.long p0), (.long (own_un (own_mix (p0 + (-7046029254386353131 : Int64)))))])) target
    refine XT.ladd X55.here hx rfl (hb hby at_60) rfl ?_
    show Steps p.tables e below (T55.setTop (mkF m 61 #[.val (.long p0), .second, .val (.ref b1), .val (.long (own_mix (p0 + (-7046029254386353131 : Int64)))), .second, .val (.long (own_mix (p0 + (-7046029254386353131 : Int64) + (-7046029254386353131 : Int64)))), .second] [(.long (p0 + (-7046029254386353131 : Int64))), (.long (own_un (own_mix (p0 + (-7046029254386353131 : Int64)))))])) target
    refine XT.lcmp X55.here hx rfl (hb hby at_61) rfl ?_
    show Steps p.tables e below (T55.setTop (mkF m 62 #[.val (.long p0), .second, .val (.ref b1), .val (.long (own_mix (p0 + (-7046029254386353131 : Int64)))), .second, .val (.long (own_mix (p0 + (-7046029254386353131 : Int64) + (-7046029254386353131 : Int64)))), .second] [(.int (XT.cmpL (own_un (own_mix (p0 + (-7046029254386353131 : Int64)))) (p0 + (-7046029254386353131 : Int64))))])) target
    refine XS.ifNo X55.here hx rfl (hb hby at_62) rfl (XT.ll_ne_f (own_back _)) ?_
    show Steps p.tables e below (T55.setTop (mkF m 65 #[.val (.long p0), .second, .val (.ref b1), .val (.long (own_mix (p0 + (-7046029254386353131 : Int64)))), .second, .val (.long (own_mix (p0 + (-7046029254386353131 : Int64) + (-7046029254386353131 : Int64)))), .second] [])) target
    refine XT.lload X55.here hx rfl (hb hby at_65) rfl ?_
    show Steps p.tables e below (T55.setTop (mkF m 67 #[.val (.long p0), .second, .val (.ref b1), .val (.long (own_mix (p0 + (-7046029254386353131 : Int64)))), .second, .val (.long (own_mix (p0 + (-7046029254386353131 : Int64) + (-7046029254386353131 : Int64)))), .second] [(.long (own_mix (p0 + (-7046029254386353131 : Int64) + (-7046029254386353131 : Int64))))])) target
    exact kt
  obtain ⟨_, _, ⟨T58, L58, k58, n58⟩, -, X58, ⟨Lc58, hQ58, l58, y58, z58⟩, st58⟩ := Jvm.LawKit.callS X55 hx (y := (⟨"com/example/dichotome/dichotome/algebra/SeededRandomNextLongPinLaw", "unmix", "(J)J"⟩ : MethodName)) hown (mvT hZ (hw _ (List.mem_of_getElem? (i := 26) rfl))) (mvT hZ (hw _ (List.mem_of_getElem? (i := 27) rfl))) (mvT hZ (hw _ (List.mem_of_getElem? (i := 22) rfl))) (mvT hZ (hw _ (List.mem_of_getElem? (i := 28) rfl))) (by decide) (backOf (W := 0) (rm5 l Z a0 hw [] (own_mix (p0 + (-7046029254386353131 : Int64) + (-7046029254386353131 : Int64))) hp n0 Z46) hZ (hw _ (List.mem_of_getElem? (i := 28) rfl)) (hw _ (List.mem_of_getElem? (i := 22) rfl)) (by decide) (by decide)) (g := (mkF m 67 #[.val (.long p0), .second, .val (.ref b1), .val (.long (own_mix (p0 + (-7046029254386353131 : Int64)))), .second, .val (.long (own_mix (p0 + (-7046029254386353131 : Int64) + (-7046029254386353131 : Int64)))), .second] [(.long (own_mix (p0 + (-7046029254386353131 : Int64) + (-7046029254386353131 : Int64))))])) rfl (by rw [hml]; rfl) (argsL := [(.long (own_mix (p0 + (-7046029254386353131 : Int64) + (-7046029254386353131 : Int64))))]) (rest := []) (lenOf pd_0 rfl) rfl (by show 2 * 0 + _ ≤ _; exact Nat.le_of_eq rfl) (hb hby at_67) (fun _ _ => ⟨rfl, eq55, (by decide : 1 + 0 ≤ _), (by decide : 1 + 0 ≤ _)⟩)
  dsimp only [Pt.U, Pt.locs, Pt.cells, Pt.slots] at X58 l58 y58 z58 st58 hQ58
  subst l58 y58 z58
  obtain ⟨rfl, Nq58, eq58⟩ := hQ58
  have N58 := Fr.app N55 Nq58
  have g59 : own_Go p e below s₁ (entryFrame m #[(.long p0)] maxLocals) T58 (mkF m 70 #[.val (.long p0), .second, .val (.ref b1), .val (.long (own_mix (p0 + (-7046029254386353131 : Int64)))), .second, .val (.long (own_mix (p0 + (-7046029254386353131 : Int64) + (-7046029254386353131 : Int64)))), .second] [(.long (own_un (own_mix (p0 + (-7046029254386353131 : Int64) + (-7046029254386353131 : Int64)))))]) := fun target kt => g57 target (st58 target kt)
  have g60 : own_Go p e below s₁ (entryFrame m #[(.long p0)] maxLocals) T58 (mkF m 88 #[.val (.long p0), .second, .val (.ref b1), .val (.long (own_mix (p0 + (-7046029254386353131 : Int64)))), .second, .val (.long (own_mix (p0 + (-7046029254386353131 : Int64) + (-7046029254386353131 : Int64)))), .second] [(.int (1 : Int32))]) := by
    intro target kt
    refine g59 target ?_
    refine XT.lloadN X58.here hx rfl (hb hby at_70) rfl ?_
    show Steps p.tables e below (T58.setTop (mkF m 71 #[.val (.long p0), .second, .val (.ref b1), .val (.long (own_mix (p0 + (-7046029254386353131 : Int64)))), .second, .val (.long (own_mix (p0 + (-7046029254386353131 : Int64) + (-7046029254386353131 : Int64)))), .second] [(.long p0), (.long (own_un (own_mix (p0 + (-7046029254386353131 : Int64) + (-7046029254386353131 : Int64)))))])) target
    refine X58.ldc2J hx hown (mvT hZ (hw _ (List.mem_of_getElem? (i := 29) rfl))) rfl (hb hby at_71) ?_
    show Steps p.tables e below (T58.setTop (mkF m 74 #[.val (.long p0), .second, .val (.ref b1), .val (.long (own_mix (p0 + (-7046029254386353131 : Int64)))), .second, .val (.long (own_mix (p0 + (-7046029254386353131 : Int64) + (-7046029254386353131 : Int64)))), .second] [(.long (-7046029254386353131 : Int64)), (.long p0), (.long (own_un (own_mix (p0 + (-7046029254386353131 : Int64) + (-7046029254386353131 : Int64)))))])) target
    refine XT.ladd X58.here hx rfl (hb hby at_74) rfl ?_
    show Steps p.tables e below (T58.setTop (mkF m 75 #[.val (.long p0), .second, .val (.ref b1), .val (.long (own_mix (p0 + (-7046029254386353131 : Int64)))), .second, .val (.long (own_mix (p0 + (-7046029254386353131 : Int64) + (-7046029254386353131 : Int64)))), .second] [(.long (p0 + (-7046029254386353131 : Int64))), (.long (own_un (own_mix (p0 + (-7046029254386353131 : Int64) + (-7046029254386353131 : Int64)))))])) target
    refine X58.ldc2J hx hown (mvT hZ (hw _ (List.mem_of_getElem? (i := 29) rfl))) rfl (hb hby at_75) ?_
    show Steps p.tables e below (T58.setTop (mkF m 78 #[.val (.long p0), .second, .val (.ref b1), .val (.long (own_mix (p0 + (-7046029254386353131 : Int64)))), .second, .val (.long (own_mix (p0 + (-7046029254386353131 : Int64) + (-7046029254386353131 : Int64)))), .second] [(.long (-7046029254386353131 : Int64)), (.long (p0 + (-7046029254386353131 : Int64))), (.long (own_un (own_mix (p0 + (-7046029254386353131 : Int64) + (-7046029254386353131 : Int64)))))])) target
    refine XT.ladd X58.here hx rfl (hb hby at_78) rfl ?_
    show Steps p.tables e below (T58.setTop (mkF m 79 #[.val (.long p0), .second, .val (.ref b1), .val (.long (own_mix (p0 + (-7046029254386353131 : Int64)))), .second, .val (.long (own_mix (p0 + (-7046029254386353131 : Int64) + (-7046029254386353131 : Int64)))), .second] [(.long ((p0 + (-7046029254386353131 : Int64)) + (-7046029254386353131 : Int64))), (.long (own_un (own_mix (p0 + (-7046029254386353131 : Int64) + (-7046029254386353131 : Int64)))))])) target
    refine XT.lcmp X58.here hx rfl (hb hby at_79) rfl ?_
    show Steps p.tables e below (T58.setTop (mkF m 80 #[.val (.long p0), .second, .val (.ref b1), .val (.long (own_mix (p0 + (-7046029254386353131 : Int64)))), .second, .val (.long (own_mix (p0 + (-7046029254386353131 : Int64) + (-7046029254386353131 : Int64)))), .second] [(.int (XT.cmpL (own_un (own_mix (p0 + (-7046029254386353131 : Int64) + (-7046029254386353131 : Int64)))) ((p0 + (-7046029254386353131 : Int64)) + (-7046029254386353131 : Int64))))])) target
    refine XS.ifNo X58.here hx rfl (hb hby at_80) rfl (XT.ll_ne_f (own_back _)) ?_
    show Steps p.tables e below (T58.setTop (mkF m 83 #[.val (.long p0), .second, .val (.ref b1), .val (.long (own_mix (p0 + (-7046029254386353131 : Int64)))), .second, .val (.long (own_mix (p0 + (-7046029254386353131 : Int64) + (-7046029254386353131 : Int64)))), .second] [])) target
    refine XT.iconstV X58.here hx rfl (1 : Int32) (hb hby at_83) rfl ?_
    show Steps p.tables e below (T58.setTop (mkF m 84 #[.val (.long p0), .second, .val (.ref b1), .val (.long (own_mix (p0 + (-7046029254386353131 : Int64)))), .second, .val (.long (own_mix (p0 + (-7046029254386353131 : Int64) + (-7046029254386353131 : Int64)))), .second] [(.int (1 : Int32))])) target
    refine XS.goto X58.here hx rfl (pc0 := 84) (pc' := 88) rfl (hb hby at_84) (by decide) (by decide) ?_
    show Steps p.tables e below (T58.setTop (mkF m 88 #[.val (.long p0), .second, .val (.ref b1), .val (.long (own_mix (p0 + (-7046029254386353131 : Int64)))), .second, .val (.long (own_mix (p0 + (-7046029254386353131 : Int64) + (-7046029254386353131 : Int64)))), .second] [(.int (1 : Int32))])) target
    exact kt
  obtain ⟨fs, hr, hrun, hended, hW, hsame⟩ := X58.leave (v := some (.int (nar .boolean (1 : Int32)))) (fun h => by rw [Bd.returns] at h; cases h)
  refine ⟨_, _, g60 _ ?_, hrun, hended, _, _, rfl, ?_, ⟨_, rfl⟩, hW, hsame.mono (by decide) (by decide)⟩
  · exact retN X58 hx (t := .boolean) Bd.returns (by simp) (hb hby at_88) hr
  · show Q_rm0 Z p0  h0 n0 _ T58.heap _
    rw [eq58]
    exact ⟨rfl, N58⟩
set_option maxRecDepth 65536 in
set_option maxHeartbeats 40000000 in
theorem comes_1 {Post : Tables → Env → Array Value → State → Outcome → State → Prop} (hpost : ∀ tb e args s v u, (limb_1_1.after args s (.returned v) u = true ∧ limb_1_2.after args s (.returned v) u = true ∧ True) → FrameEnd s (.returned v) u (Jvm.fieldLocs frame_1_writes args s ++ Jvm.arrayLocs frame_1_arrays args s ++ Jvm.staticLocs frame_1_statics s) 16 128 → Post tb e args s (.returned v) u) :
    ArmFor flags0 classFile x code maxLocals ret World_1 tables_1 room_1 Calls_1 rest_1 Pre_1 Post := by
  intro l hfl _ _ p e ha hc hk s m args below hf hA hF happ hP
  obtain ⟨hcalls, hrest, hpre⟩ := hP
  obtain ⟨-, -, -, hnamed, -, -, -, hat⟩ := (Spec.applies_iff hf).mp happ
  obtain ⟨hg, hn⟩ := and_e (Cond.before_iff.mp (show (Jvm.Cond.and given_1 narrow_1).before args s = true from hpre))
  obtain ⟨hcnt, hs0⟩ := and_e hg
  have ha0 := hs0
  obtain ⟨w0, rfl⟩ : ∃ w0 : Value, args = #[w0] := by
    have hs : args.size = 1 := by simpa [Cond.value, given_1] using hcnt
    obtain ⟨L⟩ := args
    match L, hs with
    | [w0], _ => exact ⟨w0, rfl⟩
  have hw := fun d (hd : d ∈ tables_1) => atoms_spec (ws := Jvm.Cond.code x code maxLocals ret :: tables_1) hat d (List.mem_cons_of_mem _ hd)
  have hfit : Fit s := fun {y c} hc i hi => by
    obtain ⟨ha, rfl⟩ := Array.getElem?_eq_some_iff.mp hc
    have q := List.all_eq_true.mp ((Array.all_eq_true_iff_forall_mem.mp hF) _ (Array.getElem_mem ha)) i (List.mem_range.mpr hi)
    simpa [Array.getElem?_eq_getElem hi] using q
  obtain ⟨i0, ei0⟩ := isL_v ha0
  obtain rfl : w0 = (.long i0) := Option.some.inj ei0
  obtain ⟨n, o, h1, h2, h3, _, L, rfl, ⟨rfl, N⟩, hq⟩ := rm0 l s _ hw tables_1 i0  s.heap s.heap.size (Nat.le_refl _)  p e ha hc hk s m _ below hf ((Spec.applies_iff_loose hf).mp happ).1 ⟨rfl, State.Warmed39.refl s, rfl⟩ trivial
  refine ⟨n, _, h1, h2, h3, hpost _ _ _ _ _ _ ⟨Cond.after_iff.mpr rfl, Cond.after_iff.mpr (eq_i res_at (Term.int_eval (1)) rfl), trivial⟩ ⟨hq.1, hq.2.1, (hq.2.2.sift fun y hy => Or.inr (N y hy)).mono (by decide) (by decide)⟩⟩
theorem main_1_1 : Claimed_1_1 := comes_1 fun _ _ _ _ _ _ h hF => ⟨h.1, hF⟩
theorem main_1_2 : Claimed_1_2 := comes_1 fun _ _ _ _ _ _ h hF => ⟨h.2.1, hF⟩
end Jvm.Pilot.@@N@@
namespace Jvm.Pilot.@@N@@
open Jvm Jvm.ClassFile Sem Op Lib Jvm.Free Jvm.Stand Jvm.Pilot.@@N@@.Jvm.D
/-! MADE BY PROGRAM (witnessworld.py) out of the Statement's table words and the real class files: 7 classes; the members and pool entries that the words name. The judged class is class 1, her method 3. -/
namespace start1
open Jvm.ClassFile
def u (s : String) : CpInfo := .utf8 (stringToUtf16 s)
/-- a pool by its gaps: so many unusable entries, then the entry; so many at the end -/
def gap : Nat → List CpInfo → List CpInfo
  | 0, r => r
  | n + 1, r => .unusable :: gap n r
def poolList (es : List (Nat × CpInfo)) (last : Nat) : List CpInfo := es.foldr (fun e r => gap e.1 (e.2 :: r)) (gap last [])
def pool (es : List (Nat × CpInfo)) (last : Nat) : Array CpInfo := ⟨poolList es last⟩
def fileOf (pool : Array CpInfo) (this : Nat) (attrs : Array Attribute := #[]) (ms : Array MethodInfo := #[]) (fl : Nat := 33) (sup : Nat := 0) (ifs : Array Nat := #[]) (fds : Array FieldInfo := #[]) : ClassFile where
  minorVersion := 0
  majorVersion := 65
  constantPool := pool
  accessFlags := fl
  thisClass := this
  superClass := sup
  interfaces := ifs
  fields := fds
  methods := ms
  attributes := attrs
def plain (name : String) (sup : Option ClassId) : Class where
  name := name
  kind := .ordinary
  loader := none
  accessFlags := 33
  super := sup
  interfaces := #[]
  cf := none
  fields := #[]
  methods := #[]
  instanceTypes := #[]
  staticTypes := #[]
  resolved := #[]
  callSites := []
  init := .initialized
  statics := none
  mirror := none

def pool0 : Array CpInfo := pool [(5, u "<init>"), (0, u "()V"), (1, .class_ 10), (1, u "java/lang/Object")] 113

def k0c0 : Code := { maxStack := 0, maxLocals := 1, code := object_method_1_code, exceptionTable := #[], attributes := #[] }
def k0m0 : Method := { name := "<init>", desc := "()V", sig := { parameters := [], returnType := none }, accessFlags := 1, code := some k0c0 }
/-- java/lang/Object -/
def k0 : Class := { plain "java/lang/Object" none with
  accessFlags := 33
  interfaces := #[]
  cf := some (fileOf pool0 8 #[] #[{ accessFlags := 1, nameIndex := 5, descriptorIndex := 6, attributes := #[] }] 33 0 #[] #[])
  fields := #[]
  methods := #[k0m0]
  instanceTypes := #[]
  staticTypes := #[]
  resolved := Array.replicate 124 none
  statics := none }

def pool1 : Array CpInfo := pool [(2, .class_ 4), (1, u "java/lang/Object"), (0, u "<init>"), (0, u "()V"), (0, .long 2), (1, .class_ 10), (0, u "com/example/dichotome/dichotome/algebra/SeededRandomNextLongPinLaw"), (0, .long 10723151780598845931), (1, .methodref 9 14), (0, .nameAndType 15 16), (0, u "inverse"), (0, u "(J)J"), (0, .long 13787848793156543929), (1, .class_ 20), (0, u "com/example/dichotome/dichotome/algebra/SeededRandom"), (0, .methodref 19 22), (0, .nameAndType 5 23), (0, u "(J)V"), (0, .methodref 19 25), (0, .nameAndType 26 27), (0, u "nextLong"), (0, u "()J"), (0, .methodref 9 29), (0, .nameAndType 30 16), (0, u "unmix"), (0, .long 11400714819323198485), (1, u "GAMMA"), (0, u "J"), (1, u "A"), (0, u "B"), (2, u "law"), (0, u "(J)Z")] 3

def k1m0 : Method := { name := "<init>", desc := "()V", sig := { parameters := [], returnType := none }, accessFlags := 1, code := none }
def k1c1 : Code := { maxStack := 8, maxLocals := 4, code := method_2_code, exceptionTable := #[], attributes := #[] }
def k1m1 : Method := { name := "inverse", desc := "(J)J", sig := { parameters := [.long], returnType := some .long }, accessFlags := 10, code := some k1c1 }
def k1c2 : Code := { maxStack := 5, maxLocals := 10, code := method_3_code, exceptionTable := #[], attributes := #[] }
def k1m2 : Method := { name := "unmix", desc := "(J)J", sig := { parameters := [.long], returnType := some .long }, accessFlags := 10, code := some k1c2 }
def k1c3 : Code := { maxStack := 6, maxLocals := 7, code := code, exceptionTable := #[], attributes := #[] }
def k1m3 : Method := { name := "law", desc := "(J)Z", sig := { parameters := [.long], returnType := some .boolean }, accessFlags := 9, code := some k1c3 }
/-- com/example/dichotome/dichotome/algebra/SeededRandomNextLongPinLaw -/
def k1 : Class := { plain "com/example/dichotome/dichotome/algebra/SeededRandomNextLongPinLaw" (some 0) with
  accessFlags := 49
  interfaces := #[]
  cf := some (fileOf pool1 9 #[] #[{ accessFlags := 1, nameIndex := 5, descriptorIndex := 6, attributes := #[] }, { accessFlags := 10, nameIndex := 15, descriptorIndex := 16, attributes := #[] }, { accessFlags := 10, nameIndex := 30, descriptorIndex := 16, attributes := #[] }, { accessFlags := 9, nameIndex := 40, descriptorIndex := 41, attributes := #[] }] 49 2 #[] #[{ accessFlags := 26, nameIndex := 33, descriptorIndex := 34, attributes := #[] }, { accessFlags := 26, nameIndex := 36, descriptorIndex := 34, attributes := #[] }, { accessFlags := 26, nameIndex := 37, descriptorIndex := 34, attributes := #[] }])
  fields := #[{ name := "GAMMA", type := .long, accessFlags := 26, slot := 0, constantValue := 0 }, { name := "A", type := .long, accessFlags := 26, slot := 1, constantValue := 0 }, { name := "B", type := .long, accessFlags := 26, slot := 2, constantValue := 0 }]
  methods := #[k1m0, k1m1, k1m2, k1m3]
  instanceTypes := #[]
  staticTypes := #[.long, .long, .long]
  resolved := Array.replicate 45 none
  statics := none }

def pool2 : Array CpInfo := pool [(1, .methodref 2 3), (0, .class_ 4), (0, .nameAndType 5 6), (0, u "java/lang/Object"), (0, u "<init>"), (0, u "()V"), (0, .fieldref 8 9), (0, .class_ 10), (0, .nameAndType 11 12), (0, u "com/example/dichotome/dichotome/algebra/SeededRandom"), (0, u "state"), (0, u "J"), (0, .long 11400714819323198485), (1, .long 13787848793156543929), (1, .long 10723151780598845931), (3, u "nextLong"), (0, u "()J"), (4, u "GAMMA"), (1, u "(J)V")] 7

def k2c0 : Code := { maxStack := 3, maxLocals := 3, code := prog_89_method_1_code, exceptionTable := #[], attributes := #[] }
def k2m0 : Method := { name := "<init>", desc := "(J)V", sig := { parameters := [.long], returnType := none }, accessFlags := 0, code := some k2c0 }
def k2c1 : Code := { maxStack := 5, maxLocals := 3, code := prog_89_method_2_code, exceptionTable := #[], attributes := #[] }
def k2m1 : Method := { name := "nextLong", desc := "()J", sig := { parameters := [], returnType := some .long }, accessFlags := 0, code := some k2c1 }
/-- com/example/dichotome/dichotome/algebra/SeededRandom -/
def k2 : Class := { plain "com/example/dichotome/dichotome/algebra/SeededRandom" (some 0) with
  accessFlags := 48
  interfaces := #[]
  cf := some (fileOf pool2 8 #[] #[{ accessFlags := 0, nameIndex := 5, descriptorIndex := 29, attributes := #[] }, { accessFlags := 0, nameIndex := 21, descriptorIndex := 22, attributes := #[] }] 48 2 #[] #[{ accessFlags := 26, nameIndex := 27, descriptorIndex := 12, attributes := #[] }, { accessFlags := 2, nameIndex := 11, descriptorIndex := 12, attributes := #[] }])
  fields := #[{ name := "GAMMA", type := .long, accessFlags := 26, slot := 0, constantValue := 0 }, { name := "state", type := .long, accessFlags := 2, slot := 0, constantValue := 0 }]
  methods := #[k2m0, k2m1]
  instanceTypes := #[.long]
  staticTypes := #[.long]
  resolved := Array.replicate 37 none
  statics := none }

def pool3 : Array CpInfo := pool [(1, u "java/lang/Cloneable"), (0, .class_ 1), (0, u "java/lang/Object"), (0, .class_ 3)] 3

/-- java/lang/Cloneable -/
def k3 : Class := { plain "java/lang/Cloneable" (some 0) with
  accessFlags := 1537
  interfaces := #[]
  cf := some (fileOf pool3 2 #[] #[] 1537 4 #[] #[])
  fields := #[]
  methods := #[]
  instanceTypes := #[]
  staticTypes := #[]
  resolved := Array.replicate 8 none
  statics := none }

def pool4 : Array CpInfo := pool [(1, u "java/io/Serializable"), (0, .class_ 1), (0, u "java/lang/Object"), (0, .class_ 3)] 3

/-- java/io/Serializable -/
def k4 : Class := { plain "java/io/Serializable" (some 0) with
  accessFlags := 1537
  interfaces := #[]
  cf := some (fileOf pool4 2 #[] #[] 1537 4 #[] #[])
  fields := #[]
  methods := #[]
  instanceTypes := #[]
  staticTypes := #[]
  resolved := Array.replicate 8 none
  statics := none }

/-- the primitive byte -/
def k5 : Class := { plain "byte" none with kind := .primitive 'B', accessFlags := 0x411 }
/-- [B -/
def k6 : Class := { plain "[B" (some 0) with kind := .array 5 .byte, interfaces := #[3, 4], accessFlags := 1041 }

def heap : Heap := #[]
def classes : Array Class := #[k0, k1, k2, k3, k4, k5, k6]
def interned : List (Array UInt16 × Addr) := []
def slotsUsed : Nat := 0
def theMethod : MethodId := ⟨1, 3⟩
def args0 : Array Value := #[.long 5]
def aboutOver (below : List Frame) : State where
  vm := { classes := classes, interned := interned.toArray }
  heap := heap
  slotsUsed := slotsUsed
  threads := #[{ frames := .invoking theMethod args0 :: below }]
def below0 : List Frame := [.native { method := ⟨0, 0⟩, args := #[] }]
def about1 : State := aboutOver below0
def p0 : Program := .bare "" "" ""
def e0 : Env := launch0.env 0 0 0
theorem w_frames : about1.frames = Frame.invoking theMethod args0 :: below0 := rfl
set_option maxRecDepth 65536 in
theorem w_args : argsFit about1.vm theMethod args0 = true := by decide +kernel
set_option maxRecDepth 65536 in
theorem w_heap : heapFits about1 = true := by decide +kernel
set_option maxRecDepth 65536 in
theorem w_runnable : about1.curStatus? = some .runnable := by decide +kernel
set_option maxRecDepth 65536 in
theorem w_alone : about1.alone = true := by decide +kernel
set_option maxRecDepth 65536 in
theorem w_named : about1.methodNamed? x = some theMethod := by decide +kernel
set_option maxRecDepth 65536 in
theorem w_hears : about1.hears theMethod below0 = true := by decide +kernel
set_option maxRecDepth 65536 in
theorem w_ripe : about1.ripe theMethod args0 below0 = true := by decide +kernel
theorem w_running : about1.status = .running := rfl
set_option maxRecDepth 65536 in
theorem w_room : about1.hasRoom e0.platform room_1 = true :=
  launch0.hasRoom_least _ room_1 (by decide +kernel) (by decide +kernel) (by decide +kernel) (by decide +kernel) (by decide +kernel) (by decide +kernel)
theorem allAtoms_all (ts : List Jvm.Cond) (a : Array Jvm.Value) (st : Jvm.State) : (allAtoms ts).before a st = ts.all (fun c => c.before a st) := by
  induction ts with
  | nil => rfl
  | cons c t ih =>
    show (Jvm.Cond.and c (allAtoms t)).before a st = _
    rw [Jvm.Cond.before_and, ih, List.all_cons]
def words1 : List Jvm.Cond := Jvm.Cond.code x code maxLocals ret :: tables_1
/-- a 'code' word, met by the world's own term for the bytes: nothing is compared byte by byte -/
theorem code_word {y : MethodName} {bytes : ByteArray} {mx : Nat} {rt : Option FieldType} {a : Array Value} {s : State} {m : MethodId} {meth : Method} {c : Code} (h1 : s.methodNamed? y = some m) (h2 : s.vm.method? m = some meth) (h3 : meth.code = some c) (h4 : c.code = bytes)
    (h5 : (c.maxLocals == mx && c.exceptionTable.isEmpty && decide (c.maxStack ≤ mostOperands) && decide (meth.sig.returnType = rt) && !meth.locks && decide (parseMethodDescriptor y.desc = some meth.sig)) = true) : (Jvm.Cond.code y bytes mx rt).before a s = true := by
  simp only [Bool.and_eq_true, beq_iff_eq, Bool.not_eq_true', decide_eq_true_eq] at h5
  obtain ⟨⟨⟨⟨⟨g1, g2⟩, g3⟩, g4⟩, g5⟩, g6⟩ := h5
  simp [Cond.before, Cond.holds, Cond.value, h1, h2, h3, h4, g1, g2, g3, g4, g5, g6]
def isCode : Jvm.Cond → Bool
  | .code _ _ _ _ => true
  | _ => false
theorem all_split {L : List Jvm.Cond} {P : Jvm.Cond → Bool} (h1 : L.all (fun c => isCode c || P c) = true) (h2 : ∀ c ∈ L.filter isCode, P c = true) : L.all P = true := by
  refine List.all_eq_true.mpr fun c hc => ?_
  have h := List.all_eq_true.mp h1 c hc
  rcases Bool.eq_false_or_eq_true (isCode c) with hi | hi
  · exact h2 c (List.mem_filter.mpr ⟨hc, hi⟩)
  · simpa [hi] using h
set_option maxRecDepth 65536 in
theorem w_c0 : (Jvm.Cond.code x code maxLocals ret).before args0 about1 = true := code_word (m := ⟨1, 3⟩) (meth := k1m3) (c := k1c3) (by decide +kernel) rfl rfl rfl (by decide +kernel)
set_option maxRecDepth 65536 in
theorem w_c1 : (Jvm.Cond.code ({ cls := "com/example/dichotome/dichotome/algebra/SeededRandom", name := "<init>", desc := "(J)V" } : Jvm.MethodName) prog_89_method_1_code (3 : Nat) (Option.none : Option Jvm.ClassFile.FieldType)).before args0 about1 = true := code_word (m := ⟨2, 0⟩) (meth := k2m0) (c := k2c0) (by decide +kernel) rfl rfl rfl (by decide +kernel)
set_option maxRecDepth 65536 in
theorem w_c2 : (Jvm.Cond.code ({ cls := "java/lang/Object", name := "<init>", desc := "()V" } : Jvm.MethodName) object_method_1_code (1 : Nat) (Option.none : Option Jvm.ClassFile.FieldType)).before args0 about1 = true := code_word (m := ⟨0, 0⟩) (meth := k0m0) (c := k0c0) (by decide +kernel) rfl rfl rfl (by decide +kernel)
set_option maxRecDepth 65536 in
theorem w_c3 : (Jvm.Cond.code ({ cls := "com/example/dichotome/dichotome/algebra/SeededRandom", name := "nextLong", desc := "()J" } : Jvm.MethodName) prog_89_method_2_code (3 : Nat) (Option.some Jvm.ClassFile.FieldType.long)).before args0 about1 = true := code_word (m := ⟨2, 1⟩) (meth := k2m1) (c := k2c1) (by decide +kernel) rfl rfl rfl (by decide +kernel)
set_option maxRecDepth 65536 in
theorem w_c4 : (Jvm.Cond.code ({ cls := "com/example/dichotome/dichotome/algebra/SeededRandomNextLongPinLaw", name := "inverse", desc := "(J)J" } : Jvm.MethodName) method_2_code (4 : Nat) (Option.some Jvm.ClassFile.FieldType.long)).before args0 about1 = true := code_word (m := ⟨1, 1⟩) (meth := k1m1) (c := k1c1) (by decide +kernel) rfl rfl rfl (by decide +kernel)
set_option maxRecDepth 65536 in
theorem w_c5 : (Jvm.Cond.code ({ cls := "com/example/dichotome/dichotome/algebra/SeededRandomNextLongPinLaw", name := "unmix", desc := "(J)J" } : Jvm.MethodName) method_3_code (10 : Nat) (Option.some Jvm.ClassFile.FieldType.long)).before args0 about1 = true := code_word (m := ⟨1, 2⟩) (meth := k1m2) (c := k1c2) (by decide +kernel) rfl rfl rfl (by decide +kernel)
def codes1 : List Jvm.Cond := [Jvm.Cond.code x code maxLocals ret, Jvm.Cond.code ({ cls := "com/example/dichotome/dichotome/algebra/SeededRandom", name := "<init>", desc := "(J)V" } : Jvm.MethodName) prog_89_method_1_code (3 : Nat) (Option.none : Option Jvm.ClassFile.FieldType), Jvm.Cond.code ({ cls := "java/lang/Object", name := "<init>", desc := "()V" } : Jvm.MethodName) object_method_1_code (1 : Nat) (Option.none : Option Jvm.ClassFile.FieldType), Jvm.Cond.code ({ cls := "com/example/dichotome/dichotome/algebra/SeededRandom", name := "nextLong", desc := "()J" } : Jvm.MethodName) prog_89_method_2_code (3 : Nat) (Option.some Jvm.ClassFile.FieldType.long), Jvm.Cond.code ({ cls := "com/example/dichotome/dichotome/algebra/SeededRandomNextLongPinLaw", name := "inverse", desc := "(J)J" } : Jvm.MethodName) method_2_code (4 : Nat) (Option.some Jvm.ClassFile.FieldType.long), Jvm.Cond.code ({ cls := "com/example/dichotome/dichotome/algebra/SeededRandomNextLongPinLaw", name := "unmix", desc := "(J)J" } : Jvm.MethodName) method_3_code (10 : Nat) (Option.some Jvm.ClassFile.FieldType.long)]
set_option maxRecDepth 65536 in
theorem codes_eq : words1.filter isCode = codes1 := rfl
theorem w_codes : ∀ c ∈ words1.filter isCode, c.before args0 about1 = true := by
  rw [codes_eq]
  intro c hc
  simp only [codes1, List.mem_cons, List.not_mem_nil, or_false] at hc
  rcases hc with rfl | rfl | rfl | rfl | rfl | rfl
  · exact w_c0
  · exact w_c1
  · exact w_c2
  · exact w_c3
  · exact w_c4
  · exact w_c5
set_option maxRecDepth 65536 in
theorem w_t1 : (words1.take 24).all (fun c => isCode c || c.before args0 about1) = true := by decide +kernel
set_option maxRecDepth 65536 in
theorem w_t2 : (words1.drop 24).all (fun c => isCode c || c.before args0 about1) = true := by decide +kernel
theorem w_tables : (allAtoms (Jvm.Cond.code x code maxLocals ret :: tables_1)).before args0 about1 = true := by
  rw [allAtoms_all]
  show words1.all (fun c => c.before args0 about1) = true
  refine all_split ?_ w_codes
  rw [← List.take_append_drop 24 words1, List.all_append, w_t1, w_t2]
  rfl
set_option maxRecDepth 65536 in
theorem w_case : (Jvm.Cond.and given_1 narrow_1).before args0 about1 = true := by decide +kernel
theorem w_applies : (headSpec (Jvm.Cond.code x code maxLocals ret :: tables_1) room_1).applies x e0.platform about1 = true :=
  (Spec.applies_iff w_frames).mpr ⟨w_running, w_runnable, w_alone, w_named, w_hears, w_ripe, w_room, w_tables⟩
theorem atStart : AtStart classFile x code maxLocals ret World_1 tables_1 room_1 Calls_1 rest_1 Pre_1 launch0 p0 e0 about1 theMethod args0 below0 :=
  ⟨lists_1, trivial, launch0.admits_env _ _ _, launch0.least_env, fairChoices_fair.cas, fairChoices_fair.clock, w_frames, w_args, w_heap, w_applies, trivial, trivial, w_case⟩
end start1
theorem witness_1 : WitnessClaimed_1 := ⟨start1.p0, start1.e0, start1.about1, start1.theMethod, start1.args0, start1.below0, start1.atStart⟩
end Jvm.Pilot.@@N@@
