import JvmDerived
import JvmDerived.Pilot.@@N@@Statement
import JvmDerived.Pilot.@@N@@Code
set_option linter.unusedVariables false
set_option linter.unusedSimpArgs false
namespace Jvm.RoadKit
open Sem ClassFile Op Lib Jvm.Stand Jvm.Free Jvm.LawKit
section New
variable {p : Program} {l : Launch} {e : Env} {R : Room} {s : State} {m : MethodId} {args : Array Value} {below : List Frame} {meth : Method} {c : Code} {T : State} {locs : List Loc} {cells slots : Nat}
theorem retI (X : Stand p l e R s m args below meth c T locs cells slots) (hx : p.tables.exec = Jvm.exec) {pc : Nat} {Ls : Array Slot} {z : Int32} {rest : List Value} (hret : meth.sig.returnType = some .int) (hd : decode c.code pc = .ok (.ireturn, 1)) {fs : List Frame}
    (hl : ∀ (f : JFrame) (acts : List Action), f.method = m → f.locked = none → f.entered = [] → (doReturn e (T.setTop f) acts (some (.int z))).1 = T.setFrames fs) : Steps p.tables e below (T.setTop (mkF m pc Ls (.int z :: rest))) (T.setFrames fs) := by
  have hm' : T.vm.method? m = some meth := X.method'
  have hn : narrow .int (.int z) = .int z := rfl
  show Steps p.tables e below (T.setTop { method := m, pc := pc, locals := Ls, stack := _ :: rest, locked := none }) _
  jvm_step X.here [X.here.top, hx, hd, hm', hret, hn]
  first | (intro acts; rw [hl _ acts rfl rfl rfl]) | rw [hl _ _ rfl rfl rfl]
  exact Steps.refl _
end New
end Jvm.RoadKit
namespace Jvm.Pilot.@@N@@
open Jvm Jvm.ClassFile Sem Op Lib Jvm.Free Jvm.Stand Jvm.LawKit Jvm.RoadKit Bundle Jvm.Pilot.@@N@@.Jvm.D
/-- whoever reaches a target from the frame F of T reaches it from the frame F0 of T0 -/
def own_Go (p : Program) (e : Env) (below : List Frame) (T0 : State) (F0 : JFrame) (T : State) (F : JFrame) : Prop := ∀ target, Steps p.tables e below (T.setTop F) target → Steps p.tables e below (T0.setTop F0) target
theorem own_Go.refl {p : Program} {e : Env} {below : List Frame} {T : State} {F : JFrame} : own_Go p e below T F T F := fun _ k => k
theorem own_Go.trans {p : Program} {e : Env} {below : List Frame} {T0 T1 T2 : State} {F0 F1 F2 : JFrame} (a : own_Go p e below T0 F0 T1 F1) (b : own_Go p e below T1 F1 T2 F2) : own_Go p e below T0 F0 T2 F2 := fun t k => a t (b t k)

theorem pd_0 : parseMethodDescriptor "()V" = some ⟨[], none⟩ := by decide +kernel
theorem pd_1 : parseMethodDescriptor "(J)V" = some ⟨[.long], none⟩ := by decide +kernel
theorem pd_2 : parseMethodDescriptor "(JJJ)V" = some ⟨[.long, .long, .long], none⟩ := by decide +kernel
theorem pd_3 : parseMethodDescriptor "(Ljava/lang/Object;)Z" = some ⟨[(.object "java/lang/Object")], some .boolean⟩ := by decide +kernel
theorem pd_4 : parseMethodDescriptor "(J)Ljava/lang/Long;" = some ⟨[.long], some (.object "java/lang/Long")⟩ := by decide +kernel
/-! plain laws -/
def own_keq (c1 c2 v1 v2 b1 b2 : Int64) : Int32 := if c1 = c2 then (if v1 = v2 then (if b1 = b2 then (1 : Int32) else (0 : Int32)) else (0 : Int32)) else (0 : Int32)
theorem own_nar (c1 c2 v1 v2 b1 b2 : Int64) : nar .boolean (own_keq c1 c2 v1 v2 b1 b2) = own_keq c1 c2 v1 v2 b1 b2 := by
  unfold own_keq
  split <;> (try split) <;> (try split) <;> rfl
theorem own_self (c v b : Int64) : own_keq c c v v b b = 1 := by simp [own_keq]
/-- a Long is no K -/
theorem own_no {Z : State} {a0 : Array Value} {K : String} {n : Nat} (w1 : (Jvm.Cond.superclass "java/lang/Long" "java/lang/Number").before a0 Z = true) (w2 : (Jvm.Cond.superclass "java/lang/Number" "java/lang/Object").before a0 Z = true) (w3 : (Jvm.Cond.noSuperclass "java/lang/Object").before a0 Z = true) (wk : (Jvm.Cond.instantiable K n).before a0 Z = true) (h1 : "java/lang/Long" ≠ K) (h2 : "java/lang/Number" ≠ K) (h3 : "java/lang/Object" ≠ K) :
    ∃ c t, Z.vm.findClass "java/lang/Long" = some c ∧ Z.vm.findClass K = some t ∧ Z.vm.assignable c t = false := by
  obtain ⟨t, kt, g0, g1, g2, g3, -, -⟩ := Cond.instantiable_spec wk
  obtain ⟨co, ko, o1, o2, o3, -, -⟩ := Cond.noSuperclass_spec w3
  have neo := ids_ne o1 g0 h3
  have n0 : NS Z "java/lang/Object" K := ⟨co, t, o1, g0, fun fuel => by cases fuel <;> simp [Vm.isSubclassAux, neo, o2, o3]⟩
  obtain ⟨cl, t', l1, l2, l3⟩ := NS.step w1 (NS.step w2 n0 h2) h1
  cases g0.symm.trans l2
  obtain ⟨p, k, kp, s1, s2, s3, s4, s5, -, s7⟩ := Cond.superclass_spec l1 w1
  have nel := ids_ne l1 g0 h1
  have hi : kt.isInterface = false := by
    rw [Bool.or_eq_false_iff] at g3
    exact g3.1
  refine ⟨cl, t, l1, g0, ?_⟩
  show Z.vm.assignableAux (255 + 1) cl t = false
  simp [Vm.assignableAux, nel, s2, g1, s5, g2, hi, Vm.isSubclass, l3]
/-- the cache of Longs, as the sheet's set says it: its cell, and a Long in each of its 256 places -/
def own_Cache (Z : State) (h : Heap) : Prop := ∃ (ca : Addr) (cl : Cell), Sta Z h "java/lang/Long$LongCache" "cache" "[Ljava/lang/Long;" (.ref ca) ∧ Arr Z h ca cl (.object "java/lang/Long") ∧ cl.slots.size = 256 ∧ ∀ i, i < 256 → ∃ b, cl.slots[i]? = some (.ref b) ∧ Exa Z h b "java/lang/Long"
theorem own_Cache.ext {Z : State} {h h' : Heap} (C : own_Cache Z h) (E : Ext h h') : own_Cache Z h' := by
  obtain ⟨ca, cl, S, A, n, H⟩ := C
  exact ⟨ca, cl, S.ext E, A.ext E, n, fun i hi => by obtain ⟨b, q, X⟩ := H i hi; exact ⟨b, q, X.ext E⟩⟩
theorem own_cache {Z : State} {a0 : Array Value} (h : ∀ d ∈ jdkStatics_1, d.before a0 Z = true) : own_Cache Z Z.heap := by
  have w1 := h _ (List.mem_of_getElem? (i := 1) rfl)
  have w2 := Cond.before_iff.mp (h _ (List.mem_of_getElem? (i := 2) rfl))
  have w4 := h _ (List.mem_of_getElem? (i := 4) rfl)
  have w5 := Cond.before_iff.mp (h _ (List.mem_of_getElem? (i := 5) rfl))
  obtain ⟨ca, ev⟩ := arr_v w2
  obtain ⟨cl, A⟩ := Arr.start ev w2
  have hat := IntBox.arrayAt_of A.1 A.2.1 A.2.2
  obtain ⟨hsz, hsize⟩ := IntBox.length_fwd w4 ev A.1 A.2.1 A.2.2
  have h256 : cl.slots.size = 256 := by
    have e := len_toInt (n := cl.slots.size) (by omega)
    rw [hsize] at e
    have : (256 : Int32).toInt = 256 := by decide
    omega
  have hall := Cond.all_elim ev hat w5
  refine ⟨ca, cl, Sta.start ev (Or.inl w1), A, h256, fun i hi => ?_⟩
  have q := hall i (by omega)
  obtain ⟨q1, -⟩ := and_e q
  obtain ⟨b, eb⟩ := exa_v q1
  have evi : (Term.static "java/lang/Long$LongCache" "cache" "[Ljava/lang/Long;").eval a0 Z none [i] Z = some (.ref ca) := by
    simpa only [Term.eval] using ev
  have ei : (Term.index 0).eval a0 Z none [i] Z = some (.int i.toInt32) := Term.index_eval _
  have ti : i.toInt32.toInt = i := len_toInt (by omega)
  have hn : ¬ i.toInt32 < 0 := by
    rw [Int32.lt_iff_toInt_lt, ti, show (0 : Int32).toInt = 0 from rfl]
    omega
  have ee := elem_f evi ei hat hn
  have tn : i.toInt32.toNatClampNeg = i := by rw [Int32.toNatClampNeg, ti]; rfl
  rw [tn] at ee
  exact ⟨b, ee.symm.trans eb, exa_at eb q1⟩
theorem own_place (q : Int64) (h1 : ¬ q < (-128 : Int64)) (h2 : ¬ (127 : Int64) < q) : ∃ i : Nat, i < 256 ∧ (q.toInt32 + (128 : Int32)).toNatClampNeg = i ∧ ¬ (q.toInt32 + (128 : Int32)) < 0 := by
  rw [Int64.lt_iff_toInt_lt, show (-128 : Int64).toInt = -128 from rfl] at h1
  rw [Int64.lt_iff_toInt_lt, show (127 : Int64).toInt = 127 from rfl] at h2
  have e1 : q.toInt32.toInt = q.toInt := XT.narrowInt ⟨by omega, by omega⟩
  have e2 : (q.toInt32 + (128 : Int32)).toInt = q.toInt + 128 := by
    rw [XT.add32 (by rw [e1, show (128 : Int32).toInt = 128 from rfl]; constructor <;> omega), e1, show (128 : Int32).toInt = 128 from rfl]
  refine ⟨(q.toInt32 + (128 : Int32)).toNatClampNeg, ?_, rfl, ?_⟩
  · rw [Int32.toNatClampNeg, e2]; omega
  · rw [Int32.lt_iff_toInt_lt, e2, show (0 : Int32).toInt = 0 from rfl]; omega
theorem d1_0 : decode prog_20_method_1_code 0 = .ok (.aload_n 0, 1) := by decide +kernel
theorem d1_1 : decode prog_20_method_1_code 1 = .ok (.invokespecial 1, 3) := by decide +kernel
theorem d1_4 : decode prog_20_method_1_code 4 = .ok (.aload_n 0, 1) := by decide +kernel
theorem d1_5 : decode prog_20_method_1_code 5 = .ok (.lload_n 1, 1) := by decide +kernel
theorem d1_6 : decode prog_20_method_1_code 6 = .ok (.putfield 7, 3) := by decide +kernel
theorem d1_9 : decode prog_20_method_1_code 9 = .ok (.aload_n 0, 1) := by decide +kernel
theorem d1_10 : decode prog_20_method_1_code 10 = .ok (.lload_n 3, 1) := by decide +kernel
theorem d1_11 : decode prog_20_method_1_code 11 = .ok (.putfield 13, 3) := by decide +kernel
theorem d1_14 : decode prog_20_method_1_code 14 = .ok (.aload_n 0, 1) := by decide +kernel
theorem d1_15 : decode prog_20_method_1_code 15 = .ok (.lload 5, 2) := by decide +kernel
theorem d1_17 : decode prog_20_method_1_code 17 = .ok (.putfield 16, 3) := by decide +kernel
theorem d1_20 : decode prog_20_method_1_code 20 = .ok (.return_, 1) := by decide +kernel
theorem pn_rm1 : plainName "com/example/bitloom/bitloom/BitmapStatistics$Kind" = true := by first | (simp [plainName, overriddenIn]; done) | decide +kernel
theorem ef_rm1 (m : MethodId) (a1 : Addr) (q1 : Int64) (q2 : Int64) (q3 : Int64) : entryFrame m #[(.ref a1), (.long q1), (.long q2), (.long q3)] 7 = mkF m 0 #[.val (.ref a1), .val (.long q1), .second, .val (.long q2), .second, .val (.long q3), .second] [] := by first | (simp [entryFrame, mkF, argsToLocals, Value.category]; done) | rfl
def Q_rm1 (Z : State) (a1 : Addr) (q1 : Int64) (q2 : Int64) (q3 : Int64)  (h0 : Heap) (n0 : Nat) (v : Option Value) (h : Heap) (L : List Loc) : Prop := v = none ∧ Fr n0 L ∧ Keep h0 h [a1] ∧ Exa Z h a1 "com/example/bitloom/bitloom/BitmapStatistics$Kind" ∧ Fld Z h a1 "com/example/bitloom/bitloom/BitmapStatistics$Kind" "chunks" "J" (.long q1) ∧ Fld Z h a1 "com/example/bitloom/bitloom/BitmapStatistics$Kind" "values" "J" (.long q2) ∧ Fld Z h a1 "com/example/bitloom/bitloom/BitmapStatistics$Kind" "bytes" "J" (.long q3)
set_option maxRecDepth 65536 in
set_option maxHeartbeats 40000000 in
theorem rm1 (l : Launch) (Z : State) (a0 : Array Value) (hw : ∀ d ∈ tables_1, d.before a0 Z = true) (ws : List Jvm.Cond) (a1 : Addr) (q1 : Int64) (q2 : Int64) (q3 : Int64)  (h0 : Heap) (n0 : Nat) (Z0 : n0 ≤ h0.size) (F1 : Fld Z h0 a1 "com/example/bitloom/bitloom/BitmapStatistics$Kind" "chunks" "J" (.long (0 : Int64))) (F2 : Fld Z h0 a1 "com/example/bitloom/bitloom/BitmapStatistics$Kind" "values" "J" (.long (0 : Int64))) (F3 : Fld Z h0 a1 "com/example/bitloom/bitloom/BitmapStatistics$Kind" "bytes" "J" (.long (0 : Int64))) (E1 : Exa Z h0 a1 "com/example/bitloom/bitloom/BitmapStatistics$Kind") (ga : n0 ≤ a1) :
    MetFree l (⟨"com/example/bitloom/bitloom/BitmapStatistics$Kind", "<init>", "(JJJ)V"⟩ : MethodName) (head1 (Jvm.Cond.code (⟨"com/example/bitloom/bitloom/BitmapStatistics$Kind", "<init>", "(JJJ)V"⟩ : MethodName) prog_20_method_1_code 7 none :: ws) ({ frames := 1, cells := 0, slots := 0, locals := 12 } : Room)) (fun a U => a = #[(.ref a1), (.long q1), (.long q2), (.long q3)] ∧ Z.Warmed39 U.vm ∧ U.heap = h0) (fun _ _ _ _ _ => True) (fun _ U o U' => ∃ v L, o = .returned v ∧ Q_rm1 Z a1 q1 q2 q3  h0 n0 v U'.heap L ∧ FrameEnd U o U' L ({ frames := 1, cells := 0, slots := 0, locals := 12 } : Room).cells ({ frames := 1, cells := 0, slots := 0, locals := 12 } : Room).slots) := by
  refine MetFree.of_bodySF (plainFor_of_name pn_rm1) hisR ?_
  intro p e s m args below meth c s₁ Bd hml0 hP hK
  obtain ⟨rfl, hZ, hh⟩ := hP
  have hx := Bd.exec
  have hby := Bd.bytes
  have hml : c.maxLocals = 7 := hml0
  have hown : s.vm.findClass "com/example/bitloom/bitloom/BitmapStatistics$Kind" = some m.cls := findClass_of_methodNamed Bd.named
  have hnm := (name_of_methodNamed Bd.named Bd.method).1
  have X0 : Stand p l e ({ frames := 1, cells := 0, slots := 0, locals := 12 } : Room) s m #[(.ref a1), (.long q1), (.long q2), (.long q3)] below meth c s₁ [] 0 0 := Stand.of_body Bd
  have e0 : s₁.heap = h0 := by rw [← hh, Bd.state]; rfl
  have N0 := Fr.nil n0
  have g0 : own_Go p e below s₁ (entryFrame m #[(.ref a1), (.long q1), (.long q2), (.long q3)] 7) s₁ (mkF m 0 #[.val (.ref a1), .val (.long q1), .second, .val (.long q2), .second, .val (.long q3), .second] []) := fun t k => castTop (ef_rm1 m a1 q1 q2 q3) k
  have g1 : own_Go p e below s₁ (entryFrame m #[(.ref a1), (.long q1), (.long q2), (.long q3)] 7) s₁ (mkF m 1 #[.val (.ref a1), .val (.long q1), .second, .val (.long q2), .second, .val (.long q3), .second] [(.ref a1)]) := by
    intro target kt
    refine g0 target ?_
    refine XS.aloadN X0.here hx rfl (hb hby d1_0) rfl rfl ?_
    show Steps p.tables e below (s₁.setTop (mkF m 1 #[.val (.ref a1), .val (.long q1), .second, .val (.long q2), .second, .val (.long q3), .second] [(.ref a1)])) target
    exact kt
  obtain ⟨T2, X2, e2, st2⟩ := initO X0 hx hZ hown (hw _ (List.mem_of_getElem? (i := 6) rfl)) (hw _ (List.mem_of_getElem? (i := 7) rfl)) (hw _ (List.mem_of_getElem? (i := 8) rfl)) e0 (g := (mkF m 1 #[.val (.ref a1), .val (.long q1), .second, .val (.long q2), .second, .val (.long q3), .second] [(.ref a1)])) rfl (by rw [hml]; rfl) rfl (hb hby d1_1) (by decide) (W := 0) (by show 2 * 0 + _ ≤ _; exact Nat.le_of_eq rfl) (by decide)
  have g3 : own_Go p e below s₁ (entryFrame m #[(.ref a1), (.long q1), (.long q2), (.long q3)] 7) T2 (mkF m 4 #[.val (.ref a1), .val (.long q1), .second, .val (.long q2), .second, .val (.long q3), .second] []) := fun target kt => g1 target (st2 target kt)
  have g4 : own_Go p e below s₁ (entryFrame m #[(.ref a1), (.long q1), (.long q2), (.long q3)] 7) T2 (mkF m 6 #[.val (.ref a1), .val (.long q1), .second, .val (.long q2), .second, .val (.long q3), .second] [(.long q1), (.ref a1)]) := by
    intro target kt
    refine g3 target ?_
    refine XS.aloadN X2.here hx rfl (hb hby d1_4) rfl rfl ?_
    show Steps p.tables e below (T2.setTop (mkF m 5 #[.val (.ref a1), .val (.long q1), .second, .val (.long q2), .second, .val (.long q3), .second] [(.ref a1)])) target
    refine XT.lloadN X2.here hx rfl (hb hby d1_5) rfl ?_
    show Steps p.tables e below (T2.setTop (mkF m 6 #[.val (.ref a1), .val (.long q1), .second, .val (.long q2), .second, .val (.long q3), .second] [(.long q1), (.ref a1)])) target
    exact kt
  obtain ⟨T5, h5, X5, e5, W5, st5⟩ := putF X2 hx hZ hown (host := "") (Or.inl (hw _ (List.mem_of_getElem? (i := 9) rfl))) Via.refl e2 F1 E1 (Or.inr ⟨(hw _ (List.mem_of_getElem? (i := 10) rfl)), rfl, hnm⟩) (hw _ (List.mem_of_getElem? (i := 1) rfl)) (ty := .long) (by decide) rfl rfl (g := (mkF m 6 #[.val (.ref a1), .val (.long q1), .second, .val (.long q2), .second, .val (.long q3), .second] [(.long q1), (.ref a1)])) rfl rfl (hb hby d1_6)
  have g6 : own_Go p e below s₁ (entryFrame m #[(.ref a1), (.long q1), (.long q2), (.long q3)] 7) T5 (mkF m 9 #[.val (.ref a1), .val (.long q1), .second, .val (.long q2), .second, .val (.long q3), .second] []) := fun target kt => g4 target (st5 target kt)
  have N5 := Fr.snoc X5 N0 ga
  have G1 := F1.same W5
  have G2 := (F2.other W5 (Or.inr (slot_ne (a0 := a0) (Or.inr (hw _ (List.mem_of_getElem? (i := 12) rfl))) (Or.inr (hw _ (List.mem_of_getElem? (i := 10) rfl))) (by decide) (t := .long) (t' := .long) (by decide) (by decide))))
  have G3 := (F3.other W5 (Or.inr (slot_ne (a0 := a0) (Or.inr (hw _ (List.mem_of_getElem? (i := 14) rfl))) (Or.inr (hw _ (List.mem_of_getElem? (i := 10) rfl))) (by decide) (t := .long) (t' := .long) (by decide) (by decide))))
  have E2 := E1.wr W5
  have g7 : own_Go p e below s₁ (entryFrame m #[(.ref a1), (.long q1), (.long q2), (.long q3)] 7) T5 (mkF m 11 #[.val (.ref a1), .val (.long q1), .second, .val (.long q2), .second, .val (.long q3), .second] [(.long q2), (.ref a1)]) := by
    intro target kt
    refine g6 target ?_
    refine XS.aloadN X5.here hx rfl (hb hby d1_9) rfl rfl ?_
    show Steps p.tables e below (T5.setTop (mkF m 10 #[.val (.ref a1), .val (.long q1), .second, .val (.long q2), .second, .val (.long q3), .second] [(.ref a1)])) target
    refine XT.lloadN X5.here hx rfl (hb hby d1_10) rfl ?_
    show Steps p.tables e below (T5.setTop (mkF m 11 #[.val (.ref a1), .val (.long q1), .second, .val (.long q2), .second, .val (.long q3), .second] [(.long q2), (.ref a1)])) target
    exact kt
  obtain ⟨T8, h8, X8, e8, W8, st8⟩ := putF X5 hx hZ hown (host := "") (Or.inl (hw _ (List.mem_of_getElem? (i := 11) rfl))) Via.refl e5 G2 E2 (Or.inr ⟨(hw _ (List.mem_of_getElem? (i := 12) rfl)), rfl, hnm⟩) (hw _ (List.mem_of_getElem? (i := 1) rfl)) (ty := .long) (by decide) rfl rfl (g := (mkF m 11 #[.val (.ref a1), .val (.long q1), .second, .val (.long q2), .second, .val (.long q3), .second] [(.long q2), (.ref a1)])) rfl rfl (hb hby d1_11)
  have g9 : own_Go p e below s₁ (entryFrame m #[(.ref a1), (.long q1), (.long q2), (.long q3)] 7) T8 (mkF m 14 #[.val (.ref a1), .val (.long q1), .second, .val (.long q2), .second, .val (.long q3), .second] []) := fun target kt => g7 target (st8 target kt)
  have N8 := Fr.snoc X8 N5 ga
  have I1 := (G1.other W8 (Or.inr (slot_ne (a0 := a0) (Or.inr (hw _ (List.mem_of_getElem? (i := 10) rfl))) (Or.inr (hw _ (List.mem_of_getElem? (i := 12) rfl))) (by decide) (t := .long) (t' := .long) (by decide) (by decide))))
  have I2 := G2.same W8
  have I3 := (G3.other W8 (Or.inr (slot_ne (a0 := a0) (Or.inr (hw _ (List.mem_of_getElem? (i := 14) rfl))) (Or.inr (hw _ (List.mem_of_getElem? (i := 12) rfl))) (by decide) (t := .long) (t' := .long) (by decide) (by decide))))
  have E3 := E2.wr W8
  have g10 : own_Go p e below s₁ (entryFrame m #[(.ref a1), (.long q1), (.long q2), (.long q3)] 7) T8 (mkF m 17 #[.val (.ref a1), .val (.long q1), .second, .val (.long q2), .second, .val (.long q3), .second] [(.long q3), (.ref a1)]) := by
    intro target kt
    refine g9 target ?_
    refine XS.aloadN X8.here hx rfl (hb hby d1_14) rfl rfl ?_
    show Steps p.tables e below (T8.setTop (mkF m 15 #[.val (.ref a1), .val (.long q1), .second, .val (.long q2), .second, .val (.long q3), .second] [(.ref a1)])) target
    refine XT.lload X8.here hx rfl (hb hby d1_15) rfl ?_
    show Steps p.tables e below (T8.setTop (mkF m 17 #[.val (.ref a1), .val (.long q1), .second, .val (.long q2), .second, .val (.long q3), .second] [(.long q3), (.ref a1)])) target
    exact kt
  obtain ⟨T11, h11, X11, e11, W11, st11⟩ := putF X8 hx hZ hown (host := "") (Or.inl (hw _ (List.mem_of_getElem? (i := 13) rfl))) Via.refl e8 I3 E3 (Or.inr ⟨(hw _ (List.mem_of_getElem? (i := 14) rfl)), rfl, hnm⟩) (hw _ (List.mem_of_getElem? (i := 1) rfl)) (ty := .long) (by decide) rfl rfl (g := (mkF m 17 #[.val (.ref a1), .val (.long q1), .second, .val (.long q2), .second, .val (.long q3), .second] [(.long q3), (.ref a1)])) rfl rfl (hb hby d1_17)
  have g12 : own_Go p e below s₁ (entryFrame m #[(.ref a1), (.long q1), (.long q2), (.long q3)] 7) T11 (mkF m 20 #[.val (.ref a1), .val (.long q1), .second, .val (.long q2), .second, .val (.long q3), .second] []) := fun target kt => g10 target (st11 target kt)
  have N11 := Fr.snoc X11 N8 ga
  have J1 := (I1.other W11 (Or.inr (slot_ne (a0 := a0) (Or.inr (hw _ (List.mem_of_getElem? (i := 10) rfl))) (Or.inr (hw _ (List.mem_of_getElem? (i := 14) rfl))) (by decide) (t := .long) (t' := .long) (by decide) (by decide))))
  have J2 := (I2.other W11 (Or.inr (slot_ne (a0 := a0) (Or.inr (hw _ (List.mem_of_getElem? (i := 12) rfl))) (Or.inr (hw _ (List.mem_of_getElem? (i := 14) rfl))) (by decide) (t := .long) (t' := .long) (by decide) (by decide))))
  have J3 := I3.same W11
  obtain ⟨fs, hr, hrun, hended, hW, hsame⟩ := X11.leave (v := none) (fun _ => rfl)
  refine ⟨_, _, g12 _ ?_, hrun, hended, _, _, rfl, ?_, ⟨_, rfl⟩, hW, hsame.mono (by decide) (by decide)⟩
  · exact X11.returnOut hx Bd.returns (hb hby d1_20) hr
  · show Q_rm1 Z a1 q1 q2 q3  h0 n0 _ T11.heap _
    rw [e11]
    exact ⟨rfl, N11, ((((Keep.refl _ _).wr W5 (Or.inl (List.mem_of_getElem? (i := 0) rfl))).wr W8 (Or.inl (List.mem_of_getElem? (i := 0) rfl))).wr W11 (Or.inl (List.mem_of_getElem? (i := 0) rfl))), E3.wr W11, J1, J2, J3⟩
theorem d3_0 : decode prog_20_method_6_code 0 = .ok (.aload_n 1, 1) := by decide +kernel
theorem d3_1 : decode prog_20_method_6_code 1 = .ok (.instanceof 8, 3) := by decide +kernel
theorem d3_4 : decode prog_20_method_6_code 4 = .ok (.ifCond .eq 48, 3) := by decide +kernel
theorem d3_7 : decode prog_20_method_6_code 7 = .ok (.aload_n 1, 1) := by decide +kernel
theorem d3_8 : decode prog_20_method_6_code 8 = .ok (.checkcast 8, 3) := by decide +kernel
theorem d3_11 : decode prog_20_method_6_code 11 = .ok (.astore_n 2, 1) := by decide +kernel
theorem d3_12 : decode prog_20_method_6_code 12 = .ok (.aload_n 0, 1) := by decide +kernel
theorem d3_13 : decode prog_20_method_6_code 13 = .ok (.getfield 7, 3) := by decide +kernel
theorem d3_16 : decode prog_20_method_6_code 16 = .ok (.aload_n 2, 1) := by decide +kernel
theorem d3_17 : decode prog_20_method_6_code 17 = .ok (.getfield 7, 3) := by decide +kernel
theorem d3_20 : decode prog_20_method_6_code 20 = .ok (.lcmp, 1) := by decide +kernel
theorem d3_21 : decode prog_20_method_6_code 21 = .ok (.ifCond .ne 31, 3) := by decide +kernel
theorem d3_24 : decode prog_20_method_6_code 24 = .ok (.aload_n 0, 1) := by decide +kernel
theorem d3_25 : decode prog_20_method_6_code 25 = .ok (.getfield 13, 3) := by decide +kernel
theorem d3_28 : decode prog_20_method_6_code 28 = .ok (.aload_n 2, 1) := by decide +kernel
theorem d3_29 : decode prog_20_method_6_code 29 = .ok (.getfield 13, 3) := by decide +kernel
theorem d3_32 : decode prog_20_method_6_code 32 = .ok (.lcmp, 1) := by decide +kernel
theorem d3_33 : decode prog_20_method_6_code 33 = .ok (.ifCond .ne 19, 3) := by decide +kernel
theorem d3_36 : decode prog_20_method_6_code 36 = .ok (.aload_n 0, 1) := by decide +kernel
theorem d3_37 : decode prog_20_method_6_code 37 = .ok (.getfield 16, 3) := by decide +kernel
theorem d3_40 : decode prog_20_method_6_code 40 = .ok (.aload_n 2, 1) := by decide +kernel
theorem d3_41 : decode prog_20_method_6_code 41 = .ok (.getfield 16, 3) := by decide +kernel
theorem d3_44 : decode prog_20_method_6_code 44 = .ok (.lcmp, 1) := by decide +kernel
theorem d3_45 : decode prog_20_method_6_code 45 = .ok (.ifCond .ne 7, 3) := by decide +kernel
theorem d3_48 : decode prog_20_method_6_code 48 = .ok (.iconst 1, 1) := by decide +kernel
theorem d3_49 : decode prog_20_method_6_code 49 = .ok (.goto 4, 3) := by decide +kernel
theorem d3_52 : decode prog_20_method_6_code 52 = .ok (.iconst 0, 1) := by decide +kernel
theorem d3_53 : decode prog_20_method_6_code 53 = .ok (.ireturn, 1) := by decide +kernel
theorem pn_rmNull : plainName "com/example/bitloom/bitloom/BitmapStatistics$Kind" = true := by first | (simp [plainName, overriddenIn]; done) | decide +kernel
theorem ef_rmNull (m : MethodId) (a1 : Addr) : entryFrame m #[(.ref a1), .null] 3 = mkF m 0 #[.val (.ref a1), .val .null, .unset] [] := by first | (simp [entryFrame, mkF, argsToLocals, Value.category]; done) | rfl
def Q_rmNull (Z : State) (a1 : Addr)  (h0 : Heap) (n0 : Nat) (v : Option Value) (h : Heap) (L : List Loc) : Prop := v = some (.int (0 : Int32)) ∧ Fr n0 L ∧ h = h0
set_option maxRecDepth 65536 in
set_option maxHeartbeats 40000000 in
theorem rmNull (l : Launch) (Z : State) (a0 : Array Value) (hw : ∀ d ∈ tables_1, d.before a0 Z = true) (ws : List Jvm.Cond) (a1 : Addr)  (h0 : Heap) (n0 : Nat) (Z0 : n0 ≤ h0.size)  :
    MetFree l (⟨"com/example/bitloom/bitloom/BitmapStatistics$Kind", "equals", "(Ljava/lang/Object;)Z"⟩ : MethodName) (head1 (Jvm.Cond.code (⟨"com/example/bitloom/bitloom/BitmapStatistics$Kind", "equals", "(Ljava/lang/Object;)Z"⟩ : MethodName) prog_20_method_6_code 3 (some .boolean) :: ws) ({ frames := 0, cells := 0, slots := 0, locals := 0 } : Room)) (fun a U => a = #[(.ref a1), .null] ∧ Z.Warmed39 U.vm ∧ U.heap = h0) (fun _ _ _ _ _ => True) (fun _ U o U' => ∃ v L, o = .returned v ∧ Q_rmNull Z a1  h0 n0 v U'.heap L ∧ FrameEnd U o U' L ({ frames := 0, cells := 0, slots := 0, locals := 0 } : Room).cells ({ frames := 0, cells := 0, slots := 0, locals := 0 } : Room).slots) := by
  refine MetFree.of_bodySF (plainFor_of_name pn_rmNull) hisR ?_
  intro p e s m args below meth c s₁ Bd hml0 hP hK
  obtain ⟨rfl, hZ, hh⟩ := hP
  have hx := Bd.exec
  have hby := Bd.bytes
  have hml : c.maxLocals = 3 := hml0
  have hown : s.vm.findClass "com/example/bitloom/bitloom/BitmapStatistics$Kind" = some m.cls := findClass_of_methodNamed Bd.named
  have hnm := (name_of_methodNamed Bd.named Bd.method).1
  have X0 : Stand p l e ({ frames := 0, cells := 0, slots := 0, locals := 0 } : Room) s m #[(.ref a1), .null] below meth c s₁ [] 0 0 := Stand.of_body Bd
  have e0 : s₁.heap = h0 := by rw [← hh, Bd.state]; rfl
  have N0 := Fr.nil n0
  have g0 : own_Go p e below s₁ (entryFrame m #[(.ref a1), .null] 3) s₁ (mkF m 0 #[.val (.ref a1), .val .null, .unset] []) := fun t k => castTop (ef_rmNull m a1) k
  have g13 : own_Go p e below s₁ (entryFrame m #[(.ref a1), .null] 3) s₁ (mkF m 53 #[.val (.ref a1), .val .null, .unset] [(.int (0 : Int32))]) := by
    intro target kt
    refine g0 target ?_
    refine XS.aloadN X0.here hx rfl (hb hby d3_0) rfl rfl ?_
    show Steps p.tables e below (s₁.setTop (mkF m 1 #[.val (.ref a1), .val .null, .unset] [.null])) target
    refine X0.instanceofNull hx (g := (mkF m 1 #[.val (.ref a1), .val .null, .unset] [.null])) rfl rfl (hb hby d3_1) _ ?_
    show Steps p.tables e below (s₁.setTop (mkF m 4 #[.val (.ref a1), .val .null, .unset] [(.int (0 : Int32))])) target
    refine XS.ifYes X0.here hx rfl (pc0 := 4) (pc' := 52) rfl (hb hby d3_4) rfl (XT.i0_eq_t rfl) (by decide) (by decide) ?_
    show Steps p.tables e below (s₁.setTop (mkF m 52 #[.val (.ref a1), .val .null, .unset] [])) target
    refine XT.iconstV X0.here hx rfl (0 : Int32) (hb hby d3_52) rfl ?_
    show Steps p.tables e below (s₁.setTop (mkF m 53 #[.val (.ref a1), .val .null, .unset] [(.int (0 : Int32))])) target
    exact kt
  obtain ⟨fs, hr, hrun, hended, hW, hsame⟩ := X0.leave (v := some (.int (nar .boolean (0 : Int32)))) (fun h => by rw [Bd.returns] at h; cases h)
  refine ⟨_, _, g13 _ ?_, hrun, hended, _, _, rfl, ?_, ⟨_, rfl⟩, hW, hsame.mono (by decide) (by decide)⟩
  · exact retN X0 hx (t := .boolean) Bd.returns (by simp) (hb hby d3_53) hr
  · show Q_rmNull Z a1  h0 n0 _ s₁.heap _
    rw [e0]
    exact ⟨rfl, N0, rfl⟩
theorem pn_rmLong : plainName "com/example/bitloom/bitloom/BitmapStatistics$Kind" = true := by first | (simp [plainName, overriddenIn]; done) | decide +kernel
theorem ef_rmLong (m : MethodId) (a1 : Addr) (a2 : Addr) : entryFrame m #[(.ref a1), (.ref a2)] 3 = mkF m 0 #[.val (.ref a1), .val (.ref a2), .unset] [] := by first | (simp [entryFrame, mkF, argsToLocals, Value.category]; done) | rfl
def Q_rmLong (Z : State) (a1 : Addr) (a2 : Addr)  (h0 : Heap) (n0 : Nat) (v : Option Value) (h : Heap) (L : List Loc) : Prop := v = some (.int (0 : Int32)) ∧ Fr n0 L ∧ h = h0
set_option maxRecDepth 65536 in
set_option maxHeartbeats 40000000 in
theorem rmLong (l : Launch) (Z : State) (a0 : Array Value) (hw : ∀ d ∈ tables_1, d.before a0 Z = true) (ws : List Jvm.Cond) (a1 : Addr) (a2 : Addr)  (h0 : Heap) (n0 : Nat) (Z0 : n0 ≤ h0.size) (E2 : Exa Z h0 a2 "java/lang/Long") :
    MetFree l (⟨"com/example/bitloom/bitloom/BitmapStatistics$Kind", "equals", "(Ljava/lang/Object;)Z"⟩ : MethodName) (head1 (Jvm.Cond.code (⟨"com/example/bitloom/bitloom/BitmapStatistics$Kind", "equals", "(Ljava/lang/Object;)Z"⟩ : MethodName) prog_20_method_6_code 3 (some .boolean) :: ws) ({ frames := 0, cells := 0, slots := 0, locals := 0 } : Room)) (fun a U => a = #[(.ref a1), (.ref a2)] ∧ Z.Warmed39 U.vm ∧ U.heap = h0) (fun _ _ _ _ _ => True) (fun _ U o U' => ∃ v L, o = .returned v ∧ Q_rmLong Z a1 a2  h0 n0 v U'.heap L ∧ FrameEnd U o U' L ({ frames := 0, cells := 0, slots := 0, locals := 0 } : Room).cells ({ frames := 0, cells := 0, slots := 0, locals := 0 } : Room).slots) := by
  refine MetFree.of_bodySF (plainFor_of_name pn_rmLong) hisR ?_
  intro p e s m args below meth c s₁ Bd hml0 hP hK
  obtain ⟨rfl, hZ, hh⟩ := hP
  have hx := Bd.exec
  have hby := Bd.bytes
  have hml : c.maxLocals = 3 := hml0
  have hown : s.vm.findClass "com/example/bitloom/bitloom/BitmapStatistics$Kind" = some m.cls := findClass_of_methodNamed Bd.named
  have hnm := (name_of_methodNamed Bd.named Bd.method).1
  have X0 : Stand p l e ({ frames := 0, cells := 0, slots := 0, locals := 0 } : Room) s m #[(.ref a1), (.ref a2)] below meth c s₁ [] 0 0 := Stand.of_body Bd
  have e0 : s₁.heap = h0 := by rw [← hh, Bd.state]; rfl
  have N0 := Fr.nil n0
  have g0 : own_Go p e below s₁ (entryFrame m #[(.ref a1), (.ref a2)] 3) s₁ (mkF m 0 #[.val (.ref a1), .val (.ref a2), .unset] []) := fun t k => castTop (ef_rmLong m a1 a2) k
  have g14 : own_Go p e below s₁ (entryFrame m #[(.ref a1), (.ref a2)] 3) s₁ (mkF m 1 #[.val (.ref a1), .val (.ref a2), .unset] [(.ref a2)]) := by
    intro target kt
    refine g0 target ?_
    refine XS.aloadN X0.here hx rfl (hb hby d3_0) rfl rfl ?_
    show Steps p.tables e below (s₁.setTop (mkF m 1 #[.val (.ref a1), .val (.ref a2), .unset] [(.ref a2)])) target
    exact kt
  obtain ⟨T1, X1, e1, st1⟩ := instNo X0 hx hZ hown (hw _ (List.mem_of_getElem? (i := 20) rfl)) e0 E2 (own_no (hw _ (List.mem_of_getElem? (i := 43) rfl)) (hw _ (List.mem_of_getElem? (i := 44) rfl)) (hw _ (List.mem_of_getElem? (i := 45) rfl)) (hw _ (List.mem_of_getElem? (i := 1) rfl)) (by decide) (by decide) (by decide)) (g := (mkF m 1 #[.val (.ref a1), .val (.ref a2), .unset] [(.ref a2)])) rfl rfl (hb hby d3_1)
  have g15 : own_Go p e below s₁ (entryFrame m #[(.ref a1), (.ref a2)] 3) T1 (mkF m 4 #[.val (.ref a1), .val (.ref a2), .unset] [(.int (0 : Int32))]) := fun target kt => g14 target (st1 target kt)
  have g16 : own_Go p e below s₁ (entryFrame m #[(.ref a1), (.ref a2)] 3) T1 (mkF m 53 #[.val (.ref a1), .val (.ref a2), .unset] [(.int (0 : Int32))]) := by
    intro target kt
    refine g15 target ?_
    refine XS.ifYes X1.here hx rfl (pc0 := 4) (pc' := 52) rfl (hb hby d3_4) rfl (XT.i0_eq_t rfl) (by decide) (by decide) ?_
    show Steps p.tables e below (T1.setTop (mkF m 52 #[.val (.ref a1), .val (.ref a2), .unset] [])) target
    refine XT.iconstV X1.here hx rfl (0 : Int32) (hb hby d3_52) rfl ?_
    show Steps p.tables e below (T1.setTop (mkF m 53 #[.val (.ref a1), .val (.ref a2), .unset] [(.int (0 : Int32))])) target
    exact kt
  obtain ⟨fs, hr, hrun, hended, hW, hsame⟩ := X1.leave (v := some (.int (nar .boolean (0 : Int32)))) (fun h => by rw [Bd.returns] at h; cases h)
  refine ⟨_, _, g16 _ ?_, hrun, hended, _, _, rfl, ?_, ⟨_, rfl⟩, hW, hsame.mono (by decide) (by decide)⟩
  · exact retN X1 hx (t := .boolean) Bd.returns (by simp) (hb hby d3_53) hr
  · show Q_rmLong Z a1 a2  h0 n0 _ T1.heap _
    rw [e1]
    exact ⟨rfl, N0, rfl⟩
theorem pn_rmKind : plainName "com/example/bitloom/bitloom/BitmapStatistics$Kind" = true := by first | (simp [plainName, overriddenIn]; done) | decide +kernel
theorem ef_rmKind (m : MethodId) (a1 : Addr) (a2 : Addr) : entryFrame m #[(.ref a1), (.ref a2)] 3 = mkF m 0 #[.val (.ref a1), .val (.ref a2), .unset] [] := by first | (simp [entryFrame, mkF, argsToLocals, Value.category]; done) | rfl
def Q_rmKind (Z : State) (a1 : Addr) (a2 : Addr) (x1 x2 x3 y1 y2 y3 : Int64) (h0 : Heap) (n0 : Nat) (v : Option Value) (h : Heap) (L : List Loc) : Prop := v = some (.int (own_keq x1 y1 x2 y2 x3 y3)) ∧ Fr n0 L ∧ h = h0
set_option maxRecDepth 65536 in
set_option maxHeartbeats 40000000 in
theorem rmKind (l : Launch) (Z : State) (a0 : Array Value) (hw : ∀ d ∈ tables_1, d.before a0 Z = true) (ws : List Jvm.Cond) (a1 : Addr) (a2 : Addr) (x1 x2 x3 y1 y2 y3 : Int64) (h0 : Heap) (n0 : Nat) (Z0 : n0 ≤ h0.size) (E2 : Exa Z h0 a2 "com/example/bitloom/bitloom/BitmapStatistics$Kind") (F1 : Fld Z h0 a1 "com/example/bitloom/bitloom/BitmapStatistics$Kind" "chunks" "J" (.long x1)) (F2 : Fld Z h0 a1 "com/example/bitloom/bitloom/BitmapStatistics$Kind" "values" "J" (.long x2)) (F3 : Fld Z h0 a1 "com/example/bitloom/bitloom/BitmapStatistics$Kind" "bytes" "J" (.long x3)) (G1 : Fld Z h0 a2 "com/example/bitloom/bitloom/BitmapStatistics$Kind" "chunks" "J" (.long y1)) (G2 : Fld Z h0 a2 "com/example/bitloom/bitloom/BitmapStatistics$Kind" "values" "J" (.long y2)) (G3 : Fld Z h0 a2 "com/example/bitloom/bitloom/BitmapStatistics$Kind" "bytes" "J" (.long y3)) :
    MetFree l (⟨"com/example/bitloom/bitloom/BitmapStatistics$Kind", "equals", "(Ljava/lang/Object;)Z"⟩ : MethodName) (head1 (Jvm.Cond.code (⟨"com/example/bitloom/bitloom/BitmapStatistics$Kind", "equals", "(Ljava/lang/Object;)Z"⟩ : MethodName) prog_20_method_6_code 3 (some .boolean) :: ws) ({ frames := 0, cells := 0, slots := 0, locals := 0 } : Room)) (fun a U => a = #[(.ref a1), (.ref a2)] ∧ Z.Warmed39 U.vm ∧ U.heap = h0) (fun _ _ _ _ _ => True) (fun _ U o U' => ∃ v L, o = .returned v ∧ Q_rmKind Z a1 a2 x1 x2 x3 y1 y2 y3 h0 n0 v U'.heap L ∧ FrameEnd U o U' L ({ frames := 0, cells := 0, slots := 0, locals := 0 } : Room).cells ({ frames := 0, cells := 0, slots := 0, locals := 0 } : Room).slots) := by
  refine MetFree.of_bodySF (plainFor_of_name pn_rmKind) hisR ?_
  intro p e s m args below meth c s₁ Bd hml0 hP hK
  obtain ⟨rfl, hZ, hh⟩ := hP
  have hx := Bd.exec
  have hby := Bd.bytes
  have hml : c.maxLocals = 3 := hml0
  have hown : s.vm.findClass "com/example/bitloom/bitloom/BitmapStatistics$Kind" = some m.cls := findClass_of_methodNamed Bd.named
  have hnm := (name_of_methodNamed Bd.named Bd.method).1
  have X0 : Stand p l e ({ frames := 0, cells := 0, slots := 0, locals := 0 } : Room) s m #[(.ref a1), (.ref a2)] below meth c s₁ [] 0 0 := Stand.of_body Bd
  have e0 : s₁.heap = h0 := by rw [← hh, Bd.state]; rfl
  have N0 := Fr.nil n0
  have g0 : own_Go p e below s₁ (entryFrame m #[(.ref a1), (.ref a2)] 3) s₁ (mkF m 0 #[.val (.ref a1), .val (.ref a2), .unset] []) := fun t k => castTop (ef_rmKind m a1 a2) k
  have g17 : own_Go p e below s₁ (entryFrame m #[(.ref a1), (.ref a2)] 3) s₁ (mkF m 1 #[.val (.ref a1), .val (.ref a2), .unset] [(.ref a2)]) := by
    intro target kt
    refine g0 target ?_
    refine XS.aloadN X0.here hx rfl (hb hby d3_0) rfl rfl ?_
    show Steps p.tables e below (s₁.setTop (mkF m 1 #[.val (.ref a1), .val (.ref a2), .unset] [(.ref a2)])) target
    exact kt
  obtain ⟨T1, X1, e1, st1⟩ := instY X0 hx hZ hown (hw _ (List.mem_of_getElem? (i := 20) rfl)) e0 (Ins.self E2) (g := (mkF m 1 #[.val (.ref a1), .val (.ref a2), .unset] [(.ref a2)])) rfl rfl (hb hby d3_1)
  have g18 : own_Go p e below s₁ (entryFrame m #[(.ref a1), (.ref a2)] 3) T1 (mkF m 4 #[.val (.ref a1), .val (.ref a2), .unset] [(.int (1 : Int32))]) := fun target kt => g17 target (st1 target kt)
  have g19 : own_Go p e below s₁ (entryFrame m #[(.ref a1), (.ref a2)] 3) T1 (mkF m 8 #[.val (.ref a1), .val (.ref a2), .unset] [(.ref a2)]) := by
    intro target kt
    refine g18 target ?_
    refine XS.ifNo X1.here hx rfl (hb hby d3_4) rfl (XT.i0_eq_f (by decide)) ?_
    show Steps p.tables e below (T1.setTop (mkF m 7 #[.val (.ref a1), .val (.ref a2), .unset] [])) target
    refine XS.aloadN X1.here hx rfl (hb hby d3_7) rfl rfl ?_
    show Steps p.tables e below (T1.setTop (mkF m 8 #[.val (.ref a1), .val (.ref a2), .unset] [(.ref a2)])) target
    exact kt
  obtain ⟨T2, X2, e2, st2⟩ := castY X1 hx hZ hown (hw _ (List.mem_of_getElem? (i := 20) rfl)) e1 (Ins.self E2) (g := (mkF m 8 #[.val (.ref a1), .val (.ref a2), .unset] [(.ref a2)])) rfl rfl (hb hby d3_8)
  have g20 : own_Go p e below s₁ (entryFrame m #[(.ref a1), (.ref a2)] 3) T2 (mkF m 11 #[.val (.ref a1), .val (.ref a2), .unset] [(.ref a2)]) := fun target kt => g19 target (st2 target kt)
  obtain ⟨T49, L49, rr, X49, e49, N49, hm49, g49⟩ : ∃ (T49 : State) (L49 : List Loc) (rr : Int32), Stand p l e ({ frames := 0, cells := 0, slots := 0, locals := 0 } : Room) s m #[(.ref a1), (.ref a2)] below meth c T49 L49 0 0 ∧ T49.heap = h0 ∧ Fr n0 L49 ∧ (rr = (if x1 = y1 then (if x2 = y2 then (if x3 = y3 then (1 : Int32) else (0 : Int32)) else (0 : Int32)) else (0 : Int32))) ∧ own_Go p e below s₁ (entryFrame m #[(.ref a1), (.ref a2)] 3) T49 (mkF m 53 #[.val (.ref a1), .val (.ref a2), .val (.ref a2)] [(.int rr)]) := by
    have g21 : own_Go p e below s₁ (entryFrame m #[(.ref a1), (.ref a2)] 3) T2 (mkF m 13 #[.val (.ref a1), .val (.ref a2), .val (.ref a2)] [(.ref a1)]) := by
      intro target kt
      refine g20 target ?_
      refine XS.astoreN X2.here hx rfl (hb hby d3_11) rfl rfl (l' := #[.val (.ref a1), .val (.ref a2), .val (.ref a2)]) rfl ?_
      show Steps p.tables e below (T2.setTop (mkF m 12 #[.val (.ref a1), .val (.ref a2), .val (.ref a2)] [])) target
      refine XS.aloadN X2.here hx rfl (hb hby d3_12) rfl rfl ?_
      show Steps p.tables e below (T2.setTop (mkF m 13 #[.val (.ref a1), .val (.ref a2), .val (.ref a2)] [(.ref a1)])) target
      exact kt
    obtain ⟨T22, X22, e22, st22⟩ := getF X2 hx hZ hown (host := "") (Or.inl (hw _ (List.mem_of_getElem? (i := 9) rfl))) Via.refl e2 F1 (g := (mkF m 13 #[.val (.ref a1), .val (.ref a2), .val (.ref a2)] [(.ref a1)])) rfl rfl (hb hby d3_13)
    have g23 : own_Go p e below s₁ (entryFrame m #[(.ref a1), (.ref a2)] 3) T22 (mkF m 16 #[.val (.ref a1), .val (.ref a2), .val (.ref a2)] [(.long x1)]) := fun target kt => g21 target (st22 target kt)
    have g24 : own_Go p e below s₁ (entryFrame m #[(.ref a1), (.ref a2)] 3) T22 (mkF m 17 #[.val (.ref a1), .val (.ref a2), .val (.ref a2)] [(.ref a2), (.long x1)]) := by
      intro target kt
      refine g23 target ?_
      refine XS.aloadN X22.here hx rfl (hb hby d3_16) rfl rfl ?_
      show Steps p.tables e below (T22.setTop (mkF m 17 #[.val (.ref a1), .val (.ref a2), .val (.ref a2)] [(.ref a2), (.long x1)])) target
      exact kt
    obtain ⟨T25, X25, e25, st25⟩ := getF X22 hx hZ hown (host := "") (Or.inl (hw _ (List.mem_of_getElem? (i := 9) rfl))) Via.refl e22 G1 (g := (mkF m 17 #[.val (.ref a1), .val (.ref a2), .val (.ref a2)] [(.ref a2), (.long x1)])) rfl rfl (hb hby d3_17)
    have g26 : own_Go p e below s₁ (entryFrame m #[(.ref a1), (.ref a2)] 3) T25 (mkF m 20 #[.val (.ref a1), .val (.ref a2), .val (.ref a2)] [(.long y1), (.long x1)]) := fun target kt => g24 target (st25 target kt)
    have g27 : own_Go p e below s₁ (entryFrame m #[(.ref a1), (.ref a2)] 3) T25 (mkF m 21 #[.val (.ref a1), .val (.ref a2), .val (.ref a2)] [(.int (XT.cmpL x1 y1))]) := by
      intro target kt
      refine g26 target ?_
      refine XT.lcmp X25.here hx rfl (hb hby d3_20) rfl ?_
      show Steps p.tables e below (T25.setTop (mkF m 21 #[.val (.ref a1), .val (.ref a2), .val (.ref a2)] [(.int (XT.cmpL x1 y1))])) target
      exact kt
    by_cases hc28 : x1 = y1
    · have g29 : own_Go p e below s₁ (entryFrame m #[(.ref a1), (.ref a2)] 3) T25 (mkF m 25 #[.val (.ref a1), .val (.ref a2), .val (.ref a2)] [(.ref a1)]) := by
        intro target kt
        refine g27 target ?_
        refine XS.ifNo X25.here hx rfl (hb hby d3_21) rfl (XT.ll_ne_f hc28) ?_
        show Steps p.tables e below (T25.setTop (mkF m 24 #[.val (.ref a1), .val (.ref a2), .val (.ref a2)] [])) target
        refine XS.aloadN X25.here hx rfl (hb hby d3_24) rfl rfl ?_
        show Steps p.tables e below (T25.setTop (mkF m 25 #[.val (.ref a1), .val (.ref a2), .val (.ref a2)] [(.ref a1)])) target
        exact kt
      obtain ⟨T30, X30, e30, st30⟩ := getF X25 hx hZ hown (host := "") (Or.inl (hw _ (List.mem_of_getElem? (i := 11) rfl))) Via.refl e25 F2 (g := (mkF m 25 #[.val (.ref a1), .val (.ref a2), .val (.ref a2)] [(.ref a1)])) rfl rfl (hb hby d3_25)
      have g31 : own_Go p e below s₁ (entryFrame m #[(.ref a1), (.ref a2)] 3) T30 (mkF m 28 #[.val (.ref a1), .val (.ref a2), .val (.ref a2)] [(.long x2)]) := fun target kt => g29 target (st30 target kt)
      have g32 : own_Go p e below s₁ (entryFrame m #[(.ref a1), (.ref a2)] 3) T30 (mkF m 29 #[.val (.ref a1), .val (.ref a2), .val (.ref a2)] [(.ref a2), (.long x2)]) := by
        intro target kt
        refine g31 target ?_
        refine XS.aloadN X30.here hx rfl (hb hby d3_28) rfl rfl ?_
        show Steps p.tables e below (T30.setTop (mkF m 29 #[.val (.ref a1), .val (.ref a2), .val (.ref a2)] [(.ref a2), (.long x2)])) target
        exact kt
      obtain ⟨T33, X33, e33, st33⟩ := getF X30 hx hZ hown (host := "") (Or.inl (hw _ (List.mem_of_getElem? (i := 11) rfl))) Via.refl e30 G2 (g := (mkF m 29 #[.val (.ref a1), .val (.ref a2), .val (.ref a2)] [(.ref a2), (.long x2)])) rfl rfl (hb hby d3_29)
      have g34 : own_Go p e below s₁ (entryFrame m #[(.ref a1), (.ref a2)] 3) T33 (mkF m 32 #[.val (.ref a1), .val (.ref a2), .val (.ref a2)] [(.long y2), (.long x2)]) := fun target kt => g32 target (st33 target kt)
      have g35 : own_Go p e below s₁ (entryFrame m #[(.ref a1), (.ref a2)] 3) T33 (mkF m 33 #[.val (.ref a1), .val (.ref a2), .val (.ref a2)] [(.int (XT.cmpL x2 y2))]) := by
        intro target kt
        refine g34 target ?_
        refine XT.lcmp X33.here hx rfl (hb hby d3_32) rfl ?_
        show Steps p.tables e below (T33.setTop (mkF m 33 #[.val (.ref a1), .val (.ref a2), .val (.ref a2)] [(.int (XT.cmpL x2 y2))])) target
        exact kt
      by_cases hc36 : x2 = y2
      · have g37 : own_Go p e below s₁ (entryFrame m #[(.ref a1), (.ref a2)] 3) T33 (mkF m 37 #[.val (.ref a1), .val (.ref a2), .val (.ref a2)] [(.ref a1)]) := by
          intro target kt
          refine g35 target ?_
          refine XS.ifNo X33.here hx rfl (hb hby d3_33) rfl (XT.ll_ne_f hc36) ?_
          show Steps p.tables e below (T33.setTop (mkF m 36 #[.val (.ref a1), .val (.ref a2), .val (.ref a2)] [])) target
          refine XS.aloadN X33.here hx rfl (hb hby d3_36) rfl rfl ?_
          show Steps p.tables e below (T33.setTop (mkF m 37 #[.val (.ref a1), .val (.ref a2), .val (.ref a2)] [(.ref a1)])) target
          exact kt
        obtain ⟨T38, X38, e38, st38⟩ := getF X33 hx hZ hown (host := "") (Or.inl (hw _ (List.mem_of_getElem? (i := 13) rfl))) Via.refl e33 F3 (g := (mkF m 37 #[.val (.ref a1), .val (.ref a2), .val (.ref a2)] [(.ref a1)])) rfl rfl (hb hby d3_37)
        have g39 : own_Go p e below s₁ (entryFrame m #[(.ref a1), (.ref a2)] 3) T38 (mkF m 40 #[.val (.ref a1), .val (.ref a2), .val (.ref a2)] [(.long x3)]) := fun target kt => g37 target (st38 target kt)
        have g40 : own_Go p e below s₁ (entryFrame m #[(.ref a1), (.ref a2)] 3) T38 (mkF m 41 #[.val (.ref a1), .val (.ref a2), .val (.ref a2)] [(.ref a2), (.long x3)]) := by
          intro target kt
          refine g39 target ?_
          refine XS.aloadN X38.here hx rfl (hb hby d3_40) rfl rfl ?_
          show Steps p.tables e below (T38.setTop (mkF m 41 #[.val (.ref a1), .val (.ref a2), .val (.ref a2)] [(.ref a2), (.long x3)])) target
          exact kt
        obtain ⟨T41, X41, e41, st41⟩ := getF X38 hx hZ hown (host := "") (Or.inl (hw _ (List.mem_of_getElem? (i := 13) rfl))) Via.refl e38 G3 (g := (mkF m 41 #[.val (.ref a1), .val (.ref a2), .val (.ref a2)] [(.ref a2), (.long x3)])) rfl rfl (hb hby d3_41)
        have g42 : own_Go p e below s₁ (entryFrame m #[(.ref a1), (.ref a2)] 3) T41 (mkF m 44 #[.val (.ref a1), .val (.ref a2), .val (.ref a2)] [(.long y3), (.long x3)]) := fun target kt => g40 target (st41 target kt)
        have g43 : own_Go p e below s₁ (entryFrame m #[(.ref a1), (.ref a2)] 3) T41 (mkF m 45 #[.val (.ref a1), .val (.ref a2), .val (.ref a2)] [(.int (XT.cmpL x3 y3))]) := by
          intro target kt
          refine g42 target ?_
          refine XT.lcmp X41.here hx rfl (hb hby d3_44) rfl ?_
          show Steps p.tables e below (T41.setTop (mkF m 45 #[.val (.ref a1), .val (.ref a2), .val (.ref a2)] [(.int (XT.cmpL x3 y3))])) target
          exact kt
        by_cases hc44 : x3 = y3
        · have g45 : own_Go p e below s₁ (entryFrame m #[(.ref a1), (.ref a2)] 3) T41 (mkF m 53 #[.val (.ref a1), .val (.ref a2), .val (.ref a2)] [(.int (1 : Int32))]) := by
            intro target kt
            refine g43 target ?_
            refine XS.ifNo X41.here hx rfl (hb hby d3_45) rfl (XT.ll_ne_f hc44) ?_
            show Steps p.tables e below (T41.setTop (mkF m 48 #[.val (.ref a1), .val (.ref a2), .val (.ref a2)] [])) target
            refine XT.iconstV X41.here hx rfl (1 : Int32) (hb hby d3_48) rfl ?_
            show Steps p.tables e below (T41.setTop (mkF m 49 #[.val (.ref a1), .val (.ref a2), .val (.ref a2)] [(.int (1 : Int32))])) target
            refine XS.goto X41.here hx rfl (pc0 := 49) (pc' := 53) rfl (hb hby d3_49) (by decide) (by decide) ?_
            show Steps p.tables e below (T41.setTop (mkF m 53 #[.val (.ref a1), .val (.ref a2), .val (.ref a2)] [(.int (1 : Int32))])) target
            exact kt
          exact ⟨T41, _, (1 : Int32), X41, e41, N0, (by simp only [if_pos hc28, if_pos hc36, if_pos hc44]), g45⟩
        · have g46 : own_Go p e below s₁ (entryFrame m #[(.ref a1), (.ref a2)] 3) T41 (mkF m 53 #[.val (.ref a1), .val (.ref a2), .val (.ref a2)] [(.int (0 : Int32))]) := by
            intro target kt
            refine g43 target ?_
            refine XS.ifYes X41.here hx rfl (pc0 := 45) (pc' := 52) rfl (hb hby d3_45) rfl (XT.ll_ne_t hc44) (by decide) (by decide) ?_
            show Steps p.tables e below (T41.setTop (mkF m 52 #[.val (.ref a1), .val (.ref a2), .val (.ref a2)] [])) target
            refine XT.iconstV X41.here hx rfl (0 : Int32) (hb hby d3_52) rfl ?_
            show Steps p.tables e below (T41.setTop (mkF m 53 #[.val (.ref a1), .val (.ref a2), .val (.ref a2)] [(.int (0 : Int32))])) target
            exact kt
          exact ⟨T41, _, (0 : Int32), X41, e41, N0, (by simp only [if_pos hc28, if_pos hc36, if_neg hc44]), g46⟩
      · have g47 : own_Go p e below s₁ (entryFrame m #[(.ref a1), (.ref a2)] 3) T33 (mkF m 53 #[.val (.ref a1), .val (.ref a2), .val (.ref a2)] [(.int (0 : Int32))]) := by
          intro target kt
          refine g35 target ?_
          refine XS.ifYes X33.here hx rfl (pc0 := 33) (pc' := 52) rfl (hb hby d3_33) rfl (XT.ll_ne_t hc36) (by decide) (by decide) ?_
          show Steps p.tables e below (T33.setTop (mkF m 52 #[.val (.ref a1), .val (.ref a2), .val (.ref a2)] [])) target
          refine XT.iconstV X33.here hx rfl (0 : Int32) (hb hby d3_52) rfl ?_
          show Steps p.tables e below (T33.setTop (mkF m 53 #[.val (.ref a1), .val (.ref a2), .val (.ref a2)] [(.int (0 : Int32))])) target
          exact kt
        exact ⟨T33, _, (0 : Int32), X33, e33, N0, (by simp only [if_pos hc28, if_neg hc36]), g47⟩
    · have g48 : own_Go p e below s₁ (entryFrame m #[(.ref a1), (.ref a2)] 3) T25 (mkF m 53 #[.val (.ref a1), .val (.ref a2), .val (.ref a2)] [(.int (0 : Int32))]) := by
        intro target kt
        refine g27 target ?_
        refine XS.ifYes X25.here hx rfl (pc0 := 21) (pc' := 52) rfl (hb hby d3_21) rfl (XT.ll_ne_t hc28) (by decide) (by decide) ?_
        show Steps p.tables e below (T25.setTop (mkF m 52 #[.val (.ref a1), .val (.ref a2), .val (.ref a2)] [])) target
        refine XT.iconstV X25.here hx rfl (0 : Int32) (hb hby d3_52) rfl ?_
        show Steps p.tables e below (T25.setTop (mkF m 53 #[.val (.ref a1), .val (.ref a2), .val (.ref a2)] [(.int (0 : Int32))])) target
        exact kt
      exact ⟨T25, _, (0 : Int32), X25, e25, N0, (by simp only [if_neg hc28]), g48⟩
  have hr1 : nar .boolean rr = own_keq x1 y1 x2 y2 x3 y3 := by rw [hm49]; exact own_nar x1 y1 x2 y2 x3 y3
  obtain ⟨fs, hr, hrun, hended, hW, hsame⟩ := X49.leave (v := some (.int (nar .boolean rr))) (fun h => by rw [Bd.returns] at h; cases h)
  refine ⟨_, _, g49 _ ?_, hrun, hended, _, _, rfl, ?_, ⟨_, rfl⟩, hW, hsame.mono (by decide) (by decide)⟩
  · exact retN X49 hx (t := .boolean) Bd.returns (by simp) (hb hby d3_53) hr
  · show Q_rmKind Z a1 a2 x1 x2 x3 y1 y2 y3 h0 n0 _ T49.heap _
    rw [e49]
    exact ⟨by rw [hr1], N49, rfl⟩
theorem d6_0 : decode jdk_18_method_1_code 0 = .ok (.aload_n 0, 1) := by decide +kernel
theorem d6_1 : decode jdk_18_method_1_code 1 = .ok (.invokespecial 1, 3) := by decide +kernel
theorem d6_4 : decode jdk_18_method_1_code 4 = .ok (.return_, 1) := by decide +kernel
theorem pn_rmNum : plainName "java/lang/Number" = true := by first | (simp [plainName, overriddenIn]; done) | decide +kernel
theorem ef_rmNum (m : MethodId) (a1 : Addr) : entryFrame m #[(.ref a1)] 1 = mkF m 0 #[.val (.ref a1)] [] := by first | (simp [entryFrame, mkF, argsToLocals, Value.category]; done) | rfl
def Q_rmNum (Z : State) (a1 : Addr)  (h0 : Heap) (n0 : Nat) (v : Option Value) (h : Heap) (L : List Loc) : Prop := v = none ∧ Fr n0 L ∧ h = h0
set_option maxRecDepth 65536 in
set_option maxHeartbeats 40000000 in
theorem rmNum (l : Launch) (Z : State) (a0 : Array Value) (hw : ∀ d ∈ tables_1, d.before a0 Z = true) (ws : List Jvm.Cond) (a1 : Addr)  (h0 : Heap) (n0 : Nat) (Z0 : n0 ≤ h0.size)  :
    MetFree l (⟨"java/lang/Number", "<init>", "()V"⟩ : MethodName) (head1 (Jvm.Cond.code (⟨"java/lang/Number", "<init>", "()V"⟩ : MethodName) jdk_18_method_1_code 1 none :: ws) ({ frames := 1, cells := 0, slots := 0, locals := 12 } : Room)) (fun a U => a = #[(.ref a1)] ∧ Z.Warmed39 U.vm ∧ U.heap = h0) (fun _ _ _ _ _ => True) (fun _ U o U' => ∃ v L, o = .returned v ∧ Q_rmNum Z a1  h0 n0 v U'.heap L ∧ FrameEnd U o U' L ({ frames := 1, cells := 0, slots := 0, locals := 12 } : Room).cells ({ frames := 1, cells := 0, slots := 0, locals := 12 } : Room).slots) := by
  refine MetFree.of_bodySF (plainFor_of_name pn_rmNum) hisR ?_
  intro p e s m args below meth c s₁ Bd hml0 hP hK
  obtain ⟨rfl, hZ, hh⟩ := hP
  have hx := Bd.exec
  have hby := Bd.bytes
  have hml : c.maxLocals = 1 := hml0
  have hown : s.vm.findClass "java/lang/Number" = some m.cls := findClass_of_methodNamed Bd.named
  have hnm := (name_of_methodNamed Bd.named Bd.method).1
  have X0 : Stand p l e ({ frames := 1, cells := 0, slots := 0, locals := 12 } : Room) s m #[(.ref a1)] below meth c s₁ [] 0 0 := Stand.of_body Bd
  have e0 : s₁.heap = h0 := by rw [← hh, Bd.state]; rfl
  have N0 := Fr.nil n0
  have g0 : own_Go p e below s₁ (entryFrame m #[(.ref a1)] 1) s₁ (mkF m 0 #[.val (.ref a1)] []) := fun t k => castTop (ef_rmNum m a1) k
  have g50 : own_Go p e below s₁ (entryFrame m #[(.ref a1)] 1) s₁ (mkF m 1 #[.val (.ref a1)] [(.ref a1)]) := by
    intro target kt
    refine g0 target ?_
    refine XS.aloadN X0.here hx rfl (hb hby d6_0) rfl rfl ?_
    show Steps p.tables e below (s₁.setTop (mkF m 1 #[.val (.ref a1)] [(.ref a1)])) target
    exact kt
  obtain ⟨T51, X51, e51, st51⟩ := initO X0 hx hZ hown (hw _ (List.mem_of_getElem? (i := 40) rfl)) (hw _ (List.mem_of_getElem? (i := 7) rfl)) (hw _ (List.mem_of_getElem? (i := 8) rfl)) e0 (g := (mkF m 1 #[.val (.ref a1)] [(.ref a1)])) rfl (by rw [hml]; rfl) rfl (hb hby d6_1) (by decide) (W := 0) (by show 2 * 0 + _ ≤ _; exact Nat.le_of_eq rfl) (by decide)
  have g52 : own_Go p e below s₁ (entryFrame m #[(.ref a1)] 1) T51 (mkF m 4 #[.val (.ref a1)] []) := fun target kt => g50 target (st51 target kt)
  obtain ⟨fs, hr, hrun, hended, hW, hsame⟩ := X51.leave (v := none) (fun _ => rfl)
  refine ⟨_, _, g52 _ ?_, hrun, hended, _, _, rfl, ?_, ⟨_, rfl⟩, hW, hsame.mono (by decide) (by decide)⟩
  · exact X51.returnOut hx Bd.returns (hb hby d6_4) hr
  · show Q_rmNum Z a1  h0 n0 _ T51.heap _
    rw [e51]
    exact ⟨rfl, N0, rfl⟩
theorem d5_0 : decode jdk_35_method_26_code 0 = .ok (.aload_n 0, 1) := by decide +kernel
theorem d5_1 : decode jdk_35_method_26_code 1 = .ok (.invokespecial 270, 3) := by decide +kernel
theorem d5_4 : decode jdk_35_method_26_code 4 = .ok (.aload_n 0, 1) := by decide +kernel
theorem d5_5 : decode jdk_35_method_26_code 5 = .ok (.lload_n 1, 1) := by decide +kernel
theorem d5_6 : decode jdk_35_method_26_code 6 = .ok (.putfield 273, 3) := by decide +kernel
theorem d5_9 : decode jdk_35_method_26_code 9 = .ok (.return_, 1) := by decide +kernel
theorem pn_rmLin : plainName "java/lang/Long" = true := by first | (simp [plainName, overriddenIn]; done) | decide +kernel
theorem ef_rmLin (m : MethodId) (a1 : Addr) (q1 : Int64) : entryFrame m #[(.ref a1), (.long q1)] 3 = mkF m 0 #[.val (.ref a1), .val (.long q1), .second] [] := by first | (simp [entryFrame, mkF, argsToLocals, Value.category]; done) | rfl
def Q_rmLin (Z : State) (a1 : Addr) (q1 : Int64)  (h0 : Heap) (n0 : Nat) (v : Option Value) (h : Heap) (L : List Loc) : Prop := v = none ∧ Fr n0 L ∧ Keep h0 h [a1] ∧ Exa Z h a1 "java/lang/Long"
set_option maxRecDepth 65536 in
set_option maxHeartbeats 40000000 in
theorem rmLin (l : Launch) (Z : State) (a0 : Array Value) (hw : ∀ d ∈ tables_1, d.before a0 Z = true) (ws : List Jvm.Cond) (a1 : Addr) (q1 : Int64)  (h0 : Heap) (n0 : Nat) (Z0 : n0 ≤ h0.size) (F1 : Fld Z h0 a1 "java/lang/Long" "value" "J" (.long (0 : Int64))) (E1 : Exa Z h0 a1 "java/lang/Long") (ga : n0 ≤ a1) :
    MetFree l (⟨"java/lang/Long", "<init>", "(J)V"⟩ : MethodName) (head1 (Jvm.Cond.code (⟨"java/lang/Long", "<init>", "(J)V"⟩ : MethodName) jdk_35_method_26_code 3 none :: ws) ({ frames := 2, cells := 0, slots := 0, locals := 24 } : Room)) (fun a U => a = #[(.ref a1), (.long q1)] ∧ Z.Warmed39 U.vm ∧ U.heap = h0) (fun _ _ _ _ _ => True) (fun _ U o U' => ∃ v L, o = .returned v ∧ Q_rmLin Z a1 q1  h0 n0 v U'.heap L ∧ FrameEnd U o U' L ({ frames := 2, cells := 0, slots := 0, locals := 24 } : Room).cells ({ frames := 2, cells := 0, slots := 0, locals := 24 } : Room).slots) := by
  refine MetFree.of_bodySF (plainFor_of_name pn_rmLin) hisR ?_
  intro p e s m args below meth c s₁ Bd hml0 hP hK
  obtain ⟨rfl, hZ, hh⟩ := hP
  have hx := Bd.exec
  have hby := Bd.bytes
  have hml : c.maxLocals = 3 := hml0
  have hown : s.vm.findClass "java/lang/Long" = some m.cls := findClass_of_methodNamed Bd.named
  have hnm := (name_of_methodNamed Bd.named Bd.method).1
  have X0 : Stand p l e ({ frames := 2, cells := 0, slots := 0, locals := 24 } : Room) s m #[(.ref a1), (.long q1)] below meth c s₁ [] 0 0 := Stand.of_body Bd
  have e0 : s₁.heap = h0 := by rw [← hh, Bd.state]; rfl
  have N0 := Fr.nil n0
  have g0 : own_Go p e below s₁ (entryFrame m #[(.ref a1), (.long q1)] 3) s₁ (mkF m 0 #[.val (.ref a1), .val (.long q1), .second] []) := fun t k => castTop (ef_rmLin m a1 q1) k
  have g53 : own_Go p e below s₁ (entryFrame m #[(.ref a1), (.long q1)] 3) s₁ (mkF m 1 #[.val (.ref a1), .val (.long q1), .second] [(.ref a1)]) := by
    intro target kt
    refine g0 target ?_
    refine XS.aloadN X0.here hx rfl (hb hby d5_0) rfl rfl ?_
    show Steps p.tables e below (s₁.setTop (mkF m 1 #[.val (.ref a1), .val (.long q1), .second] [(.ref a1)])) target
    exact kt
  obtain ⟨_, _, ⟨T54, L54, k54, n54⟩, -, X54, ⟨Lc54, hQ54, l54, y54, z54⟩, st54⟩ := X0.specialBack hx (y := (⟨"java/lang/Number", "<init>", "()V"⟩ : MethodName)) rfl hown (mvT hZ (hw _ (List.mem_of_getElem? (i := 34) rfl))) (mvT hZ (hw _ (List.mem_of_getElem? (i := 35) rfl))) (mvT hZ (hw _ (List.mem_of_getElem? (i := 39) rfl))) (by decide) (backOf (W := 0) (rmNum l Z a0 hw [] a1 h0 n0 Z0) hZ (hw _ (List.mem_of_getElem? (i := 39) rfl)) (hw _ (List.mem_of_getElem? (i := 38) rfl)) (by decide) (by decide)) (g := (mkF m 1 #[.val (.ref a1), .val (.long q1), .second] [(.ref a1)])) rfl (by rw [hml]; rfl) (Steps.refl _) (a := a1) (argsL := []) (rest := []) (lenOf pd_0 rfl) rfl (by show 2 * 0 + _ ≤ _; exact Nat.le_of_eq rfl) (hb hby d5_1) (fun _ _ => ⟨rfl, e0, (by decide : 0 + 0 ≤ _), (by decide : 0 + 0 ≤ _)⟩)
  dsimp only [Pt.U, Pt.locs, Pt.cells, Pt.slots] at X54 l54 y54 z54 st54 hQ54
  subst l54 y54 z54
  obtain ⟨rfl, Nq54, eq54⟩ := hQ54
  have N54 := Fr.app N0 Nq54
  have g55 : own_Go p e below s₁ (entryFrame m #[(.ref a1), (.long q1)] 3) T54 (mkF m 4 #[.val (.ref a1), .val (.long q1), .second] []) := fun target kt => g53 target (st54.trans kt)
  have g56 : own_Go p e below s₁ (entryFrame m #[(.ref a1), (.long q1)] 3) T54 (mkF m 6 #[.val (.ref a1), .val (.long q1), .second] [(.long q1), (.ref a1)]) := by
    intro target kt
    refine g55 target ?_
    refine XS.aloadN X54.here hx rfl (hb hby d5_4) rfl rfl ?_
    show Steps p.tables e below (T54.setTop (mkF m 5 #[.val (.ref a1), .val (.long q1), .second] [(.ref a1)])) target
    refine XT.lloadN X54.here hx rfl (hb hby d5_5) rfl ?_
    show Steps p.tables e below (T54.setTop (mkF m 6 #[.val (.ref a1), .val (.long q1), .second] [(.long q1), (.ref a1)])) target
    exact kt
  obtain ⟨T57, h57, X57, e57, W57, st57⟩ := putF X54 hx hZ hown (host := "") (Or.inl (hw _ (List.mem_of_getElem? (i := 41) rfl))) Via.refl eq54 F1 E1 (Or.inr ⟨(hw _ (List.mem_of_getElem? (i := 42) rfl)), rfl, hnm⟩) (hw _ (List.mem_of_getElem? (i := 29) rfl)) (ty := .long) (by decide) rfl rfl (g := (mkF m 6 #[.val (.ref a1), .val (.long q1), .second] [(.long q1), (.ref a1)])) rfl rfl (hb hby d5_6)
  have g58 : own_Go p e below s₁ (entryFrame m #[(.ref a1), (.long q1)] 3) T57 (mkF m 9 #[.val (.ref a1), .val (.long q1), .second] []) := fun target kt => g56 target (st57 target kt)
  have N57 := Fr.snoc X57 N54 ga
  obtain ⟨fs, hr, hrun, hended, hW, hsame⟩ := X57.leave (v := none) (fun _ => rfl)
  refine ⟨_, _, g58 _ ?_, hrun, hended, _, _, rfl, ?_, ⟨_, rfl⟩, hW, hsame.mono (by decide) (by decide)⟩
  · exact X57.returnOut hx Bd.returns (hb hby d5_9) hr
  · show Q_rmLin Z a1 q1  h0 n0 _ T57.heap _
    rw [e57]
    exact ⟨rfl, N57, (Keep.refl _ _).wr W57 (Or.inl (List.mem_of_getElem? (i := 0) rfl)), E1.wr W57⟩
theorem d4_0 : decode jdk_35_method_24_code 0 = .ok (.sipush 128, 3) := by decide +kernel
theorem d4_3 : decode jdk_35_method_24_code 3 = .ok (.istore_n 2, 1) := by decide +kernel
theorem d4_4 : decode jdk_35_method_24_code 4 = .ok (.lload_n 0, 1) := by decide +kernel
theorem d4_5 : decode jdk_35_method_24_code 5 = .ok (.ldc2_w 230, 3) := by decide +kernel
theorem d4_8 : decode jdk_35_method_24_code 8 = .ok (.lcmp, 1) := by decide +kernel
theorem d4_9 : decode jdk_35_method_24_code 9 = .ok (.ifCond .lt 22, 3) := by decide +kernel
theorem d4_12 : decode jdk_35_method_24_code 12 = .ok (.lload_n 0, 1) := by decide +kernel
theorem d4_13 : decode jdk_35_method_24_code 13 = .ok (.ldc2_w 232, 3) := by decide +kernel
theorem d4_16 : decode jdk_35_method_24_code 16 = .ok (.lcmp, 1) := by decide +kernel
theorem d4_17 : decode jdk_35_method_24_code 17 = .ok (.ifCond .gt 14, 3) := by decide +kernel
theorem d4_20 : decode jdk_35_method_24_code 20 = .ok (.getstatic 234, 3) := by decide +kernel
theorem d4_23 : decode jdk_35_method_24_code 23 = .ok (.lload_n 0, 1) := by decide +kernel
theorem d4_24 : decode jdk_35_method_24_code 24 = .ok (.l2i, 1) := by decide +kernel
theorem d4_25 : decode jdk_35_method_24_code 25 = .ok (.sipush 128, 3) := by decide +kernel
theorem d4_28 : decode jdk_35_method_24_code 28 = .ok (.iadd, 1) := by decide +kernel
theorem d4_29 : decode jdk_35_method_24_code 29 = .ok (.aaload, 1) := by decide +kernel
theorem d4_30 : decode jdk_35_method_24_code 30 = .ok (.areturn, 1) := by decide +kernel
theorem d4_31 : decode jdk_35_method_24_code 31 = .ok (.new 1, 3) := by decide +kernel
theorem d4_34 : decode jdk_35_method_24_code 34 = .ok (.dup, 1) := by decide +kernel
theorem d4_35 : decode jdk_35_method_24_code 35 = .ok (.lload_n 0, 1) := by decide +kernel
theorem d4_36 : decode jdk_35_method_24_code 36 = .ok (.invokespecial 240, 3) := by decide +kernel
theorem d4_39 : decode jdk_35_method_24_code 39 = .ok (.areturn, 1) := by decide +kernel
theorem pn_rmVof : plainName "java/lang/Long" = true := by first | (simp [plainName, overriddenIn]; done) | decide +kernel
theorem ef_rmVof (m : MethodId) (q1 : Int64) : entryFrame m #[(.long q1)] 3 = mkF m 0 #[.val (.long q1), .second, .unset] [] := by first | (simp [entryFrame, mkF, argsToLocals, Value.category]; done) | rfl
def Q_rmVof (Z : State) (q1 : Int64)  (h0 : Heap) (n0 : Nat) (v : Option Value) (h : Heap) (L : List Loc) : Prop := ∃ b : Addr, v = some (.ref b) ∧ Fr n0 L ∧ Keep h0 h [] ∧ Exa Z h b "java/lang/Long"
set_option maxRecDepth 65536 in
set_option maxHeartbeats 40000000 in
theorem rmVof (l : Launch) (Z : State) (a0 : Array Value) (hw : ∀ d ∈ tables_1, d.before a0 Z = true) (ws : List Jvm.Cond) (q1 : Int64)  (h0 : Heap) (n0 : Nat) (Z0 : n0 ≤ h0.size) (C1 : own_Cache Z h0) :
    MetFree l (⟨"java/lang/Long", "valueOf", "(J)Ljava/lang/Long;"⟩ : MethodName) (head1 (Jvm.Cond.code (⟨"java/lang/Long", "valueOf", "(J)Ljava/lang/Long;"⟩ : MethodName) jdk_35_method_24_code 3 (some (.object "java/lang/Long")) :: ws) ({ frames := 3, cells := 1, slots := 1, locals := 44 } : Room)) (fun a U => a = #[(.long q1)] ∧ Z.Warmed39 U.vm ∧ U.heap = h0) (fun _ _ _ _ _ => True) (fun _ U o U' => ∃ v L, o = .returned v ∧ Q_rmVof Z q1  h0 n0 v U'.heap L ∧ FrameEnd U o U' L ({ frames := 3, cells := 1, slots := 1, locals := 44 } : Room).cells ({ frames := 3, cells := 1, slots := 1, locals := 44 } : Room).slots) := by
  refine MetFree.of_bodySF (plainFor_of_name pn_rmVof) hisR ?_
  intro p e s m args below meth c s₁ Bd hml0 hP hK
  obtain ⟨rfl, hZ, hh⟩ := hP
  have hx := Bd.exec
  have hby := Bd.bytes
  have hml : c.maxLocals = 3 := hml0
  have hown : s.vm.findClass "java/lang/Long" = some m.cls := findClass_of_methodNamed Bd.named
  have hnm := (name_of_methodNamed Bd.named Bd.method).1
  have X0 : Stand p l e ({ frames := 3, cells := 1, slots := 1, locals := 44 } : Room) s m #[(.long q1)] below meth c s₁ [] 0 0 := Stand.of_body Bd
  have e0 : s₁.heap = h0 := by rw [← hh, Bd.state]; rfl
  have N0 := Fr.nil n0
  have g0 : own_Go p e below s₁ (entryFrame m #[(.long q1)] 3) s₁ (mkF m 0 #[.val (.long q1), .second, .unset] []) := fun t k => castTop (ef_rmVof m q1) k
  have g59 : own_Go p e below s₁ (entryFrame m #[(.long q1)] 3) s₁ (mkF m 9 #[.val (.long q1), .second, .val (.int (128 : Int32))] [(.int (XT.cmpL q1 (-128 : Int64)))]) := by
    intro target kt
    refine g0 target ?_
    refine XT.sipushV X0.here hx rfl (128 : Int32) (hb hby d4_0) rfl ?_
    show Steps p.tables e below (s₁.setTop (mkF m 3 #[.val (.long q1), .second, .unset] [(.int (128 : Int32))])) target
    refine XS.istoreN X0.here hx rfl (hb hby d4_3) rfl (l' := #[.val (.long q1), .second, .val (.int (128 : Int32))]) rfl ?_
    show Steps p.tables e below (s₁.setTop (mkF m 4 #[.val (.long q1), .second, .val (.int (128 : Int32))] [])) target
    refine XT.lloadN X0.here hx rfl (hb hby d4_4) rfl ?_
    show Steps p.tables e below (s₁.setTop (mkF m 5 #[.val (.long q1), .second, .val (.int (128 : Int32))] [(.long q1)])) target
    refine X0.ldc2J hx hown (mvT hZ (hw _ (List.mem_of_getElem? (i := 26) rfl))) rfl (hb hby d4_5) ?_
    show Steps p.tables e below (s₁.setTop (mkF m 8 #[.val (.long q1), .second, .val (.int (128 : Int32))] [(.long (-128 : Int64)), (.long q1)])) target
    refine XT.lcmp X0.here hx rfl (hb hby d4_8) rfl ?_
    show Steps p.tables e below (s₁.setTop (mkF m 9 #[.val (.long q1), .second, .val (.int (128 : Int32))] [(.int (XT.cmpL q1 (-128 : Int64)))])) target
    exact kt
  by_cases hc60 : q1 < (-128 : Int64)
  · have g61 : own_Go p e below s₁ (entryFrame m #[(.long q1)] 3) s₁ (mkF m 31 #[.val (.long q1), .second, .val (.int (128 : Int32))] []) := by
      intro target kt
      refine g59 target ?_
      refine XS.ifYes X0.here hx rfl (pc0 := 9) (pc' := 31) rfl (hb hby d4_9) rfl (XT.ll_lt_t hc60) (by decide) (by decide) ?_
      show Steps p.tables e below (s₁.setTop (mkF m 31 #[.val (.long q1), .second, .val (.int (128 : Int32))] [])) target
      exact kt
    obtain ⟨T62, h62, X62, e62, E62, A62, D62, -, st62⟩ := newO X0 hx hZ hown (hw _ (List.mem_of_getElem? (i := 28) rfl)) (hw _ (List.mem_of_getElem? (i := 29) rfl)) (hw _ (List.mem_of_getElem? (i := 24) rfl)) e0 (g := (mkF m 31 #[.val (.long q1), .second, .val (.int (128 : Int32))] [])) rfl (hb hby d4_31) (by decide) (by decide)
    obtain ⟨b1, ga62⟩ : ∃ z, z = h0.size := ⟨_, rfl⟩
    rw [← ga62] at A62 D62 st62
    have Z62 : n0 ≤ h62.size := Nat.le_trans Z0 E62.1
    have g_b1 : n0 ≤ b1 := Nat.le_trans Z0 (Nat.le_of_eq ga62.symm)
    have F_value_b1 : Fld Z h62 b1 "java/lang/Long" "value" "J" (.long (0 : Int64)) := D62 (Or.inr (hw _ (List.mem_of_getElem? (i := 42) rfl))) (ty := .long) (by decide)
    have g63 : own_Go p e below s₁ (entryFrame m #[(.long q1)] 3) T62 (mkF m 34 #[.val (.long q1), .second, .val (.int (128 : Int32))] [(.ref b1)]) := fun target kt => g61 target (st62 target kt)
    have g64 : own_Go p e below s₁ (entryFrame m #[(.long q1)] 3) T62 (mkF m 36 #[.val (.long q1), .second, .val (.int (128 : Int32))] [(.long q1), (.ref b1), (.ref b1)]) := by
      intro target kt
      refine g63 target ?_
      refine XS.dup X62.here hx rfl (hb hby d4_34) rfl rfl ?_
      show Steps p.tables e below (T62.setTop (mkF m 35 #[.val (.long q1), .second, .val (.int (128 : Int32))] [(.ref b1), (.ref b1)])) target
      refine XT.lloadN X62.here hx rfl (hb hby d4_35) rfl ?_
      show Steps p.tables e below (T62.setTop (mkF m 36 #[.val (.long q1), .second, .val (.int (128 : Int32))] [(.long q1), (.ref b1), (.ref b1)])) target
      exact kt
    obtain ⟨_, _, ⟨T65, L65, k65, n65⟩, -, X65, ⟨Lc65, hQ65, l65, y65, z65⟩, st65⟩ := X62.specialBack hx (y := (⟨"java/lang/Long", "<init>", "(J)V"⟩ : MethodName)) rfl hown (mvT hZ (hw _ (List.mem_of_getElem? (i := 30) rfl))) (mvT hZ (hw _ (List.mem_of_getElem? (i := 31) rfl))) (mvT hZ (hw _ (List.mem_of_getElem? (i := 33) rfl))) (by decide) (backOf (W := 1) (rmLin l Z a0 hw [] b1 q1 h62 n0 Z62 F_value_b1 A62 g_b1) hZ (hw _ (List.mem_of_getElem? (i := 33) rfl)) (hw _ (List.mem_of_getElem? (i := 24) rfl)) (by decide) (by decide)) (g := (mkF m 36 #[.val (.long q1), .second, .val (.int (128 : Int32))] [(.long q1), (.ref b1), (.ref b1)])) rfl (by rw [hml]; rfl) (Steps.refl _) (a := b1) (argsL := [(.long q1)]) (rest := [(.ref b1)]) (lenOf pd_1 rfl) rfl (by show 2 * 0 + _ ≤ _; exact Nat.le_of_eq rfl) (hb hby d4_36) (fun _ _ => ⟨rfl, e62, (by decide : 1 + 0 ≤ _), (by decide : 1 + 0 ≤ _)⟩)
    dsimp only [Pt.U, Pt.locs, Pt.cells, Pt.slots] at X65 l65 y65 z65 st65 hQ65
    subst l65 y65 z65
    obtain ⟨rfl, Nq65, K65, E65⟩ := hQ65
    have N65 := Fr.app N0 Nq65
    have g66 : own_Go p e below s₁ (entryFrame m #[(.long q1)] 3) T65 (mkF m 39 #[.val (.long q1), .second, .val (.int (128 : Int32))] [(.ref b1)]) := fun target kt => g64 target (st65.trans kt)
    obtain ⟨fs, hr, hrun, hended, hW, hsame⟩ := X65.leave (v := some (.ref b1)) (fun h => by rw [Bd.returns] at h; cases h)
    refine ⟨_, _, g66 _ ?_, hrun, hended, _, _, rfl, ?_, ⟨_, rfl⟩, hW, hsame.mono (by decide) (by decide)⟩
    · exact retOut X65 hx Bd.returns rfl (Or.inr (Or.inr (Or.inr (Or.inr ⟨rfl, rfl, rfl⟩)))) (hb hby d4_39) hr
    · show Q_rmVof Z q1  h0 n0 _ T65.heap _
      exact ⟨b1, rfl, N65, (((Keep.refl h0 []).ext E62).trans K65 (allS (Or.inr (Nat.le_of_eq ga62.symm)) all0)), E65⟩
  · have g67 : own_Go p e below s₁ (entryFrame m #[(.long q1)] 3) s₁ (mkF m 17 #[.val (.long q1), .second, .val (.int (128 : Int32))] [(.int (XT.cmpL q1 (127 : Int64)))]) := by
      intro target kt
      refine g59 target ?_
      refine XS.ifNo X0.here hx rfl (hb hby d4_9) rfl (XT.ll_lt_f hc60) ?_
      show Steps p.tables e below (s₁.setTop (mkF m 12 #[.val (.long q1), .second, .val (.int (128 : Int32))] [])) target
      refine XT.lloadN X0.here hx rfl (hb hby d4_12) rfl ?_
      show Steps p.tables e below (s₁.setTop (mkF m 13 #[.val (.long q1), .second, .val (.int (128 : Int32))] [(.long q1)])) target
      refine X0.ldc2J hx hown (mvT hZ (hw _ (List.mem_of_getElem? (i := 27) rfl))) rfl (hb hby d4_13) ?_
      show Steps p.tables e below (s₁.setTop (mkF m 16 #[.val (.long q1), .second, .val (.int (128 : Int32))] [(.long (127 : Int64)), (.long q1)])) target
      refine XT.lcmp X0.here hx rfl (hb hby d4_16) rfl ?_
      show Steps p.tables e below (s₁.setTop (mkF m 17 #[.val (.long q1), .second, .val (.int (128 : Int32))] [(.int (XT.cmpL q1 (127 : Int64)))])) target
      exact kt
    by_cases hc68 : (127 : Int64) < q1
    · have g69 : own_Go p e below s₁ (entryFrame m #[(.long q1)] 3) s₁ (mkF m 31 #[.val (.long q1), .second, .val (.int (128 : Int32))] []) := by
        intro target kt
        refine g67 target ?_
        refine XS.ifYes X0.here hx rfl (pc0 := 17) (pc' := 31) rfl (hb hby d4_17) rfl (XT.ll_gt_t hc68) (by decide) (by decide) ?_
        show Steps p.tables e below (s₁.setTop (mkF m 31 #[.val (.long q1), .second, .val (.int (128 : Int32))] [])) target
        exact kt
      obtain ⟨T70, h70, X70, e70, E70, A70, D70, -, st70⟩ := newO X0 hx hZ hown (hw _ (List.mem_of_getElem? (i := 28) rfl)) (hw _ (List.mem_of_getElem? (i := 29) rfl)) (hw _ (List.mem_of_getElem? (i := 24) rfl)) e0 (g := (mkF m 31 #[.val (.long q1), .second, .val (.int (128 : Int32))] [])) rfl (hb hby d4_31) (by decide) (by decide)
      obtain ⟨b1, ga70⟩ : ∃ z, z = h0.size := ⟨_, rfl⟩
      rw [← ga70] at A70 D70 st70
      have Z70 : n0 ≤ h70.size := Nat.le_trans Z0 E70.1
      have g_b1 : n0 ≤ b1 := Nat.le_trans Z0 (Nat.le_of_eq ga70.symm)
      have F_value_b1 : Fld Z h70 b1 "java/lang/Long" "value" "J" (.long (0 : Int64)) := D70 (Or.inr (hw _ (List.mem_of_getElem? (i := 42) rfl))) (ty := .long) (by decide)
      have g71 : own_Go p e below s₁ (entryFrame m #[(.long q1)] 3) T70 (mkF m 34 #[.val (.long q1), .second, .val (.int (128 : Int32))] [(.ref b1)]) := fun target kt => g69 target (st70 target kt)
      have g72 : own_Go p e below s₁ (entryFrame m #[(.long q1)] 3) T70 (mkF m 36 #[.val (.long q1), .second, .val (.int (128 : Int32))] [(.long q1), (.ref b1), (.ref b1)]) := by
        intro target kt
        refine g71 target ?_
        refine XS.dup X70.here hx rfl (hb hby d4_34) rfl rfl ?_
        show Steps p.tables e below (T70.setTop (mkF m 35 #[.val (.long q1), .second, .val (.int (128 : Int32))] [(.ref b1), (.ref b1)])) target
        refine XT.lloadN X70.here hx rfl (hb hby d4_35) rfl ?_
        show Steps p.tables e below (T70.setTop (mkF m 36 #[.val (.long q1), .second, .val (.int (128 : Int32))] [(.long q1), (.ref b1), (.ref b1)])) target
        exact kt
      obtain ⟨_, _, ⟨T73, L73, k73, n73⟩, -, X73, ⟨Lc73, hQ73, l73, y73, z73⟩, st73⟩ := X70.specialBack hx (y := (⟨"java/lang/Long", "<init>", "(J)V"⟩ : MethodName)) rfl hown (mvT hZ (hw _ (List.mem_of_getElem? (i := 30) rfl))) (mvT hZ (hw _ (List.mem_of_getElem? (i := 31) rfl))) (mvT hZ (hw _ (List.mem_of_getElem? (i := 33) rfl))) (by decide) (backOf (W := 1) (rmLin l Z a0 hw [] b1 q1 h70 n0 Z70 F_value_b1 A70 g_b1) hZ (hw _ (List.mem_of_getElem? (i := 33) rfl)) (hw _ (List.mem_of_getElem? (i := 24) rfl)) (by decide) (by decide)) (g := (mkF m 36 #[.val (.long q1), .second, .val (.int (128 : Int32))] [(.long q1), (.ref b1), (.ref b1)])) rfl (by rw [hml]; rfl) (Steps.refl _) (a := b1) (argsL := [(.long q1)]) (rest := [(.ref b1)]) (lenOf pd_1 rfl) rfl (by show 2 * 0 + _ ≤ _; exact Nat.le_of_eq rfl) (hb hby d4_36) (fun _ _ => ⟨rfl, e70, (by decide : 1 + 0 ≤ _), (by decide : 1 + 0 ≤ _)⟩)
      dsimp only [Pt.U, Pt.locs, Pt.cells, Pt.slots] at X73 l73 y73 z73 st73 hQ73
      subst l73 y73 z73
      obtain ⟨rfl, Nq73, K73, E73⟩ := hQ73
      have N73 := Fr.app N0 Nq73
      have g74 : own_Go p e below s₁ (entryFrame m #[(.long q1)] 3) T73 (mkF m 39 #[.val (.long q1), .second, .val (.int (128 : Int32))] [(.ref b1)]) := fun target kt => g72 target (st73.trans kt)
      obtain ⟨fs, hr, hrun, hended, hW, hsame⟩ := X73.leave (v := some (.ref b1)) (fun h => by rw [Bd.returns] at h; cases h)
      refine ⟨_, _, g74 _ ?_, hrun, hended, _, _, rfl, ?_, ⟨_, rfl⟩, hW, hsame.mono (by decide) (by decide)⟩
      · exact retOut X73 hx Bd.returns rfl (Or.inr (Or.inr (Or.inr (Or.inr ⟨rfl, rfl, rfl⟩)))) (hb hby d4_39) hr
      · show Q_rmVof Z q1  h0 n0 _ T73.heap _
        exact ⟨b1, rfl, N73, (((Keep.refl h0 []).ext E70).trans K73 (allS (Or.inr (Nat.le_of_eq ga70.symm)) all0)), E73⟩
    · have g75 : own_Go p e below s₁ (entryFrame m #[(.long q1)] 3) s₁ (mkF m 20 #[.val (.long q1), .second, .val (.int (128 : Int32))] []) := by
        intro target kt
        refine g67 target ?_
        refine XS.ifNo X0.here hx rfl (hb hby d4_17) rfl (XT.ll_gt_f hc68) ?_
        show Steps p.tables e below (s₁.setTop (mkF m 20 #[.val (.long q1), .second, .val (.int (128 : Int32))] [])) target
        exact kt
      obtain ⟨ca, cl1, S1, Ar1, hsz, H1⟩ := C1
      obtain ⟨i, hi, ei, hnn⟩ := own_place q1 hc60 hc68
      obtain ⟨bx, hat, EX⟩ := H1 i hi
      rw [← ei] at hat
      have hin : ¬ ((q1.toInt32 + (128 : Int32)) < 0 ∨ cl1.slots.size ≤ (q1.toInt32 + (128 : Int32)).toNatClampNeg) := fun q => q.elim hnn (fun q => by omega)
      obtain ⟨T3, X3, e3, st3⟩ := getS2 X0 hx hZ hown (host := "") (Or.inl (hw _ (List.mem_of_getElem? (i := 46) rfl))) Via.refl e0 S1 (g := (mkF m 20 #[.val (.long q1), .second, .val (.int (128 : Int32))] [])) rfl (hb hby d4_20)
      have g76 : own_Go p e below s₁ (entryFrame m #[(.long q1)] 3) T3 (mkF m 23 #[.val (.long q1), .second, .val (.int (128 : Int32))] [(.ref ca)]) := fun target kt => g75 target (st3 target kt)
      have g77 : own_Go p e below s₁ (entryFrame m #[(.long q1)] 3) T3 (mkF m 30 #[.val (.long q1), .second, .val (.int (128 : Int32))] [(.ref bx)]) := by
        intro target kt
        refine g76 target ?_
        refine XT.lloadN X3.here hx rfl (hb hby d4_23) rfl ?_
        show Steps p.tables e below (T3.setTop (mkF m 24 #[.val (.long q1), .second, .val (.int (128 : Int32))] [(.long q1), (.ref ca)])) target
        refine XT.l2i X3.here hx rfl (hb hby d4_24) rfl ?_
        show Steps p.tables e below (T3.setTop (mkF m 25 #[.val (.long q1), .second, .val (.int (128 : Int32))] [(.int (q1.toInt32)), (.ref ca)])) target
        refine XT.sipushV X3.here hx rfl (128 : Int32) (hb hby d4_25) rfl ?_
        show Steps p.tables e below (T3.setTop (mkF m 28 #[.val (.long q1), .second, .val (.int (128 : Int32))] [(.int (128 : Int32)), (.int (q1.toInt32)), (.ref ca)])) target
        refine XS.iadd X3.here hx rfl (hb hby d4_28) rfl ?_
        show Steps p.tables e below (T3.setTop (mkF m 29 #[.val (.long q1), .second, .val (.int (128 : Int32))] [(.int ((q1.toInt32) + (128 : Int32))), (.ref ca)])) target
        refine X3.aaload hx (j := ((q1.toInt32) + (128 : Int32))) (v := (.ref bx)) (by rw [e3]; exact Ar1.1) (State.isArrayOf_alike hZ.alike Ar1.2.1) rfl Ar1.2.2 hin hat (g := (mkF m 29 #[.val (.long q1), .second, .val (.int (128 : Int32))] [(.int ((q1.toInt32) + (128 : Int32))), (.ref ca)])) rfl rfl (hb hby d4_29) _ ?_
        show Steps p.tables e below (T3.setTop (mkF m 30 #[.val (.long q1), .second, .val (.int (128 : Int32))] [(.ref bx)])) target
        exact kt
      obtain ⟨fs, hr, hrun, hended, hW, hsame⟩ := X3.leave (v := some (.ref bx)) (fun h => by rw [Bd.returns] at h; cases h)
      refine ⟨_, _, g77 _ ?_, hrun, hended, _, _, rfl, ?_, ⟨_, rfl⟩, hW, hsame.mono (by decide) (by decide)⟩
      · exact retOut X3 hx Bd.returns rfl (Or.inr (Or.inr (Or.inr (Or.inr ⟨rfl, rfl, rfl⟩)))) (hb hby d4_30) hr
      · show Q_rmVof Z q1  h0 n0 _ T3.heap _
        rw [e3]
        exact ⟨bx, rfl, N0, Keep.refl _ _, EX⟩
theorem pn_rm0 : plainName "com/example/bitloom/bitloom/KindEqualsPinLaw" = true := by first | (simp [plainName, overriddenIn]; done) | decide +kernel
theorem ef_rm0 (m : MethodId) (p0 : Int64) (p1 : Int64) (p2 : Int64) (p3 : Int64) (p4 : Int32) : entryFrame m #[(.long p0), (.long p1), (.long p2), (.long p3), (.int p4)] maxLocals = mkF m 0 #[.val (.long p0), .second, .val (.long p1), .second, .val (.long p2), .second, .val (.long p3), .second, .val (.int p4), .unset, .unset, .unset, .unset, .unset, .unset, .unset, .unset, .unset, .unset, .unset] [] := by first | (simp [entryFrame, mkF, argsToLocals, Value.category, maxLocals]; done) | rfl
def Q_rm0 (Z : State) (p0 : Int64) (p1 : Int64) (p2 : Int64) (p3 : Int64) (p4 : Int32)  (h0 : Heap) (n0 : Nat) (v : Option Value) (h : Heap) (L : List Loc) : Prop := v = some (.int (1 : Int32)) ∧ Fr n0 L
set_option maxRecDepth 65536 in
set_option maxHeartbeats 40000000 in
theorem rm0 (l : Launch) (Z : State) (a0 : Array Value) (hw : ∀ d ∈ tables_1, d.before a0 Z = true) (ws : List Jvm.Cond) (p0 : Int64) (p1 : Int64) (p2 : Int64) (p3 : Int64) (p4 : Int32)  (h0 : Heap) (n0 : Nat) (Z0 : n0 ≤ h0.size) (O0 : Old Z n0 h0) (C0 : own_Cache Z Z.heap) :
    MetFree l x (head1 (Jvm.Cond.code x code maxLocals ret :: ws) room_1) (fun a U => a = #[(.long p0), (.long p1), (.long p2), (.long p3), (.int p4)] ∧ Z.Warmed39 U.vm ∧ U.heap = h0) (fun _ _ _ _ _ => True) (fun _ U o U' => ∃ v L, o = .returned v ∧ Q_rm0 Z p0 p1 p2 p3 p4  h0 n0 v U'.heap L ∧ FrameEnd U o U' L room_1.cells room_1.slots) := by
  refine MetFree.of_bodySF (plainFor_of_name pn_rm0) hisR ?_
  intro p e s m args below meth c s₁ Bd hml0 hP hK
  obtain ⟨rfl, hZ, hh⟩ := hP
  have hx := Bd.exec
  have hby := Bd.bytes
  have hml : c.maxLocals = 20 := hml0
  have hown : s.vm.findClass "com/example/bitloom/bitloom/KindEqualsPinLaw" = some m.cls := findClass_of_methodNamed Bd.named
  have hnm := (name_of_methodNamed Bd.named Bd.method).1
  have X0 : Stand p l e room_1 s m #[(.long p0), (.long p1), (.long p2), (.long p3), (.int p4)] below meth c s₁ [] 0 0 := Stand.of_body Bd
  have e0 : s₁.heap = h0 := by rw [← hh, Bd.state]; rfl
  have N0 := Fr.nil n0
  have g0 : own_Go p e below s₁ (entryFrame m #[(.long p0), (.long p1), (.long p2), (.long p3), (.int p4)] maxLocals) s₁ (mkF m 0 #[.val (.long p0), .second, .val (.long p1), .second, .val (.long p2), .second, .val (.long p3), .second, .val (.int p4), .unset, .unset, .unset, .unset, .unset, .unset, .unset, .unset, .unset, .unset, .unset] []) := fun t k => castTop (ef_rm0 m p0 p1 p2 p3 p4) k
  obtain ⟨T78, h78, X78, e78, E78, A78, D78, -, st78⟩ := newO X0 hx hZ hown (hw _ (List.mem_of_getElem? (i := 0) rfl)) (hw _ (List.mem_of_getElem? (i := 1) rfl)) (hw _ (List.mem_of_getElem? (i := 2) rfl)) e0 (g := (mkF m 0 #[.val (.long p0), .second, .val (.long p1), .second, .val (.long p2), .second, .val (.long p3), .second, .val (.int p4), .unset, .unset, .unset, .unset, .unset, .unset, .unset, .unset, .unset, .unset, .unset] [])) rfl (hb hby at_0) (by decide) (by decide)
  obtain ⟨b1, ga78⟩ : ∃ z, z = h0.size := ⟨_, rfl⟩
  rw [← ga78] at A78 D78 st78
  have Z78 : n0 ≤ h78.size := Nat.le_trans Z0 E78.1
  have g_b1 : n0 ≤ b1 := Nat.le_trans Z0 (Nat.le_of_eq ga78.symm)
  have F_chunks_b1 : Fld Z h78 b1 "com/example/bitloom/bitloom/BitmapStatistics$Kind" "chunks" "J" (.long (0 : Int64)) := D78 (Or.inr (hw _ (List.mem_of_getElem? (i := 10) rfl))) (ty := .long) (by decide)
  have F_values_b1 : Fld Z h78 b1 "com/example/bitloom/bitloom/BitmapStatistics$Kind" "values" "J" (.long (0 : Int64)) := D78 (Or.inr (hw _ (List.mem_of_getElem? (i := 12) rfl))) (ty := .long) (by decide)
  have F_bytes_b1 : Fld Z h78 b1 "com/example/bitloom/bitloom/BitmapStatistics$Kind" "bytes" "J" (.long (0 : Int64)) := D78 (Or.inr (hw _ (List.mem_of_getElem? (i := 14) rfl))) (ty := .long) (by decide)
  have g79 : own_Go p e below s₁ (entryFrame m #[(.long p0), (.long p1), (.long p2), (.long p3), (.int p4)] maxLocals) T78 (mkF m 3 #[.val (.long p0), .second, .val (.long p1), .second, .val (.long p2), .second, .val (.long p3), .second, .val (.int p4), .unset, .unset, .unset, .unset, .unset, .unset, .unset, .unset, .unset, .unset, .unset] [(.ref b1)]) := fun target kt => g0 target (st78 target kt)
  have g80 : own_Go p e below s₁ (entryFrame m #[(.long p0), (.long p1), (.long p2), (.long p3), (.int p4)] maxLocals) T78 (mkF m 8 #[.val (.long p0), .second, .val (.long p1), .second, .val (.long p2), .second, .val (.long p3), .second, .val (.int p4), .unset, .unset, .unset, .unset, .unset, .unset, .unset, .unset, .unset, .unset, .unset] [(.long p2), (.long p1), (.long p0), (.ref b1), (.ref b1)]) := by
    intro target kt
    refine g79 target ?_
    refine XS.dup X78.here hx rfl (hb hby at_3) rfl rfl ?_
    show Steps p.tables e below (T78.setTop (mkF m 4 #[.val (.long p0), .second, .val (.long p1), .second, .val (.long p2), .second, .val (.long p3), .second, .val (.int p4), .unset, .unset, .unset, .unset, .unset, .unset, .unset, .unset, .unset, .unset, .unset] [(.ref b1), (.ref b1)])) target
    refine XT.lloadN X78.here hx rfl (hb hby at_4) rfl ?_
    show Steps p.tables e below (T78.setTop (mkF m 5 #[.val (.long p0), .second, .val (.long p1), .second, .val (.long p2), .second, .val (.long p3), .second, .val (.int p4), .unset, .unset, .unset, .unset, .unset, .unset, .unset, .unset, .unset, .unset, .unset] [(.long p0), (.ref b1), (.ref b1)])) target
    refine XT.lloadN X78.here hx rfl (hb hby at_5) rfl ?_
    show Steps p.tables e below (T78.setTop (mkF m 6 #[.val (.long p0), .second, .val (.long p1), .second, .val (.long p2), .second, .val (.long p3), .second, .val (.int p4), .unset, .unset, .unset, .unset, .unset, .unset, .unset, .unset, .unset, .unset, .unset] [(.long p1), (.long p0), (.ref b1), (.ref b1)])) target
    refine XT.lload X78.here hx rfl (hb hby at_6) rfl ?_
    show Steps p.tables e below (T78.setTop (mkF m 8 #[.val (.long p0), .second, .val (.long p1), .second, .val (.long p2), .second, .val (.long p3), .second, .val (.int p4), .unset, .unset, .unset, .unset, .unset, .unset, .unset, .unset, .unset, .unset, .unset] [(.long p2), (.long p1), (.long p0), (.ref b1), (.ref b1)])) target
    exact kt
  obtain ⟨_, _, ⟨T81, L81, k81, n81⟩, -, X81, ⟨Lc81, hQ81, l81, y81, z81⟩, st81⟩ := X78.specialBack hx (y := (⟨"com/example/bitloom/bitloom/BitmapStatistics$Kind", "<init>", "(JJJ)V"⟩ : MethodName)) rfl hown (mvT hZ (hw _ (List.mem_of_getElem? (i := 3) rfl))) (mvT hZ (hw _ (List.mem_of_getElem? (i := 4) rfl))) (mvT hZ (hw _ (List.mem_of_getElem? (i := 5) rfl))) (by decide) (backOf (W := 1) (rm1 l Z a0 hw [] b1 p0 p1 p2 h78 n0 Z78 F_chunks_b1 F_values_b1 F_bytes_b1 A78 g_b1) hZ (hw _ (List.mem_of_getElem? (i := 5) rfl)) (hw _ (List.mem_of_getElem? (i := 2) rfl)) (by decide) (by decide)) (g := (mkF m 8 #[.val (.long p0), .second, .val (.long p1), .second, .val (.long p2), .second, .val (.long p3), .second, .val (.int p4), .unset, .unset, .unset, .unset, .unset, .unset, .unset, .unset, .unset, .unset, .unset] [(.long p2), (.long p1), (.long p0), (.ref b1), (.ref b1)])) rfl (by rw [hml]; rfl) (Steps.refl _) (a := b1) (argsL := [(.long p0), (.long p1), (.long p2)]) (rest := [(.ref b1)]) (lenOf pd_2 rfl) rfl (by show 2 * 0 + _ ≤ _; exact Nat.le_of_eq rfl) (hb hby at_8) (fun _ _ => ⟨rfl, e78, (by decide : 1 + 0 ≤ _), (by decide : 3 + 0 ≤ _)⟩)
  dsimp only [Pt.U, Pt.locs, Pt.cells, Pt.slots] at X81 l81 y81 z81 st81 hQ81
  subst l81 y81 z81
  obtain ⟨rfl, Nq81, K81, E81, Fa81, Fb81, Fc81⟩ := hQ81
  have N81 := Fr.app N0 Nq81
  have g82 : own_Go p e below s₁ (entryFrame m #[(.long p0), (.long p1), (.long p2), (.long p3), (.int p4)] maxLocals) T81 (mkF m 11 #[.val (.long p0), .second, .val (.long p1), .second, .val (.long p2), .second, .val (.long p3), .second, .val (.int p4), .unset, .unset, .unset, .unset, .unset, .unset, .unset, .unset, .unset, .unset, .unset] [(.ref b1)]) := fun target kt => g80 target (st81.trans kt)
  have Z81 : n0 ≤ T81.heap.size := Nat.le_trans Z78 K81.1
  have O1 := (O0.ext E78).keep K81 (allS g_b1 all0)
  have g83 : own_Go p e below s₁ (entryFrame m #[(.long p0), (.long p1), (.long p2), (.long p3), (.int p4)] maxLocals) T81 (mkF m 17 #[.val (.long p0), .second, .val (.long p1), .second, .val (.long p2), .second, .val (.long p3), .second, .val (.int p4), .val (.ref b1), .unset, .unset, .unset, .unset, .unset, .unset, .unset, .unset, .unset, .unset] [(.int (p4 &&& (1 : Int32)))]) := by
    intro target kt
    refine g82 target ?_
    refine XS.astore X81.here hx rfl (hb hby at_11) rfl rfl (l' := #[.val (.long p0), .second, .val (.long p1), .second, .val (.long p2), .second, .val (.long p3), .second, .val (.int p4), .val (.ref b1), .unset, .unset, .unset, .unset, .unset, .unset, .unset, .unset, .unset, .unset]) rfl ?_
    show Steps p.tables e below (T81.setTop (mkF m 13 #[.val (.long p0), .second, .val (.long p1), .second, .val (.long p2), .second, .val (.long p3), .second, .val (.int p4), .val (.ref b1), .unset, .unset, .unset, .unset, .unset, .unset, .unset, .unset, .unset, .unset] [])) target
    refine XS.iload X81.here hx rfl (hb hby at_13) rfl ?_
    show Steps p.tables e below (T81.setTop (mkF m 15 #[.val (.long p0), .second, .val (.long p1), .second, .val (.long p2), .second, .val (.long p3), .second, .val (.int p4), .val (.ref b1), .unset, .unset, .unset, .unset, .unset, .unset, .unset, .unset, .unset, .unset] [(.int p4)])) target
    refine XT.iconstV X81.here hx rfl (1 : Int32) (hb hby at_15) rfl ?_
    show Steps p.tables e below (T81.setTop (mkF m 16 #[.val (.long p0), .second, .val (.long p1), .second, .val (.long p2), .second, .val (.long p3), .second, .val (.int p4), .val (.ref b1), .unset, .unset, .unset, .unset, .unset, .unset, .unset, .unset, .unset, .unset] [(.int (1 : Int32)), (.int p4)])) target
    refine XS.iand X81.here hx rfl (hb hby at_16) rfl ?_
    show Steps p.tables e below (T81.setTop (mkF m 17 #[.val (.long p0), .second, .val (.long p1), .second, .val (.long p2), .second, .val (.long p3), .second, .val (.int p4), .val (.ref b1), .unset, .unset, .unset, .unset, .unset, .unset, .unset, .unset, .unset, .unset] [(.int (p4 &&& (1 : Int32)))])) target
    exact kt
  obtain ⟨yc, hm87, g87⟩ : ∃ (yc : Int64), (yc = (if (p4 &&& (1 : Int32)) = 0 then p3 else p0)) ∧ own_Go p e below s₁ (entryFrame m #[(.long p0), (.long p1), (.long p2), (.long p3), (.int p4)] maxLocals) T81 (mkF m 26 #[.val (.long p0), .second, .val (.long p1), .second, .val (.long p2), .second, .val (.long p3), .second, .val (.int p4), .val (.ref b1), .unset, .unset, .unset, .unset, .unset, .unset, .unset, .unset, .unset, .unset] [(.long yc)]) := by
    by_cases hc84 : (p4 &&& (1 : Int32)) = 0
    · have g85 : own_Go p e below s₁ (entryFrame m #[(.long p0), (.long p1), (.long p2), (.long p3), (.int p4)] maxLocals) T81 (mkF m 26 #[.val (.long p0), .second, .val (.long p1), .second, .val (.long p2), .second, .val (.long p3), .second, .val (.int p4), .val (.ref b1), .unset, .unset, .unset, .unset, .unset, .unset, .unset, .unset, .unset, .unset] [(.long p3)]) := by
        intro target kt
        refine g83 target ?_
        refine XS.ifYes X81.here hx rfl (pc0 := 17) (pc' := 24) rfl (hb hby at_17) rfl (XT.i0_eq_t hc84) (by decide) (by decide) ?_
        show Steps p.tables e below (T81.setTop (mkF m 24 #[.val (.long p0), .second, .val (.long p1), .second, .val (.long p2), .second, .val (.long p3), .second, .val (.int p4), .val (.ref b1), .unset, .unset, .unset, .unset, .unset, .unset, .unset, .unset, .unset, .unset] [])) target
        refine XT.lload X81.here hx rfl (hb hby at_24) rfl ?_
        show Steps p.tables e below (T81.setTop (mkF m 26 #[.val (.long p0), .second, .val (.long p1), .second, .val (.long p2), .second, .val (.long p3), .second, .val (.int p4), .val (.ref b1), .unset, .unset, .unset, .unset, .unset, .unset, .unset, .unset, .unset, .unset] [(.long p3)])) target
        exact kt
      exact ⟨p3, (by simp only [if_pos hc84]), g85⟩
    · have g86 : own_Go p e below s₁ (entryFrame m #[(.long p0), (.long p1), (.long p2), (.long p3), (.int p4)] maxLocals) T81 (mkF m 26 #[.val (.long p0), .second, .val (.long p1), .second, .val (.long p2), .second, .val (.long p3), .second, .val (.int p4), .val (.ref b1), .unset, .unset, .unset, .unset, .unset, .unset, .unset, .unset, .unset, .unset] [(.long p0)]) := by
        intro target kt
        refine g83 target ?_
        refine XS.ifNo X81.here hx rfl (hb hby at_17) rfl (XT.i0_eq_f hc84) ?_
        show Steps p.tables e below (T81.setTop (mkF m 20 #[.val (.long p0), .second, .val (.long p1), .second, .val (.long p2), .second, .val (.long p3), .second, .val (.int p4), .val (.ref b1), .unset, .unset, .unset, .unset, .unset, .unset, .unset, .unset, .unset, .unset] [])) target
        refine XT.lloadN X81.here hx rfl (hb hby at_20) rfl ?_
        show Steps p.tables e below (T81.setTop (mkF m 21 #[.val (.long p0), .second, .val (.long p1), .second, .val (.long p2), .second, .val (.long p3), .second, .val (.int p4), .val (.ref b1), .unset, .unset, .unset, .unset, .unset, .unset, .unset, .unset, .unset, .unset] [(.long p0)])) target
        refine XS.goto X81.here hx rfl (pc0 := 21) (pc' := 26) rfl (hb hby at_21) (by decide) (by decide) ?_
        show Steps p.tables e below (T81.setTop (mkF m 26 #[.val (.long p0), .second, .val (.long p1), .second, .val (.long p2), .second, .val (.long p3), .second, .val (.int p4), .val (.ref b1), .unset, .unset, .unset, .unset, .unset, .unset, .unset, .unset, .unset, .unset] [(.long p0)])) target
        exact kt
      exact ⟨p0, (by simp only [if_neg hc84]), g86⟩
  have g88 : own_Go p e below s₁ (entryFrame m #[(.long p0), (.long p1), (.long p2), (.long p3), (.int p4)] maxLocals) T81 (mkF m 32 #[.val (.long p0), .second, .val (.long p1), .second, .val (.long p2), .second, .val (.long p3), .second, .val (.int p4), .val (.ref b1), .val (.long yc), .second, .unset, .unset, .unset, .unset, .unset, .unset, .unset, .unset] [(.int (p4 &&& (2 : Int32)))]) := by
    intro target kt
    refine g87 target ?_
    refine XT.lstore X81.here hx rfl (hb hby at_26) rfl (l' := #[.val (.long p0), .second, .val (.long p1), .second, .val (.long p2), .second, .val (.long p3), .second, .val (.int p4), .val (.ref b1), .val (.long yc), .second, .unset, .unset, .unset, .unset, .unset, .unset, .unset, .unset]) rfl ?_
    show Steps p.tables e below (T81.setTop (mkF m 28 #[.val (.long p0), .second, .val (.long p1), .second, .val (.long p2), .second, .val (.long p3), .second, .val (.int p4), .val (.ref b1), .val (.long yc), .second, .unset, .unset, .unset, .unset, .unset, .unset, .unset, .unset] [])) target
    refine XS.iload X81.here hx rfl (hb hby at_28) rfl ?_
    show Steps p.tables e below (T81.setTop (mkF m 30 #[.val (.long p0), .second, .val (.long p1), .second, .val (.long p2), .second, .val (.long p3), .second, .val (.int p4), .val (.ref b1), .val (.long yc), .second, .unset, .unset, .unset, .unset, .unset, .unset, .unset, .unset] [(.int p4)])) target
    refine XT.iconstV X81.here hx rfl (2 : Int32) (hb hby at_30) rfl ?_
    show Steps p.tables e below (T81.setTop (mkF m 31 #[.val (.long p0), .second, .val (.long p1), .second, .val (.long p2), .second, .val (.long p3), .second, .val (.int p4), .val (.ref b1), .val (.long yc), .second, .unset, .unset, .unset, .unset, .unset, .unset, .unset, .unset] [(.int (2 : Int32)), (.int p4)])) target
    refine XS.iand X81.here hx rfl (hb hby at_31) rfl ?_
    show Steps p.tables e below (T81.setTop (mkF m 32 #[.val (.long p0), .second, .val (.long p1), .second, .val (.long p2), .second, .val (.long p3), .second, .val (.int p4), .val (.ref b1), .val (.long yc), .second, .unset, .unset, .unset, .unset, .unset, .unset, .unset, .unset] [(.int (p4 &&& (2 : Int32)))])) target
    exact kt
  obtain ⟨yv, hm92, g92⟩ : ∃ (yv : Int64), (yv = (if (p4 &&& (2 : Int32)) = 0 then p3 else p1)) ∧ own_Go p e below s₁ (entryFrame m #[(.long p0), (.long p1), (.long p2), (.long p3), (.int p4)] maxLocals) T81 (mkF m 41 #[.val (.long p0), .second, .val (.long p1), .second, .val (.long p2), .second, .val (.long p3), .second, .val (.int p4), .val (.ref b1), .val (.long yc), .second, .unset, .unset, .unset, .unset, .unset, .unset, .unset, .unset] [(.long yv)]) := by
    by_cases hc89 : (p4 &&& (2 : Int32)) = 0
    · have g90 : own_Go p e below s₁ (entryFrame m #[(.long p0), (.long p1), (.long p2), (.long p3), (.int p4)] maxLocals) T81 (mkF m 41 #[.val (.long p0), .second, .val (.long p1), .second, .val (.long p2), .second, .val (.long p3), .second, .val (.int p4), .val (.ref b1), .val (.long yc), .second, .unset, .unset, .unset, .unset, .unset, .unset, .unset, .unset] [(.long p3)]) := by
        intro target kt
        refine g88 target ?_
        refine XS.ifYes X81.here hx rfl (pc0 := 32) (pc' := 39) rfl (hb hby at_32) rfl (XT.i0_eq_t hc89) (by decide) (by decide) ?_
        show Steps p.tables e below (T81.setTop (mkF m 39 #[.val (.long p0), .second, .val (.long p1), .second, .val (.long p2), .second, .val (.long p3), .second, .val (.int p4), .val (.ref b1), .val (.long yc), .second, .unset, .unset, .unset, .unset, .unset, .unset, .unset, .unset] [])) target
        refine XT.lload X81.here hx rfl (hb hby at_39) rfl ?_
        show Steps p.tables e below (T81.setTop (mkF m 41 #[.val (.long p0), .second, .val (.long p1), .second, .val (.long p2), .second, .val (.long p3), .second, .val (.int p4), .val (.ref b1), .val (.long yc), .second, .unset, .unset, .unset, .unset, .unset, .unset, .unset, .unset] [(.long p3)])) target
        exact kt
      exact ⟨p3, (by simp only [if_pos hc89]), g90⟩
    · have g91 : own_Go p e below s₁ (entryFrame m #[(.long p0), (.long p1), (.long p2), (.long p3), (.int p4)] maxLocals) T81 (mkF m 41 #[.val (.long p0), .second, .val (.long p1), .second, .val (.long p2), .second, .val (.long p3), .second, .val (.int p4), .val (.ref b1), .val (.long yc), .second, .unset, .unset, .unset, .unset, .unset, .unset, .unset, .unset] [(.long p1)]) := by
        intro target kt
        refine g88 target ?_
        refine XS.ifNo X81.here hx rfl (hb hby at_32) rfl (XT.i0_eq_f hc89) ?_
        show Steps p.tables e below (T81.setTop (mkF m 35 #[.val (.long p0), .second, .val (.long p1), .second, .val (.long p2), .second, .val (.long p3), .second, .val (.int p4), .val (.ref b1), .val (.long yc), .second, .unset, .unset, .unset, .unset, .unset, .unset, .unset, .unset] [])) target
        refine XT.lloadN X81.here hx rfl (hb hby at_35) rfl ?_
        show Steps p.tables e below (T81.setTop (mkF m 36 #[.val (.long p0), .second, .val (.long p1), .second, .val (.long p2), .second, .val (.long p3), .second, .val (.int p4), .val (.ref b1), .val (.long yc), .second, .unset, .unset, .unset, .unset, .unset, .unset, .unset, .unset] [(.long p1)])) target
        refine XS.goto X81.here hx rfl (pc0 := 36) (pc' := 41) rfl (hb hby at_36) (by decide) (by decide) ?_
        show Steps p.tables e below (T81.setTop (mkF m 41 #[.val (.long p0), .second, .val (.long p1), .second, .val (.long p2), .second, .val (.long p3), .second, .val (.int p4), .val (.ref b1), .val (.long yc), .second, .unset, .unset, .unset, .unset, .unset, .unset, .unset, .unset] [(.long p1)])) target
        exact kt
      exact ⟨p1, (by simp only [if_neg hc89]), g91⟩
  have g93 : own_Go p e below s₁ (entryFrame m #[(.long p0), (.long p1), (.long p2), (.long p3), (.int p4)] maxLocals) T81 (mkF m 47 #[.val (.long p0), .second, .val (.long p1), .second, .val (.long p2), .second, .val (.long p3), .second, .val (.int p4), .val (.ref b1), .val (.long yc), .second, .val (.long yv), .second, .unset, .unset, .unset, .unset, .unset, .unset] [(.int (p4 &&& (4 : Int32)))]) := by
    intro target kt
    refine g92 target ?_
    refine XT.lstore X81.here hx rfl (hb hby at_41) rfl (l' := #[.val (.long p0), .second, .val (.long p1), .second, .val (.long p2), .second, .val (.long p3), .second, .val (.int p4), .val (.ref b1), .val (.long yc), .second, .val (.long yv), .second, .unset, .unset, .unset, .unset, .unset, .unset]) rfl ?_
    show Steps p.tables e below (T81.setTop (mkF m 43 #[.val (.long p0), .second, .val (.long p1), .second, .val (.long p2), .second, .val (.long p3), .second, .val (.int p4), .val (.ref b1), .val (.long yc), .second, .val (.long yv), .second, .unset, .unset, .unset, .unset, .unset, .unset] [])) target
    refine XS.iload X81.here hx rfl (hb hby at_43) rfl ?_
    show Steps p.tables e below (T81.setTop (mkF m 45 #[.val (.long p0), .second, .val (.long p1), .second, .val (.long p2), .second, .val (.long p3), .second, .val (.int p4), .val (.ref b1), .val (.long yc), .second, .val (.long yv), .second, .unset, .unset, .unset, .unset, .unset, .unset] [(.int p4)])) target
    refine XT.iconstV X81.here hx rfl (4 : Int32) (hb hby at_45) rfl ?_
    show Steps p.tables e below (T81.setTop (mkF m 46 #[.val (.long p0), .second, .val (.long p1), .second, .val (.long p2), .second, .val (.long p3), .second, .val (.int p4), .val (.ref b1), .val (.long yc), .second, .val (.long yv), .second, .unset, .unset, .unset, .unset, .unset, .unset] [(.int (4 : Int32)), (.int p4)])) target
    refine XS.iand X81.here hx rfl (hb hby at_46) rfl ?_
    show Steps p.tables e below (T81.setTop (mkF m 47 #[.val (.long p0), .second, .val (.long p1), .second, .val (.long p2), .second, .val (.long p3), .second, .val (.int p4), .val (.ref b1), .val (.long yc), .second, .val (.long yv), .second, .unset, .unset, .unset, .unset, .unset, .unset] [(.int (p4 &&& (4 : Int32)))])) target
    exact kt
  obtain ⟨yb, hm97, g97⟩ : ∃ (yb : Int64), (yb = (if (p4 &&& (4 : Int32)) = 0 then p3 else p2)) ∧ own_Go p e below s₁ (entryFrame m #[(.long p0), (.long p1), (.long p2), (.long p3), (.int p4)] maxLocals) T81 (mkF m 57 #[.val (.long p0), .second, .val (.long p1), .second, .val (.long p2), .second, .val (.long p3), .second, .val (.int p4), .val (.ref b1), .val (.long yc), .second, .val (.long yv), .second, .unset, .unset, .unset, .unset, .unset, .unset] [(.long yb)]) := by
    by_cases hc94 : (p4 &&& (4 : Int32)) = 0
    · have g95 : own_Go p e below s₁ (entryFrame m #[(.long p0), (.long p1), (.long p2), (.long p3), (.int p4)] maxLocals) T81 (mkF m 57 #[.val (.long p0), .second, .val (.long p1), .second, .val (.long p2), .second, .val (.long p3), .second, .val (.int p4), .val (.ref b1), .val (.long yc), .second, .val (.long yv), .second, .unset, .unset, .unset, .unset, .unset, .unset] [(.long p3)]) := by
        intro target kt
        refine g93 target ?_
        refine XS.ifYes X81.here hx rfl (pc0 := 47) (pc' := 55) rfl (hb hby at_47) rfl (XT.i0_eq_t hc94) (by decide) (by decide) ?_
        show Steps p.tables e below (T81.setTop (mkF m 55 #[.val (.long p0), .second, .val (.long p1), .second, .val (.long p2), .second, .val (.long p3), .second, .val (.int p4), .val (.ref b1), .val (.long yc), .second, .val (.long yv), .second, .unset, .unset, .unset, .unset, .unset, .unset] [])) target
        refine XT.lload X81.here hx rfl (hb hby at_55) rfl ?_
        show Steps p.tables e below (T81.setTop (mkF m 57 #[.val (.long p0), .second, .val (.long p1), .second, .val (.long p2), .second, .val (.long p3), .second, .val (.int p4), .val (.ref b1), .val (.long yc), .second, .val (.long yv), .second, .unset, .unset, .unset, .unset, .unset, .unset] [(.long p3)])) target
        exact kt
      exact ⟨p3, (by simp only [if_pos hc94]), g95⟩
    · have g96 : own_Go p e below s₁ (entryFrame m #[(.long p0), (.long p1), (.long p2), (.long p3), (.int p4)] maxLocals) T81 (mkF m 57 #[.val (.long p0), .second, .val (.long p1), .second, .val (.long p2), .second, .val (.long p3), .second, .val (.int p4), .val (.ref b1), .val (.long yc), .second, .val (.long yv), .second, .unset, .unset, .unset, .unset, .unset, .unset] [(.long p2)]) := by
        intro target kt
        refine g93 target ?_
        refine XS.ifNo X81.here hx rfl (hb hby at_47) rfl (XT.i0_eq_f hc94) ?_
        show Steps p.tables e below (T81.setTop (mkF m 50 #[.val (.long p0), .second, .val (.long p1), .second, .val (.long p2), .second, .val (.long p3), .second, .val (.int p4), .val (.ref b1), .val (.long yc), .second, .val (.long yv), .second, .unset, .unset, .unset, .unset, .unset, .unset] [])) target
        refine XT.lload X81.here hx rfl (hb hby at_50) rfl ?_
        show Steps p.tables e below (T81.setTop (mkF m 52 #[.val (.long p0), .second, .val (.long p1), .second, .val (.long p2), .second, .val (.long p3), .second, .val (.int p4), .val (.ref b1), .val (.long yc), .second, .val (.long yv), .second, .unset, .unset, .unset, .unset, .unset, .unset] [(.long p2)])) target
        refine XS.goto X81.here hx rfl (pc0 := 52) (pc' := 57) rfl (hb hby at_52) (by decide) (by decide) ?_
        show Steps p.tables e below (T81.setTop (mkF m 57 #[.val (.long p0), .second, .val (.long p1), .second, .val (.long p2), .second, .val (.long p3), .second, .val (.int p4), .val (.ref b1), .val (.long yc), .second, .val (.long yv), .second, .unset, .unset, .unset, .unset, .unset, .unset] [(.long p2)])) target
        exact kt
      exact ⟨p2, (by simp only [if_neg hc94]), g96⟩
  have g98 : own_Go p e below s₁ (entryFrame m #[(.long p0), (.long p1), (.long p2), (.long p3), (.int p4)] maxLocals) T81 (mkF m 59 #[.val (.long p0), .second, .val (.long p1), .second, .val (.long p2), .second, .val (.long p3), .second, .val (.int p4), .val (.ref b1), .val (.long yc), .second, .val (.long yv), .second, .val (.long yb), .second, .unset, .unset, .unset, .unset] []) := by
    intro target kt
    refine g97 target ?_
    refine XT.lstore X81.here hx rfl (hb hby at_57) rfl (l' := #[.val (.long p0), .second, .val (.long p1), .second, .val (.long p2), .second, .val (.long p3), .second, .val (.int p4), .val (.ref b1), .val (.long yc), .second, .val (.long yv), .second, .val (.long yb), .second, .unset, .unset, .unset, .unset]) rfl ?_
    show Steps p.tables e below (T81.setTop (mkF m 59 #[.val (.long p0), .second, .val (.long p1), .second, .val (.long p2), .second, .val (.long p3), .second, .val (.int p4), .val (.ref b1), .val (.long yc), .second, .val (.long yv), .second, .val (.long yb), .second, .unset, .unset, .unset, .unset] [])) target
    exact kt
  obtain ⟨T99, h99, X99, e99, E99, A99, D99, -, st99⟩ := newO X81 hx hZ hown (hw _ (List.mem_of_getElem? (i := 0) rfl)) (hw _ (List.mem_of_getElem? (i := 1) rfl)) (hw _ (List.mem_of_getElem? (i := 2) rfl)) rfl (g := (mkF m 59 #[.val (.long p0), .second, .val (.long p1), .second, .val (.long p2), .second, .val (.long p3), .second, .val (.int p4), .val (.ref b1), .val (.long yc), .second, .val (.long yv), .second, .val (.long yb), .second, .unset, .unset, .unset, .unset] [])) rfl (hb hby at_59) (by decide) (by decide)
  obtain ⟨b2, ga99⟩ : ∃ z, z = T81.heap.size := ⟨_, rfl⟩
  rw [← ga99] at A99 D99 st99
  have Z99 : n0 ≤ h99.size := Nat.le_trans Z81 E99.1
  have g_b2 : n0 ≤ b2 := Nat.le_trans Z81 (Nat.le_of_eq ga99.symm)
  have F_chunks_b2 : Fld Z h99 b2 "com/example/bitloom/bitloom/BitmapStatistics$Kind" "chunks" "J" (.long (0 : Int64)) := D99 (Or.inr (hw _ (List.mem_of_getElem? (i := 10) rfl))) (ty := .long) (by decide)
  have F_values_b2 : Fld Z h99 b2 "com/example/bitloom/bitloom/BitmapStatistics$Kind" "values" "J" (.long (0 : Int64)) := D99 (Or.inr (hw _ (List.mem_of_getElem? (i := 12) rfl))) (ty := .long) (by decide)
  have F_bytes_b2 : Fld Z h99 b2 "com/example/bitloom/bitloom/BitmapStatistics$Kind" "bytes" "J" (.long (0 : Int64)) := D99 (Or.inr (hw _ (List.mem_of_getElem? (i := 14) rfl))) (ty := .long) (by decide)
  have g100 : own_Go p e below s₁ (entryFrame m #[(.long p0), (.long p1), (.long p2), (.long p3), (.int p4)] maxLocals) T99 (mkF m 62 #[.val (.long p0), .second, .val (.long p1), .second, .val (.long p2), .second, .val (.long p3), .second, .val (.int p4), .val (.ref b1), .val (.long yc), .second, .val (.long yv), .second, .val (.long yb), .second, .unset, .unset, .unset, .unset] [(.ref b2)]) := fun target kt => g98 target (st99 target kt)
  have g101 : own_Go p e below s₁ (entryFrame m #[(.long p0), (.long p1), (.long p2), (.long p3), (.int p4)] maxLocals) T99 (mkF m 69 #[.val (.long p0), .second, .val (.long p1), .second, .val (.long p2), .second, .val (.long p3), .second, .val (.int p4), .val (.ref b1), .val (.long yc), .second, .val (.long yv), .second, .val (.long yb), .second, .unset, .unset, .unset, .unset] [(.long yb), (.long yv), (.long yc), (.ref b2), (.ref b2)]) := by
    intro target kt
    refine g100 target ?_
    refine XS.dup X99.here hx rfl (hb hby at_62) rfl rfl ?_
    show Steps p.tables e below (T99.setTop (mkF m 63 #[.val (.long p0), .second, .val (.long p1), .second, .val (.long p2), .second, .val (.long p3), .second, .val (.int p4), .val (.ref b1), .val (.long yc), .second, .val (.long yv), .second, .val (.long yb), .second, .unset, .unset, .unset, .unset] [(.ref b2), (.ref b2)])) target
    refine XT.lload X99.here hx rfl (hb hby at_63) rfl ?_
    show Steps p.tables e below (T99.setTop (mkF m 65 #[.val (.long p0), .second, .val (.long p1), .second, .val (.long p2), .second, .val (.long p3), .second, .val (.int p4), .val (.ref b1), .val (.long yc), .second, .val (.long yv), .second, .val (.long yb), .second, .unset, .unset, .unset, .unset] [(.long yc), (.ref b2), (.ref b2)])) target
    refine XT.lload X99.here hx rfl (hb hby at_65) rfl ?_
    show Steps p.tables e below (T99.setTop (mkF m 67 #[.val (.long p0), .second, .val (.long p1), .second, .val (.long p2), .second, .val (.long p3), .second, .val (.int p4), .val (.ref b1), .val (.long yc), .second, .val (.long yv), .second, .val (.long yb), .second, .unset, .unset, .unset, .unset] [(.long yv), (.long yc), (.ref b2), (.ref b2)])) target
    refine XT.lload X99.here hx rfl (hb hby at_67) rfl ?_
    show Steps p.tables e below (T99.setTop (mkF m 69 #[.val (.long p0), .second, .val (.long p1), .second, .val (.long p2), .second, .val (.long p3), .second, .val (.int p4), .val (.ref b1), .val (.long yc), .second, .val (.long yv), .second, .val (.long yb), .second, .unset, .unset, .unset, .unset] [(.long yb), (.long yv), (.long yc), (.ref b2), (.ref b2)])) target
    exact kt
  obtain ⟨_, _, ⟨T102, L102, k102, n102⟩, -, X102, ⟨Lc102, hQ102, l102, y102, z102⟩, st102⟩ := X99.specialBack hx (y := (⟨"com/example/bitloom/bitloom/BitmapStatistics$Kind", "<init>", "(JJJ)V"⟩ : MethodName)) rfl hown (mvT hZ (hw _ (List.mem_of_getElem? (i := 3) rfl))) (mvT hZ (hw _ (List.mem_of_getElem? (i := 4) rfl))) (mvT hZ (hw _ (List.mem_of_getElem? (i := 5) rfl))) (by decide) (backOf (W := 1) (rm1 l Z a0 hw [] b2 yc yv yb h99 n0 Z99 F_chunks_b2 F_values_b2 F_bytes_b2 A99 g_b2) hZ (hw _ (List.mem_of_getElem? (i := 5) rfl)) (hw _ (List.mem_of_getElem? (i := 2) rfl)) (by decide) (by decide)) (g := (mkF m 69 #[.val (.long p0), .second, .val (.long p1), .second, .val (.long p2), .second, .val (.long p3), .second, .val (.int p4), .val (.ref b1), .val (.long yc), .second, .val (.long yv), .second, .val (.long yb), .second, .unset, .unset, .unset, .unset] [(.long yb), (.long yv), (.long yc), (.ref b2), (.ref b2)])) rfl (by rw [hml]; rfl) (Steps.refl _) (a := b2) (argsL := [(.long yc), (.long yv), (.long yb)]) (rest := [(.ref b2)]) (lenOf pd_2 rfl) rfl (by show 2 * 0 + _ ≤ _; exact Nat.le_of_eq rfl) (hb hby at_69) (fun _ _ => ⟨rfl, e99, (by decide : 2 + 0 ≤ _), (by decide : 6 + 0 ≤ _)⟩)
  dsimp only [Pt.U, Pt.locs, Pt.cells, Pt.slots] at X102 l102 y102 z102 st102 hQ102
  subst l102 y102 z102
  obtain ⟨rfl, Nq102, K102, E102, Fa102, Fb102, Fc102⟩ := hQ102
  have N102 := Fr.app N81 Nq102
  have g103 : own_Go p e below s₁ (entryFrame m #[(.long p0), (.long p1), (.long p2), (.long p3), (.int p4)] maxLocals) T102 (mkF m 72 #[.val (.long p0), .second, .val (.long p1), .second, .val (.long p2), .second, .val (.long p3), .second, .val (.int p4), .val (.ref b1), .val (.long yc), .second, .val (.long yv), .second, .val (.long yb), .second, .unset, .unset, .unset, .unset] [(.ref b2)]) := fun target kt => g101 target (st102.trans kt)
  have Z102 : n0 ≤ T102.heap.size := Nat.le_trans Z99 K102.1
  have hne : b1 ≠ b2 := Nat.ne_of_lt (Nat.lt_of_lt_of_le E81.lt (Nat.le_of_eq ga99.symm))
  have hnin : b1 ∉ [b2] := ninS hne nin0
  have Xa := (Fa81.ext E99).keep K102 hnin
  have Xb := (Fb81.ext E99).keep K102 hnin
  have Xc := (Fc81.ext E99).keep K102 hnin
  have EX1 := (E81.ext E99).keep K102
  have O2 := (O1.ext E99).keep K102 (allS g_b2 all0)
  obtain ⟨hp, ehp⟩ : ∃ z, z = T102.heap := ⟨_, rfl⟩
  rw [← ehp] at Z102 Xa Xb Xc EX1 O2 E102 Fa102 Fb102 Fc102
  have g104 : own_Go p e below s₁ (entryFrame m #[(.long p0), (.long p1), (.long p2), (.long p3), (.int p4)] maxLocals) T102 (mkF m 84 #[.val (.long p0), .second, .val (.long p1), .second, .val (.long p2), .second, .val (.long p3), .second, .val (.int p4), .val (.ref b1), .val (.long yc), .second, .val (.long yv), .second, .val (.long yb), .second, .val (.ref b2), .val (.int ((XT.ushr p4 (3 : Int32)) &&& (3 : Int32))), .unset, .unset] [(.int ((XT.ushr p4 (3 : Int32)) &&& (3 : Int32)))]) := by
    intro target kt
    refine g103 target ?_
    refine XS.astore X102.here hx rfl (hb hby at_72) rfl rfl (l' := #[.val (.long p0), .second, .val (.long p1), .second, .val (.long p2), .second, .val (.long p3), .second, .val (.int p4), .val (.ref b1), .val (.long yc), .second, .val (.long yv), .second, .val (.long yb), .second, .val (.ref b2), .unset, .unset, .unset]) rfl ?_
    show Steps p.tables e below (T102.setTop (mkF m 74 #[.val (.long p0), .second, .val (.long p1), .second, .val (.long p2), .second, .val (.long p3), .second, .val (.int p4), .val (.ref b1), .val (.long yc), .second, .val (.long yv), .second, .val (.long yb), .second, .val (.ref b2), .unset, .unset, .unset] [])) target
    refine XS.iload X102.here hx rfl (hb hby at_74) rfl ?_
    show Steps p.tables e below (T102.setTop (mkF m 76 #[.val (.long p0), .second, .val (.long p1), .second, .val (.long p2), .second, .val (.long p3), .second, .val (.int p4), .val (.ref b1), .val (.long yc), .second, .val (.long yv), .second, .val (.long yb), .second, .val (.ref b2), .unset, .unset, .unset] [(.int p4)])) target
    refine XT.iconstV X102.here hx rfl (3 : Int32) (hb hby at_76) rfl ?_
    show Steps p.tables e below (T102.setTop (mkF m 77 #[.val (.long p0), .second, .val (.long p1), .second, .val (.long p2), .second, .val (.long p3), .second, .val (.int p4), .val (.ref b1), .val (.long yc), .second, .val (.long yv), .second, .val (.long yb), .second, .val (.ref b2), .unset, .unset, .unset] [(.int (3 : Int32)), (.int p4)])) target
    refine XT.iushr X102.here hx rfl (hb hby at_77) rfl ?_
    show Steps p.tables e below (T102.setTop (mkF m 78 #[.val (.long p0), .second, .val (.long p1), .second, .val (.long p2), .second, .val (.long p3), .second, .val (.int p4), .val (.ref b1), .val (.long yc), .second, .val (.long yv), .second, .val (.long yb), .second, .val (.ref b2), .unset, .unset, .unset] [(.int (XT.ushr p4 (3 : Int32)))])) target
    refine XT.iconstV X102.here hx rfl (3 : Int32) (hb hby at_78) rfl ?_
    show Steps p.tables e below (T102.setTop (mkF m 79 #[.val (.long p0), .second, .val (.long p1), .second, .val (.long p2), .second, .val (.long p3), .second, .val (.int p4), .val (.ref b1), .val (.long yc), .second, .val (.long yv), .second, .val (.long yb), .second, .val (.ref b2), .unset, .unset, .unset] [(.int (3 : Int32)), (.int (XT.ushr p4 (3 : Int32)))])) target
    refine XS.iand X102.here hx rfl (hb hby at_79) rfl ?_
    show Steps p.tables e below (T102.setTop (mkF m 80 #[.val (.long p0), .second, .val (.long p1), .second, .val (.long p2), .second, .val (.long p3), .second, .val (.int p4), .val (.ref b1), .val (.long yc), .second, .val (.long yv), .second, .val (.long yb), .second, .val (.ref b2), .unset, .unset, .unset] [(.int ((XT.ushr p4 (3 : Int32)) &&& (3 : Int32)))])) target
    refine XS.istore X102.here hx rfl (hb hby at_80) rfl (l' := #[.val (.long p0), .second, .val (.long p1), .second, .val (.long p2), .second, .val (.long p3), .second, .val (.int p4), .val (.ref b1), .val (.long yc), .second, .val (.long yv), .second, .val (.long yb), .second, .val (.ref b2), .val (.int ((XT.ushr p4 (3 : Int32)) &&& (3 : Int32))), .unset, .unset]) rfl ?_
    show Steps p.tables e below (T102.setTop (mkF m 82 #[.val (.long p0), .second, .val (.long p1), .second, .val (.long p2), .second, .val (.long p3), .second, .val (.int p4), .val (.ref b1), .val (.long yc), .second, .val (.long yv), .second, .val (.long yb), .second, .val (.ref b2), .val (.int ((XT.ushr p4 (3 : Int32)) &&& (3 : Int32))), .unset, .unset] [])) target
    refine XS.iload X102.here hx rfl (hb hby at_82) rfl ?_
    show Steps p.tables e below (T102.setTop (mkF m 84 #[.val (.long p0), .second, .val (.long p1), .second, .val (.long p2), .second, .val (.long p3), .second, .val (.int p4), .val (.ref b1), .val (.long yc), .second, .val (.long yv), .second, .val (.long yb), .second, .val (.ref b2), .val (.int ((XT.ushr p4 (3 : Int32)) &&& (3 : Int32))), .unset, .unset] [(.int ((XT.ushr p4 (3 : Int32)) &&& (3 : Int32)))])) target
    exact kt
  by_cases hc105 : ((XT.ushr p4 (3 : Int32)) &&& (3 : Int32)) = 0
  · have g106 : own_Go p e below s₁ (entryFrame m #[(.long p0), (.long p1), (.long p2), (.long p3), (.int p4)] maxLocals) T102 (mkF m 91 #[.val (.long p0), .second, .val (.long p1), .second, .val (.long p2), .second, .val (.long p3), .second, .val (.int p4), .val (.ref b1), .val (.long yc), .second, .val (.long yv), .second, .val (.long yb), .second, .val (.ref b2), .val (.int ((XT.ushr p4 (3 : Int32)) &&& (3 : Int32))), .val (.ref b2), .unset] []) := by
      intro target kt
      refine g104 target ?_
      refine XS.ifNo X102.here hx rfl (hb hby at_84) rfl (XT.i0_ne_f hc105) ?_
      show Steps p.tables e below (T102.setTop (mkF m 87 #[.val (.long p0), .second, .val (.long p1), .second, .val (.long p2), .second, .val (.long p3), .second, .val (.int p4), .val (.ref b1), .val (.long yc), .second, .val (.long yv), .second, .val (.long yb), .second, .val (.ref b2), .val (.int ((XT.ushr p4 (3 : Int32)) &&& (3 : Int32))), .unset, .unset] [])) target
      refine XS.aload X102.here hx rfl (hb hby at_87) rfl rfl ?_
      show Steps p.tables e below (T102.setTop (mkF m 89 #[.val (.long p0), .second, .val (.long p1), .second, .val (.long p2), .second, .val (.long p3), .second, .val (.int p4), .val (.ref b1), .val (.long yc), .second, .val (.long yv), .second, .val (.long yb), .second, .val (.ref b2), .val (.int ((XT.ushr p4 (3 : Int32)) &&& (3 : Int32))), .unset, .unset] [(.ref b2)])) target
      refine XS.astore X102.here hx rfl (hb hby at_89) rfl rfl (l' := #[.val (.long p0), .second, .val (.long p1), .second, .val (.long p2), .second, .val (.long p3), .second, .val (.int p4), .val (.ref b1), .val (.long yc), .second, .val (.long yv), .second, .val (.long yb), .second, .val (.ref b2), .val (.int ((XT.ushr p4 (3 : Int32)) &&& (3 : Int32))), .val (.ref b2), .unset]) rfl ?_
      show Steps p.tables e below (T102.setTop (mkF m 91 #[.val (.long p0), .second, .val (.long p1), .second, .val (.long p2), .second, .val (.long p3), .second, .val (.int p4), .val (.ref b1), .val (.long yc), .second, .val (.long yv), .second, .val (.long yb), .second, .val (.ref b2), .val (.int ((XT.ushr p4 (3 : Int32)) &&& (3 : Int32))), .val (.ref b2), .unset] [])) target
      exact kt
    obtain ⟨ex, hm117, g117⟩ : ∃ (ex : Int32), (ex = (if p0 = yc then (if p1 = yv then (if p2 = yb then (1 : Int32) else (0 : Int32)) else (0 : Int32)) else (0 : Int32))) ∧ own_Go p e below s₁ (entryFrame m #[(.long p0), (.long p1), (.long p2), (.long p3), (.int p4)] maxLocals) T102 (mkF m 118 #[.val (.long p0), .second, .val (.long p1), .second, .val (.long p2), .second, .val (.long p3), .second, .val (.int p4), .val (.ref b1), .val (.long yc), .second, .val (.long yv), .second, .val (.long yb), .second, .val (.ref b2), .val (.int ((XT.ushr p4 (3 : Int32)) &&& (3 : Int32))), .val (.ref b2), .unset] [(.int ex)]) := by
      have g107 : own_Go p e below s₁ (entryFrame m #[(.long p0), (.long p1), (.long p2), (.long p3), (.int p4)] maxLocals) T102 (mkF m 95 #[.val (.long p0), .second, .val (.long p1), .second, .val (.long p2), .second, .val (.long p3), .second, .val (.int p4), .val (.ref b1), .val (.long yc), .second, .val (.long yv), .second, .val (.long yb), .second, .val (.ref b2), .val (.int ((XT.ushr p4 (3 : Int32)) &&& (3 : Int32))), .val (.ref b2), .unset] [(.int (XT.cmpL p0 yc))]) := by
        intro target kt
        refine g106 target ?_
        refine XT.lloadN X102.here hx rfl (hb hby at_91) rfl ?_
        show Steps p.tables e below (T102.setTop (mkF m 92 #[.val (.long p0), .second, .val (.long p1), .second, .val (.long p2), .second, .val (.long p3), .second, .val (.int p4), .val (.ref b1), .val (.long yc), .second, .val (.long yv), .second, .val (.long yb), .second, .val (.ref b2), .val (.int ((XT.ushr p4 (3 : Int32)) &&& (3 : Int32))), .val (.ref b2), .unset] [(.long p0)])) target
        refine XT.lload X102.here hx rfl (hb hby at_92) rfl ?_
        show Steps p.tables e below (T102.setTop (mkF m 94 #[.val (.long p0), .second, .val (.long p1), .second, .val (.long p2), .second, .val (.long p3), .second, .val (.int p4), .val (.ref b1), .val (.long yc), .second, .val (.long yv), .second, .val (.long yb), .second, .val (.ref b2), .val (.int ((XT.ushr p4 (3 : Int32)) &&& (3 : Int32))), .val (.ref b2), .unset] [(.long yc), (.long p0)])) target
        refine XT.lcmp X102.here hx rfl (hb hby at_94) rfl ?_
        show Steps p.tables e below (T102.setTop (mkF m 95 #[.val (.long p0), .second, .val (.long p1), .second, .val (.long p2), .second, .val (.long p3), .second, .val (.int p4), .val (.ref b1), .val (.long yc), .second, .val (.long yv), .second, .val (.long yb), .second, .val (.ref b2), .val (.int ((XT.ushr p4 (3 : Int32)) &&& (3 : Int32))), .val (.ref b2), .unset] [(.int (XT.cmpL p0 yc))])) target
        exact kt
      by_cases hc108 : p0 = yc
      · have g109 : own_Go p e below s₁ (entryFrame m #[(.long p0), (.long p1), (.long p2), (.long p3), (.int p4)] maxLocals) T102 (mkF m 102 #[.val (.long p0), .second, .val (.long p1), .second, .val (.long p2), .second, .val (.long p3), .second, .val (.int p4), .val (.ref b1), .val (.long yc), .second, .val (.long yv), .second, .val (.long yb), .second, .val (.ref b2), .val (.int ((XT.ushr p4 (3 : Int32)) &&& (3 : Int32))), .val (.ref b2), .unset] [(.int (XT.cmpL p1 yv))]) := by
          intro target kt
          refine g107 target ?_
          refine XS.ifNo X102.here hx rfl (hb hby at_95) rfl (XT.ll_ne_f hc108) ?_
          show Steps p.tables e below (T102.setTop (mkF m 98 #[.val (.long p0), .second, .val (.long p1), .second, .val (.long p2), .second, .val (.long p3), .second, .val (.int p4), .val (.ref b1), .val (.long yc), .second, .val (.long yv), .second, .val (.long yb), .second, .val (.ref b2), .val (.int ((XT.ushr p4 (3 : Int32)) &&& (3 : Int32))), .val (.ref b2), .unset] [])) target
          refine XT.lloadN X102.here hx rfl (hb hby at_98) rfl ?_
          show Steps p.tables e below (T102.setTop (mkF m 99 #[.val (.long p0), .second, .val (.long p1), .second, .val (.long p2), .second, .val (.long p3), .second, .val (.int p4), .val (.ref b1), .val (.long yc), .second, .val (.long yv), .second, .val (.long yb), .second, .val (.ref b2), .val (.int ((XT.ushr p4 (3 : Int32)) &&& (3 : Int32))), .val (.ref b2), .unset] [(.long p1)])) target
          refine XT.lload X102.here hx rfl (hb hby at_99) rfl ?_
          show Steps p.tables e below (T102.setTop (mkF m 101 #[.val (.long p0), .second, .val (.long p1), .second, .val (.long p2), .second, .val (.long p3), .second, .val (.int p4), .val (.ref b1), .val (.long yc), .second, .val (.long yv), .second, .val (.long yb), .second, .val (.ref b2), .val (.int ((XT.ushr p4 (3 : Int32)) &&& (3 : Int32))), .val (.ref b2), .unset] [(.long yv), (.long p1)])) target
          refine XT.lcmp X102.here hx rfl (hb hby at_101) rfl ?_
          show Steps p.tables e below (T102.setTop (mkF m 102 #[.val (.long p0), .second, .val (.long p1), .second, .val (.long p2), .second, .val (.long p3), .second, .val (.int p4), .val (.ref b1), .val (.long yc), .second, .val (.long yv), .second, .val (.long yb), .second, .val (.ref b2), .val (.int ((XT.ushr p4 (3 : Int32)) &&& (3 : Int32))), .val (.ref b2), .unset] [(.int (XT.cmpL p1 yv))])) target
          exact kt
        by_cases hc110 : p1 = yv
        · have g111 : own_Go p e below s₁ (entryFrame m #[(.long p0), (.long p1), (.long p2), (.long p3), (.int p4)] maxLocals) T102 (mkF m 110 #[.val (.long p0), .second, .val (.long p1), .second, .val (.long p2), .second, .val (.long p3), .second, .val (.int p4), .val (.ref b1), .val (.long yc), .second, .val (.long yv), .second, .val (.long yb), .second, .val (.ref b2), .val (.int ((XT.ushr p4 (3 : Int32)) &&& (3 : Int32))), .val (.ref b2), .unset] [(.int (XT.cmpL p2 yb))]) := by
            intro target kt
            refine g109 target ?_
            refine XS.ifNo X102.here hx rfl (hb hby at_102) rfl (XT.ll_ne_f hc110) ?_
            show Steps p.tables e below (T102.setTop (mkF m 105 #[.val (.long p0), .second, .val (.long p1), .second, .val (.long p2), .second, .val (.long p3), .second, .val (.int p4), .val (.ref b1), .val (.long yc), .second, .val (.long yv), .second, .val (.long yb), .second, .val (.ref b2), .val (.int ((XT.ushr p4 (3 : Int32)) &&& (3 : Int32))), .val (.ref b2), .unset] [])) target
            refine XT.lload X102.here hx rfl (hb hby at_105) rfl ?_
            show Steps p.tables e below (T102.setTop (mkF m 107 #[.val (.long p0), .second, .val (.long p1), .second, .val (.long p2), .second, .val (.long p3), .second, .val (.int p4), .val (.ref b1), .val (.long yc), .second, .val (.long yv), .second, .val (.long yb), .second, .val (.ref b2), .val (.int ((XT.ushr p4 (3 : Int32)) &&& (3 : Int32))), .val (.ref b2), .unset] [(.long p2)])) target
            refine XT.lload X102.here hx rfl (hb hby at_107) rfl ?_
            show Steps p.tables e below (T102.setTop (mkF m 109 #[.val (.long p0), .second, .val (.long p1), .second, .val (.long p2), .second, .val (.long p3), .second, .val (.int p4), .val (.ref b1), .val (.long yc), .second, .val (.long yv), .second, .val (.long yb), .second, .val (.ref b2), .val (.int ((XT.ushr p4 (3 : Int32)) &&& (3 : Int32))), .val (.ref b2), .unset] [(.long yb), (.long p2)])) target
            refine XT.lcmp X102.here hx rfl (hb hby at_109) rfl ?_
            show Steps p.tables e below (T102.setTop (mkF m 110 #[.val (.long p0), .second, .val (.long p1), .second, .val (.long p2), .second, .val (.long p3), .second, .val (.int p4), .val (.ref b1), .val (.long yc), .second, .val (.long yv), .second, .val (.long yb), .second, .val (.ref b2), .val (.int ((XT.ushr p4 (3 : Int32)) &&& (3 : Int32))), .val (.ref b2), .unset] [(.int (XT.cmpL p2 yb))])) target
            exact kt
          by_cases hc112 : p2 = yb
          · have g113 : own_Go p e below s₁ (entryFrame m #[(.long p0), (.long p1), (.long p2), (.long p3), (.int p4)] maxLocals) T102 (mkF m 118 #[.val (.long p0), .second, .val (.long p1), .second, .val (.long p2), .second, .val (.long p3), .second, .val (.int p4), .val (.ref b1), .val (.long yc), .second, .val (.long yv), .second, .val (.long yb), .second, .val (.ref b2), .val (.int ((XT.ushr p4 (3 : Int32)) &&& (3 : Int32))), .val (.ref b2), .unset] [(.int (1 : Int32))]) := by
              intro target kt
              refine g111 target ?_
              refine XS.ifNo X102.here hx rfl (hb hby at_110) rfl (XT.ll_ne_f hc112) ?_
              show Steps p.tables e below (T102.setTop (mkF m 113 #[.val (.long p0), .second, .val (.long p1), .second, .val (.long p2), .second, .val (.long p3), .second, .val (.int p4), .val (.ref b1), .val (.long yc), .second, .val (.long yv), .second, .val (.long yb), .second, .val (.ref b2), .val (.int ((XT.ushr p4 (3 : Int32)) &&& (3 : Int32))), .val (.ref b2), .unset] [])) target
              refine XT.iconstV X102.here hx rfl (1 : Int32) (hb hby at_113) rfl ?_
              show Steps p.tables e below (T102.setTop (mkF m 114 #[.val (.long p0), .second, .val (.long p1), .second, .val (.long p2), .second, .val (.long p3), .second, .val (.int p4), .val (.ref b1), .val (.long yc), .second, .val (.long yv), .second, .val (.long yb), .second, .val (.ref b2), .val (.int ((XT.ushr p4 (3 : Int32)) &&& (3 : Int32))), .val (.ref b2), .unset] [(.int (1 : Int32))])) target
              refine XS.goto X102.here hx rfl (pc0 := 114) (pc' := 118) rfl (hb hby at_114) (by decide) (by decide) ?_
              show Steps p.tables e below (T102.setTop (mkF m 118 #[.val (.long p0), .second, .val (.long p1), .second, .val (.long p2), .second, .val (.long p3), .second, .val (.int p4), .val (.ref b1), .val (.long yc), .second, .val (.long yv), .second, .val (.long yb), .second, .val (.ref b2), .val (.int ((XT.ushr p4 (3 : Int32)) &&& (3 : Int32))), .val (.ref b2), .unset] [(.int (1 : Int32))])) target
              exact kt
            exact ⟨(1 : Int32), (by simp only [if_pos hc108, if_pos hc110, if_pos hc112]), g113⟩
          · have g114 : own_Go p e below s₁ (entryFrame m #[(.long p0), (.long p1), (.long p2), (.long p3), (.int p4)] maxLocals) T102 (mkF m 118 #[.val (.long p0), .second, .val (.long p1), .second, .val (.long p2), .second, .val (.long p3), .second, .val (.int p4), .val (.ref b1), .val (.long yc), .second, .val (.long yv), .second, .val (.long yb), .second, .val (.ref b2), .val (.int ((XT.ushr p4 (3 : Int32)) &&& (3 : Int32))), .val (.ref b2), .unset] [(.int (0 : Int32))]) := by
              intro target kt
              refine g111 target ?_
              refine XS.ifYes X102.here hx rfl (pc0 := 110) (pc' := 117) rfl (hb hby at_110) rfl (XT.ll_ne_t hc112) (by decide) (by decide) ?_
              show Steps p.tables e below (T102.setTop (mkF m 117 #[.val (.long p0), .second, .val (.long p1), .second, .val (.long p2), .second, .val (.long p3), .second, .val (.int p4), .val (.ref b1), .val (.long yc), .second, .val (.long yv), .second, .val (.long yb), .second, .val (.ref b2), .val (.int ((XT.ushr p4 (3 : Int32)) &&& (3 : Int32))), .val (.ref b2), .unset] [])) target
              refine XT.iconstV X102.here hx rfl (0 : Int32) (hb hby at_117) rfl ?_
              show Steps p.tables e below (T102.setTop (mkF m 118 #[.val (.long p0), .second, .val (.long p1), .second, .val (.long p2), .second, .val (.long p3), .second, .val (.int p4), .val (.ref b1), .val (.long yc), .second, .val (.long yv), .second, .val (.long yb), .second, .val (.ref b2), .val (.int ((XT.ushr p4 (3 : Int32)) &&& (3 : Int32))), .val (.ref b2), .unset] [(.int (0 : Int32))])) target
              exact kt
            exact ⟨(0 : Int32), (by simp only [if_pos hc108, if_pos hc110, if_neg hc112]), g114⟩
        · have g115 : own_Go p e below s₁ (entryFrame m #[(.long p0), (.long p1), (.long p2), (.long p3), (.int p4)] maxLocals) T102 (mkF m 118 #[.val (.long p0), .second, .val (.long p1), .second, .val (.long p2), .second, .val (.long p3), .second, .val (.int p4), .val (.ref b1), .val (.long yc), .second, .val (.long yv), .second, .val (.long yb), .second, .val (.ref b2), .val (.int ((XT.ushr p4 (3 : Int32)) &&& (3 : Int32))), .val (.ref b2), .unset] [(.int (0 : Int32))]) := by
            intro target kt
            refine g109 target ?_
            refine XS.ifYes X102.here hx rfl (pc0 := 102) (pc' := 117) rfl (hb hby at_102) rfl (XT.ll_ne_t hc110) (by decide) (by decide) ?_
            show Steps p.tables e below (T102.setTop (mkF m 117 #[.val (.long p0), .second, .val (.long p1), .second, .val (.long p2), .second, .val (.long p3), .second, .val (.int p4), .val (.ref b1), .val (.long yc), .second, .val (.long yv), .second, .val (.long yb), .second, .val (.ref b2), .val (.int ((XT.ushr p4 (3 : Int32)) &&& (3 : Int32))), .val (.ref b2), .unset] [])) target
            refine XT.iconstV X102.here hx rfl (0 : Int32) (hb hby at_117) rfl ?_
            show Steps p.tables e below (T102.setTop (mkF m 118 #[.val (.long p0), .second, .val (.long p1), .second, .val (.long p2), .second, .val (.long p3), .second, .val (.int p4), .val (.ref b1), .val (.long yc), .second, .val (.long yv), .second, .val (.long yb), .second, .val (.ref b2), .val (.int ((XT.ushr p4 (3 : Int32)) &&& (3 : Int32))), .val (.ref b2), .unset] [(.int (0 : Int32))])) target
            exact kt
          exact ⟨(0 : Int32), (by simp only [if_pos hc108, if_neg hc110]), g115⟩
      · have g116 : own_Go p e below s₁ (entryFrame m #[(.long p0), (.long p1), (.long p2), (.long p3), (.int p4)] maxLocals) T102 (mkF m 118 #[.val (.long p0), .second, .val (.long p1), .second, .val (.long p2), .second, .val (.long p3), .second, .val (.int p4), .val (.ref b1), .val (.long yc), .second, .val (.long yv), .second, .val (.long yb), .second, .val (.ref b2), .val (.int ((XT.ushr p4 (3 : Int32)) &&& (3 : Int32))), .val (.ref b2), .unset] [(.int (0 : Int32))]) := by
          intro target kt
          refine g107 target ?_
          refine XS.ifYes X102.here hx rfl (pc0 := 95) (pc' := 117) rfl (hb hby at_95) rfl (XT.ll_ne_t hc108) (by decide) (by decide) ?_
          show Steps p.tables e below (T102.setTop (mkF m 117 #[.val (.long p0), .second, .val (.long p1), .second, .val (.long p2), .second, .val (.long p3), .second, .val (.int p4), .val (.ref b1), .val (.long yc), .second, .val (.long yv), .second, .val (.long yb), .second, .val (.ref b2), .val (.int ((XT.ushr p4 (3 : Int32)) &&& (3 : Int32))), .val (.ref b2), .unset] [])) target
          refine XT.iconstV X102.here hx rfl (0 : Int32) (hb hby at_117) rfl ?_
          show Steps p.tables e below (T102.setTop (mkF m 118 #[.val (.long p0), .second, .val (.long p1), .second, .val (.long p2), .second, .val (.long p3), .second, .val (.int p4), .val (.ref b1), .val (.long yc), .second, .val (.long yv), .second, .val (.long yb), .second, .val (.ref b2), .val (.int ((XT.ushr p4 (3 : Int32)) &&& (3 : Int32))), .val (.ref b2), .unset] [(.int (0 : Int32))])) target
          exact kt
        exact ⟨(0 : Int32), (by simp only [if_neg hc108]), g116⟩
    have g118 : own_Go p e below s₁ (entryFrame m #[(.long p0), (.long p1), (.long p2), (.long p3), (.int p4)] maxLocals) T102 (mkF m 167 #[.val (.long p0), .second, .val (.long p1), .second, .val (.long p2), .second, .val (.long p3), .second, .val (.int p4), .val (.ref b1), .val (.long yc), .second, .val (.long yv), .second, .val (.long yb), .second, .val (.ref b2), .val (.int ((XT.ushr p4 (3 : Int32)) &&& (3 : Int32))), .val (.ref b2), .val (.int ex)] [(.ref b2), (.ref b1)]) := by
      intro target kt
      refine g117 target ?_
      refine XS.istore X102.here hx rfl (hb hby at_118) rfl (l' := #[.val (.long p0), .second, .val (.long p1), .second, .val (.long p2), .second, .val (.long p3), .second, .val (.int p4), .val (.ref b1), .val (.long yc), .second, .val (.long yv), .second, .val (.long yb), .second, .val (.ref b2), .val (.int ((XT.ushr p4 (3 : Int32)) &&& (3 : Int32))), .val (.ref b2), .val (.int ex)]) rfl ?_
      show Steps p.tables e below (T102.setTop (mkF m 120 #[.val (.long p0), .second, .val (.long p1), .second, .val (.long p2), .second, .val (.long p3), .second, .val (.int p4), .val (.ref b1), .val (.long yc), .second, .val (.long yv), .second, .val (.long yb), .second, .val (.ref b2), .val (.int ((XT.ushr p4 (3 : Int32)) &&& (3 : Int32))), .val (.ref b2), .val (.int ex)] [])) target
      refine XS.goto X102.here hx rfl (pc0 := 120) (pc' := 163) rfl (hb hby at_120) (by decide) (by decide) ?_
      show Steps p.tables e below (T102.setTop (mkF m 163 #[.val (.long p0), .second, .val (.long p1), .second, .val (.long p2), .second, .val (.long p3), .second, .val (.int p4), .val (.ref b1), .val (.long yc), .second, .val (.long yv), .second, .val (.long yb), .second, .val (.ref b2), .val (.int ((XT.ushr p4 (3 : Int32)) &&& (3 : Int32))), .val (.ref b2), .val (.int ex)] [])) target
      refine XS.aload X102.here hx rfl (hb hby at_163) rfl rfl ?_
      show Steps p.tables e below (T102.setTop (mkF m 165 #[.val (.long p0), .second, .val (.long p1), .second, .val (.long p2), .second, .val (.long p3), .second, .val (.int p4), .val (.ref b1), .val (.long yc), .second, .val (.long yv), .second, .val (.long yb), .second, .val (.ref b2), .val (.int ((XT.ushr p4 (3 : Int32)) &&& (3 : Int32))), .val (.ref b2), .val (.int ex)] [(.ref b1)])) target
      refine XS.aload X102.here hx rfl (hb hby at_165) rfl rfl ?_
      show Steps p.tables e below (T102.setTop (mkF m 167 #[.val (.long p0), .second, .val (.long p1), .second, .val (.long p2), .second, .val (.long p3), .second, .val (.int p4), .val (.ref b1), .val (.long yc), .second, .val (.long yv), .second, .val (.long yb), .second, .val (.ref b2), .val (.int ((XT.ushr p4 (3 : Int32)) &&& (3 : Int32))), .val (.ref b2), .val (.int ex)] [(.ref b2), (.ref b1)])) target
      exact kt
    obtain ⟨cq119, kq119, q119a, q119b, q119c⟩ := isOf hZ ehp.symm EX1
    obtain ⟨_, _, ⟨T119, L119, k119, n119⟩, -, X119, ⟨Lc119, hQ119, l119, y119, z119⟩, st119⟩ := X102.virtualBack hx (y := (⟨"com/example/bitloom/bitloom/BitmapStatistics$Kind", "equals", "(Ljava/lang/Object;)Z"⟩ : MethodName)) (z := (⟨"com/example/bitloom/bitloom/BitmapStatistics$Kind", "equals", "(Ljava/lang/Object;)Z"⟩ : MethodName)) hown (mvT hZ (hw _ (List.mem_of_getElem? (i := 15) rfl))) (mvT hZ (hw _ (List.mem_of_getElem? (i := 16) rfl))) (notFace_of_selects (args := #[]) (mvT hZ (hw _ (List.mem_of_getElem? (i := 18) rfl)))) (mvT hZ (hw _ (List.mem_of_getElem? (i := 18) rfl))) (mvT hZ (hw _ (List.mem_of_getElem? (i := 17) rfl))) (by decide) (backOf (W := 0) (rmKind l Z a0 hw [] b1 b2 p0 p1 p2 yc yv yb hp n0 Z102 E102 Xa Xb Xc Fa102 Fb102 Fc102) hZ (hw _ (List.mem_of_getElem? (i := 19) rfl)) (hw _ (List.mem_of_getElem? (i := 2) rfl)) (by decide) (by decide)) q119a q119c (g := (mkF m 167 #[.val (.long p0), .second, .val (.long p1), .second, .val (.long p2), .second, .val (.long p3), .second, .val (.int p4), .val (.ref b1), .val (.long yc), .second, .val (.long yv), .second, .val (.long yb), .second, .val (.ref b2), .val (.int ((XT.ushr p4 (3 : Int32)) &&& (3 : Int32))), .val (.ref b2), .val (.int ex)] [(.ref b2), (.ref b1)])) rfl (by rw [hml]; rfl) (Steps.refl _) (argsL := [(.ref b2)]) (rest := []) (lenOf pd_3 rfl) rfl (by show 2 * 0 + _ ≤ _; exact Nat.le_of_eq rfl) (hb hby at_167) (fun _ _ => ⟨rfl, ehp.symm, (by decide : 2 + 0 ≤ _), (by decide : 6 + 0 ≤ _)⟩)
    dsimp only [Pt.U, Pt.locs, Pt.cells, Pt.slots] at X119 l119 y119 z119 st119 hQ119
    subst l119 y119 z119
    obtain ⟨rfl, Nq119, eq119⟩ := hQ119
    have N119 := Fr.app N102 Nq119
    have g120 : own_Go p e below s₁ (entryFrame m #[(.long p0), (.long p1), (.long p2), (.long p3), (.int p4)] maxLocals) T119 (mkF m 170 #[.val (.long p0), .second, .val (.long p1), .second, .val (.long p2), .second, .val (.long p3), .second, .val (.int p4), .val (.ref b1), .val (.long yc), .second, .val (.long yv), .second, .val (.long yb), .second, .val (.ref b2), .val (.int ((XT.ushr p4 (3 : Int32)) &&& (3 : Int32))), .val (.ref b2), .val (.int ex)] [(.int (own_keq p0 yc p1 yv p2 yb))]) := fun target kt => g118 target (st119.trans kt)
    have g121 : own_Go p e below s₁ (entryFrame m #[(.long p0), (.long p1), (.long p2), (.long p3), (.int p4)] maxLocals) T119 (mkF m 180 #[.val (.long p0), .second, .val (.long p1), .second, .val (.long p2), .second, .val (.long p3), .second, .val (.int p4), .val (.ref b1), .val (.long yc), .second, .val (.long yv), .second, .val (.long yb), .second, .val (.ref b2), .val (.int ((XT.ushr p4 (3 : Int32)) &&& (3 : Int32))), .val (.ref b2), .val (.int ex)] [(.int (1 : Int32))]) := by
      intro target kt
      refine g120 target ?_
      refine XS.iload X119.here hx rfl (hb hby at_170) rfl ?_
      show Steps p.tables e below (T119.setTop (mkF m 172 #[.val (.long p0), .second, .val (.long p1), .second, .val (.long p2), .second, .val (.long p3), .second, .val (.int p4), .val (.ref b1), .val (.long yc), .second, .val (.long yv), .second, .val (.long yb), .second, .val (.ref b2), .val (.int ((XT.ushr p4 (3 : Int32)) &&& (3 : Int32))), .val (.ref b2), .val (.int ex)] [(.int ex), (.int (own_keq p0 yc p1 yv p2 yb))])) target
      refine XS.icmpNo X119.here hx rfl (hb hby at_172) rfl (XT.ii_ne_f (by rw [hm117]; rfl)) ?_
      show Steps p.tables e below (T119.setTop (mkF m 175 #[.val (.long p0), .second, .val (.long p1), .second, .val (.long p2), .second, .val (.long p3), .second, .val (.int p4), .val (.ref b1), .val (.long yc), .second, .val (.long yv), .second, .val (.long yb), .second, .val (.ref b2), .val (.int ((XT.ushr p4 (3 : Int32)) &&& (3 : Int32))), .val (.ref b2), .val (.int ex)] [])) target
      refine XT.iconstV X119.here hx rfl (1 : Int32) (hb hby at_175) rfl ?_
      show Steps p.tables e below (T119.setTop (mkF m 176 #[.val (.long p0), .second, .val (.long p1), .second, .val (.long p2), .second, .val (.long p3), .second, .val (.int p4), .val (.ref b1), .val (.long yc), .second, .val (.long yv), .second, .val (.long yb), .second, .val (.ref b2), .val (.int ((XT.ushr p4 (3 : Int32)) &&& (3 : Int32))), .val (.ref b2), .val (.int ex)] [(.int (1 : Int32))])) target
      refine XS.goto X119.here hx rfl (pc0 := 176) (pc' := 180) rfl (hb hby at_176) (by decide) (by decide) ?_
      show Steps p.tables e below (T119.setTop (mkF m 180 #[.val (.long p0), .second, .val (.long p1), .second, .val (.long p2), .second, .val (.long p3), .second, .val (.int p4), .val (.ref b1), .val (.long yc), .second, .val (.long yv), .second, .val (.long yb), .second, .val (.ref b2), .val (.int ((XT.ushr p4 (3 : Int32)) &&& (3 : Int32))), .val (.ref b2), .val (.int ex)] [(.int (1 : Int32))])) target
      exact kt
    obtain ⟨fs, hr, hrun, hended, hW, hsame⟩ := X119.leave (v := some (.int (nar .boolean (1 : Int32)))) (fun h => by rw [Bd.returns] at h; cases h)
    refine ⟨_, _, g121 _ ?_, hrun, hended, _, _, rfl, ?_, ⟨_, rfl⟩, hW, hsame.mono (by decide) (by decide)⟩
    · exact retN X119 hx (t := .boolean) Bd.returns (by simp) (hb hby at_180) hr
    · show Q_rm0 Z p0 p1 p2 p3 p4  h0 n0 _ T119.heap _
      rw [eq119]
      exact ⟨rfl, N119⟩
  · have g122 : own_Go p e below s₁ (entryFrame m #[(.long p0), (.long p1), (.long p2), (.long p3), (.int p4)] maxLocals) T102 (mkF m 126 #[.val (.long p0), .second, .val (.long p1), .second, .val (.long p2), .second, .val (.long p3), .second, .val (.int p4), .val (.ref b1), .val (.long yc), .second, .val (.long yv), .second, .val (.long yb), .second, .val (.ref b2), .val (.int ((XT.ushr p4 (3 : Int32)) &&& (3 : Int32))), .unset, .unset] [(.int (1 : Int32)), (.int ((XT.ushr p4 (3 : Int32)) &&& (3 : Int32)))]) := by
      intro target kt
      refine g104 target ?_
      refine XS.ifYes X102.here hx rfl (pc0 := 84) (pc' := 123) rfl (hb hby at_84) rfl (XT.i0_ne_t hc105) (by decide) (by decide) ?_
      show Steps p.tables e below (T102.setTop (mkF m 123 #[.val (.long p0), .second, .val (.long p1), .second, .val (.long p2), .second, .val (.long p3), .second, .val (.int p4), .val (.ref b1), .val (.long yc), .second, .val (.long yv), .second, .val (.long yb), .second, .val (.ref b2), .val (.int ((XT.ushr p4 (3 : Int32)) &&& (3 : Int32))), .unset, .unset] [])) target
      refine XS.iload X102.here hx rfl (hb hby at_123) rfl ?_
      show Steps p.tables e below (T102.setTop (mkF m 125 #[.val (.long p0), .second, .val (.long p1), .second, .val (.long p2), .second, .val (.long p3), .second, .val (.int p4), .val (.ref b1), .val (.long yc), .second, .val (.long yv), .second, .val (.long yb), .second, .val (.ref b2), .val (.int ((XT.ushr p4 (3 : Int32)) &&& (3 : Int32))), .unset, .unset] [(.int ((XT.ushr p4 (3 : Int32)) &&& (3 : Int32)))])) target
      refine XT.iconstV X102.here hx rfl (1 : Int32) (hb hby at_125) rfl ?_
      show Steps p.tables e below (T102.setTop (mkF m 126 #[.val (.long p0), .second, .val (.long p1), .second, .val (.long p2), .second, .val (.long p3), .second, .val (.int p4), .val (.ref b1), .val (.long yc), .second, .val (.long yv), .second, .val (.long yb), .second, .val (.ref b2), .val (.int ((XT.ushr p4 (3 : Int32)) &&& (3 : Int32))), .unset, .unset] [(.int (1 : Int32)), (.int ((XT.ushr p4 (3 : Int32)) &&& (3 : Int32)))])) target
      exact kt
    by_cases hc123 : ((XT.ushr p4 (3 : Int32)) &&& (3 : Int32)) = (1 : Int32)
    · have g124 : own_Go p e below s₁ (entryFrame m #[(.long p0), (.long p1), (.long p2), (.long p3), (.int p4)] maxLocals) T102 (mkF m 167 #[.val (.long p0), .second, .val (.long p1), .second, .val (.long p2), .second, .val (.long p3), .second, .val (.int p4), .val (.ref b1), .val (.long yc), .second, .val (.long yv), .second, .val (.long yb), .second, .val (.ref b2), .val (.int ((XT.ushr p4 (3 : Int32)) &&& (3 : Int32))), .val .null, .val (.int (0 : Int32))] [.null, (.ref b1)]) := by
        intro target kt
        refine g122 target ?_
        refine XS.icmpNo X102.here hx rfl (hb hby at_126) rfl (XT.ii_ne_f hc123) ?_
        show Steps p.tables e below (T102.setTop (mkF m 129 #[.val (.long p0), .second, .val (.long p1), .second, .val (.long p2), .second, .val (.long p3), .second, .val (.int p4), .val (.ref b1), .val (.long yc), .second, .val (.long yv), .second, .val (.long yb), .second, .val (.ref b2), .val (.int ((XT.ushr p4 (3 : Int32)) &&& (3 : Int32))), .unset, .unset] [])) target
        refine XS.aconstNull X102.here hx rfl (hb hby at_129) ?_
        show Steps p.tables e below (T102.setTop (mkF m 130 #[.val (.long p0), .second, .val (.long p1), .second, .val (.long p2), .second, .val (.long p3), .second, .val (.int p4), .val (.ref b1), .val (.long yc), .second, .val (.long yv), .second, .val (.long yb), .second, .val (.ref b2), .val (.int ((XT.ushr p4 (3 : Int32)) &&& (3 : Int32))), .unset, .unset] [.null])) target
        refine XS.astore X102.here hx rfl (hb hby at_130) rfl rfl (l' := #[.val (.long p0), .second, .val (.long p1), .second, .val (.long p2), .second, .val (.long p3), .second, .val (.int p4), .val (.ref b1), .val (.long yc), .second, .val (.long yv), .second, .val (.long yb), .second, .val (.ref b2), .val (.int ((XT.ushr p4 (3 : Int32)) &&& (3 : Int32))), .val .null, .unset]) rfl ?_
        show Steps p.tables e below (T102.setTop (mkF m 132 #[.val (.long p0), .second, .val (.long p1), .second, .val (.long p2), .second, .val (.long p3), .second, .val (.int p4), .val (.ref b1), .val (.long yc), .second, .val (.long yv), .second, .val (.long yb), .second, .val (.ref b2), .val (.int ((XT.ushr p4 (3 : Int32)) &&& (3 : Int32))), .val .null, .unset] [])) target
        refine XT.iconstV X102.here hx rfl (0 : Int32) (hb hby at_132) rfl ?_
        show Steps p.tables e below (T102.setTop (mkF m 133 #[.val (.long p0), .second, .val (.long p1), .second, .val (.long p2), .second, .val (.long p3), .second, .val (.int p4), .val (.ref b1), .val (.long yc), .second, .val (.long yv), .second, .val (.long yb), .second, .val (.ref b2), .val (.int ((XT.ushr p4 (3 : Int32)) &&& (3 : Int32))), .val .null, .unset] [(.int (0 : Int32))])) target
        refine XS.istore X102.here hx rfl (hb hby at_133) rfl (l' := #[.val (.long p0), .second, .val (.long p1), .second, .val (.long p2), .second, .val (.long p3), .second, .val (.int p4), .val (.ref b1), .val (.long yc), .second, .val (.long yv), .second, .val (.long yb), .second, .val (.ref b2), .val (.int ((XT.ushr p4 (3 : Int32)) &&& (3 : Int32))), .val .null, .val (.int (0 : Int32))]) rfl ?_
        show Steps p.tables e below (T102.setTop (mkF m 135 #[.val (.long p0), .second, .val (.long p1), .second, .val (.long p2), .second, .val (.long p3), .second, .val (.int p4), .val (.ref b1), .val (.long yc), .second, .val (.long yv), .second, .val (.long yb), .second, .val (.ref b2), .val (.int ((XT.ushr p4 (3 : Int32)) &&& (3 : Int32))), .val .null, .val (.int (0 : Int32))] [])) target
        refine XS.goto X102.here hx rfl (pc0 := 135) (pc' := 163) rfl (hb hby at_135) (by decide) (by decide) ?_
        show Steps p.tables e below (T102.setTop (mkF m 163 #[.val (.long p0), .second, .val (.long p1), .second, .val (.long p2), .second, .val (.long p3), .second, .val (.int p4), .val (.ref b1), .val (.long yc), .second, .val (.long yv), .second, .val (.long yb), .second, .val (.ref b2), .val (.int ((XT.ushr p4 (3 : Int32)) &&& (3 : Int32))), .val .null, .val (.int (0 : Int32))] [])) target
        refine XS.aload X102.here hx rfl (hb hby at_163) rfl rfl ?_
        show Steps p.tables e below (T102.setTop (mkF m 165 #[.val (.long p0), .second, .val (.long p1), .second, .val (.long p2), .second, .val (.long p3), .second, .val (.int p4), .val (.ref b1), .val (.long yc), .second, .val (.long yv), .second, .val (.long yb), .second, .val (.ref b2), .val (.int ((XT.ushr p4 (3 : Int32)) &&& (3 : Int32))), .val .null, .val (.int (0 : Int32))] [(.ref b1)])) target
        refine XS.aload X102.here hx rfl (hb hby at_165) rfl rfl ?_
        show Steps p.tables e below (T102.setTop (mkF m 167 #[.val (.long p0), .second, .val (.long p1), .second, .val (.long p2), .second, .val (.long p3), .second, .val (.int p4), .val (.ref b1), .val (.long yc), .second, .val (.long yv), .second, .val (.long yb), .second, .val (.ref b2), .val (.int ((XT.ushr p4 (3 : Int32)) &&& (3 : Int32))), .val .null, .val (.int (0 : Int32))] [.null, (.ref b1)])) target
        exact kt
      obtain ⟨cq125, kq125, q125a, q125b, q125c⟩ := isOf hZ ehp.symm EX1
      obtain ⟨_, _, ⟨T125, L125, k125, n125⟩, -, X125, ⟨Lc125, hQ125, l125, y125, z125⟩, st125⟩ := X102.virtualBack hx (y := (⟨"com/example/bitloom/bitloom/BitmapStatistics$Kind", "equals", "(Ljava/lang/Object;)Z"⟩ : MethodName)) (z := (⟨"com/example/bitloom/bitloom/BitmapStatistics$Kind", "equals", "(Ljava/lang/Object;)Z"⟩ : MethodName)) hown (mvT hZ (hw _ (List.mem_of_getElem? (i := 15) rfl))) (mvT hZ (hw _ (List.mem_of_getElem? (i := 16) rfl))) (notFace_of_selects (args := #[]) (mvT hZ (hw _ (List.mem_of_getElem? (i := 18) rfl)))) (mvT hZ (hw _ (List.mem_of_getElem? (i := 18) rfl))) (mvT hZ (hw _ (List.mem_of_getElem? (i := 17) rfl))) (by decide) (backOf (W := 0) (rmNull l Z a0 hw [] b1 hp n0 Z102) hZ (hw _ (List.mem_of_getElem? (i := 19) rfl)) (hw _ (List.mem_of_getElem? (i := 2) rfl)) (by decide) (by decide)) q125a q125c (g := (mkF m 167 #[.val (.long p0), .second, .val (.long p1), .second, .val (.long p2), .second, .val (.long p3), .second, .val (.int p4), .val (.ref b1), .val (.long yc), .second, .val (.long yv), .second, .val (.long yb), .second, .val (.ref b2), .val (.int ((XT.ushr p4 (3 : Int32)) &&& (3 : Int32))), .val .null, .val (.int (0 : Int32))] [.null, (.ref b1)])) rfl (by rw [hml]; rfl) (Steps.refl _) (argsL := [.null]) (rest := []) (lenOf pd_3 rfl) rfl (by show 2 * 0 + _ ≤ _; exact Nat.le_of_eq rfl) (hb hby at_167) (fun _ _ => ⟨rfl, ehp.symm, (by decide : 2 + 0 ≤ _), (by decide : 6 + 0 ≤ _)⟩)
      dsimp only [Pt.U, Pt.locs, Pt.cells, Pt.slots] at X125 l125 y125 z125 st125 hQ125
      subst l125 y125 z125
      obtain ⟨rfl, Nq125, eq125⟩ := hQ125
      have N125 := Fr.app N102 Nq125
      have g126 : own_Go p e below s₁ (entryFrame m #[(.long p0), (.long p1), (.long p2), (.long p3), (.int p4)] maxLocals) T125 (mkF m 170 #[.val (.long p0), .second, .val (.long p1), .second, .val (.long p2), .second, .val (.long p3), .second, .val (.int p4), .val (.ref b1), .val (.long yc), .second, .val (.long yv), .second, .val (.long yb), .second, .val (.ref b2), .val (.int ((XT.ushr p4 (3 : Int32)) &&& (3 : Int32))), .val .null, .val (.int (0 : Int32))] [(.int (0 : Int32))]) := fun target kt => g124 target (st125.trans kt)
      have g127 : own_Go p e below s₁ (entryFrame m #[(.long p0), (.long p1), (.long p2), (.long p3), (.int p4)] maxLocals) T125 (mkF m 180 #[.val (.long p0), .second, .val (.long p1), .second, .val (.long p2), .second, .val (.long p3), .second, .val (.int p4), .val (.ref b1), .val (.long yc), .second, .val (.long yv), .second, .val (.long yb), .second, .val (.ref b2), .val (.int ((XT.ushr p4 (3 : Int32)) &&& (3 : Int32))), .val .null, .val (.int (0 : Int32))] [(.int (1 : Int32))]) := by
        intro target kt
        refine g126 target ?_
        refine XS.iload X125.here hx rfl (hb hby at_170) rfl ?_
        show Steps p.tables e below (T125.setTop (mkF m 172 #[.val (.long p0), .second, .val (.long p1), .second, .val (.long p2), .second, .val (.long p3), .second, .val (.int p4), .val (.ref b1), .val (.long yc), .second, .val (.long yv), .second, .val (.long yb), .second, .val (.ref b2), .val (.int ((XT.ushr p4 (3 : Int32)) &&& (3 : Int32))), .val .null, .val (.int (0 : Int32))] [(.int (0 : Int32)), (.int (0 : Int32))])) target
        refine XS.icmpNo X125.here hx rfl (hb hby at_172) rfl (XT.ii_ne_f rfl) ?_
        show Steps p.tables e below (T125.setTop (mkF m 175 #[.val (.long p0), .second, .val (.long p1), .second, .val (.long p2), .second, .val (.long p3), .second, .val (.int p4), .val (.ref b1), .val (.long yc), .second, .val (.long yv), .second, .val (.long yb), .second, .val (.ref b2), .val (.int ((XT.ushr p4 (3 : Int32)) &&& (3 : Int32))), .val .null, .val (.int (0 : Int32))] [])) target
        refine XT.iconstV X125.here hx rfl (1 : Int32) (hb hby at_175) rfl ?_
        show Steps p.tables e below (T125.setTop (mkF m 176 #[.val (.long p0), .second, .val (.long p1), .second, .val (.long p2), .second, .val (.long p3), .second, .val (.int p4), .val (.ref b1), .val (.long yc), .second, .val (.long yv), .second, .val (.long yb), .second, .val (.ref b2), .val (.int ((XT.ushr p4 (3 : Int32)) &&& (3 : Int32))), .val .null, .val (.int (0 : Int32))] [(.int (1 : Int32))])) target
        refine XS.goto X125.here hx rfl (pc0 := 176) (pc' := 180) rfl (hb hby at_176) (by decide) (by decide) ?_
        show Steps p.tables e below (T125.setTop (mkF m 180 #[.val (.long p0), .second, .val (.long p1), .second, .val (.long p2), .second, .val (.long p3), .second, .val (.int p4), .val (.ref b1), .val (.long yc), .second, .val (.long yv), .second, .val (.long yb), .second, .val (.ref b2), .val (.int ((XT.ushr p4 (3 : Int32)) &&& (3 : Int32))), .val .null, .val (.int (0 : Int32))] [(.int (1 : Int32))])) target
        exact kt
      obtain ⟨fs, hr, hrun, hended, hW, hsame⟩ := X125.leave (v := some (.int (nar .boolean (1 : Int32)))) (fun h => by rw [Bd.returns] at h; cases h)
      refine ⟨_, _, g127 _ ?_, hrun, hended, _, _, rfl, ?_, ⟨_, rfl⟩, hW, hsame.mono (by decide) (by decide)⟩
      · exact retN X125 hx (t := .boolean) Bd.returns (by simp) (hb hby at_180) hr
      · show Q_rm0 Z p0 p1 p2 p3 p4  h0 n0 _ T125.heap _
        rw [eq125]
        exact ⟨rfl, N125⟩
    · have g128 : own_Go p e below s₁ (entryFrame m #[(.long p0), (.long p1), (.long p2), (.long p3), (.int p4)] maxLocals) T102 (mkF m 141 #[.val (.long p0), .second, .val (.long p1), .second, .val (.long p2), .second, .val (.long p3), .second, .val (.int p4), .val (.ref b1), .val (.long yc), .second, .val (.long yv), .second, .val (.long yb), .second, .val (.ref b2), .val (.int ((XT.ushr p4 (3 : Int32)) &&& (3 : Int32))), .unset, .unset] [(.int (2 : Int32)), (.int ((XT.ushr p4 (3 : Int32)) &&& (3 : Int32)))]) := by
        intro target kt
        refine g122 target ?_
        refine XS.icmpYes X102.here hx rfl (pc0 := 126) (pc' := 138) rfl (hb hby at_126) rfl (XT.ii_ne_t hc123) (by decide) (by decide) ?_
        show Steps p.tables e below (T102.setTop (mkF m 138 #[.val (.long p0), .second, .val (.long p1), .second, .val (.long p2), .second, .val (.long p3), .second, .val (.int p4), .val (.ref b1), .val (.long yc), .second, .val (.long yv), .second, .val (.long yb), .second, .val (.ref b2), .val (.int ((XT.ushr p4 (3 : Int32)) &&& (3 : Int32))), .unset, .unset] [])) target
        refine XS.iload X102.here hx rfl (hb hby at_138) rfl ?_
        show Steps p.tables e below (T102.setTop (mkF m 140 #[.val (.long p0), .second, .val (.long p1), .second, .val (.long p2), .second, .val (.long p3), .second, .val (.int p4), .val (.ref b1), .val (.long yc), .second, .val (.long yv), .second, .val (.long yb), .second, .val (.ref b2), .val (.int ((XT.ushr p4 (3 : Int32)) &&& (3 : Int32))), .unset, .unset] [(.int ((XT.ushr p4 (3 : Int32)) &&& (3 : Int32)))])) target
        refine XT.iconstV X102.here hx rfl (2 : Int32) (hb hby at_140) rfl ?_
        show Steps p.tables e below (T102.setTop (mkF m 141 #[.val (.long p0), .second, .val (.long p1), .second, .val (.long p2), .second, .val (.long p3), .second, .val (.int p4), .val (.ref b1), .val (.long yc), .second, .val (.long yv), .second, .val (.long yb), .second, .val (.ref b2), .val (.int ((XT.ushr p4 (3 : Int32)) &&& (3 : Int32))), .unset, .unset] [(.int (2 : Int32)), (.int ((XT.ushr p4 (3 : Int32)) &&& (3 : Int32)))])) target
        exact kt
      by_cases hc129 : ((XT.ushr p4 (3 : Int32)) &&& (3 : Int32)) = (2 : Int32)
      · have g130 : own_Go p e below s₁ (entryFrame m #[(.long p0), (.long p1), (.long p2), (.long p3), (.int p4)] maxLocals) T102 (mkF m 145 #[.val (.long p0), .second, .val (.long p1), .second, .val (.long p2), .second, .val (.long p3), .second, .val (.int p4), .val (.ref b1), .val (.long yc), .second, .val (.long yv), .second, .val (.long yb), .second, .val (.ref b2), .val (.int ((XT.ushr p4 (3 : Int32)) &&& (3 : Int32))), .unset, .unset] [(.long p0)]) := by
          intro target kt
          refine g128 target ?_
          refine XS.icmpNo X102.here hx rfl (hb hby at_141) rfl (XT.ii_ne_f hc129) ?_
          show Steps p.tables e below (T102.setTop (mkF m 144 #[.val (.long p0), .second, .val (.long p1), .second, .val (.long p2), .second, .val (.long p3), .second, .val (.int p4), .val (.ref b1), .val (.long yc), .second, .val (.long yv), .second, .val (.long yb), .second, .val (.ref b2), .val (.int ((XT.ushr p4 (3 : Int32)) &&& (3 : Int32))), .unset, .unset] [])) target
          refine XT.lloadN X102.here hx rfl (hb hby at_144) rfl ?_
          show Steps p.tables e below (T102.setTop (mkF m 145 #[.val (.long p0), .second, .val (.long p1), .second, .val (.long p2), .second, .val (.long p3), .second, .val (.int p4), .val (.ref b1), .val (.long yc), .second, .val (.long yv), .second, .val (.long yb), .second, .val (.ref b2), .val (.int ((XT.ushr p4 (3 : Int32)) &&& (3 : Int32))), .unset, .unset] [(.long p0)])) target
          exact kt
        obtain ⟨_, _, ⟨T131, L131, k131, n131⟩, -, X131, ⟨Lc131, hQ131, l131, y131, z131⟩, st131⟩ := Jvm.LawKit.callS X102 hx (y := (⟨"java/lang/Long", "valueOf", "(J)Ljava/lang/Long;"⟩ : MethodName)) hown (mvT hZ (hw _ (List.mem_of_getElem? (i := 22) rfl))) (mvT hZ (hw _ (List.mem_of_getElem? (i := 23) rfl))) (mvT hZ (hw _ (List.mem_of_getElem? (i := 24) rfl))) (mvT hZ (hw _ (List.mem_of_getElem? (i := 25) rfl))) (by decide) (backOf (W := 0) (rmVof l Z a0 hw [] p0 hp n0 Z102 (C0.ext O2.2)) hZ (hw _ (List.mem_of_getElem? (i := 25) rfl)) (hw _ (List.mem_of_getElem? (i := 24) rfl)) (by decide) (by decide)) (g := (mkF m 145 #[.val (.long p0), .second, .val (.long p1), .second, .val (.long p2), .second, .val (.long p3), .second, .val (.int p4), .val (.ref b1), .val (.long yc), .second, .val (.long yv), .second, .val (.long yb), .second, .val (.ref b2), .val (.int ((XT.ushr p4 (3 : Int32)) &&& (3 : Int32))), .unset, .unset] [(.long p0)])) rfl (by rw [hml]; rfl) (argsL := [(.long p0)]) (rest := []) (lenOf pd_4 rfl) rfl (by show 2 * 0 + _ ≤ _; exact Nat.le_of_eq rfl) (hb hby at_145) (fun _ _ => ⟨rfl, ehp.symm, (by decide : 2 + 1 ≤ _), (by decide : 6 + 1 ≤ _)⟩)
        dsimp only [Pt.U, Pt.locs, Pt.cells, Pt.slots] at X131 l131 y131 z131 st131 hQ131
        subst l131 y131 z131
        obtain ⟨bl, rfl, Nq131, K131, E131⟩ := hQ131
        have N131 := Fr.app N102 Nq131
        have g132 : own_Go p e below s₁ (entryFrame m #[(.long p0), (.long p1), (.long p2), (.long p3), (.int p4)] maxLocals) T131 (mkF m 148 #[.val (.long p0), .second, .val (.long p1), .second, .val (.long p2), .second, .val (.long p3), .second, .val (.int p4), .val (.ref b1), .val (.long yc), .second, .val (.long yv), .second, .val (.long yb), .second, .val (.ref b2), .val (.int ((XT.ushr p4 (3 : Int32)) &&& (3 : Int32))), .unset, .unset] [(.ref bl)]) := fun target kt => g130 target (st131 target kt)
        have Z131 : n0 ≤ T131.heap.size := Nat.le_trans Z102 K131.1
        have EX2 := EX1.keep K131
        have g133 : own_Go p e below s₁ (entryFrame m #[(.long p0), (.long p1), (.long p2), (.long p3), (.int p4)] maxLocals) T131 (mkF m 167 #[.val (.long p0), .second, .val (.long p1), .second, .val (.long p2), .second, .val (.long p3), .second, .val (.int p4), .val (.ref b1), .val (.long yc), .second, .val (.long yv), .second, .val (.long yb), .second, .val (.ref b2), .val (.int ((XT.ushr p4 (3 : Int32)) &&& (3 : Int32))), .val (.ref bl), .val (.int (0 : Int32))] [(.ref bl), (.ref b1)]) := by
          intro target kt
          refine g132 target ?_
          refine XS.astore X131.here hx rfl (hb hby at_148) rfl rfl (l' := #[.val (.long p0), .second, .val (.long p1), .second, .val (.long p2), .second, .val (.long p3), .second, .val (.int p4), .val (.ref b1), .val (.long yc), .second, .val (.long yv), .second, .val (.long yb), .second, .val (.ref b2), .val (.int ((XT.ushr p4 (3 : Int32)) &&& (3 : Int32))), .val (.ref bl), .unset]) rfl ?_
          show Steps p.tables e below (T131.setTop (mkF m 150 #[.val (.long p0), .second, .val (.long p1), .second, .val (.long p2), .second, .val (.long p3), .second, .val (.int p4), .val (.ref b1), .val (.long yc), .second, .val (.long yv), .second, .val (.long yb), .second, .val (.ref b2), .val (.int ((XT.ushr p4 (3 : Int32)) &&& (3 : Int32))), .val (.ref bl), .unset] [])) target
          refine XT.iconstV X131.here hx rfl (0 : Int32) (hb hby at_150) rfl ?_
          show Steps p.tables e below (T131.setTop (mkF m 151 #[.val (.long p0), .second, .val (.long p1), .second, .val (.long p2), .second, .val (.long p3), .second, .val (.int p4), .val (.ref b1), .val (.long yc), .second, .val (.long yv), .second, .val (.long yb), .second, .val (.ref b2), .val (.int ((XT.ushr p4 (3 : Int32)) &&& (3 : Int32))), .val (.ref bl), .unset] [(.int (0 : Int32))])) target
          refine XS.istore X131.here hx rfl (hb hby at_151) rfl (l' := #[.val (.long p0), .second, .val (.long p1), .second, .val (.long p2), .second, .val (.long p3), .second, .val (.int p4), .val (.ref b1), .val (.long yc), .second, .val (.long yv), .second, .val (.long yb), .second, .val (.ref b2), .val (.int ((XT.ushr p4 (3 : Int32)) &&& (3 : Int32))), .val (.ref bl), .val (.int (0 : Int32))]) rfl ?_
          show Steps p.tables e below (T131.setTop (mkF m 153 #[.val (.long p0), .second, .val (.long p1), .second, .val (.long p2), .second, .val (.long p3), .second, .val (.int p4), .val (.ref b1), .val (.long yc), .second, .val (.long yv), .second, .val (.long yb), .second, .val (.ref b2), .val (.int ((XT.ushr p4 (3 : Int32)) &&& (3 : Int32))), .val (.ref bl), .val (.int (0 : Int32))] [])) target
          refine XS.goto X131.here hx rfl (pc0 := 153) (pc' := 163) rfl (hb hby at_153) (by decide) (by decide) ?_
          show Steps p.tables e below (T131.setTop (mkF m 163 #[.val (.long p0), .second, .val (.long p1), .second, .val (.long p2), .second, .val (.long p3), .second, .val (.int p4), .val (.ref b1), .val (.long yc), .second, .val (.long yv), .second, .val (.long yb), .second, .val (.ref b2), .val (.int ((XT.ushr p4 (3 : Int32)) &&& (3 : Int32))), .val (.ref bl), .val (.int (0 : Int32))] [])) target
          refine XS.aload X131.here hx rfl (hb hby at_163) rfl rfl ?_
          show Steps p.tables e below (T131.setTop (mkF m 165 #[.val (.long p0), .second, .val (.long p1), .second, .val (.long p2), .second, .val (.long p3), .second, .val (.int p4), .val (.ref b1), .val (.long yc), .second, .val (.long yv), .second, .val (.long yb), .second, .val (.ref b2), .val (.int ((XT.ushr p4 (3 : Int32)) &&& (3 : Int32))), .val (.ref bl), .val (.int (0 : Int32))] [(.ref b1)])) target
          refine XS.aload X131.here hx rfl (hb hby at_165) rfl rfl ?_
          show Steps p.tables e below (T131.setTop (mkF m 167 #[.val (.long p0), .second, .val (.long p1), .second, .val (.long p2), .second, .val (.long p3), .second, .val (.int p4), .val (.ref b1), .val (.long yc), .second, .val (.long yv), .second, .val (.long yb), .second, .val (.ref b2), .val (.int ((XT.ushr p4 (3 : Int32)) &&& (3 : Int32))), .val (.ref bl), .val (.int (0 : Int32))] [(.ref bl), (.ref b1)])) target
          exact kt
        obtain ⟨cq134, kq134, q134a, q134b, q134c⟩ := isOf hZ rfl EX2
        obtain ⟨_, _, ⟨T134, L134, k134, n134⟩, -, X134, ⟨Lc134, hQ134, l134, y134, z134⟩, st134⟩ := X131.virtualBack hx (y := (⟨"com/example/bitloom/bitloom/BitmapStatistics$Kind", "equals", "(Ljava/lang/Object;)Z"⟩ : MethodName)) (z := (⟨"com/example/bitloom/bitloom/BitmapStatistics$Kind", "equals", "(Ljava/lang/Object;)Z"⟩ : MethodName)) hown (mvT hZ (hw _ (List.mem_of_getElem? (i := 15) rfl))) (mvT hZ (hw _ (List.mem_of_getElem? (i := 16) rfl))) (notFace_of_selects (args := #[]) (mvT hZ (hw _ (List.mem_of_getElem? (i := 18) rfl)))) (mvT hZ (hw _ (List.mem_of_getElem? (i := 18) rfl))) (mvT hZ (hw _ (List.mem_of_getElem? (i := 17) rfl))) (by decide) (backOf (W := 0) (rmLong l Z a0 hw [] b1 bl T131.heap n0 Z131 E131) hZ (hw _ (List.mem_of_getElem? (i := 19) rfl)) (hw _ (List.mem_of_getElem? (i := 2) rfl)) (by decide) (by decide)) q134a q134c (g := (mkF m 167 #[.val (.long p0), .second, .val (.long p1), .second, .val (.long p2), .second, .val (.long p3), .second, .val (.int p4), .val (.ref b1), .val (.long yc), .second, .val (.long yv), .second, .val (.long yb), .second, .val (.ref b2), .val (.int ((XT.ushr p4 (3 : Int32)) &&& (3 : Int32))), .val (.ref bl), .val (.int (0 : Int32))] [(.ref bl), (.ref b1)])) rfl (by rw [hml]; rfl) (Steps.refl _) (argsL := [(.ref bl)]) (rest := []) (lenOf pd_3 rfl) rfl (by show 2 * 0 + _ ≤ _; exact Nat.le_of_eq rfl) (hb hby at_167) (fun _ _ => ⟨rfl, rfl, (by decide : 3 + 0 ≤ _), (by decide : 7 + 0 ≤ _)⟩)
        dsimp only [Pt.U, Pt.locs, Pt.cells, Pt.slots] at X134 l134 y134 z134 st134 hQ134
        subst l134 y134 z134
        obtain ⟨rfl, Nq134, eq134⟩ := hQ134
        have N134 := Fr.app N131 Nq134
        have g135 : own_Go p e below s₁ (entryFrame m #[(.long p0), (.long p1), (.long p2), (.long p3), (.int p4)] maxLocals) T134 (mkF m 170 #[.val (.long p0), .second, .val (.long p1), .second, .val (.long p2), .second, .val (.long p3), .second, .val (.int p4), .val (.ref b1), .val (.long yc), .second, .val (.long yv), .second, .val (.long yb), .second, .val (.ref b2), .val (.int ((XT.ushr p4 (3 : Int32)) &&& (3 : Int32))), .val (.ref bl), .val (.int (0 : Int32))] [(.int (0 : Int32))]) := fun target kt => g133 target (st134.trans kt)
        have g136 : own_Go p e below s₁ (entryFrame m #[(.long p0), (.long p1), (.long p2), (.long p3), (.int p4)] maxLocals) T134 (mkF m 180 #[.val (.long p0), .second, .val (.long p1), .second, .val (.long p2), .second, .val (.long p3), .second, .val (.int p4), .val (.ref b1), .val (.long yc), .second, .val (.long yv), .second, .val (.long yb), .second, .val (.ref b2), .val (.int ((XT.ushr p4 (3 : Int32)) &&& (3 : Int32))), .val (.ref bl), .val (.int (0 : Int32))] [(.int (1 : Int32))]) := by
          intro target kt
          refine g135 target ?_
          refine XS.iload X134.here hx rfl (hb hby at_170) rfl ?_
          show Steps p.tables e below (T134.setTop (mkF m 172 #[.val (.long p0), .second, .val (.long p1), .second, .val (.long p2), .second, .val (.long p3), .second, .val (.int p4), .val (.ref b1), .val (.long yc), .second, .val (.long yv), .second, .val (.long yb), .second, .val (.ref b2), .val (.int ((XT.ushr p4 (3 : Int32)) &&& (3 : Int32))), .val (.ref bl), .val (.int (0 : Int32))] [(.int (0 : Int32)), (.int (0 : Int32))])) target
          refine XS.icmpNo X134.here hx rfl (hb hby at_172) rfl (XT.ii_ne_f rfl) ?_
          show Steps p.tables e below (T134.setTop (mkF m 175 #[.val (.long p0), .second, .val (.long p1), .second, .val (.long p2), .second, .val (.long p3), .second, .val (.int p4), .val (.ref b1), .val (.long yc), .second, .val (.long yv), .second, .val (.long yb), .second, .val (.ref b2), .val (.int ((XT.ushr p4 (3 : Int32)) &&& (3 : Int32))), .val (.ref bl), .val (.int (0 : Int32))] [])) target
          refine XT.iconstV X134.here hx rfl (1 : Int32) (hb hby at_175) rfl ?_
          show Steps p.tables e below (T134.setTop (mkF m 176 #[.val (.long p0), .second, .val (.long p1), .second, .val (.long p2), .second, .val (.long p3), .second, .val (.int p4), .val (.ref b1), .val (.long yc), .second, .val (.long yv), .second, .val (.long yb), .second, .val (.ref b2), .val (.int ((XT.ushr p4 (3 : Int32)) &&& (3 : Int32))), .val (.ref bl), .val (.int (0 : Int32))] [(.int (1 : Int32))])) target
          refine XS.goto X134.here hx rfl (pc0 := 176) (pc' := 180) rfl (hb hby at_176) (by decide) (by decide) ?_
          show Steps p.tables e below (T134.setTop (mkF m 180 #[.val (.long p0), .second, .val (.long p1), .second, .val (.long p2), .second, .val (.long p3), .second, .val (.int p4), .val (.ref b1), .val (.long yc), .second, .val (.long yv), .second, .val (.long yb), .second, .val (.ref b2), .val (.int ((XT.ushr p4 (3 : Int32)) &&& (3 : Int32))), .val (.ref bl), .val (.int (0 : Int32))] [(.int (1 : Int32))])) target
          exact kt
        obtain ⟨fs, hr, hrun, hended, hW, hsame⟩ := X134.leave (v := some (.int (nar .boolean (1 : Int32)))) (fun h => by rw [Bd.returns] at h; cases h)
        refine ⟨_, _, g136 _ ?_, hrun, hended, _, _, rfl, ?_, ⟨_, rfl⟩, hW, hsame.mono (by decide) (by decide)⟩
        · exact retN X134 hx (t := .boolean) Bd.returns (by simp) (hb hby at_180) hr
        · show Q_rm0 Z p0 p1 p2 p3 p4  h0 n0 _ T134.heap _
          rw [eq134]
          exact ⟨rfl, N134⟩
      · have g137 : own_Go p e below s₁ (entryFrame m #[(.long p0), (.long p1), (.long p2), (.long p3), (.int p4)] maxLocals) T102 (mkF m 167 #[.val (.long p0), .second, .val (.long p1), .second, .val (.long p2), .second, .val (.long p3), .second, .val (.int p4), .val (.ref b1), .val (.long yc), .second, .val (.long yv), .second, .val (.long yb), .second, .val (.ref b2), .val (.int ((XT.ushr p4 (3 : Int32)) &&& (3 : Int32))), .val (.ref b1), .val (.int (1 : Int32))] [(.ref b1), (.ref b1)]) := by
          intro target kt
          refine g128 target ?_
          refine XS.icmpYes X102.here hx rfl (pc0 := 141) (pc' := 156) rfl (hb hby at_141) rfl (XT.ii_ne_t hc129) (by decide) (by decide) ?_
          show Steps p.tables e below (T102.setTop (mkF m 156 #[.val (.long p0), .second, .val (.long p1), .second, .val (.long p2), .second, .val (.long p3), .second, .val (.int p4), .val (.ref b1), .val (.long yc), .second, .val (.long yv), .second, .val (.long yb), .second, .val (.ref b2), .val (.int ((XT.ushr p4 (3 : Int32)) &&& (3 : Int32))), .unset, .unset] [])) target
          refine XS.aload X102.here hx rfl (hb hby at_156) rfl rfl ?_
          show Steps p.tables e below (T102.setTop (mkF m 158 #[.val (.long p0), .second, .val (.long p1), .second, .val (.long p2), .second, .val (.long p3), .second, .val (.int p4), .val (.ref b1), .val (.long yc), .second, .val (.long yv), .second, .val (.long yb), .second, .val (.ref b2), .val (.int ((XT.ushr p4 (3 : Int32)) &&& (3 : Int32))), .unset, .unset] [(.ref b1)])) target
          refine XS.astore X102.here hx rfl (hb hby at_158) rfl rfl (l' := #[.val (.long p0), .second, .val (.long p1), .second, .val (.long p2), .second, .val (.long p3), .second, .val (.int p4), .val (.ref b1), .val (.long yc), .second, .val (.long yv), .second, .val (.long yb), .second, .val (.ref b2), .val (.int ((XT.ushr p4 (3 : Int32)) &&& (3 : Int32))), .val (.ref b1), .unset]) rfl ?_
          show Steps p.tables e below (T102.setTop (mkF m 160 #[.val (.long p0), .second, .val (.long p1), .second, .val (.long p2), .second, .val (.long p3), .second, .val (.int p4), .val (.ref b1), .val (.long yc), .second, .val (.long yv), .second, .val (.long yb), .second, .val (.ref b2), .val (.int ((XT.ushr p4 (3 : Int32)) &&& (3 : Int32))), .val (.ref b1), .unset] [])) target
          refine XT.iconstV X102.here hx rfl (1 : Int32) (hb hby at_160) rfl ?_
          show Steps p.tables e below (T102.setTop (mkF m 161 #[.val (.long p0), .second, .val (.long p1), .second, .val (.long p2), .second, .val (.long p3), .second, .val (.int p4), .val (.ref b1), .val (.long yc), .second, .val (.long yv), .second, .val (.long yb), .second, .val (.ref b2), .val (.int ((XT.ushr p4 (3 : Int32)) &&& (3 : Int32))), .val (.ref b1), .unset] [(.int (1 : Int32))])) target
          refine XS.istore X102.here hx rfl (hb hby at_161) rfl (l' := #[.val (.long p0), .second, .val (.long p1), .second, .val (.long p2), .second, .val (.long p3), .second, .val (.int p4), .val (.ref b1), .val (.long yc), .second, .val (.long yv), .second, .val (.long yb), .second, .val (.ref b2), .val (.int ((XT.ushr p4 (3 : Int32)) &&& (3 : Int32))), .val (.ref b1), .val (.int (1 : Int32))]) rfl ?_
          show Steps p.tables e below (T102.setTop (mkF m 163 #[.val (.long p0), .second, .val (.long p1), .second, .val (.long p2), .second, .val (.long p3), .second, .val (.int p4), .val (.ref b1), .val (.long yc), .second, .val (.long yv), .second, .val (.long yb), .second, .val (.ref b2), .val (.int ((XT.ushr p4 (3 : Int32)) &&& (3 : Int32))), .val (.ref b1), .val (.int (1 : Int32))] [])) target
          refine XS.aload X102.here hx rfl (hb hby at_163) rfl rfl ?_
          show Steps p.tables e below (T102.setTop (mkF m 165 #[.val (.long p0), .second, .val (.long p1), .second, .val (.long p2), .second, .val (.long p3), .second, .val (.int p4), .val (.ref b1), .val (.long yc), .second, .val (.long yv), .second, .val (.long yb), .second, .val (.ref b2), .val (.int ((XT.ushr p4 (3 : Int32)) &&& (3 : Int32))), .val (.ref b1), .val (.int (1 : Int32))] [(.ref b1)])) target
          refine XS.aload X102.here hx rfl (hb hby at_165) rfl rfl ?_
          show Steps p.tables e below (T102.setTop (mkF m 167 #[.val (.long p0), .second, .val (.long p1), .second, .val (.long p2), .second, .val (.long p3), .second, .val (.int p4), .val (.ref b1), .val (.long yc), .second, .val (.long yv), .second, .val (.long yb), .second, .val (.ref b2), .val (.int ((XT.ushr p4 (3 : Int32)) &&& (3 : Int32))), .val (.ref b1), .val (.int (1 : Int32))] [(.ref b1), (.ref b1)])) target
          exact kt
        obtain ⟨cq138, kq138, q138a, q138b, q138c⟩ := isOf hZ ehp.symm EX1
        obtain ⟨_, _, ⟨T138, L138, k138, n138⟩, -, X138, ⟨Lc138, hQ138, l138, y138, z138⟩, st138⟩ := X102.virtualBack hx (y := (⟨"com/example/bitloom/bitloom/BitmapStatistics$Kind", "equals", "(Ljava/lang/Object;)Z"⟩ : MethodName)) (z := (⟨"com/example/bitloom/bitloom/BitmapStatistics$Kind", "equals", "(Ljava/lang/Object;)Z"⟩ : MethodName)) hown (mvT hZ (hw _ (List.mem_of_getElem? (i := 15) rfl))) (mvT hZ (hw _ (List.mem_of_getElem? (i := 16) rfl))) (notFace_of_selects (args := #[]) (mvT hZ (hw _ (List.mem_of_getElem? (i := 18) rfl)))) (mvT hZ (hw _ (List.mem_of_getElem? (i := 18) rfl))) (mvT hZ (hw _ (List.mem_of_getElem? (i := 17) rfl))) (by decide) (backOf (W := 0) (rmKind l Z a0 hw [] b1 b1 p0 p1 p2 p0 p1 p2 hp n0 Z102 EX1 Xa Xb Xc Xa Xb Xc) hZ (hw _ (List.mem_of_getElem? (i := 19) rfl)) (hw _ (List.mem_of_getElem? (i := 2) rfl)) (by decide) (by decide)) q138a q138c (g := (mkF m 167 #[.val (.long p0), .second, .val (.long p1), .second, .val (.long p2), .second, .val (.long p3), .second, .val (.int p4), .val (.ref b1), .val (.long yc), .second, .val (.long yv), .second, .val (.long yb), .second, .val (.ref b2), .val (.int ((XT.ushr p4 (3 : Int32)) &&& (3 : Int32))), .val (.ref b1), .val (.int (1 : Int32))] [(.ref b1), (.ref b1)])) rfl (by rw [hml]; rfl) (Steps.refl _) (argsL := [(.ref b1)]) (rest := []) (lenOf pd_3 rfl) rfl (by show 2 * 0 + _ ≤ _; exact Nat.le_of_eq rfl) (hb hby at_167) (fun _ _ => ⟨rfl, ehp.symm, (by decide : 2 + 0 ≤ _), (by decide : 6 + 0 ≤ _)⟩)
        dsimp only [Pt.U, Pt.locs, Pt.cells, Pt.slots] at X138 l138 y138 z138 st138 hQ138
        subst l138 y138 z138
        obtain ⟨rfl, Nq138, eq138⟩ := hQ138
        have N138 := Fr.app N102 Nq138
        have g139 : own_Go p e below s₁ (entryFrame m #[(.long p0), (.long p1), (.long p2), (.long p3), (.int p4)] maxLocals) T138 (mkF m 170 #[.val (.long p0), .second, .val (.long p1), .second, .val (.long p2), .second, .val (.long p3), .second, .val (.int p4), .val (.ref b1), .val (.long yc), .second, .val (.long yv), .second, .val (.long yb), .second, .val (.ref b2), .val (.int ((XT.ushr p4 (3 : Int32)) &&& (3 : Int32))), .val (.ref b1), .val (.int (1 : Int32))] [(.int (own_keq p0 p0 p1 p1 p2 p2))]) := fun target kt => g137 target (st138.trans kt)
        have g140 : own_Go p e below s₁ (entryFrame m #[(.long p0), (.long p1), (.long p2), (.long p3), (.int p4)] maxLocals) T138 (mkF m 180 #[.val (.long p0), .second, .val (.long p1), .second, .val (.long p2), .second, .val (.long p3), .second, .val (.int p4), .val (.ref b1), .val (.long yc), .second, .val (.long yv), .second, .val (.long yb), .second, .val (.ref b2), .val (.int ((XT.ushr p4 (3 : Int32)) &&& (3 : Int32))), .val (.ref b1), .val (.int (1 : Int32))] [(.int (1 : Int32))]) := by
          intro target kt
          refine g139 target ?_
          refine XS.iload X138.here hx rfl (hb hby at_170) rfl ?_
          show Steps p.tables e below (T138.setTop (mkF m 172 #[.val (.long p0), .second, .val (.long p1), .second, .val (.long p2), .second, .val (.long p3), .second, .val (.int p4), .val (.ref b1), .val (.long yc), .second, .val (.long yv), .second, .val (.long yb), .second, .val (.ref b2), .val (.int ((XT.ushr p4 (3 : Int32)) &&& (3 : Int32))), .val (.ref b1), .val (.int (1 : Int32))] [(.int (1 : Int32)), (.int (own_keq p0 p0 p1 p1 p2 p2))])) target
          refine XS.icmpNo X138.here hx rfl (hb hby at_172) rfl (XT.ii_ne_f (own_self p0 p1 p2)) ?_
          show Steps p.tables e below (T138.setTop (mkF m 175 #[.val (.long p0), .second, .val (.long p1), .second, .val (.long p2), .second, .val (.long p3), .second, .val (.int p4), .val (.ref b1), .val (.long yc), .second, .val (.long yv), .second, .val (.long yb), .second, .val (.ref b2), .val (.int ((XT.ushr p4 (3 : Int32)) &&& (3 : Int32))), .val (.ref b1), .val (.int (1 : Int32))] [])) target
          refine XT.iconstV X138.here hx rfl (1 : Int32) (hb hby at_175) rfl ?_
          show Steps p.tables e below (T138.setTop (mkF m 176 #[.val (.long p0), .second, .val (.long p1), .second, .val (.long p2), .second, .val (.long p3), .second, .val (.int p4), .val (.ref b1), .val (.long yc), .second, .val (.long yv), .second, .val (.long yb), .second, .val (.ref b2), .val (.int ((XT.ushr p4 (3 : Int32)) &&& (3 : Int32))), .val (.ref b1), .val (.int (1 : Int32))] [(.int (1 : Int32))])) target
          refine XS.goto X138.here hx rfl (pc0 := 176) (pc' := 180) rfl (hb hby at_176) (by decide) (by decide) ?_
          show Steps p.tables e below (T138.setTop (mkF m 180 #[.val (.long p0), .second, .val (.long p1), .second, .val (.long p2), .second, .val (.long p3), .second, .val (.int p4), .val (.ref b1), .val (.long yc), .second, .val (.long yv), .second, .val (.long yb), .second, .val (.ref b2), .val (.int ((XT.ushr p4 (3 : Int32)) &&& (3 : Int32))), .val (.ref b1), .val (.int (1 : Int32))] [(.int (1 : Int32))])) target
          exact kt
        obtain ⟨fs, hr, hrun, hended, hW, hsame⟩ := X138.leave (v := some (.int (nar .boolean (1 : Int32)))) (fun h => by rw [Bd.returns] at h; cases h)
        refine ⟨_, _, g140 _ ?_, hrun, hended, _, _, rfl, ?_, ⟨_, rfl⟩, hW, hsame.mono (by decide) (by decide)⟩
        · exact retN X138 hx (t := .boolean) Bd.returns (by simp) (hb hby at_180) hr
        · show Q_rm0 Z p0 p1 p2 p3 p4  h0 n0 _ T138.heap _
          rw [eq138]
          exact ⟨rfl, N138⟩
set_option maxRecDepth 65536 in
set_option maxHeartbeats 40000000 in
theorem comes_1 {Post : Tables → Env → Array Value → State → Outcome → State → Prop} (hpost : ∀ tb e args s v u, (limb_1_1.after args s (.returned v) u = true ∧ limb_1_2.after args s (.returned v) u = true ∧ True) → FrameEnd s (.returned v) u (Jvm.fieldLocs frame_1_writes args s ++ Jvm.arrayLocs frame_1_arrays args s ++ Jvm.staticLocs frame_1_statics s) 16 128 → Post tb e args s (.returned v) u) :
    ArmFor flags0 classFile x code maxLocals ret World_1 tables_1 room_1 Calls_1 rest_1 Pre_1 Post := by
  intro l hfl _ _ p e ha hc hk s m args below hf hA hF happ hP
  obtain ⟨hcalls, hrest, hpre⟩ := hP
  obtain ⟨-, -, -, hnamed, -, -, -, hat⟩ := (Spec.applies_iff hf).mp happ
  obtain ⟨hg, hn⟩ := and_e (Cond.before_iff.mp (show (Jvm.Cond.and given_1 narrow_1).before args s = true from hpre))
  obtain ⟨hcnt, hs0⟩ := and_e hg
  obtain ⟨ha0, hs1⟩ := and_e hs0
  obtain ⟨ha1, hs2⟩ := and_e hs1
  obtain ⟨ha2, hs3⟩ := and_e hs2
  obtain ⟨ha3, hs4⟩ := and_e hs3
  have ha4 := hs4
  obtain ⟨w0, w1, w2, w3, w4, rfl⟩ : ∃ w0 w1 w2 w3 w4 : Value, args = #[w0, w1, w2, w3, w4] := by
    have hs : args.size = 5 := by simpa [Cond.value, given_1] using hcnt
    obtain ⟨L⟩ := args
    match L, hs with
    | [w0, w1, w2, w3, w4], _ => exact ⟨w0, w1, w2, w3, w4, rfl⟩
  have hw := fun d (hd : d ∈ tables_1) => atoms_spec (ws := Jvm.Cond.code x code maxLocals ret :: tables_1) hat d (List.mem_cons_of_mem _ hd)
  have hfit : Fit s := fun {y c} hc i hi => by
    obtain ⟨ha, rfl⟩ := Array.getElem?_eq_some_iff.mp hc
    have q := List.all_eq_true.mp ((Array.all_eq_true_iff_forall_mem.mp hF) _ (Array.getElem_mem ha)) i (List.mem_range.mpr hi)
    simpa [Array.getElem?_eq_getElem hi] using q
  obtain ⟨hsets, hown0⟩ := atoms_of _ (rest_1_c_eq ▸ (show rest_1_c.before _ s = true from hrest))
  have hr0 := Cond.before_iff.mp hown0
  obtain ⟨i0, ei0⟩ := isL_v ha0
  obtain rfl : w0 = (.long i0) := Option.some.inj ei0
  obtain ⟨i1, ei1⟩ := isL_v ha1
  obtain rfl : w1 = (.long i1) := Option.some.inj ei1
  obtain ⟨i2, ei2⟩ := isL_v ha2
  obtain rfl : w2 = (.long i2) := Option.some.inj ei2
  obtain ⟨i3, ei3⟩ := isL_v ha3
  obtain rfl : w3 = (.long i3) := Option.some.inj ei3
  obtain ⟨i4, ei4⟩ := is_v ha4
  obtain rfl : w4 = (.int i4) := Option.some.inj ei4
  obtain ⟨n, o, h1, h2, h3, _, L, rfl, ⟨rfl, N⟩, hq⟩ := rm0 l s _ hw tables_1 i0 i1 i2 i3 i4  s.heap s.heap.size (Nat.le_refl _) (Old.start s) (own_cache hsets) p e ha hc hk s m _ below hf ((Spec.applies_iff_loose hf).mp happ).1 ⟨rfl, State.Warmed39.refl s, rfl⟩ trivial
  refine ⟨n, _, h1, h2, h3, hpost _ _ _ _ _ _ ⟨Cond.after_iff.mpr rfl, Cond.after_iff.mpr (eq_i res_at (Term.int_eval (1)) rfl), trivial⟩ ⟨hq.1, hq.2.1, (hq.2.2.sift fun y hy => Or.inr (N y hy)).mono (by decide) (by decide)⟩⟩
theorem main_1_1 : Claimed_1_1 := comes_1 fun _ _ _ _ _ _ h hF => ⟨h.1, hF⟩
theorem main_1_2 : Claimed_1_2 := comes_1 fun _ _ _ _ _ _ h hF => ⟨h.2.1, hF⟩
end Jvm.Pilot.@@N@@
namespace Jvm.Pilot.@@N@@
open Jvm Jvm.ClassFile Sem Op Lib Jvm.Free Jvm.Stand Jvm.Pilot.@@N@@.Jvm.D
/-! MADE BY PROGRAM (witnessworld.py) out of the Statement's table words and the real class files: 16 classes; the members and pool entries that the words name. The judged class is class 1, her method 1. -/
namespace start1
open Jvm.ClassFile
def u (s : String) : CpInfo := .utf8 (stringToUtf16 s)
/-- a pool by its gaps: so many unusable entries, then the entry; so many at the end -/
def gap : Nat → List CpInfo → List CpInfo
  | 0, r => r
  | n + 1, r => .unusable :: gap n r
def poolList (es : List (Nat × CpInfo)) (last : Nat) : List CpInfo := es.foldr (fun e r => gap e.1 (e.2 :: r)) (gap last [])
def pool (es : List (Nat × CpInfo)) (last : Nat) : Array CpInfo := ⟨poolList es last⟩
def fileOf (pool : Array CpInfo) (this : Nat) (attrs : Array Attribute := #[]) (ms : Array MethodInfo := #[]) (fl : Nat := 33) (sup : Nat := 0) (ifs : Array Nat := #[]) (fds : Array FieldInfo := #[]) : ClassFile where
  minorVersion := 0
  majorVersion := 65
  constantPool := pool
  accessFlags := fl
  thisClass := this
  superClass := sup
  interfaces := ifs
  fields := fds
  methods := ms
  attributes := attrs
def plain (name : String) (sup : Option ClassId) : Class where
  name := name
  kind := .ordinary
  loader := none
  accessFlags := 33
  super := sup
  interfaces := #[]
  cf := none
  fields := #[]
  methods := #[]
  instanceTypes := #[]
  staticTypes := #[]
  resolved := #[]
  callSites := []
  init := .initialized
  statics := none
  mirror := none

def pool0 : Array CpInfo := pool [(5, u "<init>"), (0, u "()V"), (1, .class_ 10), (1, u "java/lang/Object")] 113

def k0c0 : Code := { maxStack := 0, maxLocals := 1, code := object_method_1_code, exceptionTable := #[], attributes := #[] }
def k0m0 : Method := { name := "<init>", desc := "()V", sig := { parameters := [], returnType := none }, accessFlags := 1, code := some k0c0 }
/-- java/lang/Object -/
def k0 : Class := { plain "java/lang/Object" none with
  accessFlags := 33
  interfaces := #[]
  cf := some (fileOf pool0 8 #[] #[{ accessFlags := 1, nameIndex := 5, descriptorIndex := 6, attributes := #[] }] 33 0 #[] #[])
  fields := #[]
  methods := #[k0m0]
  instanceTypes := #[]
  staticTypes := #[]
  resolved := Array.replicate 124 none
  statics := none }

def pool1 : Array CpInfo := pool [(2, .class_ 4), (1, u "java/lang/Object"), (0, u "<init>"), (0, u "()V"), (0, .class_ 8), (0, u "com/example/bitloom/bitloom/BitmapStatistics$Kind"), (0, .methodref 7 10), (0, .nameAndType 5 11), (0, u "(JJJ)V"), (0, .methodref 13 14), (0, .class_ 15), (0, .nameAndType 16 17), (0, u "java/lang/Long"), (0, u "valueOf"), (0, u "(J)Ljava/lang/Long;"), (0, .methodref 7 19), (0, .nameAndType 20 21), (0, u "equals"), (0, u "(Ljava/lang/Object;)Z"), (0, .class_ 23), (0, u "com/example/bitloom/bitloom/KindEqualsPinLaw"), (2, u "law"), (0, u "(JJJJI)Z")] 7

def k1m0 : Method := { name := "<init>", desc := "()V", sig := { parameters := [], returnType := none }, accessFlags := 1, code := none }
def k1c1 : Code := { maxStack := 8, maxLocals := 20, code := code, exceptionTable := #[], attributes := #[] }
def k1m1 : Method := { name := "law", desc := "(JJJJI)Z", sig := { parameters := [.long, .long, .long, .long, .int], returnType := some .boolean }, accessFlags := 9, code := some k1c1 }
/-- com/example/bitloom/bitloom/KindEqualsPinLaw -/
def k1 : Class := { plain "com/example/bitloom/bitloom/KindEqualsPinLaw" (some 0) with
  accessFlags := 49
  interfaces := #[]
  cf := some (fileOf pool1 22 #[] #[{ accessFlags := 1, nameIndex := 5, descriptorIndex := 6, attributes := #[] }, { accessFlags := 9, nameIndex := 26, descriptorIndex := 27, attributes := #[] }] 49 2 #[] #[])
  fields := #[]
  methods := #[k1m0, k1m1]
  instanceTypes := #[]
  staticTypes := #[]
  resolved := Array.replicate 35 none
  statics := none }

def pool2 : Array CpInfo := pool [(1, .methodref 2 3), (0, .class_ 4), (0, .nameAndType 5 6), (0, u "java/lang/Object"), (0, u "<init>"), (0, u "()V"), (0, .fieldref 8 9), (0, .class_ 10), (0, .nameAndType 11 12), (0, u "com/example/bitloom/bitloom/BitmapStatistics$Kind"), (0, u "chunks"), (0, u "J"), (0, .fieldref 8 14), (0, .nameAndType 15 12), (0, u "values"), (0, .fieldref 8 17), (0, .nameAndType 18 12), (0, u "bytes"), (2, u "(JJJ)V"), (18, u "NONE"), (0, u "Lcom/example/bitloom/bitloom/BitmapStatistics$Kind;"), (5, u "equals"), (0, u "(Ljava/lang/Object;)Z"), (9, .class_ 59), (0, u "com/example/bitloom/bitloom/BitmapStatistics")] 16

def k2c0 : Code := { maxStack := 3, maxLocals := 7, code := prog_20_method_1_code, exceptionTable := #[], attributes := #[] }
def k2m0 : Method := { name := "<init>", desc := "(JJJ)V", sig := { parameters := [.long, .long, .long], returnType := none }, accessFlags := 0, code := some k2c0 }
def k2c1 : Code := { maxStack := 4, maxLocals := 3, code := prog_20_method_6_code, exceptionTable := #[], attributes := #[] }
def k2m1 : Method := { name := "equals", desc := "(Ljava/lang/Object;)Z", sig := { parameters := [(.object "java/lang/Object")], returnType := some .boolean }, accessFlags := 1, code := some k2c1 }
/-- com/example/bitloom/bitloom/BitmapStatistics$Kind -/
def k2 : Class := { plain "com/example/bitloom/bitloom/BitmapStatistics$Kind" (some 0) with
  accessFlags := 49
  interfaces := #[]
  cf := some (fileOf pool2 8 #[.nestHost 58] #[{ accessFlags := 0, nameIndex := 5, descriptorIndex := 21, attributes := #[] }, { accessFlags := 1, nameIndex := 47, descriptorIndex := 48, attributes := #[] }] 49 2 #[] #[{ accessFlags := 24, nameIndex := 40, descriptorIndex := 41, attributes := #[] }, { accessFlags := 18, nameIndex := 11, descriptorIndex := 12, attributes := #[] }, { accessFlags := 18, nameIndex := 15, descriptorIndex := 12, attributes := #[] }, { accessFlags := 18, nameIndex := 18, descriptorIndex := 12, attributes := #[] }])
  fields := #[{ name := "NONE", type := (.object "com/example/bitloom/bitloom/BitmapStatistics$Kind"), accessFlags := 24, slot := 0, constantValue := 0 }, { name := "chunks", type := .long, accessFlags := 18, slot := 0, constantValue := 0 }, { name := "values", type := .long, accessFlags := 18, slot := 1, constantValue := 0 }, { name := "bytes", type := .long, accessFlags := 18, slot := 2, constantValue := 0 }]
  methods := #[k2m0, k2m1]
  instanceTypes := #[.long, .long, .long]
  staticTypes := #[(.object "com/example/bitloom/bitloom/BitmapStatistics$Kind")]
  resolved := Array.replicate 76 none
  statics := none }

def pool3 : Array CpInfo := pool [(1, .class_ 2), (0, u "java/io/Serializable"), (0, .class_ 4), (0, u "java/lang/Object")] 2

/-- java/io/Serializable -/
def k3 : Class := { plain "java/io/Serializable" (some 0) with
  accessFlags := 1537
  interfaces := #[]
  cf := some (fileOf pool3 1 #[] #[] 1537 3 #[] #[])
  fields := #[]
  methods := #[]
  instanceTypes := #[]
  staticTypes := #[]
  resolved := Array.replicate 7 none
  statics := none }

def pool4 : Array CpInfo := pool [(1, .methodref 2 3), (0, .class_ 4), (0, .nameAndType 5 6), (0, u "java/lang/Object"), (0, u "<init>"), (0, u "()V"), (1, .class_ 10), (1, u "java/lang/Number"), (2, .class_ 14), (0, u "java/io/Serializable"), (0, u "serialVersionUID"), (0, u "J")] 20

def k4c0 : Code := { maxStack := 1, maxLocals := 1, code := jdk_18_method_1_code, exceptionTable := #[], attributes := #[] }
def k4m0 : Method := { name := "<init>", desc := "()V", sig := { parameters := [], returnType := none }, accessFlags := 1, code := some k4c0 }
/-- java/lang/Number -/
def k4 : Class := { plain "java/lang/Number" (some 0) with
  accessFlags := 1057
  interfaces := #[3]
  cf := some (fileOf pool4 8 #[] #[{ accessFlags := 1, nameIndex := 5, descriptorIndex := 6, attributes := #[] }] 1057 2 #[13] #[{ accessFlags := 26, nameIndex := 15, descriptorIndex := 16, attributes := #[] }])
  fields := #[{ name := "serialVersionUID", type := .long, accessFlags := 26, slot := 0, constantValue := 0 }]
  methods := #[k4m0]
  instanceTypes := #[]
  staticTypes := #[.long]
  resolved := Array.replicate 37 none
  statics := none }

def pool5 : Array CpInfo := pool [(1, .class_ 2), (0, u "java/lang/Comparable"), (0, .class_ 4), (0, u "java/lang/Object")] 7

/-- java/lang/Comparable -/
def k5 : Class := { plain "java/lang/Comparable" (some 0) with
  accessFlags := 1537
  interfaces := #[]
  cf := some (fileOf pool5 1 #[] #[] 1537 3 #[] #[])
  fields := #[]
  methods := #[]
  instanceTypes := #[]
  staticTypes := #[]
  resolved := Array.replicate 12 none
  statics := none }

def pool6 : Array CpInfo := pool [(1, .class_ 2), (0, u "java/lang/constant/Constable"), (0, .class_ 4), (0, u "java/lang/Object")] 6

/-- java/lang/constant/Constable -/
def k6 : Class := { plain "java/lang/constant/Constable" (some 0) with
  accessFlags := 1537
  interfaces := #[]
  cf := some (fileOf pool6 1 #[] #[] 1537 3 #[] #[])
  fields := #[]
  methods := #[]
  instanceTypes := #[]
  staticTypes := #[]
  resolved := Array.replicate 11 none
  statics := none }

def pool7 : Array CpInfo := pool [(1, .class_ 2), (0, u "java/lang/constant/ConstantDesc"), (0, .class_ 4), (0, u "java/lang/Object")] 32

/-- java/lang/constant/ConstantDesc -/
def k7 : Class := { plain "java/lang/constant/ConstantDesc" (some 0) with
  accessFlags := 1537
  interfaces := #[]
  cf := some (fileOf pool7 1 #[] #[] 1537 3 #[] #[])
  fields := #[]
  methods := #[]
  instanceTypes := #[]
  staticTypes := #[]
  resolved := Array.replicate 37 none
  statics := none }

def pool8 : Array CpInfo := pool [(1, .class_ 2), (0, u "java/lang/Long"), (55, .nameAndType 59 60), (0, u "<init>"), (0, u "()V"), (24, u "valueOf"), (143, u "(J)Ljava/lang/Long;"), (0, .long 18446744073709551488), (1, .long 127), (1, .fieldref 235 236), (0, .class_ 237), (0, .nameAndType 238 239), (0, u "java/lang/Long$LongCache"), (0, u "cache"), (0, u "[Ljava/lang/Long;"), (0, .methodref 1 241), (0, .nameAndType 59 242), (0, u "(J)V"), (27, .methodref 271 58), (0, .class_ 272), (0, u "java/lang/Number"), (0, .fieldref 1 274), (0, .nameAndType 275 276), (0, u "value"), (0, u "J"), (84, u "TYPE"), (0, u "Ljava/lang/Class;"), (0, .class_ 364), (0, u "java/lang/Comparable"), (0, .class_ 366), (0, u "java/lang/constant/Constable"), (0, .class_ 368), (0, u "java/lang/constant/ConstantDesc"), (0, u "MIN_VALUE"), (1, u "MAX_VALUE"), (4, u "SIZE"), (0, u "I"), (1, u "BYTES"), (1, u "serialVersionUID")] 142

def k8c0 : Code := { maxStack := 4, maxLocals := 3, code := jdk_35_method_24_code, exceptionTable := #[], attributes := #[] }
def k8m0 : Method := { name := "valueOf", desc := "(J)Ljava/lang/Long;", sig := { parameters := [.long], returnType := some (.object "java/lang/Long") }, accessFlags := 9, code := some k8c0 }
def k8c1 : Code := { maxStack := 3, maxLocals := 3, code := jdk_35_method_26_code, exceptionTable := #[], attributes := #[] }
def k8m1 : Method := { name := "<init>", desc := "(J)V", sig := { parameters := [.long], returnType := none }, accessFlags := 1, code := some k8c1 }
/-- java/lang/Long -/
def k8 : Class := { plain "java/lang/Long" (some 4) with
  accessFlags := 49
  interfaces := #[5, 6, 7]
  cf := some (fileOf pool8 1 #[.nestMembers #[235]] #[{ accessFlags := 9, nameIndex := 85, descriptorIndex := 229, attributes := #[] }, { accessFlags := 1, nameIndex := 59, descriptorIndex := 242, attributes := #[] }] 49 271 #[363, 365, 367] #[{ accessFlags := 25, nameIndex := 369, descriptorIndex := 276, attributes := #[] }, { accessFlags := 25, nameIndex := 371, descriptorIndex := 276, attributes := #[] }, { accessFlags := 25, nameIndex := 361, descriptorIndex := 362, attributes := #[] }, { accessFlags := 18, nameIndex := 275, descriptorIndex := 276, attributes := #[] }, { accessFlags := 25, nameIndex := 376, descriptorIndex := 377, attributes := #[] }, { accessFlags := 25, nameIndex := 379, descriptorIndex := 377, attributes := #[] }, { accessFlags := 26, nameIndex := 381, descriptorIndex := 276, attributes := #[] }])
  fields := #[{ name := "MIN_VALUE", type := .long, accessFlags := 25, slot := 0, constantValue := 0 }, { name := "MAX_VALUE", type := .long, accessFlags := 25, slot := 1, constantValue := 0 }, { name := "TYPE", type := (.object "java/lang/Class"), accessFlags := 25, slot := 2, constantValue := 0 }, { name := "value", type := .long, accessFlags := 18, slot := 0, constantValue := 0 }, { name := "SIZE", type := .int, accessFlags := 25, slot := 3, constantValue := 0 }, { name := "BYTES", type := .int, accessFlags := 25, slot := 4, constantValue := 0 }, { name := "serialVersionUID", type := .long, accessFlags := 26, slot := 5, constantValue := 0 }]
  methods := #[k8m0, k8m1]
  instanceTypes := #[.long]
  staticTypes := #[.long, .long, (.object "java/lang/Class"), .int, .int, .long]
  resolved := Array.replicate 524 none
  statics := none }

def pool9 : Array CpInfo := pool [(2, .class_ 4), (1, u "java/lang/Object"), (0, u "<init>"), (0, u "()V"), (0, .class_ 8), (0, u "java/lang/Long"), (7, .class_ 18), (1, u "java/lang/Long$LongCache"), (0, u "$assertionsDisabled"), (0, u "Z"), (8, u "archivedCache"), (0, u "[Ljava/lang/Long;"), (7, u "cache")] 24

def k9m0 : Method := { name := "<init>", desc := "()V", sig := { parameters := [], returnType := none }, accessFlags := 2, code := none }
/-- java/lang/Long$LongCache -/
def k9 : Class := { plain "java/lang/Long$LongCache" (some 0) with
  accessFlags := 48
  interfaces := #[]
  cf := some (fileOf pool9 16 #[.nestHost 7] #[{ accessFlags := 2, nameIndex := 5, descriptorIndex := 6, attributes := #[] }] 48 2 #[] #[{ accessFlags := 24, nameIndex := 38, descriptorIndex := 30, attributes := #[] }, { accessFlags := 8, nameIndex := 29, descriptorIndex := 30, attributes := #[] }, { accessFlags := 4120, nameIndex := 19, descriptorIndex := 20, attributes := #[] }])
  fields := #[{ name := "cache", type := (.array (.object "java/lang/Long")), accessFlags := 24, slot := 0, constantValue := 0 }, { name := "archivedCache", type := (.array (.object "java/lang/Long")), accessFlags := 8, slot := 1, constantValue := 0 }, { name := "$assertionsDisabled", type := .boolean, accessFlags := 4120, slot := 2, constantValue := 0 }]
  methods := #[k9m0]
  instanceTypes := #[]
  staticTypes := #[(.array (.object "java/lang/Long")), (.array (.object "java/lang/Long")), .boolean]
  resolved := Array.replicate 63 none
  statics := some 0 }

def pool10 : Array CpInfo := pool [(1, u "java/lang/Cloneable"), (0, .class_ 1), (0, u "java/lang/Object"), (0, .class_ 3)] 3

/-- java/lang/Cloneable -/
def k10 : Class := { plain "java/lang/Cloneable" (some 0) with
  accessFlags := 1537
  interfaces := #[]
  cf := some (fileOf pool10 2 #[] #[] 1537 4 #[] #[])
  fields := #[]
  methods := #[]
  instanceTypes := #[]
  staticTypes := #[]
  resolved := Array.replicate 8 none
  statics := none }

/-- the primitive byte -/
def k11 : Class := { plain "byte" none with kind := .primitive 'B', accessFlags := 0x411 }
/-- [B -/
def k12 : Class := { plain "[B" (some 0) with kind := .array 11 .byte, interfaces := #[10, 3], accessFlags := 1041 }

/-- the primitive int -/
def k13 : Class := { plain "int" none with kind := .primitive 'I', accessFlags := 0x411 }
/-- [I -/
def k14 : Class := { plain "[I" (some 0) with kind := .array 13 .int, interfaces := #[10, 3], accessFlags := 1041 }

/-- [Ljava/lang/Long; -/
def k15 : Class := { plain "[Ljava/lang/Long;" (some 0) with kind := .array 8 (.object "java/lang/Long"), interfaces := #[10, 3], accessFlags := 1041 }

def heap : Heap := #[{ cls := 9, slots := #[.ref 1, .null, .int 0], vm := .statics 9 },
  { cls := 15, slots := #[.ref 2, .ref 3, .ref 4, .ref 5, .ref 6, .ref 7, .ref 8, .ref 9, .ref 10, .ref 11, .ref 12, .ref 13, .ref 14, .ref 15, .ref 16, .ref 17, .ref 18, .ref 19, .ref 20, .ref 21, .ref 22, .ref 23, .ref 24, .ref 25, .ref 26, .ref 27, .ref 28, .ref 29, .ref 30, .ref 31, .ref 32, .ref 33, .ref 34, .ref 35, .ref 36, .ref 37, .ref 38, .ref 39, .ref 40, .ref 41, .ref 42, .ref 43, .ref 44, .ref 45, .ref 46, .ref 47, .ref 48, .ref 49, .ref 50, .ref 51, .ref 52, .ref 53, .ref 54, .ref 55, .ref 56, .ref 57, .ref 58, .ref 59, .ref 60, .ref 61, .ref 62, .ref 63, .ref 64, .ref 65, .ref 66, .ref 67, .ref 68, .ref 69, .ref 70, .ref 71, .ref 72, .ref 73, .ref 74, .ref 75, .ref 76, .ref 77, .ref 78, .ref 79, .ref 80, .ref 81, .ref 82, .ref 83, .ref 84, .ref 85, .ref 86, .ref 87, .ref 88, .ref 89, .ref 90, .ref 91, .ref 92, .ref 93, .ref 94, .ref 95, .ref 96, .ref 97, .ref 98, .ref 99, .ref 100, .ref 101, .ref 102, .ref 103, .ref 104, .ref 105, .ref 106, .ref 107, .ref 108, .ref 109, .ref 110, .ref 111, .ref 112, .ref 113, .ref 114, .ref 115, .ref 116, .ref 117, .ref 118, .ref 119, .ref 120, .ref 121, .ref 122, .ref 123, .ref 124, .ref 125, .ref 126, .ref 127, .ref 128, .ref 129, .ref 130, .ref 131, .ref 132, .ref 133, .ref 134, .ref 135, .ref 136, .ref 137, .ref 138, .ref 139, .ref 140, .ref 141, .ref 142, .ref 143, .ref 144, .ref 145, .ref 146, .ref 147, .ref 148, .ref 149, .ref 150, .ref 151, .ref 152, .ref 153, .ref 154, .ref 155, .ref 156, .ref 157, .ref 158, .ref 159, .ref 160, .ref 161, .ref 162, .ref 163, .ref 164, .ref 165, .ref 166, .ref 167, .ref 168, .ref 169, .ref 170, .ref 171, .ref 172, .ref 173, .ref 174, .ref 175, .ref 176, .ref 177, .ref 178, .ref 179, .ref 180, .ref 181, .ref 182, .ref 183, .ref 184, .ref 185, .ref 186, .ref 187, .ref 188, .ref 189, .ref 190, .ref 191, .ref 192, .ref 193, .ref 194, .ref 195, .ref 196, .ref 197, .ref 198, .ref 199, .ref 200, .ref 201, .ref 202, .ref 203, .ref 204, .ref 205, .ref 206, .ref 207, .ref 208, .ref 209, .ref 210, .ref 211, .ref 212, .ref 213, .ref 214, .ref 215, .ref 216, .ref 217, .ref 218, .ref 219, .ref 220, .ref 221, .ref 222, .ref 223, .ref 224, .ref 225, .ref 226, .ref 227, .ref 228, .ref 229, .ref 230, .ref 231, .ref 232, .ref 233, .ref 234, .ref 235, .ref 236, .ref 237, .ref 238, .ref 239, .ref 240, .ref 241, .ref 242, .ref 243, .ref 244, .ref 245, .ref 246, .ref 247, .ref 248, .ref 249, .ref 250, .ref 251, .ref 252, .ref 253, .ref 254, .ref 255, .ref 256, .ref 257], vm := .none },
  { cls := 8, slots := #[.long (-128)], vm := .none },
  { cls := 8, slots := #[.long (-127)], vm := .none },
  { cls := 8, slots := #[.long (-126)], vm := .none },
  { cls := 8, slots := #[.long (-125)], vm := .none },
  { cls := 8, slots := #[.long (-124)], vm := .none },
  { cls := 8, slots := #[.long (-123)], vm := .none },
  { cls := 8, slots := #[.long (-122)], vm := .none },
  { cls := 8, slots := #[.long (-121)], vm := .none },
  { cls := 8, slots := #[.long (-120)], vm := .none },
  { cls := 8, slots := #[.long (-119)], vm := .none },
  { cls := 8, slots := #[.long (-118)], vm := .none },
  { cls := 8, slots := #[.long (-117)], vm := .none },
  { cls := 8, slots := #[.long (-116)], vm := .none },
  { cls := 8, slots := #[.long (-115)], vm := .none },
  { cls := 8, slots := #[.long (-114)], vm := .none },
  { cls := 8, slots := #[.long (-113)], vm := .none },
  { cls := 8, slots := #[.long (-112)], vm := .none },
  { cls := 8, slots := #[.long (-111)], vm := .none },
  { cls := 8, slots := #[.long (-110)], vm := .none },
  { cls := 8, slots := #[.long (-109)], vm := .none },
  { cls := 8, slots := #[.long (-108)], vm := .none },
  { cls := 8, slots := #[.long (-107)], vm := .none },
  { cls := 8, slots := #[.long (-106)], vm := .none },
  { cls := 8, slots := #[.long (-105)], vm := .none },
  { cls := 8, slots := #[.long (-104)], vm := .none },
  { cls := 8, slots := #[.long (-103)], vm := .none },
  { cls := 8, slots := #[.long (-102)], vm := .none },
  { cls := 8, slots := #[.long (-101)], vm := .none },
  { cls := 8, slots := #[.long (-100)], vm := .none },
  { cls := 8, slots := #[.long (-99)], vm := .none },
  { cls := 8, slots := #[.long (-98)], vm := .none },
  { cls := 8, slots := #[.long (-97)], vm := .none },
  { cls := 8, slots := #[.long (-96)], vm := .none },
  { cls := 8, slots := #[.long (-95)], vm := .none },
  { cls := 8, slots := #[.long (-94)], vm := .none },
  { cls := 8, slots := #[.long (-93)], vm := .none },
  { cls := 8, slots := #[.long (-92)], vm := .none },
  { cls := 8, slots := #[.long (-91)], vm := .none },
  { cls := 8, slots := #[.long (-90)], vm := .none },
  { cls := 8, slots := #[.long (-89)], vm := .none },
  { cls := 8, slots := #[.long (-88)], vm := .none },
  { cls := 8, slots := #[.long (-87)], vm := .none },
  { cls := 8, slots := #[.long (-86)], vm := .none },
  { cls := 8, slots := #[.long (-85)], vm := .none },
  { cls := 8, slots := #[.long (-84)], vm := .none },
  { cls := 8, slots := #[.long (-83)], vm := .none },
  { cls := 8, slots := #[.long (-82)], vm := .none },
  { cls := 8, slots := #[.long (-81)], vm := .none },
  { cls := 8, slots := #[.long (-80)], vm := .none },
  { cls := 8, slots := #[.long (-79)], vm := .none },
  { cls := 8, slots := #[.long (-78)], vm := .none },
  { cls := 8, slots := #[.long (-77)], vm := .none },
  { cls := 8, slots := #[.long (-76)], vm := .none },
  { cls := 8, slots := #[.long (-75)], vm := .none },
  { cls := 8, slots := #[.long (-74)], vm := .none },
  { cls := 8, slots := #[.long (-73)], vm := .none },
  { cls := 8, slots := #[.long (-72)], vm := .none },
  { cls := 8, slots := #[.long (-71)], vm := .none },
  { cls := 8, slots := #[.long (-70)], vm := .none },
  { cls := 8, slots := #[.long (-69)], vm := .none },
  { cls := 8, slots := #[.long (-68)], vm := .none },
  { cls := 8, slots := #[.long (-67)], vm := .none },
  { cls := 8, slots := #[.long (-66)], vm := .none },
  { cls := 8, slots := #[.long (-65)], vm := .none },
  { cls := 8, slots := #[.long (-64)], vm := .none },
  { cls := 8, slots := #[.long (-63)], vm := .none },
  { cls := 8, slots := #[.long (-62)], vm := .none },
  { cls := 8, slots := #[.long (-61)], vm := .none },
  { cls := 8, slots := #[.long (-60)], vm := .none },
  { cls := 8, slots := #[.long (-59)], vm := .none },
  { cls := 8, slots := #[.long (-58)], vm := .none },
  { cls := 8, slots := #[.long (-57)], vm := .none },
  { cls := 8, slots := #[.long (-56)], vm := .none },
  { cls := 8, slots := #[.long (-55)], vm := .none },
  { cls := 8, slots := #[.long (-54)], vm := .none },
  { cls := 8, slots := #[.long (-53)], vm := .none },
  { cls := 8, slots := #[.long (-52)], vm := .none },
  { cls := 8, slots := #[.long (-51)], vm := .none },
  { cls := 8, slots := #[.long (-50)], vm := .none },
  { cls := 8, slots := #[.long (-49)], vm := .none },
  { cls := 8, slots := #[.long (-48)], vm := .none },
  { cls := 8, slots := #[.long (-47)], vm := .none },
  { cls := 8, slots := #[.long (-46)], vm := .none },
  { cls := 8, slots := #[.long (-45)], vm := .none },
  { cls := 8, slots := #[.long (-44)], vm := .none },
  { cls := 8, slots := #[.long (-43)], vm := .none },
  { cls := 8, slots := #[.long (-42)], vm := .none },
  { cls := 8, slots := #[.long (-41)], vm := .none },
  { cls := 8, slots := #[.long (-40)], vm := .none },
  { cls := 8, slots := #[.long (-39)], vm := .none },
  { cls := 8, slots := #[.long (-38)], vm := .none },
  { cls := 8, slots := #[.long (-37)], vm := .none },
  { cls := 8, slots := #[.long (-36)], vm := .none },
  { cls := 8, slots := #[.long (-35)], vm := .none },
  { cls := 8, slots := #[.long (-34)], vm := .none },
  { cls := 8, slots := #[.long (-33)], vm := .none },
  { cls := 8, slots := #[.long (-32)], vm := .none },
  { cls := 8, slots := #[.long (-31)], vm := .none },
  { cls := 8, slots := #[.long (-30)], vm := .none },
  { cls := 8, slots := #[.long (-29)], vm := .none },
  { cls := 8, slots := #[.long (-28)], vm := .none },
  { cls := 8, slots := #[.long (-27)], vm := .none },
  { cls := 8, slots := #[.long (-26)], vm := .none },
  { cls := 8, slots := #[.long (-25)], vm := .none },
  { cls := 8, slots := #[.long (-24)], vm := .none },
  { cls := 8, slots := #[.long (-23)], vm := .none },
  { cls := 8, slots := #[.long (-22)], vm := .none },
  { cls := 8, slots := #[.long (-21)], vm := .none },
  { cls := 8, slots := #[.long (-20)], vm := .none },
  { cls := 8, slots := #[.long (-19)], vm := .none },
  { cls := 8, slots := #[.long (-18)], vm := .none },
  { cls := 8, slots := #[.long (-17)], vm := .none },
  { cls := 8, slots := #[.long (-16)], vm := .none },
  { cls := 8, slots := #[.long (-15)], vm := .none },
  { cls := 8, slots := #[.long (-14)], vm := .none },
  { cls := 8, slots := #[.long (-13)], vm := .none },
  { cls := 8, slots := #[.long (-12)], vm := .none },
  { cls := 8, slots := #[.long (-11)], vm := .none },
  { cls := 8, slots := #[.long (-10)], vm := .none },
  { cls := 8, slots := #[.long (-9)], vm := .none },
  { cls := 8, slots := #[.long (-8)], vm := .none },
  { cls := 8, slots := #[.long (-7)], vm := .none },
  { cls := 8, slots := #[.long (-6)], vm := .none },
  { cls := 8, slots := #[.long (-5)], vm := .none },
  { cls := 8, slots := #[.long (-4)], vm := .none },
  { cls := 8, slots := #[.long (-3)], vm := .none },
  { cls := 8, slots := #[.long (-2)], vm := .none },
  { cls := 8, slots := #[.long (-1)], vm := .none },
  { cls := 8, slots := #[.long (0)], vm := .none },
  { cls := 8, slots := #[.long (1)], vm := .none },
  { cls := 8, slots := #[.long (2)], vm := .none },
  { cls := 8, slots := #[.long (3)], vm := .none },
  { cls := 8, slots := #[.long (4)], vm := .none },
  { cls := 8, slots := #[.long (5)], vm := .none },
  { cls := 8, slots := #[.long (6)], vm := .none },
  { cls := 8, slots := #[.long (7)], vm := .none },
  { cls := 8, slots := #[.long (8)], vm := .none },
  { cls := 8, slots := #[.long (9)], vm := .none },
  { cls := 8, slots := #[.long (10)], vm := .none },
  { cls := 8, slots := #[.long (11)], vm := .none },
  { cls := 8, slots := #[.long (12)], vm := .none },
  { cls := 8, slots := #[.long (13)], vm := .none },
  { cls := 8, slots := #[.long (14)], vm := .none },
  { cls := 8, slots := #[.long (15)], vm := .none },
  { cls := 8, slots := #[.long (16)], vm := .none },
  { cls := 8, slots := #[.long (17)], vm := .none },
  { cls := 8, slots := #[.long (18)], vm := .none },
  { cls := 8, slots := #[.long (19)], vm := .none },
  { cls := 8, slots := #[.long (20)], vm := .none },
  { cls := 8, slots := #[.long (21)], vm := .none },
  { cls := 8, slots := #[.long (22)], vm := .none },
  { cls := 8, slots := #[.long (23)], vm := .none },
  { cls := 8, slots := #[.long (24)], vm := .none },
  { cls := 8, slots := #[.long (25)], vm := .none },
  { cls := 8, slots := #[.long (26)], vm := .none },
  { cls := 8, slots := #[.long (27)], vm := .none },
  { cls := 8, slots := #[.long (28)], vm := .none },
  { cls := 8, slots := #[.long (29)], vm := .none },
  { cls := 8, slots := #[.long (30)], vm := .none },
  { cls := 8, slots := #[.long (31)], vm := .none },
  { cls := 8, slots := #[.long (32)], vm := .none },
  { cls := 8, slots := #[.long (33)], vm := .none },
  { cls := 8, slots := #[.long (34)], vm := .none },
  { cls := 8, slots := #[.long (35)], vm := .none },
  { cls := 8, slots := #[.long (36)], vm := .none },
  { cls := 8, slots := #[.long (37)], vm := .none },
  { cls := 8, slots := #[.long (38)], vm := .none },
  { cls := 8, slots := #[.long (39)], vm := .none },
  { cls := 8, slots := #[.long (40)], vm := .none },
  { cls := 8, slots := #[.long (41)], vm := .none },
  { cls := 8, slots := #[.long (42)], vm := .none },
  { cls := 8, slots := #[.long (43)], vm := .none },
  { cls := 8, slots := #[.long (44)], vm := .none },
  { cls := 8, slots := #[.long (45)], vm := .none },
  { cls := 8, slots := #[.long (46)], vm := .none },
  { cls := 8, slots := #[.long (47)], vm := .none },
  { cls := 8, slots := #[.long (48)], vm := .none },
  { cls := 8, slots := #[.long (49)], vm := .none },
  { cls := 8, slots := #[.long (50)], vm := .none },
  { cls := 8, slots := #[.long (51)], vm := .none },
  { cls := 8, slots := #[.long (52)], vm := .none },
  { cls := 8, slots := #[.long (53)], vm := .none },
  { cls := 8, slots := #[.long (54)], vm := .none },
  { cls := 8, slots := #[.long (55)], vm := .none },
  { cls := 8, slots := #[.long (56)], vm := .none },
  { cls := 8, slots := #[.long (57)], vm := .none },
  { cls := 8, slots := #[.long (58)], vm := .none },
  { cls := 8, slots := #[.long (59)], vm := .none },
  { cls := 8, slots := #[.long (60)], vm := .none },
  { cls := 8, slots := #[.long (61)], vm := .none },
  { cls := 8, slots := #[.long (62)], vm := .none },
  { cls := 8, slots := #[.long (63)], vm := .none },
  { cls := 8, slots := #[.long (64)], vm := .none },
  { cls := 8, slots := #[.long (65)], vm := .none },
  { cls := 8, slots := #[.long (66)], vm := .none },
  { cls := 8, slots := #[.long (67)], vm := .none },
  { cls := 8, slots := #[.long (68)], vm := .none },
  { cls := 8, slots := #[.long (69)], vm := .none },
  { cls := 8, slots := #[.long (70)], vm := .none },
  { cls := 8, slots := #[.long (71)], vm := .none },
  { cls := 8, slots := #[.long (72)], vm := .none },
  { cls := 8, slots := #[.long (73)], vm := .none },
  { cls := 8, slots := #[.long (74)], vm := .none },
  { cls := 8, slots := #[.long (75)], vm := .none },
  { cls := 8, slots := #[.long (76)], vm := .none },
  { cls := 8, slots := #[.long (77)], vm := .none },
  { cls := 8, slots := #[.long (78)], vm := .none },
  { cls := 8, slots := #[.long (79)], vm := .none },
  { cls := 8, slots := #[.long (80)], vm := .none },
  { cls := 8, slots := #[.long (81)], vm := .none },
  { cls := 8, slots := #[.long (82)], vm := .none },
  { cls := 8, slots := #[.long (83)], vm := .none },
  { cls := 8, slots := #[.long (84)], vm := .none },
  { cls := 8, slots := #[.long (85)], vm := .none },
  { cls := 8, slots := #[.long (86)], vm := .none },
  { cls := 8, slots := #[.long (87)], vm := .none },
  { cls := 8, slots := #[.long (88)], vm := .none },
  { cls := 8, slots := #[.long (89)], vm := .none },
  { cls := 8, slots := #[.long (90)], vm := .none },
  { cls := 8, slots := #[.long (91)], vm := .none },
  { cls := 8, slots := #[.long (92)], vm := .none },
  { cls := 8, slots := #[.long (93)], vm := .none },
  { cls := 8, slots := #[.long (94)], vm := .none },
  { cls := 8, slots := #[.long (95)], vm := .none },
  { cls := 8, slots := #[.long (96)], vm := .none },
  { cls := 8, slots := #[.long (97)], vm := .none },
  { cls := 8, slots := #[.long (98)], vm := .none },
  { cls := 8, slots := #[.long (99)], vm := .none },
  { cls := 8, slots := #[.long (100)], vm := .none },
  { cls := 8, slots := #[.long (101)], vm := .none },
  { cls := 8, slots := #[.long (102)], vm := .none },
  { cls := 8, slots := #[.long (103)], vm := .none },
  { cls := 8, slots := #[.long (104)], vm := .none },
  { cls := 8, slots := #[.long (105)], vm := .none },
  { cls := 8, slots := #[.long (106)], vm := .none },
  { cls := 8, slots := #[.long (107)], vm := .none },
  { cls := 8, slots := #[.long (108)], vm := .none },
  { cls := 8, slots := #[.long (109)], vm := .none },
  { cls := 8, slots := #[.long (110)], vm := .none },
  { cls := 8, slots := #[.long (111)], vm := .none },
  { cls := 8, slots := #[.long (112)], vm := .none },
  { cls := 8, slots := #[.long (113)], vm := .none },
  { cls := 8, slots := #[.long (114)], vm := .none },
  { cls := 8, slots := #[.long (115)], vm := .none },
  { cls := 8, slots := #[.long (116)], vm := .none },
  { cls := 8, slots := #[.long (117)], vm := .none },
  { cls := 8, slots := #[.long (118)], vm := .none },
  { cls := 8, slots := #[.long (119)], vm := .none },
  { cls := 8, slots := #[.long (120)], vm := .none },
  { cls := 8, slots := #[.long (121)], vm := .none },
  { cls := 8, slots := #[.long (122)], vm := .none },
  { cls := 8, slots := #[.long (123)], vm := .none },
  { cls := 8, slots := #[.long (124)], vm := .none },
  { cls := 8, slots := #[.long (125)], vm := .none },
  { cls := 8, slots := #[.long (126)], vm := .none },
  { cls := 8, slots := #[.long (127)], vm := .none }]
def classes : Array Class := #[k0, k1, k2, k3, k4, k5, k6, k7, k8, k9, k10, k11, k12, k13, k14, k15]
def interned : List (Array UInt16 × Addr) := []
def slotsUsed : Nat := 515
def theMethod : MethodId := ⟨1, 1⟩
def args0 : Array Value := #[.long 5, .long 6, .long 7, .long 8, .int 9]
def aboutOver (below : List Frame) : State where
  vm := { classes := classes, interned := interned.toArray }
  heap := heap
  slotsUsed := slotsUsed
  threads := #[{ frames := .invoking theMethod args0 :: below }]
def below0 : List Frame := [.native { method := ⟨0, 0⟩, args := #[] }]
def about1 : State := aboutOver below0
def p0 : Program := .bare "" "" ""
def e0 : Env := launch0.env 0 0 0
theorem w_frames : about1.frames = Frame.invoking theMethod args0 :: below0 := rfl
set_option maxRecDepth 65536 in
theorem w_args : argsFit about1.vm theMethod args0 = true := by decide +kernel
set_option maxRecDepth 65536 in
theorem w_heap : heapFits about1 = true := by decide +kernel
set_option maxRecDepth 65536 in
theorem w_runnable : about1.curStatus? = some .runnable := by decide +kernel
set_option maxRecDepth 65536 in
theorem w_alone : about1.alone = true := by decide +kernel
set_option maxRecDepth 65536 in
theorem w_named : about1.methodNamed? x = some theMethod := by decide +kernel
set_option maxRecDepth 65536 in
theorem w_hears : about1.hears theMethod below0 = true := by decide +kernel
set_option maxRecDepth 65536 in
theorem w_ripe : about1.ripe theMethod args0 below0 = true := by decide +kernel
theorem w_running : about1.status = .running := rfl
set_option maxRecDepth 65536 in
theorem w_room : about1.hasRoom e0.platform room_1 = true :=
  launch0.hasRoom_least _ room_1 (by decide +kernel) (by decide +kernel) (by decide +kernel) (by decide +kernel) (by decide +kernel) (by decide +kernel)
theorem allAtoms_all (ts : List Jvm.Cond) (a : Array Jvm.Value) (st : Jvm.State) : (allAtoms ts).before a st = ts.all (fun c => c.before a st) := by
  induction ts with
  | nil => rfl
  | cons c t ih =>
    show (Jvm.Cond.and c (allAtoms t)).before a st = _
    rw [Jvm.Cond.before_and, ih, List.all_cons]
def words1 : List Jvm.Cond := Jvm.Cond.code x code maxLocals ret :: tables_1
/-- a 'code' word, met by the world's own term for the bytes: nothing is compared byte by byte -/
theorem code_word {y : MethodName} {bytes : ByteArray} {mx : Nat} {rt : Option FieldType} {a : Array Value} {s : State} {m : MethodId} {meth : Method} {c : Code} (h1 : s.methodNamed? y = some m) (h2 : s.vm.method? m = some meth) (h3 : meth.code = some c) (h4 : c.code = bytes)
    (h5 : (c.maxLocals == mx && c.exceptionTable.isEmpty && decide (c.maxStack ≤ mostOperands) && decide (meth.sig.returnType = rt) && !meth.locks && decide (parseMethodDescriptor y.desc = some meth.sig)) = true) : (Jvm.Cond.code y bytes mx rt).before a s = true := by
  simp only [Bool.and_eq_true, beq_iff_eq, Bool.not_eq_true', decide_eq_true_eq] at h5
  obtain ⟨⟨⟨⟨⟨g1, g2⟩, g3⟩, g4⟩, g5⟩, g6⟩ := h5
  simp [Cond.before, Cond.holds, Cond.value, h1, h2, h3, h4, g1, g2, g3, g4, g5, g6]
def isCode : Jvm.Cond → Bool
  | .code _ _ _ _ => true
  | _ => false
theorem all_split {L : List Jvm.Cond} {P : Jvm.Cond → Bool} (h1 : L.all (fun c => isCode c || P c) = true) (h2 : ∀ c ∈ L.filter isCode, P c = true) : L.all P = true := by
  refine List.all_eq_true.mpr fun c hc => ?_
  have h := List.all_eq_true.mp h1 c hc
  rcases Bool.eq_false_or_eq_true (isCode c) with hi | hi
  · exact h2 c (List.mem_filter.mpr ⟨hc, hi⟩)
  · simpa [hi] using h
set_option maxRecDepth 65536 in
theorem w_c0 : (Jvm.Cond.code x code maxLocals ret).before args0 about1 = true := code_word (m := ⟨1, 1⟩) (meth := k1m1) (c := k1c1) (by decide +kernel) rfl rfl rfl (by decide +kernel)
set_option maxRecDepth 65536 in
theorem w_c1 : (Jvm.Cond.code ({ cls := "com/example/bitloom/bitloom/BitmapStatistics$Kind", name := "<init>", desc := "(JJJ)V" } : Jvm.MethodName) prog_20_method_1_code (7 : Nat) (Option.none : Option Jvm.ClassFile.FieldType)).before args0 about1 = true := code_word (m := ⟨2, 0⟩) (meth := k2m0) (c := k2c0) (by decide +kernel) rfl rfl rfl (by decide +kernel)
set_option maxRecDepth 65536 in
theorem w_c2 : (Jvm.Cond.code ({ cls := "java/lang/Object", name := "<init>", desc := "()V" } : Jvm.MethodName) object_method_1_code (1 : Nat) (Option.none : Option Jvm.ClassFile.FieldType)).before args0 about1 = true := code_word (m := ⟨0, 0⟩) (meth := k0m0) (c := k0c0) (by decide +kernel) rfl rfl rfl (by decide +kernel)
set_option maxRecDepth 65536 in
theorem w_c3 : (Jvm.Cond.code ({ cls := "com/example/bitloom/bitloom/BitmapStatistics$Kind", name := "equals", desc := "(Ljava/lang/Object;)Z" } : Jvm.MethodName) prog_20_method_6_code (3 : Nat) (Option.some Jvm.ClassFile.FieldType.boolean)).before args0 about1 = true := code_word (m := ⟨2, 1⟩) (meth := k2m1) (c := k2c1) (by decide +kernel) rfl rfl rfl (by decide +kernel)
set_option maxRecDepth 65536 in
theorem w_c4 : (Jvm.Cond.code ({ cls := "java/lang/Long", name := "valueOf", desc := "(J)Ljava/lang/Long;" } : Jvm.MethodName) jdk_35_method_24_code (3 : Nat) (Option.some (Jvm.ClassFile.FieldType.object "java/lang/Long"))).before args0 about1 = true := code_word (m := ⟨8, 0⟩) (meth := k8m0) (c := k8c0) (by decide +kernel) rfl rfl rfl (by decide +kernel)
set_option maxRecDepth 65536 in
theorem w_c5 : (Jvm.Cond.code ({ cls := "java/lang/Long", name := "<init>", desc := "(J)V" } : Jvm.MethodName) jdk_35_method_26_code (3 : Nat) (Option.none : Option Jvm.ClassFile.FieldType)).before args0 about1 = true := code_word (m := ⟨8, 1⟩) (meth := k8m1) (c := k8c1) (by decide +kernel) rfl rfl rfl (by decide +kernel)
set_option maxRecDepth 65536 in
theorem w_c6 : (Jvm.Cond.code ({ cls := "java/lang/Number", name := "<init>", desc := "()V" } : Jvm.MethodName) jdk_18_method_1_code (1 : Nat) (Option.none : Option Jvm.ClassFile.FieldType)).before args0 about1 = true := code_word (m := ⟨4, 0⟩) (meth := k4m0) (c := k4c0) (by decide +kernel) rfl rfl rfl (by decide +kernel)
def codes1 : List Jvm.Cond := [Jvm.Cond.code x code maxLocals ret, Jvm.Cond.code ({ cls := "com/example/bitloom/bitloom/BitmapStatistics$Kind", name := "<init>", desc := "(JJJ)V" } : Jvm.MethodName) prog_20_method_1_code (7 : Nat) (Option.none : Option Jvm.ClassFile.FieldType), Jvm.Cond.code ({ cls := "java/lang/Object", name := "<init>", desc := "()V" } : Jvm.MethodName) object_method_1_code (1 : Nat) (Option.none : Option Jvm.ClassFile.FieldType), Jvm.Cond.code ({ cls := "com/example/bitloom/bitloom/BitmapStatistics$Kind", name := "equals", desc := "(Ljava/lang/Object;)Z" } : Jvm.MethodName) prog_20_method_6_code (3 : Nat) (Option.some Jvm.ClassFile.FieldType.boolean), Jvm.Cond.code ({ cls := "java/lang/Long", name := "valueOf", desc := "(J)Ljava/lang/Long;" } : Jvm.MethodName) jdk_35_method_24_code (3 : Nat) (Option.some (Jvm.ClassFile.FieldType.object "java/lang/Long")), Jvm.Cond.code ({ cls := "java/lang/Long", name := "<init>", desc := "(J)V" } : Jvm.MethodName) jdk_35_method_26_code (3 : Nat) (Option.none : Option Jvm.ClassFile.FieldType), Jvm.Cond.code ({ cls := "java/lang/Number", name := "<init>", desc := "()V" } : Jvm.MethodName) jdk_18_method_1_code (1 : Nat) (Option.none : Option Jvm.ClassFile.FieldType)]
set_option maxRecDepth 65536 in
theorem codes_eq : words1.filter isCode = codes1 := rfl
theorem w_codes : ∀ c ∈ words1.filter isCode, c.before args0 about1 = true := by
  rw [codes_eq]
  intro c hc
  simp only [codes1, List.mem_cons, List.not_mem_nil, or_false] at hc
  rcases hc with rfl | rfl | rfl | rfl | rfl | rfl | rfl
  · exact w_c0
  · exact w_c1
  · exact w_c2
  · exact w_c3
  · exact w_c4
  · exact w_c5
  · exact w_c6
set_option maxRecDepth 65536 in
theorem w_t1 : (words1.take 24).all (fun c => isCode c || c.before args0 about1) = true := by decide +kernel
set_option maxRecDepth 65536 in
theorem w_t2 : ((words1.drop 24).take 24).all (fun c => isCode c || c.before args0 about1) = true := by decide +kernel
set_option maxRecDepth 65536 in
theorem w_t3 : ((words1.drop 24).drop 24).all (fun c => isCode c || c.before args0 about1) = true := by decide +kernel
theorem w_tables : (allAtoms (Jvm.Cond.code x code maxLocals ret :: tables_1)).before args0 about1 = true := by
  rw [allAtoms_all]
  show words1.all (fun c => c.before args0 about1) = true
  refine all_split ?_ w_codes
  rw [← List.take_append_drop 24 words1, List.all_append, w_t1, ← List.take_append_drop 24 (words1.drop 24), List.all_append, w_t2, w_t3]
  rfl
set_option maxRecDepth 65536 in
theorem w_rest : rest_1_c.before args0 about1 = true := by decide +kernel
set_option maxRecDepth 65536 in
theorem w_case : (Jvm.Cond.and given_1 narrow_1).before args0 about1 = true := by decide +kernel
theorem w_applies : (headSpec (Jvm.Cond.code x code maxLocals ret :: tables_1) room_1).applies x e0.platform about1 = true :=
  (Spec.applies_iff w_frames).mpr ⟨w_running, w_runnable, w_alone, w_named, w_hears, w_ripe, w_room, w_tables⟩
theorem atStart : AtStart classFile x code maxLocals ret World_1 tables_1 room_1 Calls_1 rest_1 Pre_1 launch0 p0 e0 about1 theMethod args0 below0 :=
  ⟨lists_1, trivial, launch0.admits_env _ _ _, launch0.least_env, fairChoices_fair.cas, fairChoices_fair.clock, w_frames, w_args, w_heap, w_applies, trivial, w_rest, w_case⟩
end start1
theorem witness_1 : WitnessClaimed_1 := ⟨start1.p0, start1.e0, start1.about1, start1.theMethod, start1.args0, start1.below0, start1.atStart⟩
end Jvm.Pilot.@@N@@
