import JvmDerived
import JvmDerived.Pilot.@@N@@Statement
import JvmDerived.Pilot.@@N@@Code
set_option linter.unusedVariables false
set_option linter.unusedSimpArgs false
namespace Jvm.RoadKit
open Sem ClassFile Op Lib Jvm.Stand Jvm.Free Jvm.LawKit
section New
variable {p : Program} {l : Launch} {e : Env} {R : Room} {s : State} {m : MethodId} {args : Array Value} {below : List Frame} {meth : Method} {c : Code} {T : State} {locs : List Loc} {cells slots : Nat}
theorem retI (X : Stand p l e R s m args below meth c T locs cells slots) (hx : p.tables.exec = Jvm.exec) {pc : Nat} {Ls : Array Slot} {z : Int32} {rest : List Value} (hret : meth.sig.returnType = some .int) (hd : decode c.code pc = .ok (.ireturn, 1)) {fs : List Frame}
    (hl : ∀ (f : JFrame) (acts : List Action), f.method = m → f.locked = none → f.entered = [] → (doReturn e (T.setTop f) acts (some (.int z))).1 = T.setFrames fs) : Steps p.tables e below (T.setTop (mkF m pc Ls (.int z :: rest))) (T.setFrames fs) := by
  have hm' : T.vm.method? m = some meth := X.method'
  have hn : narrow .int (.int z) = .int z := rfl
  show Steps p.tables e below (T.setTop { method := m, pc := pc, locals := Ls, stack := _ :: rest, locked := none }) _
  jvm_step X.here [X.here.top, hx, hd, hm', hret, hn]
  first | (intro acts; rw [hl _ acts rfl rfl rfl]) | rw [hl _ _ rfl rfl rfl]
  exact Steps.refl _
end New
end Jvm.RoadKit
namespace Jvm.Pilot.@@N@@
open Jvm Jvm.ClassFile Sem Op Lib Jvm.Free Jvm.Stand Jvm.LawKit Jvm.RoadKit Bundle Jvm.Pilot.@@N@@.Jvm.D
/-- whoever reaches a target from the frame F of T reaches it from the frame F0 of T0 -/
def own_Go (p : Program) (e : Env) (below : List Frame) (T0 : State) (F0 : JFrame) (T : State) (F : JFrame) : Prop := ∀ target, Steps p.tables e below (T.setTop F) target → Steps p.tables e below (T0.setTop F0) target
theorem own_Go.refl {p : Program} {e : Env} {below : List Frame} {T : State} {F : JFrame} : own_Go p e below T F T F := fun _ k => k
theorem own_Go.trans {p : Program} {e : Env} {below : List Frame} {T0 T1 T2 : State} {F0 F1 F2 : JFrame} (a : own_Go p e below T0 F0 T1 F1) (b : own_Go p e below T1 F1 T2 F2) : own_Go p e below T0 F0 T2 F2 := fun t k => a t (b t k)

theorem pd_0 : parseMethodDescriptor "(C)Z" = some ⟨[.char], some .boolean⟩ := by decide +kernel
def own_sp (p : Int32) : Int32 := if p = (32 : Int32) then (1 : Int32) else (if p = (9 : Int32) then (1 : Int32) else (if p = (11 : Int32) then (1 : Int32) else (if p = (12 : Int32) then (1 : Int32) else (0 : Int32))))
def own_ex (c : Int32) : Int32 := if c = (32 : Int32) then (1 : Int32) else (if c < (9 : Int32) then (0 : Int32) else (if (12 : Int32) < c then (0 : Int32) else (if c = (10 : Int32) then (0 : Int32) else (1 : Int32))))
theorem own_same (c : Int32) : own_sp c = own_ex c := by
  unfold own_sp own_ex
  simp only [← Int32.toInt_inj, Int32.lt_iff_toInt_lt, show (32 : Int32).toInt = 32 from rfl, show (9 : Int32).toInt = 9 from rfl, show (11 : Int32).toInt = 11 from rfl, show (12 : Int32).toInt = 12 from rfl, show (10 : Int32).toInt = 10 from rfl, show (1 : Int32).toInt = 1 from rfl, show (0 : Int32).toInt = 0 from rfl]
  generalize c.toInt = z
  split <;> (try split) <;> (try split) <;> (try split) <;> (try split) <;> (try split) <;> (try split) <;> first | rfl | omega
theorem own_nar (p : Int32) : nar .boolean (own_sp p) = own_sp p := by
  unfold own_sp
  split <;> (try split) <;> (try split) <;> (try split) <;> rfl
theorem d1_0 : decode prog_16_method_6_code 0 = .ok (.iload_n 0, 1) := by decide +kernel
theorem d1_1 : decode prog_16_method_6_code 1 = .ok (.bipush 32, 2) := by decide +kernel
theorem d1_3 : decode prog_16_method_6_code 3 = .ok (.if_icmp .eq 21, 3) := by decide +kernel
theorem d1_6 : decode prog_16_method_6_code 6 = .ok (.iload_n 0, 1) := by decide +kernel
theorem d1_7 : decode prog_16_method_6_code 7 = .ok (.bipush 9, 2) := by decide +kernel
theorem d1_9 : decode prog_16_method_6_code 9 = .ok (.if_icmp .eq 15, 3) := by decide +kernel
theorem d1_12 : decode prog_16_method_6_code 12 = .ok (.iload_n 0, 1) := by decide +kernel
theorem d1_13 : decode prog_16_method_6_code 13 = .ok (.bipush 11, 2) := by decide +kernel
theorem d1_15 : decode prog_16_method_6_code 15 = .ok (.if_icmp .eq 9, 3) := by decide +kernel
theorem d1_18 : decode prog_16_method_6_code 18 = .ok (.iload_n 0, 1) := by decide +kernel
theorem d1_19 : decode prog_16_method_6_code 19 = .ok (.bipush 12, 2) := by decide +kernel
theorem d1_21 : decode prog_16_method_6_code 21 = .ok (.if_icmp .ne 7, 3) := by decide +kernel
theorem d1_24 : decode prog_16_method_6_code 24 = .ok (.iconst 1, 1) := by decide +kernel
theorem d1_25 : decode prog_16_method_6_code 25 = .ok (.goto 4, 3) := by decide +kernel
theorem d1_28 : decode prog_16_method_6_code 28 = .ok (.iconst 0, 1) := by decide +kernel
theorem d1_29 : decode prog_16_method_6_code 29 = .ok (.ireturn, 1) := by decide +kernel
theorem pn_rm1 : plainName "com/example/ends_to_means/endstomeans/io/InputFiles" = true := by first | (simp [plainName, overriddenIn]; done) | decide +kernel
theorem ef_rm1 (m : MethodId) (q0 : Int32) : entryFrame m #[(.int q0)] 1 = mkF m 0 #[.val (.int q0)] [] := by first | (simp [entryFrame, mkF, argsToLocals, Value.category]; done) | rfl
def Q_rm1 (Z : State) (q0 : Int32)  (h0 : Heap) (n0 : Nat) (v : Option Value) (h : Heap) (L : List Loc) : Prop := v = some (.int (own_sp q0)) ∧ Fr n0 L ∧ h = h0
set_option maxRecDepth 65536 in
set_option maxHeartbeats 40000000 in
theorem rm1 (l : Launch) (Z : State) (a0 : Array Value) (hw : ∀ d ∈ tables_1, d.before a0 Z = true) (ws : List Jvm.Cond) (q0 : Int32)  (h0 : Heap) (n0 : Nat) (Z0 : n0 ≤ h0.size)  :
    MetFree l (⟨"com/example/ends_to_means/endstomeans/io/InputFiles", "isSpace", "(C)Z"⟩ : MethodName) (head1 (Jvm.Cond.code (⟨"com/example/ends_to_means/endstomeans/io/InputFiles", "isSpace", "(C)Z"⟩ : MethodName) prog_16_method_6_code 1 (some .boolean) :: ws) ({ frames := 0, cells := 0, slots := 0, locals := 0 } : Room)) (fun a U => a = #[(.int q0)] ∧ Z.Warmed39 U.vm ∧ U.heap = h0) (fun _ _ _ _ _ => True) (fun _ U o U' => ∃ v L, o = .returned v ∧ Q_rm1 Z q0  h0 n0 v U'.heap L ∧ FrameEnd U o U' L ({ frames := 0, cells := 0, slots := 0, locals := 0 } : Room).cells ({ frames := 0, cells := 0, slots := 0, locals := 0 } : Room).slots) := by
  refine MetFree.of_bodySF (plainFor_of_name pn_rm1) hisR ?_
  intro p e s m args below meth c s₁ Bd hml0 hP hK
  obtain ⟨rfl, hZ, hh⟩ := hP
  have hx := Bd.exec
  have hby := Bd.bytes
  have hml : c.maxLocals = 1 := hml0
  have hown : s.vm.findClass "com/example/ends_to_means/endstomeans/io/InputFiles" = some m.cls := findClass_of_methodNamed Bd.named
  have hnm := (name_of_methodNamed Bd.named Bd.method).1
  have X0 : Stand p l e ({ frames := 0, cells := 0, slots := 0, locals := 0 } : Room) s m #[(.int q0)] below meth c s₁ [] 0 0 := Stand.of_body Bd
  have e0 : s₁.heap = h0 := by rw [← hh, Bd.state]; rfl
  have N0 := Fr.nil n0
  have g0 : own_Go p e below s₁ (entryFrame m #[(.int q0)] 1) s₁ (mkF m 0 #[.val (.int q0)] []) := fun t k => castTop (ef_rm1 m q0) k
  obtain ⟨r, hm14, g14⟩ : ∃ (r : Int32), (r = (if q0 = (32 : Int32) then (1 : Int32) else (if q0 = (9 : Int32) then (1 : Int32) else (if q0 = (11 : Int32) then (1 : Int32) else (if q0 = (12 : Int32) then (1 : Int32) else (0 : Int32)))))) ∧ own_Go p e below s₁ (entryFrame m #[(.int q0)] 1) s₁ (mkF m 29 #[.val (.int q0)] [(.int r)]) := by
    have g1 : own_Go p e below s₁ (entryFrame m #[(.int q0)] 1) s₁ (mkF m 3 #[.val (.int q0)] [(.int (32 : Int32)), (.int q0)]) := by
      intro target kt
      refine g0 target ?_
      refine XS.iloadN X0.here hx rfl (hb hby d1_0) rfl ?_
      show Steps p.tables e below (s₁.setTop (mkF m 1 #[.val (.int q0)] [(.int q0)])) target
      refine XT.bipushV X0.here hx rfl (32 : Int32) (hb hby d1_1) rfl ?_
      show Steps p.tables e below (s₁.setTop (mkF m 3 #[.val (.int q0)] [(.int (32 : Int32)), (.int q0)])) target
      exact kt
    by_cases hc2 : q0 = (32 : Int32)
    · have g3 : own_Go p e below s₁ (entryFrame m #[(.int q0)] 1) s₁ (mkF m 29 #[.val (.int q0)] [(.int (1 : Int32))]) := by
        intro target kt
        refine g1 target ?_
        refine XS.icmpYes X0.here hx rfl (pc0 := 3) (pc' := 24) rfl (hb hby d1_3) rfl (XT.ii_eq_t hc2) (by decide) (by decide) ?_
        show Steps p.tables e below (s₁.setTop (mkF m 24 #[.val (.int q0)] [])) target
        refine XT.iconstV X0.here hx rfl (1 : Int32) (hb hby d1_24) rfl ?_
        show Steps p.tables e below (s₁.setTop (mkF m 25 #[.val (.int q0)] [(.int (1 : Int32))])) target
        refine XS.goto X0.here hx rfl (pc0 := 25) (pc' := 29) rfl (hb hby d1_25) (by decide) (by decide) ?_
        show Steps p.tables e below (s₁.setTop (mkF m 29 #[.val (.int q0)] [(.int (1 : Int32))])) target
        exact kt
      exact ⟨(1 : Int32), (by simp only [if_pos hc2]), g3⟩
    · have g4 : own_Go p e below s₁ (entryFrame m #[(.int q0)] 1) s₁ (mkF m 9 #[.val (.int q0)] [(.int (9 : Int32)), (.int q0)]) := by
        intro target kt
        refine g1 target ?_
        refine XS.icmpNo X0.here hx rfl (hb hby d1_3) rfl (XT.ii_eq_f hc2) ?_
        show Steps p.tables e below (s₁.setTop (mkF m 6 #[.val (.int q0)] [])) target
        refine XS.iloadN X0.here hx rfl (hb hby d1_6) rfl ?_
        show Steps p.tables e below (s₁.setTop (mkF m 7 #[.val (.int q0)] [(.int q0)])) target
        refine XT.bipushV X0.here hx rfl (9 : Int32) (hb hby d1_7) rfl ?_
        show Steps p.tables e below (s₁.setTop (mkF m 9 #[.val (.int q0)] [(.int (9 : Int32)), (.int q0)])) target
        exact kt
      by_cases hc5 : q0 = (9 : Int32)
      · have g6 : own_Go p e below s₁ (entryFrame m #[(.int q0)] 1) s₁ (mkF m 29 #[.val (.int q0)] [(.int (1 : Int32))]) := by
          intro target kt
          refine g4 target ?_
          refine XS.icmpYes X0.here hx rfl (pc0 := 9) (pc' := 24) rfl (hb hby d1_9) rfl (XT.ii_eq_t hc5) (by decide) (by decide) ?_
          show Steps p.tables e below (s₁.setTop (mkF m 24 #[.val (.int q0)] [])) target
          refine XT.iconstV X0.here hx rfl (1 : Int32) (hb hby d1_24) rfl ?_
          show Steps p.tables e below (s₁.setTop (mkF m 25 #[.val (.int q0)] [(.int (1 : Int32))])) target
          refine XS.goto X0.here hx rfl (pc0 := 25) (pc' := 29) rfl (hb hby d1_25) (by decide) (by decide) ?_
          show Steps p.tables e below (s₁.setTop (mkF m 29 #[.val (.int q0)] [(.int (1 : Int32))])) target
          exact kt
        exact ⟨(1 : Int32), (by simp only [if_neg hc2, if_pos hc5]), g6⟩
      · have g7 : own_Go p e below s₁ (entryFrame m #[(.int q0)] 1) s₁ (mkF m 15 #[.val (.int q0)] [(.int (11 : Int32)), (.int q0)]) := by
          intro target kt
          refine g4 target ?_
          refine XS.icmpNo X0.here hx rfl (hb hby d1_9) rfl (XT.ii_eq_f hc5) ?_
          show Steps p.tables e below (s₁.setTop (mkF m 12 #[.val (.int q0)] [])) target
          refine XS.iloadN X0.here hx rfl (hb hby d1_12) rfl ?_
          show Steps p.tables e below (s₁.setTop (mkF m 13 #[.val (.int q0)] [(.int q0)])) target
          refine XT.bipushV X0.here hx rfl (11 : Int32) (hb hby d1_13) rfl ?_
          show Steps p.tables e below (s₁.setTop (mkF m 15 #[.val (.int q0)] [(.int (11 : Int32)), (.int q0)])) target
          exact kt
        by_cases hc8 : q0 = (11 : Int32)
        · have g9 : own_Go p e below s₁ (entryFrame m #[(.int q0)] 1) s₁ (mkF m 29 #[.val (.int q0)] [(.int (1 : Int32))]) := by
            intro target kt
            refine g7 target ?_
            refine XS.icmpYes X0.here hx rfl (pc0 := 15) (pc' := 24) rfl (hb hby d1_15) rfl (XT.ii_eq_t hc8) (by decide) (by decide) ?_
            show Steps p.tables e below (s₁.setTop (mkF m 24 #[.val (.int q0)] [])) target
            refine XT.iconstV X0.here hx rfl (1 : Int32) (hb hby d1_24) rfl ?_
            show Steps p.tables e below (s₁.setTop (mkF m 25 #[.val (.int q0)] [(.int (1 : Int32))])) target
            refine XS.goto X0.here hx rfl (pc0 := 25) (pc' := 29) rfl (hb hby d1_25) (by decide) (by decide) ?_
            show Steps p.tables e below (s₁.setTop (mkF m 29 #[.val (.int q0)] [(.int (1 : Int32))])) target
            exact kt
          exact ⟨(1 : Int32), (by simp only [if_neg hc2, if_neg hc5, if_pos hc8]), g9⟩
        · have g10 : own_Go p e below s₁ (entryFrame m #[(.int q0)] 1) s₁ (mkF m 21 #[.val (.int q0)] [(.int (12 : Int32)), (.int q0)]) := by
            intro target kt
            refine g7 target ?_
            refine XS.icmpNo X0.here hx rfl (hb hby d1_15) rfl (XT.ii_eq_f hc8) ?_
            show Steps p.tables e below (s₁.setTop (mkF m 18 #[.val (.int q0)] [])) target
            refine XS.iloadN X0.here hx rfl (hb hby d1_18) rfl ?_
            show Steps p.tables e below (s₁.setTop (mkF m 19 #[.val (.int q0)] [(.int q0)])) target
            refine XT.bipushV X0.here hx rfl (12 : Int32) (hb hby d1_19) rfl ?_
            show Steps p.tables e below (s₁.setTop (mkF m 21 #[.val (.int q0)] [(.int (12 : Int32)), (.int q0)])) target
            exact kt
          by_cases hc11 : q0 = (12 : Int32)
          · have g12 : own_Go p e below s₁ (entryFrame m #[(.int q0)] 1) s₁ (mkF m 29 #[.val (.int q0)] [(.int (1 : Int32))]) := by
              intro target kt
              refine g10 target ?_
              refine XS.icmpNo X0.here hx rfl (hb hby d1_21) rfl (XT.ii_ne_f hc11) ?_
              show Steps p.tables e below (s₁.setTop (mkF m 24 #[.val (.int q0)] [])) target
              refine XT.iconstV X0.here hx rfl (1 : Int32) (hb hby d1_24) rfl ?_
              show Steps p.tables e below (s₁.setTop (mkF m 25 #[.val (.int q0)] [(.int (1 : Int32))])) target
              refine XS.goto X0.here hx rfl (pc0 := 25) (pc' := 29) rfl (hb hby d1_25) (by decide) (by decide) ?_
              show Steps p.tables e below (s₁.setTop (mkF m 29 #[.val (.int q0)] [(.int (1 : Int32))])) target
              exact kt
            exact ⟨(1 : Int32), (by simp only [if_neg hc2, if_neg hc5, if_neg hc8, if_pos hc11]), g12⟩
          · have g13 : own_Go p e below s₁ (entryFrame m #[(.int q0)] 1) s₁ (mkF m 29 #[.val (.int q0)] [(.int (0 : Int32))]) := by
              intro target kt
              refine g10 target ?_
              refine XS.icmpYes X0.here hx rfl (pc0 := 21) (pc' := 28) rfl (hb hby d1_21) rfl (XT.ii_ne_t hc11) (by decide) (by decide) ?_
              show Steps p.tables e below (s₁.setTop (mkF m 28 #[.val (.int q0)] [])) target
              refine XT.iconstV X0.here hx rfl (0 : Int32) (hb hby d1_28) rfl ?_
              show Steps p.tables e below (s₁.setTop (mkF m 29 #[.val (.int q0)] [(.int (0 : Int32))])) target
              exact kt
            exact ⟨(0 : Int32), (by simp only [if_neg hc2, if_neg hc5, if_neg hc8, if_neg hc11]), g13⟩
  have hr1 : nar .boolean r = own_sp q0 := by rw [hm14]; exact own_nar q0
  obtain ⟨fs, hr, hrun, hended, hW, hsame⟩ := X0.leave (v := some (.int (nar .boolean r))) (fun h => by rw [Bd.returns] at h; cases h)
  refine ⟨_, _, g14 _ ?_, hrun, hended, _, _, rfl, ?_, ⟨_, rfl⟩, hW, hsame.mono (by decide) (by decide)⟩
  · exact retN X0 hx (t := .boolean) Bd.returns (by simp) (hb hby d1_29) hr
  · show Q_rm1 Z q0  h0 n0 _ s₁.heap _
    rw [e0, hr1]
    exact ⟨rfl, N0, rfl⟩
theorem pn_rm0 : plainName "com/example/ends_to_means/endstomeans/io/InputFilesIsSpacePinLaw" = true := by first | (simp [plainName, overriddenIn]; done) | decide +kernel
theorem ef_rm0 (m : MethodId) (p0 : Int32) : entryFrame m #[(.int p0)] maxLocals = mkF m 0 #[.val (.int p0), .unset, .unset, .unset] [] := by first | (simp [entryFrame, mkF, argsToLocals, Value.category, maxLocals]; done) | rfl
def Q_rm0 (Z : State) (p0 : Int32)  (h0 : Heap) (n0 : Nat) (v : Option Value) (h : Heap) (L : List Loc) : Prop := v = some (.int (1 : Int32)) ∧ Fr n0 L
set_option maxRecDepth 65536 in
set_option maxHeartbeats 40000000 in
theorem rm0 (l : Launch) (Z : State) (a0 : Array Value) (hw : ∀ d ∈ tables_1, d.before a0 Z = true) (ws : List Jvm.Cond) (p0 : Int32)  (h0 : Heap) (n0 : Nat) (Z0 : n0 ≤ h0.size)  :
    MetFree l x (head1 (Jvm.Cond.code x code maxLocals ret :: ws) room_1) (fun a U => a = #[(.int p0)] ∧ Z.Warmed39 U.vm ∧ U.heap = h0) (fun _ _ _ _ _ => True) (fun _ U o U' => ∃ v L, o = .returned v ∧ Q_rm0 Z p0  h0 n0 v U'.heap L ∧ FrameEnd U o U' L room_1.cells room_1.slots) := by
  refine MetFree.of_bodySF (plainFor_of_name pn_rm0) hisR ?_
  intro p e s m args below meth c s₁ Bd hml0 hP hK
  obtain ⟨rfl, hZ, hh⟩ := hP
  have hx := Bd.exec
  have hby := Bd.bytes
  have hml : c.maxLocals = 4 := hml0
  have hown : s.vm.findClass "com/example/ends_to_means/endstomeans/io/InputFilesIsSpacePinLaw" = some m.cls := findClass_of_methodNamed Bd.named
  have hnm := (name_of_methodNamed Bd.named Bd.method).1
  have X0 : Stand p l e room_1 s m #[(.int p0)] below meth c s₁ [] 0 0 := Stand.of_body Bd
  have e0 : s₁.heap = h0 := by rw [← hh, Bd.state]; rfl
  have N0 := Fr.nil n0
  have g0 : own_Go p e below s₁ (entryFrame m #[(.int p0)] maxLocals) s₁ (mkF m 0 #[.val (.int p0), .unset, .unset, .unset] []) := fun t k => castTop (ef_rm0 m p0) k
  have g15 : own_Go p e below s₁ (entryFrame m #[(.int p0)] maxLocals) s₁ (mkF m 6 #[.val (.int p0), .val (.int ((p0 &&& (65535 : Int32)).toUInt32.toUInt16.toUInt32.toInt32)), .unset, .unset] []) := by
    intro target kt
    refine g0 target ?_
    refine XS.iloadN X0.here hx rfl (hb hby at_0) rfl ?_
    show Steps p.tables e below (s₁.setTop (mkF m 1 #[.val (.int p0), .unset, .unset, .unset] [(.int p0)])) target
    refine X0.ldcI hx hown (mvT hZ (hw _ (List.mem_of_getElem? (i := 0) rfl))) rfl (hb hby at_1) ?_
    show Steps p.tables e below (s₁.setTop (mkF m 3 #[.val (.int p0), .unset, .unset, .unset] [(.int (65535 : Int32)), (.int p0)])) target
    refine XS.iand X0.here hx rfl (hb hby at_3) rfl ?_
    show Steps p.tables e below (s₁.setTop (mkF m 4 #[.val (.int p0), .unset, .unset, .unset] [(.int (p0 &&& (65535 : Int32)))])) target
    refine XT.i2c X0.here hx rfl (hb hby at_4) rfl ?_
    show Steps p.tables e below (s₁.setTop (mkF m 5 #[.val (.int p0), .unset, .unset, .unset] [(.int ((p0 &&& (65535 : Int32)).toUInt32.toUInt16.toUInt32.toInt32))])) target
    refine XS.istoreN X0.here hx rfl (hb hby at_5) rfl (l' := #[.val (.int p0), .val (.int ((p0 &&& (65535 : Int32)).toUInt32.toUInt16.toUInt32.toInt32)), .unset, .unset]) rfl ?_
    show Steps p.tables e below (s₁.setTop (mkF m 6 #[.val (.int p0), .val (.int ((p0 &&& (65535 : Int32)).toUInt32.toUInt16.toUInt32.toInt32)), .unset, .unset] [])) target
    exact kt
  obtain ⟨ch, e_ch⟩ : ∃ z : Int32, z = ((p0 &&& (65535 : Int32)).toUInt32.toUInt16.toUInt32.toInt32) := ⟨_, rfl⟩
  rw [← e_ch] at g15
  have g16 : own_Go p e below s₁ (entryFrame m #[(.int p0)] maxLocals) s₁ (mkF m 8 #[.val (.int p0), .val (.int ch), .val (.int ch), .unset] []) := by
    intro target kt
    refine g15 target ?_
    refine XS.iloadN X0.here hx rfl (hb hby at_6) rfl ?_
    show Steps p.tables e below (s₁.setTop (mkF m 7 #[.val (.int p0), .val (.int ch), .unset, .unset] [(.int ch)])) target
    refine XS.istoreN X0.here hx rfl (hb hby at_7) rfl (l' := #[.val (.int p0), .val (.int ch), .val (.int ch), .unset]) rfl ?_
    show Steps p.tables e below (s₁.setTop (mkF m 8 #[.val (.int p0), .val (.int ch), .val (.int ch), .unset] [])) target
    exact kt
  obtain ⟨ex, hm30, g30⟩ : ∃ (ex : Int32), (ex = (if ch = (32 : Int32) then (1 : Int32) else (if ch < (9 : Int32) then (0 : Int32) else (if (12 : Int32) < ch then (0 : Int32) else (if ch = (10 : Int32) then (0 : Int32) else (1 : Int32)))))) ∧ own_Go p e below s₁ (entryFrame m #[(.int p0)] maxLocals) s₁ (mkF m 37 #[.val (.int p0), .val (.int ch), .val (.int ch), .unset] [(.int ex)]) := by
    have g17 : own_Go p e below s₁ (entryFrame m #[(.int p0)] maxLocals) s₁ (mkF m 11 #[.val (.int p0), .val (.int ch), .val (.int ch), .unset] [(.int (32 : Int32)), (.int ch)]) := by
      intro target kt
      refine g16 target ?_
      refine XS.iloadN X0.here hx rfl (hb hby at_8) rfl ?_
      show Steps p.tables e below (s₁.setTop (mkF m 9 #[.val (.int p0), .val (.int ch), .val (.int ch), .unset] [(.int ch)])) target
      refine XT.bipushV X0.here hx rfl (32 : Int32) (hb hby at_9) rfl ?_
      show Steps p.tables e below (s₁.setTop (mkF m 11 #[.val (.int p0), .val (.int ch), .val (.int ch), .unset] [(.int (32 : Int32)), (.int ch)])) target
      exact kt
    by_cases hc18 : ch = (32 : Int32)
    · have g19 : own_Go p e below s₁ (entryFrame m #[(.int p0)] maxLocals) s₁ (mkF m 37 #[.val (.int p0), .val (.int ch), .val (.int ch), .unset] [(.int (1 : Int32))]) := by
        intro target kt
        refine g17 target ?_
        refine XS.icmpYes X0.here hx rfl (pc0 := 11) (pc' := 32) rfl (hb hby at_11) rfl (XT.ii_eq_t hc18) (by decide) (by decide) ?_
        show Steps p.tables e below (s₁.setTop (mkF m 32 #[.val (.int p0), .val (.int ch), .val (.int ch), .unset] [])) target
        refine XT.iconstV X0.here hx rfl (1 : Int32) (hb hby at_32) rfl ?_
        show Steps p.tables e below (s₁.setTop (mkF m 33 #[.val (.int p0), .val (.int ch), .val (.int ch), .unset] [(.int (1 : Int32))])) target
        refine XS.goto X0.here hx rfl (pc0 := 33) (pc' := 37) rfl (hb hby at_33) (by decide) (by decide) ?_
        show Steps p.tables e below (s₁.setTop (mkF m 37 #[.val (.int p0), .val (.int ch), .val (.int ch), .unset] [(.int (1 : Int32))])) target
        exact kt
      exact ⟨(1 : Int32), (by simp only [if_pos hc18]), g19⟩
    · have g20 : own_Go p e below s₁ (entryFrame m #[(.int p0)] maxLocals) s₁ (mkF m 17 #[.val (.int p0), .val (.int ch), .val (.int ch), .unset] [(.int (9 : Int32)), (.int ch)]) := by
        intro target kt
        refine g17 target ?_
        refine XS.icmpNo X0.here hx rfl (hb hby at_11) rfl (XT.ii_eq_f hc18) ?_
        show Steps p.tables e below (s₁.setTop (mkF m 14 #[.val (.int p0), .val (.int ch), .val (.int ch), .unset] [])) target
        refine XS.iloadN X0.here hx rfl (hb hby at_14) rfl ?_
        show Steps p.tables e below (s₁.setTop (mkF m 15 #[.val (.int p0), .val (.int ch), .val (.int ch), .unset] [(.int ch)])) target
        refine XT.bipushV X0.here hx rfl (9 : Int32) (hb hby at_15) rfl ?_
        show Steps p.tables e below (s₁.setTop (mkF m 17 #[.val (.int p0), .val (.int ch), .val (.int ch), .unset] [(.int (9 : Int32)), (.int ch)])) target
        exact kt
      by_cases hc21 : ch < (9 : Int32)
      · have g22 : own_Go p e below s₁ (entryFrame m #[(.int p0)] maxLocals) s₁ (mkF m 37 #[.val (.int p0), .val (.int ch), .val (.int ch), .unset] [(.int (0 : Int32))]) := by
          intro target kt
          refine g20 target ?_
          refine XS.icmpYes X0.here hx rfl (pc0 := 17) (pc' := 36) rfl (hb hby at_17) rfl (XT.ii_lt_t hc21) (by decide) (by decide) ?_
          show Steps p.tables e below (s₁.setTop (mkF m 36 #[.val (.int p0), .val (.int ch), .val (.int ch), .unset] [])) target
          refine XT.iconstV X0.here hx rfl (0 : Int32) (hb hby at_36) rfl ?_
          show Steps p.tables e below (s₁.setTop (mkF m 37 #[.val (.int p0), .val (.int ch), .val (.int ch), .unset] [(.int (0 : Int32))])) target
          exact kt
        exact ⟨(0 : Int32), (by simp only [if_neg hc18, if_pos hc21]), g22⟩
      · have g23 : own_Go p e below s₁ (entryFrame m #[(.int p0)] maxLocals) s₁ (mkF m 23 #[.val (.int p0), .val (.int ch), .val (.int ch), .unset] [(.int (12 : Int32)), (.int ch)]) := by
          intro target kt
          refine g20 target ?_
          refine XS.icmpNo X0.here hx rfl (hb hby at_17) rfl (XT.ii_lt_f hc21) ?_
          show Steps p.tables e below (s₁.setTop (mkF m 20 #[.val (.int p0), .val (.int ch), .val (.int ch), .unset] [])) target
          refine XS.iloadN X0.here hx rfl (hb hby at_20) rfl ?_
          show Steps p.tables e below (s₁.setTop (mkF m 21 #[.val (.int p0), .val (.int ch), .val (.int ch), .unset] [(.int ch)])) target
          refine XT.bipushV X0.here hx rfl (12 : Int32) (hb hby at_21) rfl ?_
          show Steps p.tables e below (s₁.setTop (mkF m 23 #[.val (.int p0), .val (.int ch), .val (.int ch), .unset] [(.int (12 : Int32)), (.int ch)])) target
          exact kt
        by_cases hc24 : (12 : Int32) < ch
        · have g25 : own_Go p e below s₁ (entryFrame m #[(.int p0)] maxLocals) s₁ (mkF m 37 #[.val (.int p0), .val (.int ch), .val (.int ch), .unset] [(.int (0 : Int32))]) := by
            intro target kt
            refine g23 target ?_
            refine XS.icmpYes X0.here hx rfl (pc0 := 23) (pc' := 36) rfl (hb hby at_23) rfl (XT.ii_gt_t hc24) (by decide) (by decide) ?_
            show Steps p.tables e below (s₁.setTop (mkF m 36 #[.val (.int p0), .val (.int ch), .val (.int ch), .unset] [])) target
            refine XT.iconstV X0.here hx rfl (0 : Int32) (hb hby at_36) rfl ?_
            show Steps p.tables e below (s₁.setTop (mkF m 37 #[.val (.int p0), .val (.int ch), .val (.int ch), .unset] [(.int (0 : Int32))])) target
            exact kt
          exact ⟨(0 : Int32), (by simp only [if_neg hc18, if_neg hc21, if_pos hc24]), g25⟩
        · have g26 : own_Go p e below s₁ (entryFrame m #[(.int p0)] maxLocals) s₁ (mkF m 29 #[.val (.int p0), .val (.int ch), .val (.int ch), .unset] [(.int (10 : Int32)), (.int ch)]) := by
            intro target kt
            refine g23 target ?_
            refine XS.icmpNo X0.here hx rfl (hb hby at_23) rfl (XT.ii_gt_f hc24) ?_
            show Steps p.tables e below (s₁.setTop (mkF m 26 #[.val (.int p0), .val (.int ch), .val (.int ch), .unset] [])) target
            refine XS.iloadN X0.here hx rfl (hb hby at_26) rfl ?_
            show Steps p.tables e below (s₁.setTop (mkF m 27 #[.val (.int p0), .val (.int ch), .val (.int ch), .unset] [(.int ch)])) target
            refine XT.bipushV X0.here hx rfl (10 : Int32) (hb hby at_27) rfl ?_
            show Steps p.tables e below (s₁.setTop (mkF m 29 #[.val (.int p0), .val (.int ch), .val (.int ch), .unset] [(.int (10 : Int32)), (.int ch)])) target
            exact kt
          by_cases hc27 : ch = (10 : Int32)
          · have g28 : own_Go p e below s₁ (entryFrame m #[(.int p0)] maxLocals) s₁ (mkF m 37 #[.val (.int p0), .val (.int ch), .val (.int ch), .unset] [(.int (0 : Int32))]) := by
              intro target kt
              refine g26 target ?_
              refine XS.icmpYes X0.here hx rfl (pc0 := 29) (pc' := 36) rfl (hb hby at_29) rfl (XT.ii_eq_t hc27) (by decide) (by decide) ?_
              show Steps p.tables e below (s₁.setTop (mkF m 36 #[.val (.int p0), .val (.int ch), .val (.int ch), .unset] [])) target
              refine XT.iconstV X0.here hx rfl (0 : Int32) (hb hby at_36) rfl ?_
              show Steps p.tables e below (s₁.setTop (mkF m 37 #[.val (.int p0), .val (.int ch), .val (.int ch), .unset] [(.int (0 : Int32))])) target
              exact kt
            exact ⟨(0 : Int32), (by simp only [if_neg hc18, if_neg hc21, if_neg hc24, if_pos hc27]), g28⟩
          · have g29 : own_Go p e below s₁ (entryFrame m #[(.int p0)] maxLocals) s₁ (mkF m 37 #[.val (.int p0), .val (.int ch), .val (.int ch), .unset] [(.int (1 : Int32))]) := by
              intro target kt
              refine g26 target ?_
              refine XS.icmpNo X0.here hx rfl (hb hby at_29) rfl (XT.ii_eq_f hc27) ?_
              show Steps p.tables e below (s₁.setTop (mkF m 32 #[.val (.int p0), .val (.int ch), .val (.int ch), .unset] [])) target
              refine XT.iconstV X0.here hx rfl (1 : Int32) (hb hby at_32) rfl ?_
              show Steps p.tables e below (s₁.setTop (mkF m 33 #[.val (.int p0), .val (.int ch), .val (.int ch), .unset] [(.int (1 : Int32))])) target
              refine XS.goto X0.here hx rfl (pc0 := 33) (pc' := 37) rfl (hb hby at_33) (by decide) (by decide) ?_
              show Steps p.tables e below (s₁.setTop (mkF m 37 #[.val (.int p0), .val (.int ch), .val (.int ch), .unset] [(.int (1 : Int32))])) target
              exact kt
            exact ⟨(1 : Int32), (by simp only [if_neg hc18, if_neg hc21, if_neg hc24, if_neg hc27]), g29⟩
  have g31 : own_Go p e below s₁ (entryFrame m #[(.int p0)] maxLocals) s₁ (mkF m 39 #[.val (.int p0), .val (.int ch), .val (.int ch), .val (.int ex)] [(.int ch)]) := by
    intro target kt
    refine g30 target ?_
    refine XS.istoreN X0.here hx rfl (hb hby at_37) rfl (l' := #[.val (.int p0), .val (.int ch), .val (.int ch), .val (.int ex)]) rfl ?_
    show Steps p.tables e below (s₁.setTop (mkF m 38 #[.val (.int p0), .val (.int ch), .val (.int ch), .val (.int ex)] [])) target
    refine XS.iloadN X0.here hx rfl (hb hby at_38) rfl ?_
    show Steps p.tables e below (s₁.setTop (mkF m 39 #[.val (.int p0), .val (.int ch), .val (.int ch), .val (.int ex)] [(.int ch)])) target
    exact kt
  obtain ⟨_, _, ⟨T32, L32, k32, n32⟩, -, X32, ⟨Lc32, hQ32, l32, y32, z32⟩, st32⟩ := Jvm.LawKit.callS X0 hx (y := (⟨"com/example/ends_to_means/endstomeans/io/InputFiles", "isSpace", "(C)Z"⟩ : MethodName)) hown (mvT hZ (hw _ (List.mem_of_getElem? (i := 1) rfl))) (mvT hZ (hw _ (List.mem_of_getElem? (i := 2) rfl))) (mvT hZ (hw _ (List.mem_of_getElem? (i := 3) rfl))) (mvT hZ (hw _ (List.mem_of_getElem? (i := 4) rfl))) (by decide) (backOf (W := 0) (rm1 l Z a0 hw [] ch h0 n0 Z0) hZ (hw _ (List.mem_of_getElem? (i := 4) rfl)) (hw _ (List.mem_of_getElem? (i := 3) rfl)) (by decide) (by decide)) (g := (mkF m 39 #[.val (.int p0), .val (.int ch), .val (.int ch), .val (.int ex)] [(.int ch)])) rfl (by rw [hml]; rfl) (argsL := [(.int ch)]) (rest := []) (lenOf pd_0 rfl) rfl (by show 2 * 0 + _ ≤ _; exact Nat.le_of_eq rfl) (hb hby at_39) (fun _ _ => ⟨rfl, e0, (by decide : 0 + 0 ≤ _), (by decide : 0 + 0 ≤ _)⟩)
  dsimp only [Pt.U, Pt.locs, Pt.cells, Pt.slots] at X32 l32 y32 z32 st32 hQ32
  subst l32 y32 z32
  obtain ⟨rfl, Nq32, eq32⟩ := hQ32
  have N32 := Fr.app N0 Nq32
  have g33 : own_Go p e below s₁ (entryFrame m #[(.int p0)] maxLocals) T32 (mkF m 42 #[.val (.int p0), .val (.int ch), .val (.int ch), .val (.int ex)] [(.int (own_sp ch))]) := fun target kt => g31 target (st32 target kt)
  have hq : own_sp ch = ex := by rw [hm30]; exact own_same ch
  have g34 : own_Go p e below s₁ (entryFrame m #[(.int p0)] maxLocals) T32 (mkF m 51 #[.val (.int p0), .val (.int ch), .val (.int ch), .val (.int ex)] [(.int (1 : Int32))]) := by
    intro target kt
    refine g33 target ?_
    refine XS.iloadN X32.here hx rfl (hb hby at_42) rfl ?_
    show Steps p.tables e below (T32.setTop (mkF m 43 #[.val (.int p0), .val (.int ch), .val (.int ch), .val (.int ex)] [(.int ex), (.int (own_sp ch))])) target
    refine XS.icmpNo X32.here hx rfl (hb hby at_43) rfl (XT.ii_ne_f hq) ?_
    show Steps p.tables e below (T32.setTop (mkF m 46 #[.val (.int p0), .val (.int ch), .val (.int ch), .val (.int ex)] [])) target
    refine XT.iconstV X32.here hx rfl (1 : Int32) (hb hby at_46) rfl ?_
    show Steps p.tables e below (T32.setTop (mkF m 47 #[.val (.int p0), .val (.int ch), .val (.int ch), .val (.int ex)] [(.int (1 : Int32))])) target
    refine XS.goto X32.here hx rfl (pc0 := 47) (pc' := 51) rfl (hb hby at_47) (by decide) (by decide) ?_
    show Steps p.tables e below (T32.setTop (mkF m 51 #[.val (.int p0), .val (.int ch), .val (.int ch), .val (.int ex)] [(.int (1 : Int32))])) target
    exact kt
  obtain ⟨fs, hr, hrun, hended, hW, hsame⟩ := X32.leave (v := some (.int (nar .boolean (1 : Int32)))) (fun h => by rw [Bd.returns] at h; cases h)
  refine ⟨_, _, g34 _ ?_, hrun, hended, _, _, rfl, ?_, ⟨_, rfl⟩, hW, hsame.mono (by decide) (by decide)⟩
  · exact retN X32 hx (t := .boolean) Bd.returns (by simp) (hb hby at_51) hr
  · show Q_rm0 Z p0  h0 n0 _ T32.heap _
    rw [eq32]
    exact ⟨rfl, N32⟩
set_option maxRecDepth 65536 in
set_option maxHeartbeats 40000000 in
theorem comes_1 {Post : Tables → Env → Array Value → State → Outcome → State → Prop} (hpost : ∀ tb e args s v u, (limb_1_1.after args s (.returned v) u = true ∧ limb_1_2.after args s (.returned v) u = true ∧ True) → FrameEnd s (.returned v) u (Jvm.fieldLocs frame_1_writes args s ++ Jvm.arrayLocs frame_1_arrays args s ++ Jvm.staticLocs frame_1_statics s) 0 0 → Post tb e args s (.returned v) u) :
    ArmFor flags0 classFile x code maxLocals ret World_1 tables_1 room_1 Calls_1 rest_1 Pre_1 Post := by
  intro l hfl _ _ p e ha hc hk s m args below hf hA hF happ hP
  obtain ⟨hcalls, hrest, hpre⟩ := hP
  obtain ⟨-, -, -, hnamed, -, -, -, hat⟩ := (Spec.applies_iff hf).mp happ
  obtain ⟨hg, hn⟩ := and_e (Cond.before_iff.mp (show (Jvm.Cond.and given_1 narrow_1).before args s = true from hpre))
  obtain ⟨hcnt, hs0⟩ := and_e hg
  have ha0 := hs0
  obtain ⟨w0, rfl⟩ : ∃ w0 : Value, args = #[w0] := by
    have hs : args.size = 1 := by simpa [Cond.value, given_1] using hcnt
    obtain ⟨L⟩ := args
    match L, hs with
    | [w0], _ => exact ⟨w0, rfl⟩
  have hw := fun d (hd : d ∈ tables_1) => atoms_spec (ws := Jvm.Cond.code x code maxLocals ret :: tables_1) hat d (List.mem_cons_of_mem _ hd)
  have hfit : Fit s := fun {y c} hc i hi => by
    obtain ⟨ha, rfl⟩ := Array.getElem?_eq_some_iff.mp hc
    have q := List.all_eq_true.mp ((Array.all_eq_true_iff_forall_mem.mp hF) _ (Array.getElem_mem ha)) i (List.mem_range.mpr hi)
    simpa [Array.getElem?_eq_getElem hi] using q
  obtain ⟨i0, ei0⟩ := is_v ha0
  obtain rfl : w0 = (.int i0) := Option.some.inj ei0
  obtain ⟨n, o, h1, h2, h3, _, L, rfl, ⟨rfl, N⟩, hq⟩ := rm0 l s _ hw tables_1 i0  s.heap s.heap.size (Nat.le_refl _)  p e ha hc hk s m _ below hf ((Spec.applies_iff_loose hf).mp happ).1 ⟨rfl, State.Warmed39.refl s, rfl⟩ trivial
  refine ⟨n, _, h1, h2, h3, hpost _ _ _ _ _ _ ⟨Cond.after_iff.mpr rfl, Cond.after_iff.mpr (eq_i res_at (Term.int_eval (1)) rfl), trivial⟩ ⟨hq.1, hq.2.1, (hq.2.2.sift fun y hy => Or.inr (N y hy)).mono (by decide) (by decide)⟩⟩
theorem main_1_1 : Claimed_1_1 := comes_1 fun _ _ _ _ _ _ h hF => ⟨h.1, hF⟩
theorem main_1_2 : Claimed_1_2 := comes_1 fun _ _ _ _ _ _ h hF => ⟨h.2.1, hF⟩
end Jvm.Pilot.@@N@@
namespace Jvm.Pilot.@@N@@
open Jvm Jvm.ClassFile Sem Op Lib Jvm.Free Jvm.Stand Jvm.Pilot.@@N@@.Jvm.D
/-! MADE BY PROGRAM (witnessworld.py) out of the Statement's table words and the real class files: 7 classes; the members and pool entries that the words name. The judged class is class 1, her method 1. -/
namespace start1
open Jvm.ClassFile
def u (s : String) : CpInfo := .utf8 (stringToUtf16 s)
/-- a pool by its gaps: so many unusable entries, then the entry; so many at the end -/
def gap : Nat → List CpInfo → List CpInfo
  | 0, r => r
  | n + 1, r => .unusable :: gap n r
def poolList (es : List (Nat × CpInfo)) (last : Nat) : List CpInfo := es.foldr (fun e r => gap e.1 (e.2 :: r)) (gap last [])
def pool (es : List (Nat × CpInfo)) (last : Nat) : Array CpInfo := ⟨poolList es last⟩
def fileOf (pool : Array CpInfo) (this : Nat) (attrs : Array Attribute := #[]) (ms : Array MethodInfo := #[]) (fl : Nat := 33) (sup : Nat := 0) (ifs : Array Nat := #[]) (fds : Array FieldInfo := #[]) : ClassFile where
  minorVersion := 0
  majorVersion := 65
  constantPool := pool
  accessFlags := fl
  thisClass := this
  superClass := sup
  interfaces := ifs
  fields := fds
  methods := ms
  attributes := attrs
def plain (name : String) (sup : Option ClassId) : Class where
  name := name
  kind := .ordinary
  loader := none
  accessFlags := 33
  super := sup
  interfaces := #[]
  cf := none
  fields := #[]
  methods := #[]
  instanceTypes := #[]
  staticTypes := #[]
  resolved := #[]
  callSites := []
  init := .initialized
  statics := none
  mirror := none

def pool0 : Array CpInfo := pool [(5, u "<init>"), (0, u "()V"), (1, .class_ 10), (1, u "java/lang/Object")] 113

def k0m0 : Method := { name := "<init>", desc := "()V", sig := { parameters := [], returnType := none }, accessFlags := 1, code := none }
/-- java/lang/Object -/
def k0 : Class := { plain "java/lang/Object" none with
  accessFlags := 33
  interfaces := #[]
  cf := some (fileOf pool0 8 #[] #[{ accessFlags := 1, nameIndex := 5, descriptorIndex := 6, attributes := #[] }] 33 0 #[] #[])
  fields := #[]
  methods := #[k0m0]
  instanceTypes := #[]
  staticTypes := #[]
  resolved := Array.replicate 124 none
  statics := none }

def pool1 : Array CpInfo := pool [(2, .class_ 4), (1, u "java/lang/Object"), (0, u "<init>"), (0, u "()V"), (0, .integer 65535), (0, .methodref 9 10), (0, .class_ 11), (0, .nameAndType 12 13), (0, u "com/example/ends_to_means/endstomeans/io/InputFiles"), (0, u "isSpace"), (0, u "(C)Z"), (0, .class_ 15), (0, u "com/example/ends_to_means/endstomeans/io/InputFilesIsSpacePinLaw"), (2, u "law"), (0, u "(I)Z")] 3

def k1m0 : Method := { name := "<init>", desc := "()V", sig := { parameters := [], returnType := none }, accessFlags := 2, code := none }
def k1c1 : Code := { maxStack := 2, maxLocals := 4, code := code, exceptionTable := #[], attributes := #[] }
def k1m1 : Method := { name := "law", desc := "(I)Z", sig := { parameters := [.int], returnType := some .boolean }, accessFlags := 9, code := some k1c1 }
/-- com/example/ends_to_means/endstomeans/io/InputFilesIsSpacePinLaw -/
def k1 : Class := { plain "com/example/ends_to_means/endstomeans/io/InputFilesIsSpacePinLaw" (some 0) with
  accessFlags := 49
  interfaces := #[]
  cf := some (fileOf pool1 14 #[] #[{ accessFlags := 2, nameIndex := 5, descriptorIndex := 6, attributes := #[] }, { accessFlags := 9, nameIndex := 18, descriptorIndex := 19, attributes := #[] }] 49 2 #[] #[])
  fields := #[]
  methods := #[k1m0, k1m1]
  instanceTypes := #[]
  staticTypes := #[]
  resolved := Array.replicate 23 none
  statics := none }

def pool2 : Array CpInfo := pool [(4, .class_ 6), (1, u "java/lang/Object"), (0, u "<init>"), (0, u "()V"), (51, .class_ 61), (0, u "com/example/ends_to_means/endstomeans/io/InputFiles"), (41, .class_ 105), (1, u "com/example/ends_to_means/endstomeans/io/InputFiles$Line"), (18, u "isSpace"), (0, u "(C)Z"), (88, .class_ 216), (1, u "com/example/ends_to_means/endstomeans/io/InputFiles$Statement"), (1, u "TOO_LARGE"), (0, u "J"), (1, u "BUFFER_CHARS"), (0, u "I"), (0, u "BYTE_ORDER_MARK"), (0, u "C"), (0, u "MAX_CAPACITY")] 54

def k2m0 : Method := { name := "<init>", desc := "()V", sig := { parameters := [], returnType := none }, accessFlags := 2, code := none }
def k2c1 : Code := { maxStack := 2, maxLocals := 1, code := prog_16_method_6_code, exceptionTable := #[], attributes := #[] }
def k2m1 : Method := { name := "isSpace", desc := "(C)Z", sig := { parameters := [.char], returnType := some .boolean }, accessFlags := 8, code := some k2c1 }
/-- com/example/ends_to_means/endstomeans/io/InputFiles -/
def k2 : Class := { plain "com/example/ends_to_means/endstomeans/io/InputFiles" (some 0) with
  accessFlags := 48
  interfaces := #[]
  cf := some (fileOf pool2 60 #[.nestMembers #[214, 103]] #[{ accessFlags := 2, nameIndex := 7, descriptorIndex := 8, attributes := #[] }, { accessFlags := 8, nameIndex := 124, descriptorIndex := 125, attributes := #[] }] 48 4 #[] #[{ accessFlags := 26, nameIndex := 218, descriptorIndex := 219, attributes := #[] }, { accessFlags := 26, nameIndex := 221, descriptorIndex := 222, attributes := #[] }, { accessFlags := 26, nameIndex := 223, descriptorIndex := 224, attributes := #[] }, { accessFlags := 26, nameIndex := 225, descriptorIndex := 222, attributes := #[] }])
  fields := #[{ name := "TOO_LARGE", type := .long, accessFlags := 26, slot := 0, constantValue := 0 }, { name := "BUFFER_CHARS", type := .int, accessFlags := 26, slot := 1, constantValue := 0 }, { name := "BYTE_ORDER_MARK", type := .char, accessFlags := 26, slot := 2, constantValue := 0 }, { name := "MAX_CAPACITY", type := .int, accessFlags := 26, slot := 3, constantValue := 0 }]
  methods := #[k2m0, k2m1]
  instanceTypes := #[]
  staticTypes := #[.long, .int, .char, .int]
  resolved := Array.replicate 280 none
  statics := none }

def pool3 : Array CpInfo := pool [(1, u "java/lang/Cloneable"), (0, .class_ 1), (0, u "java/lang/Object"), (0, .class_ 3)] 3

/-- java/lang/Cloneable -/
def k3 : Class := { plain "java/lang/Cloneable" (some 0) with
  accessFlags := 1537
  interfaces := #[]
  cf := some (fileOf pool3 2 #[] #[] 1537 4 #[] #[])
  fields := #[]
  methods := #[]
  instanceTypes := #[]
  staticTypes := #[]
  resolved := Array.replicate 8 none
  statics := none }

def pool4 : Array CpInfo := pool [(1, u "java/io/Serializable"), (0, .class_ 1), (0, u "java/lang/Object"), (0, .class_ 3)] 3

/-- java/io/Serializable -/
def k4 : Class := { plain "java/io/Serializable" (some 0) with
  accessFlags := 1537
  interfaces := #[]
  cf := some (fileOf pool4 2 #[] #[] 1537 4 #[] #[])
  fields := #[]
  methods := #[]
  instanceTypes := #[]
  staticTypes := #[]
  resolved := Array.replicate 8 none
  statics := none }

/-- the primitive byte -/
def k5 : Class := { plain "byte" none with kind := .primitive 'B', accessFlags := 0x411 }
/-- [B -/
def k6 : Class := { plain "[B" (some 0) with kind := .array 5 .byte, interfaces := #[3, 4], accessFlags := 1041 }

def heap : Heap := #[]
def classes : Array Class := #[k0, k1, k2, k3, k4, k5, k6]
def interned : List (Array UInt16 × Addr) := []
def slotsUsed : Nat := 0
def theMethod : MethodId := ⟨1, 1⟩
def args0 : Array Value := #[.int 5]
def aboutOver (below : List Frame) : State where
  vm := { classes := classes, interned := interned.toArray }
  heap := heap
  slotsUsed := slotsUsed
  threads := #[{ frames := .invoking theMethod args0 :: below }]
def below0 : List Frame := [.native { method := ⟨0, 0⟩, args := #[] }]
def about1 : State := aboutOver below0
def p0 : Program := .bare "" "" ""
def e0 : Env := launch0.env 0 0 0
theorem w_frames : about1.frames = Frame.invoking theMethod args0 :: below0 := rfl
set_option maxRecDepth 65536 in
theorem w_args : argsFit about1.vm theMethod args0 = true := by decide +kernel
set_option maxRecDepth 65536 in
theorem w_heap : heapFits about1 = true := by decide +kernel
set_option maxRecDepth 65536 in
theorem w_runnable : about1.curStatus? = some .runnable := by decide +kernel
set_option maxRecDepth 65536 in
theorem w_alone : about1.alone = true := by decide +kernel
set_option maxRecDepth 65536 in
theorem w_named : about1.methodNamed? x = some theMethod := by decide +kernel
set_option maxRecDepth 65536 in
theorem w_hears : about1.hears theMethod below0 = true := by decide +kernel
set_option maxRecDepth 65536 in
theorem w_ripe : about1.ripe theMethod args0 below0 = true := by decide +kernel
theorem w_running : about1.status = .running := rfl
set_option maxRecDepth 65536 in
theorem w_room : about1.hasRoom e0.platform room_1 = true :=
  launch0.hasRoom_least _ room_1 (by decide +kernel) (by decide +kernel) (by decide +kernel) (by decide +kernel) (by decide +kernel) (by decide +kernel)
theorem allAtoms_all (ts : List Jvm.Cond) (a : Array Jvm.Value) (st : Jvm.State) : (allAtoms ts).before a st = ts.all (fun c => c.before a st) := by
  induction ts with
  | nil => rfl
  | cons c t ih =>
    show (Jvm.Cond.and c (allAtoms t)).before a st = _
    rw [Jvm.Cond.before_and, ih, List.all_cons]
def words1 : List Jvm.Cond := Jvm.Cond.code x code maxLocals ret :: tables_1
/-- a 'code' word, met by the world's own term for the bytes: nothing is compared byte by byte -/
theorem code_word {y : MethodName} {bytes : ByteArray} {mx : Nat} {rt : Option FieldType} {a : Array Value} {s : State} {m : MethodId} {meth : Method} {c : Code} (h1 : s.methodNamed? y = some m) (h2 : s.vm.method? m = some meth) (h3 : meth.code = some c) (h4 : c.code = bytes)
    (h5 : (c.maxLocals == mx && c.exceptionTable.isEmpty && decide (c.maxStack ≤ mostOperands) && decide (meth.sig.returnType = rt) && !meth.locks && decide (parseMethodDescriptor y.desc = some meth.sig)) = true) : (Jvm.Cond.code y bytes mx rt).before a s = true := by
  simp only [Bool.and_eq_true, beq_iff_eq, Bool.not_eq_true', decide_eq_true_eq] at h5
  obtain ⟨⟨⟨⟨⟨g1, g2⟩, g3⟩, g4⟩, g5⟩, g6⟩ := h5
  simp [Cond.before, Cond.holds, Cond.value, h1, h2, h3, h4, g1, g2, g3, g4, g5, g6]
def isCode : Jvm.Cond → Bool
  | .code _ _ _ _ => true
  | _ => false
theorem all_split {L : List Jvm.Cond} {P : Jvm.Cond → Bool} (h1 : L.all (fun c => isCode c || P c) = true) (h2 : ∀ c ∈ L.filter isCode, P c = true) : L.all P = true := by
  refine List.all_eq_true.mpr fun c hc => ?_
  have h := List.all_eq_true.mp h1 c hc
  rcases Bool.eq_false_or_eq_true (isCode c) with hi | hi
  · exact h2 c (List.mem_filter.mpr ⟨hc, hi⟩)
  · simpa [hi] using h
set_option maxRecDepth 65536 in
theorem w_c0 : (Jvm.Cond.code x code maxLocals ret).before args0 about1 = true := code_word (m := ⟨1, 1⟩) (meth := k1m1) (c := k1c1) (by decide +kernel) rfl rfl rfl (by decide +kernel)
set_option maxRecDepth 65536 in
theorem w_c1 : (Jvm.Cond.code ({ cls := "com/example/ends_to_means/endstomeans/io/InputFiles", name := "isSpace", desc := "(C)Z" } : Jvm.MethodName) prog_16_method_6_code (1 : Nat) (Option.some Jvm.ClassFile.FieldType.boolean)).before args0 about1 = true := code_word (m := ⟨2, 1⟩) (meth := k2m1) (c := k2c1) (by decide +kernel) rfl rfl rfl (by decide +kernel)
def codes1 : List Jvm.Cond := [Jvm.Cond.code x code maxLocals ret, Jvm.Cond.code ({ cls := "com/example/ends_to_means/endstomeans/io/InputFiles", name := "isSpace", desc := "(C)Z" } : Jvm.MethodName) prog_16_method_6_code (1 : Nat) (Option.some Jvm.ClassFile.FieldType.boolean)]
set_option maxRecDepth 65536 in
theorem codes_eq : words1.filter isCode = codes1 := rfl
theorem w_codes : ∀ c ∈ words1.filter isCode, c.before args0 about1 = true := by
  rw [codes_eq]
  intro c hc
  simp only [codes1, List.mem_cons, List.not_mem_nil, or_false] at hc
  rcases hc with rfl | rfl
  · exact w_c0
  · exact w_c1
set_option maxRecDepth 65536 in
theorem w_t1 : words1.all (fun c => isCode c || c.before args0 about1) = true := by decide +kernel
theorem w_tables : (allAtoms (Jvm.Cond.code x code maxLocals ret :: tables_1)).before args0 about1 = true := by
  rw [allAtoms_all]
  show words1.all (fun c => c.before args0 about1) = true
  refine all_split ?_ w_codes
  rw [w_t1]
set_option maxRecDepth 65536 in
theorem w_case : (Jvm.Cond.and given_1 narrow_1).before args0 about1 = true := by decide +kernel
theorem w_applies : (headSpec (Jvm.Cond.code x code maxLocals ret :: tables_1) room_1).applies x e0.platform about1 = true :=
  (Spec.applies_iff w_frames).mpr ⟨w_running, w_runnable, w_alone, w_named, w_hears, w_ripe, w_room, w_tables⟩
theorem atStart : AtStart classFile x code maxLocals ret World_1 tables_1 room_1 Calls_1 rest_1 Pre_1 launch0 p0 e0 about1 theMethod args0 below0 :=
  ⟨lists_1, trivial, launch0.admits_env _ _ _, launch0.least_env, fairChoices_fair.cas, fairChoices_fair.clock, w_frames, w_args, w_heap, w_applies, trivial, trivial, w_case⟩
end start1
theorem witness_1 : WitnessClaimed_1 := ⟨start1.p0, start1.e0, start1.about1, start1.theMethod, start1.args0, start1.below0, start1.atStart⟩
end Jvm.Pilot.@@N@@
