import JvmDerived
import JvmDerived.Pilot.@@N@@Statement
import JvmDerived.Pilot.@@N@@Code
set_option linter.unusedVariables false
set_option linter.unusedSimpArgs false
namespace Jvm.RoadKit
open Sem ClassFile Op Lib Jvm.Stand Jvm.Free Jvm.LawKit
section New
variable {p : Program} {l : Launch} {e : Env} {R : Room} {s : State} {m : MethodId} {args : Array Value} {below : List Frame} {meth : Method} {c : Code} {T : State} {locs : List Loc} {cells slots : Nat}
theorem retI (X : Stand p l e R s m args below meth c T locs cells slots) (hx : p.tables.exec = Jvm.exec) {pc : Nat} {Ls : Array Slot} {z : Int32} {rest : List Value} (hret : meth.sig.returnType = some .int) (hd : decode c.code pc = .ok (.ireturn, 1)) {fs : List Frame}
    (hl : ∀ (f : JFrame) (acts : List Action), f.method = m → f.locked = none → f.entered = [] → (doReturn e (T.setTop f) acts (some (.int z))).1 = T.setFrames fs) : Steps p.tables e below (T.setTop (mkF m pc Ls (.int z :: rest))) (T.setFrames fs) := by
  have hm' : T.vm.method? m = some meth := X.method'
  have hn : narrow .int (.int z) = .int z := rfl
  show Steps p.tables e below (T.setTop { method := m, pc := pc, locals := Ls, stack := _ :: rest, locked := none }) _
  jvm_step X.here [X.here.top, hx, hd, hm', hret, hn]
  first | (intro acts; rw [hl _ acts rfl rfl rfl]) | rw [hl _ _ rfl rfl rfl]
  exact Steps.refl _
end New
end Jvm.RoadKit
namespace Jvm.Pilot.@@N@@
open Jvm Jvm.ClassFile Sem Op Lib Jvm.Free Jvm.Stand Jvm.LawKit Jvm.RoadKit Bundle Jvm.Pilot.@@N@@.Jvm.D
/-- whoever reaches a target from the frame F of T reaches it from the frame F0 of T0 -/
def own_Go (p : Program) (e : Env) (below : List Frame) (T0 : State) (F0 : JFrame) (T : State) (F : JFrame) : Prop := ∀ target, Steps p.tables e below (T.setTop F) target → Steps p.tables e below (T0.setTop F0) target
theorem own_Go.refl {p : Program} {e : Env} {below : List Frame} {T : State} {F : JFrame} : own_Go p e below T F T F := fun _ k => k
theorem own_Go.trans {p : Program} {e : Env} {below : List Frame} {T0 T1 T2 : State} {F0 F1 F2 : JFrame} (a : own_Go p e below T0 F0 T1 F1) (b : own_Go p e below T1 F1 T2 F2) : own_Go p e below T0 F0 T2 F2 := fun t k => a t (b t k)

theorem pd_0 : parseMethodDescriptor "([II)Z" = some ⟨[(.array .int), .int], some .boolean⟩ := by decide +kernel
/-! plain laws -/
theorem own_ti {n : Nat} (h : n < 2147483648) : n.toInt32.toInt = n := len_toInt (by omega)
theorem own_tn {n : Nat} (h : n < 2147483648) : n.toInt32.toNatClampNeg = n := by
  rw [Int32.toNatClampNeg, own_ti h]; rfl
theorem own_lt {i n : Nat} (hi : i < n) (hn : n < 2147483648) : i.toInt32 < n.toInt32 := by
  rw [Int32.lt_iff_toInt_lt, own_ti (by omega), own_ti hn]
  omega
theorem own_nlt {n : Nat} : ¬ n.toInt32 < n.toInt32 := Int32.lt_irrefl
theorem own_one (i : Nat) : i.toInt32 + (1 : Int32) = (i + 1).toInt32 := (Int32.ofNat_add i 1).symm
def own_has (f : Nat → Int32) (y : Int32) : Nat → Nat → Int32
  | _, 0 => 0
  | i, k + 1 => if f i = y then 1 else own_has f y (i + 1) k
theorem own_nar (f : Nat → Int32) (y : Int32) : ∀ k i, nar .boolean (own_has f y i k) = own_has f y i k
  | 0, _ => by show nar .boolean (0 : Int32) = 0; rfl
  | k + 1, i => by
    show nar .boolean (if f i = y then 1 else own_has f y (i + 1) k) = (if f i = y then 1 else own_has f y (i + 1) k)
    split
    · rfl
    · exact own_nar f y k (i + 1)
/-- an array of n ints, place j holding f j -/
def own_Ai (Z : State) (h : Heap) (a : Addr) (n : Nat) (f : Nat → Int32) : Prop := ∃ cl : Cell, Arr Z h a cl .int ∧ cl.slots.size = n ∧ ∀ j, j < n → cl.slots[j]? = some (.int (f j))
theorem own_new {Z : State} {h : Heap} {a : Addr} {k : ClassId} {z : Int32} {n : Nat} (A : Arr Z h a (newA k .int z) .int) (hz : z.toNatClampNeg = n) : own_Ai Z h a n (fun _ => 0) := by
  refine ⟨_, A, by rw [sz_new, hz], fun j hj => ?_⟩
  show (Array.replicate z.toNatClampNeg (defaultValue .int))[j]? = _
  rw [hz, Array.getElem?_replicate, if_pos hj]
  rfl
theorem own_set {Z : State} {h h' : Heap} {a : Addr} {cl : Cell} {n i : Nat} {f : Nat → Int32} {y : Int32} (A : Arr Z h a cl .int) (S : cl.slots.size = n) (H : ∀ j, j < n → cl.slots[j]? = some (.int (f j))) (W : Wr h h' a i (.int y)) (hi : i < n) : own_Ai Z h' a n (fun j => if j = i then y else f j) := by
  refine ⟨_, A.same W, by rw [sz_set, S], fun j hj => ?_⟩
  show (cl.slots.setIfInBounds i (.int y))[j]? = some (.int (if j = i then y else f j))
  rw [Array.getElem?_setIfInBounds]
  by_cases h : j = i
  · subst h
    rw [if_pos rfl, if_pos (by omega), if_pos rfl]
  · rw [if_neg (fun q => h q.symm), if_neg h]
    exact H j hj
theorem own_four (x : Int32) : (x &&& (3 : Int32)) = (0 : Int32) ∨ (x &&& (3 : Int32)) = (1 : Int32) ∨ (x &&& (3 : Int32)) = (2 : Int32) ∨ (x &&& (3 : Int32)) = (3 : Int32) := by
  have h := c_mask x 3 2 (by decide) (by decide)
  simp only [← Int32.toInt_inj, h, show (0 : Int32).toInt = 0 from rfl, show (1 : Int32).toInt = 1 from rfl, show (2 : Int32).toInt = 2 from rfl, show (3 : Int32).toInt = 3 from rfl]
  omega
theorem d1_0 : decode prog_106_method_6_code 0 = .ok (.iconst 0, 1) := by decide +kernel
theorem d1_1 : decode prog_106_method_6_code 1 = .ok (.istore_n 2, 1) := by decide +kernel
theorem d1_2 : decode prog_106_method_6_code 2 = .ok (.iconst 0, 1) := by decide +kernel
theorem d1_3 : decode prog_106_method_6_code 3 = .ok (.istore_n 3, 1) := by decide +kernel
theorem d1_4 : decode prog_106_method_6_code 4 = .ok (.iload_n 3, 1) := by decide +kernel
theorem d1_5 : decode prog_106_method_6_code 5 = .ok (.aload_n 0, 1) := by decide +kernel
theorem d1_6 : decode prog_106_method_6_code 6 = .ok (.arraylength, 1) := by decide +kernel
theorem d1_7 : decode prog_106_method_6_code 7 = .ok (.if_icmp .ge 26, 3) := by decide +kernel
theorem d1_10 : decode prog_106_method_6_code 10 = .ok (.iload_n 2, 1) := by decide +kernel
theorem d1_11 : decode prog_106_method_6_code 11 = .ok (.ifCond .ne 22, 3) := by decide +kernel
theorem d1_14 : decode prog_106_method_6_code 14 = .ok (.aload_n 0, 1) := by decide +kernel
theorem d1_15 : decode prog_106_method_6_code 15 = .ok (.iload_n 3, 1) := by decide +kernel
theorem d1_16 : decode prog_106_method_6_code 16 = .ok (.iaload, 1) := by decide +kernel
theorem d1_17 : decode prog_106_method_6_code 17 = .ok (.iload_n 1, 1) := by decide +kernel
theorem d1_18 : decode prog_106_method_6_code 18 = .ok (.if_icmp .ne 7, 3) := by decide +kernel
theorem d1_21 : decode prog_106_method_6_code 21 = .ok (.iconst 1, 1) := by decide +kernel
theorem d1_22 : decode prog_106_method_6_code 22 = .ok (.goto 4, 3) := by decide +kernel
theorem d1_25 : decode prog_106_method_6_code 25 = .ok (.iconst 0, 1) := by decide +kernel
theorem d1_26 : decode prog_106_method_6_code 26 = .ok (.istore_n 2, 1) := by decide +kernel
theorem d1_27 : decode prog_106_method_6_code 27 = .ok (.iinc 3 1, 3) := by decide +kernel
theorem d1_30 : decode prog_106_method_6_code 30 = .ok (.goto (-26), 3) := by decide +kernel
theorem d1_33 : decode prog_106_method_6_code 33 = .ok (.iload_n 2, 1) := by decide +kernel
theorem d1_34 : decode prog_106_method_6_code 34 = .ok (.ireturn, 1) := by decide +kernel
theorem pn_rm1 : plainName "com/example/ends_to_means/endstomeans/model/VertexChecks" = true := by first | (simp [plainName, overriddenIn]; done) | decide +kernel
theorem ef_rm1 (m : MethodId) (a1 : Addr) (y : Int32) : entryFrame m #[(.ref a1), (.int y)] 4 = mkF m 0 #[.val (.ref a1), .val (.int y), .unset, .unset] [] := by first | (simp [entryFrame, mkF, argsToLocals, Value.category]; done) | rfl
def Q_rm1 (Z : State) (a1 : Addr) (y : Int32) (n : Nat) (f : Nat → Int32) (h0 : Heap) (n0 : Nat) (v : Option Value) (h : Heap) (L : List Loc) : Prop := v = some (.int (own_has f y 0 n)) ∧ Fr n0 L ∧ h = h0
set_option maxRecDepth 65536 in
set_option maxHeartbeats 40000000 in
theorem rm1 (l : Launch) (Z : State) (a0 : Array Value) (hw : ∀ d ∈ tables_1, d.before a0 Z = true) (ws : List Jvm.Cond) (a1 : Addr) (y : Int32) (n : Nat) (f : Nat → Int32) (h0 : Heap) (n0 : Nat) (Z0 : n0 ≤ h0.size) (A1 : own_Ai Z h0 a1 n f) (hn : n ≤ 3) :
    MetFree l (⟨"com/example/ends_to_means/endstomeans/model/VertexChecks", "hasMove", "([II)Z"⟩ : MethodName) (head1 (Jvm.Cond.code (⟨"com/example/ends_to_means/endstomeans/model/VertexChecks", "hasMove", "([II)Z"⟩ : MethodName) prog_106_method_6_code 4 (some .boolean) :: ws) ({ frames := 0, cells := 0, slots := 0, locals := 0 } : Room)) (fun a U => a = #[(.ref a1), (.int y)] ∧ Z.Warmed39 U.vm ∧ U.heap = h0) (fun _ _ _ _ _ => True) (fun _ U o U' => ∃ v L, o = .returned v ∧ Q_rm1 Z a1 y n f h0 n0 v U'.heap L ∧ FrameEnd U o U' L ({ frames := 0, cells := 0, slots := 0, locals := 0 } : Room).cells ({ frames := 0, cells := 0, slots := 0, locals := 0 } : Room).slots) := by
  refine MetFree.of_bodySF (plainFor_of_name pn_rm1) hisR ?_
  intro p e s m args below meth c s₁ Bd hml0 hP hK
  obtain ⟨rfl, hZ, hh⟩ := hP
  have hx := Bd.exec
  have hby := Bd.bytes
  have hml : c.maxLocals = 4 := hml0
  have hown : s.vm.findClass "com/example/ends_to_means/endstomeans/model/VertexChecks" = some m.cls := findClass_of_methodNamed Bd.named
  have hnm := (name_of_methodNamed Bd.named Bd.method).1
  have X0 : Stand p l e ({ frames := 0, cells := 0, slots := 0, locals := 0 } : Room) s m #[(.ref a1), (.int y)] below meth c s₁ [] 0 0 := Stand.of_body Bd
  have e0 : s₁.heap = h0 := by rw [← hh, Bd.state]; rfl
  have N0 := Fr.nil n0
  have g0 : own_Go p e below s₁ (entryFrame m #[(.ref a1), (.int y)] 4) s₁ (mkF m 0 #[.val (.ref a1), .val (.int y), .unset, .unset] []) := fun t k => castTop (ef_rm1 m a1 y) k
  obtain ⟨cl1, Ar1, S1, H1⟩ := A1
  have hsz : cl1.slots.size.toInt32 = n.toInt32 := by rw [S1]
  have loop : ∀ (k i : Nat) (fd : Int32), i + k = n →
      ∃ fd' i' : Int32, fd' = (if fd = 0 then own_has f y i k else fd) ∧ own_Go p e below s₁ (mkF m 4 #[.val (.ref a1), .val (.int y), .val (.int fd), .val (.int i.toInt32)] []) s₁ (mkF m 33 #[.val (.ref a1), .val (.int y), .val (.int fd'), .val (.int i')] []) := by
    intro k
    induction k with
    | zero =>
      intro i fd hi
      have hin : i = n := by omega
      have g1 : own_Go p e below s₁ (mkF m 4 #[.val (.ref a1), .val (.int y), .val (.int fd), .val (.int i.toInt32)] []) s₁ (mkF m 33 #[.val (.ref a1), .val (.int y), .val (.int fd), .val (.int i.toInt32)] []) := by
        intro target kt
        refine XS.iloadN X0.here hx rfl (hb hby d1_4) rfl ?_
        show Steps p.tables e below (s₁.setTop (mkF m 5 #[.val (.ref a1), .val (.int y), .val (.int fd), .val (.int i.toInt32)] [(.int i.toInt32)])) target
        refine XS.aloadN X0.here hx rfl (hb hby d1_5) rfl rfl ?_
        show Steps p.tables e below (s₁.setTop (mkF m 6 #[.val (.ref a1), .val (.int y), .val (.int fd), .val (.int i.toInt32)] [(.ref a1), (.int i.toInt32)])) target
        refine X0.arraylength hx (cell := cl1) (by rw [e0]; exact Ar1.1) (State.isArrayOf_alike hZ.alike Ar1.2.1) (g := (mkF m 6 #[.val (.ref a1), .val (.int y), .val (.int fd), .val (.int i.toInt32)] [(.ref a1), (.int i.toInt32)])) rfl (rest := [(.int i.toInt32)]) rfl (hb hby d1_6) _ ?_
        rw [hsz]
        show Steps p.tables e below (s₁.setTop (mkF m 7 #[.val (.ref a1), .val (.int y), .val (.int fd), .val (.int i.toInt32)] [(.int n.toInt32), (.int i.toInt32)])) target
        refine XS.icmpYes X0.here hx rfl (pc0 := 7) (pc' := 33) rfl (hb hby d1_7) rfl (XT.ii_ge_t (by rw [hin]; exact own_nlt)) (by decide) (by decide) ?_
        show Steps p.tables e below (s₁.setTop (mkF m 33 #[.val (.ref a1), .val (.int y), .val (.int fd), .val (.int i.toInt32)] [])) target
        exact kt
      exact ⟨fd, i.toInt32, by show fd = (if fd = 0 then 0 else fd); split <;> simp_all, g1⟩
    | succ k ih =>
      intro i fd hi
      have g2 : own_Go p e below s₁ (mkF m 4 #[.val (.ref a1), .val (.int y), .val (.int fd), .val (.int i.toInt32)] []) s₁ (mkF m 11 #[.val (.ref a1), .val (.int y), .val (.int fd), .val (.int i.toInt32)] [(.int fd)]) := by
        intro target kt
        refine XS.iloadN X0.here hx rfl (hb hby d1_4) rfl ?_
        show Steps p.tables e below (s₁.setTop (mkF m 5 #[.val (.ref a1), .val (.int y), .val (.int fd), .val (.int i.toInt32)] [(.int i.toInt32)])) target
        refine XS.aloadN X0.here hx rfl (hb hby d1_5) rfl rfl ?_
        show Steps p.tables e below (s₁.setTop (mkF m 6 #[.val (.ref a1), .val (.int y), .val (.int fd), .val (.int i.toInt32)] [(.ref a1), (.int i.toInt32)])) target
        refine X0.arraylength hx (cell := cl1) (by rw [e0]; exact Ar1.1) (State.isArrayOf_alike hZ.alike Ar1.2.1) (g := (mkF m 6 #[.val (.ref a1), .val (.int y), .val (.int fd), .val (.int i.toInt32)] [(.ref a1), (.int i.toInt32)])) rfl (rest := [(.int i.toInt32)]) rfl (hb hby d1_6) _ ?_
        rw [hsz]
        show Steps p.tables e below (s₁.setTop (mkF m 7 #[.val (.ref a1), .val (.int y), .val (.int fd), .val (.int i.toInt32)] [(.int n.toInt32), (.int i.toInt32)])) target
        refine XS.icmpNo X0.here hx rfl (hb hby d1_7) rfl (XT.ii_ge_f (own_lt (by omega) (by omega))) ?_
        show Steps p.tables e below (s₁.setTop (mkF m 10 #[.val (.ref a1), .val (.int y), .val (.int fd), .val (.int i.toInt32)] [])) target
        refine XS.iloadN X0.here hx rfl (hb hby d1_10) rfl ?_
        show Steps p.tables e below (s₁.setTop (mkF m 11 #[.val (.ref a1), .val (.int y), .val (.int fd), .val (.int i.toInt32)] [(.int fd)])) target
        exact kt
      by_cases hfd : fd = 0
      · have hin : ¬ (i.toInt32 < 0 ∨ cl1.slots.size ≤ i.toInt32.toNatClampNeg) := by rw [S1]; exact idx_in (by omega) (by omega)
        have hat : cl1.slots[i.toInt32.toNatClampNeg]? = some (.int (f i)) := by rw [own_tn (by omega)]; exact H1 i (by omega)
        have g3 : own_Go p e below s₁ (mkF m 4 #[.val (.ref a1), .val (.int y), .val (.int fd), .val (.int i.toInt32)] []) s₁ (mkF m 14 #[.val (.ref a1), .val (.int y), .val (.int fd), .val (.int i.toInt32)] []) := by
          intro target kt
          refine g2 target ?_
          refine XS.ifNo X0.here hx rfl (hb hby d1_11) rfl (XT.i0_ne_f hfd) ?_
          show Steps p.tables e below (s₁.setTop (mkF m 14 #[.val (.ref a1), .val (.int y), .val (.int fd), .val (.int i.toInt32)] [])) target
          exact kt
        obtain ⟨fd2, hm8, g8⟩ : ∃ (fd2 : Int32), (fd2 = (if (f i) = y then (1 : Int32) else (0 : Int32))) ∧ own_Go p e below s₁ (mkF m 4 #[.val (.ref a1), .val (.int y), .val (.int fd), .val (.int i.toInt32)] []) s₁ (mkF m 26 #[.val (.ref a1), .val (.int y), .val (.int fd), .val (.int i.toInt32)] [(.int fd2)]) := by
          have g4 : own_Go p e below s₁ (mkF m 4 #[.val (.ref a1), .val (.int y), .val (.int fd), .val (.int i.toInt32)] []) s₁ (mkF m 18 #[.val (.ref a1), .val (.int y), .val (.int fd), .val (.int i.toInt32)] [(.int y), (.int (f i))]) := by
            intro target kt
            refine g3 target ?_
            refine XS.aloadN X0.here hx rfl (hb hby d1_14) rfl rfl ?_
            show Steps p.tables e below (s₁.setTop (mkF m 15 #[.val (.ref a1), .val (.int y), .val (.int fd), .val (.int i.toInt32)] [(.ref a1)])) target
            refine XS.iloadN X0.here hx rfl (hb hby d1_15) rfl ?_
            show Steps p.tables e below (s₁.setTop (mkF m 16 #[.val (.ref a1), .val (.int y), .val (.int fd), .val (.int i.toInt32)] [(.int i.toInt32), (.ref a1)])) target
            refine X0.iaload hx (j := i.toInt32) (v := (.int (f i))) (by rw [e0]; exact Ar1.1) (State.isArrayOf_alike hZ.alike Ar1.2.1) Ar1.2.2 hin hat (g := (mkF m 16 #[.val (.ref a1), .val (.int y), .val (.int fd), .val (.int i.toInt32)] [(.int i.toInt32), (.ref a1)])) rfl rfl (hb hby d1_16) _ ?_
            show Steps p.tables e below (s₁.setTop (mkF m 17 #[.val (.ref a1), .val (.int y), .val (.int fd), .val (.int i.toInt32)] [(.int (f i))])) target
            refine XS.iloadN X0.here hx rfl (hb hby d1_17) rfl ?_
            show Steps p.tables e below (s₁.setTop (mkF m 18 #[.val (.ref a1), .val (.int y), .val (.int fd), .val (.int i.toInt32)] [(.int y), (.int (f i))])) target
            exact kt
          by_cases hc5 : (f i) = y
          · have g6 : own_Go p e below s₁ (mkF m 4 #[.val (.ref a1), .val (.int y), .val (.int fd), .val (.int i.toInt32)] []) s₁ (mkF m 26 #[.val (.ref a1), .val (.int y), .val (.int fd), .val (.int i.toInt32)] [(.int (1 : Int32))]) := by
              intro target kt
              refine g4 target ?_
              refine XS.icmpNo X0.here hx rfl (hb hby d1_18) rfl (XT.ii_ne_f hc5) ?_
              show Steps p.tables e below (s₁.setTop (mkF m 21 #[.val (.ref a1), .val (.int y), .val (.int fd), .val (.int i.toInt32)] [])) target
              refine XT.iconstV X0.here hx rfl (1 : Int32) (hb hby d1_21) rfl ?_
              show Steps p.tables e below (s₁.setTop (mkF m 22 #[.val (.ref a1), .val (.int y), .val (.int fd), .val (.int i.toInt32)] [(.int (1 : Int32))])) target
              refine XS.goto X0.here hx rfl (pc0 := 22) (pc' := 26) rfl (hb hby d1_22) (by decide) (by decide) ?_
              show Steps p.tables e below (s₁.setTop (mkF m 26 #[.val (.ref a1), .val (.int y), .val (.int fd), .val (.int i.toInt32)] [(.int (1 : Int32))])) target
              exact kt
            exact ⟨(1 : Int32), (by simp only [if_pos hc5]), g6⟩
          · have g7 : own_Go p e below s₁ (mkF m 4 #[.val (.ref a1), .val (.int y), .val (.int fd), .val (.int i.toInt32)] []) s₁ (mkF m 26 #[.val (.ref a1), .val (.int y), .val (.int fd), .val (.int i.toInt32)] [(.int (0 : Int32))]) := by
              intro target kt
              refine g4 target ?_
              refine XS.icmpYes X0.here hx rfl (pc0 := 18) (pc' := 25) rfl (hb hby d1_18) rfl (XT.ii_ne_t hc5) (by decide) (by decide) ?_
              show Steps p.tables e below (s₁.setTop (mkF m 25 #[.val (.ref a1), .val (.int y), .val (.int fd), .val (.int i.toInt32)] [])) target
              refine XT.iconstV X0.here hx rfl (0 : Int32) (hb hby d1_25) rfl ?_
              show Steps p.tables e below (s₁.setTop (mkF m 26 #[.val (.ref a1), .val (.int y), .val (.int fd), .val (.int i.toInt32)] [(.int (0 : Int32))])) target
              exact kt
            exact ⟨(0 : Int32), (by simp only [if_neg hc5]), g7⟩
        have g9 : own_Go p e below s₁ (mkF m 4 #[.val (.ref a1), .val (.int y), .val (.int fd), .val (.int i.toInt32)] []) s₁ (mkF m 4 #[.val (.ref a1), .val (.int y), .val (.int fd2), .val (.int (i.toInt32 + (1 : Int32)))] []) := by
          intro target kt
          refine g8 target ?_
          refine XS.istoreN X0.here hx rfl (hb hby d1_26) rfl (l' := #[.val (.ref a1), .val (.int y), .val (.int fd2), .val (.int i.toInt32)]) rfl ?_
          show Steps p.tables e below (s₁.setTop (mkF m 27 #[.val (.ref a1), .val (.int y), .val (.int fd2), .val (.int i.toInt32)] [])) target
          refine XT.iincV X0.here hx rfl (1 : Int32) (hb hby d1_27) rfl rfl (l' := #[.val (.ref a1), .val (.int y), .val (.int fd2), .val (.int (i.toInt32 + (1 : Int32)))]) rfl ?_
          show Steps p.tables e below (s₁.setTop (mkF m 30 #[.val (.ref a1), .val (.int y), .val (.int fd2), .val (.int (i.toInt32 + (1 : Int32)))] [])) target
          refine XS.goto X0.here hx rfl (pc0 := 30) (pc' := 4) rfl (hb hby d1_30) (by decide) (by decide) ?_
          show Steps p.tables e below (s₁.setTop (mkF m 4 #[.val (.ref a1), .val (.int y), .val (.int fd2), .val (.int (i.toInt32 + (1 : Int32)))] [])) target
          exact kt
        rw [own_one] at g9
        obtain ⟨fd', i', hf', gl⟩ := ih (i + 1) fd2 (by omega)
        refine ⟨fd', i', ?_, own_Go.trans g9 gl⟩
        rw [hf', if_pos hfd, hm8]
        show _ = (if f i = y then 1 else own_has f y (i + 1) k)
        by_cases hq : f i = y
        · rw [if_pos hq, if_pos hq]; rfl
        · rw [if_neg hq, if_neg hq]; rfl
      · have g10 : own_Go p e below s₁ (mkF m 4 #[.val (.ref a1), .val (.int y), .val (.int fd), .val (.int i.toInt32)] []) s₁ (mkF m 33 #[.val (.ref a1), .val (.int y), .val (.int fd), .val (.int i.toInt32)] []) := by
          intro target kt
          refine g2 target ?_
          refine XS.ifYes X0.here hx rfl (pc0 := 11) (pc' := 33) rfl (hb hby d1_11) rfl (XT.i0_ne_t hfd) (by decide) (by decide) ?_
          show Steps p.tables e below (s₁.setTop (mkF m 33 #[.val (.ref a1), .val (.int y), .val (.int fd), .val (.int i.toInt32)] [])) target
          exact kt
        exact ⟨fd, i.toInt32, by rw [if_neg hfd], g10⟩
  have g11 : own_Go p e below s₁ (entryFrame m #[(.ref a1), (.int y)] 4) s₁ (mkF m 4 #[.val (.ref a1), .val (.int y), .val (.int (0 : Int32)), .val (.int (0 : Int32))] []) := by
    intro target kt
    refine g0 target ?_
    refine XT.iconstV X0.here hx rfl (0 : Int32) (hb hby d1_0) rfl ?_
    show Steps p.tables e below (s₁.setTop (mkF m 1 #[.val (.ref a1), .val (.int y), .unset, .unset] [(.int (0 : Int32))])) target
    refine XS.istoreN X0.here hx rfl (hb hby d1_1) rfl (l' := #[.val (.ref a1), .val (.int y), .val (.int (0 : Int32)), .unset]) rfl ?_
    show Steps p.tables e below (s₁.setTop (mkF m 2 #[.val (.ref a1), .val (.int y), .val (.int (0 : Int32)), .unset] [])) target
    refine XT.iconstV X0.here hx rfl (0 : Int32) (hb hby d1_2) rfl ?_
    show Steps p.tables e below (s₁.setTop (mkF m 3 #[.val (.ref a1), .val (.int y), .val (.int (0 : Int32)), .unset] [(.int (0 : Int32))])) target
    refine XS.istoreN X0.here hx rfl (hb hby d1_3) rfl (l' := #[.val (.ref a1), .val (.int y), .val (.int (0 : Int32)), .val (.int (0 : Int32))]) rfl ?_
    show Steps p.tables e below (s₁.setTop (mkF m 4 #[.val (.ref a1), .val (.int y), .val (.int (0 : Int32)), .val (.int (0 : Int32))] [])) target
    exact kt
  obtain ⟨fd', i', hf', gl⟩ := loop n 0 (0 : Int32) (by omega)
  have gL := own_Go.trans g11 gl
  rw [if_pos rfl] at hf'
  have hv1 : nar .boolean fd' = own_has f y 0 n := by rw [hf']; exact own_nar f y n 0
  have g12 : own_Go p e below s₁ (entryFrame m #[(.ref a1), (.int y)] 4) s₁ (mkF m 34 #[.val (.ref a1), .val (.int y), .val (.int fd'), .val (.int i')] [(.int fd')]) := by
    intro target kt
    refine gL target ?_
    refine XS.iloadN X0.here hx rfl (hb hby d1_33) rfl ?_
    show Steps p.tables e below (s₁.setTop (mkF m 34 #[.val (.ref a1), .val (.int y), .val (.int fd'), .val (.int i')] [(.int fd')])) target
    exact kt
  obtain ⟨fs, hr, hrun, hended, hW, hsame⟩ := X0.leave (v := some (.int (nar .boolean fd'))) (fun h => by rw [Bd.returns] at h; cases h)
  refine ⟨_, _, g12 _ ?_, hrun, hended, _, _, rfl, ?_, ⟨_, rfl⟩, hW, hsame.mono (by decide) (by decide)⟩
  · exact retN X0 hx (t := .boolean) Bd.returns (by simp) (hb hby d1_34) hr
  · show Q_rm1 Z a1 y n f h0 n0 _ s₁.heap _
    rw [e0]
    exact ⟨by rw [hv1], N0, rfl⟩
theorem pn_rm0 : plainName "com/example/ends_to_means/endstomeans/model/VertexChecksHasMovePinLaw" = true := by first | (simp [plainName, overriddenIn]; done) | decide +kernel
theorem ef_rm0 (m : MethodId) (p0 : Int32) (p1 : Int32) (p2 : Int32) (p3 : Int32) (p4 : Int32) : entryFrame m #[(.int p0), (.int p1), (.int p2), (.int p3), (.int p4)] maxLocals = mkF m 0 #[.val (.int p0), .val (.int p1), .val (.int p2), .val (.int p3), .val (.int p4), .unset, .unset, .unset, .unset, .unset, .unset, .unset, .unset] [] := by first | (simp [entryFrame, mkF, argsToLocals, Value.category, maxLocals]; done) | rfl
def Q_rm0 (Z : State) (p0 : Int32) (p1 : Int32) (p2 : Int32) (p3 : Int32) (p4 : Int32)  (h0 : Heap) (n0 : Nat) (v : Option Value) (h : Heap) (L : List Loc) : Prop := v = some (.int (1 : Int32)) ∧ Fr n0 L
set_option maxRecDepth 65536 in
set_option maxHeartbeats 40000000 in
theorem rm0 (l : Launch) (Z : State) (a0 : Array Value) (hw : ∀ d ∈ tables_1, d.before a0 Z = true) (ws : List Jvm.Cond) (p0 : Int32) (p1 : Int32) (p2 : Int32) (p3 : Int32) (p4 : Int32)  (h0 : Heap) (n0 : Nat) (Z0 : n0 ≤ h0.size)  :
    MetFree l x (head1 (Jvm.Cond.code x code maxLocals ret :: ws) room_1) (fun a U => a = #[(.int p0), (.int p1), (.int p2), (.int p3), (.int p4)] ∧ Z.Warmed39 U.vm ∧ U.heap = h0) (fun _ _ _ _ _ => True) (fun _ U o U' => ∃ v L, o = .returned v ∧ Q_rm0 Z p0 p1 p2 p3 p4  h0 n0 v U'.heap L ∧ FrameEnd U o U' L room_1.cells room_1.slots) := by
  refine MetFree.of_bodySF (plainFor_of_name pn_rm0) hisR ?_
  intro p e s m args below meth c s₁ Bd hml0 hP hK
  obtain ⟨rfl, hZ, hh⟩ := hP
  have hx := Bd.exec
  have hby := Bd.bytes
  have hml : c.maxLocals = 13 := hml0
  have hown : s.vm.findClass "com/example/ends_to_means/endstomeans/model/VertexChecksHasMovePinLaw" = some m.cls := findClass_of_methodNamed Bd.named
  have hnm := (name_of_methodNamed Bd.named Bd.method).1
  have X0 : Stand p l e room_1 s m #[(.int p0), (.int p1), (.int p2), (.int p3), (.int p4)] below meth c s₁ [] 0 0 := Stand.of_body Bd
  have e0 : s₁.heap = h0 := by rw [← hh, Bd.state]; rfl
  have N0 := Fr.nil n0
  have g0 : own_Go p e below s₁ (entryFrame m #[(.int p0), (.int p1), (.int p2), (.int p3), (.int p4)] maxLocals) s₁ (mkF m 0 #[.val (.int p0), .val (.int p1), .val (.int p2), .val (.int p3), .val (.int p4), .unset, .unset, .unset, .unset, .unset, .unset, .unset, .unset] []) := fun t k => castTop (ef_rm0 m p0 p1 p2 p3 p4) k
  have g13 : own_Go p e below s₁ (entryFrame m #[(.int p0), (.int p1), (.int p2), (.int p3), (.int p4)] maxLocals) s₁ (mkF m 5 #[.val (.int p0), .val (.int p1), .val (.int p2), .val (.int p3), .val (.int p4), .val (.int (p0 &&& (3 : Int32))), .unset, .unset, .unset, .unset, .unset, .unset, .unset] []) := by
    intro target kt
    refine g0 target ?_
    refine XS.iloadN X0.here hx rfl (hb hby at_0) rfl ?_
    show Steps p.tables e below (s₁.setTop (mkF m 1 #[.val (.int p0), .val (.int p1), .val (.int p2), .val (.int p3), .val (.int p4), .unset, .unset, .unset, .unset, .unset, .unset, .unset, .unset] [(.int p0)])) target
    refine XT.iconstV X0.here hx rfl (3 : Int32) (hb hby at_1) rfl ?_
    show Steps p.tables e below (s₁.setTop (mkF m 2 #[.val (.int p0), .val (.int p1), .val (.int p2), .val (.int p3), .val (.int p4), .unset, .unset, .unset, .unset, .unset, .unset, .unset, .unset] [(.int (3 : Int32)), (.int p0)])) target
    refine XS.iand X0.here hx rfl (hb hby at_2) rfl ?_
    show Steps p.tables e below (s₁.setTop (mkF m 3 #[.val (.int p0), .val (.int p1), .val (.int p2), .val (.int p3), .val (.int p4), .unset, .unset, .unset, .unset, .unset, .unset, .unset, .unset] [(.int (p0 &&& (3 : Int32)))])) target
    refine XS.istore X0.here hx rfl (hb hby at_3) rfl (l' := #[.val (.int p0), .val (.int p1), .val (.int p2), .val (.int p3), .val (.int p4), .val (.int (p0 &&& (3 : Int32))), .unset, .unset, .unset, .unset, .unset, .unset, .unset]) rfl ?_
    show Steps p.tables e below (s₁.setTop (mkF m 5 #[.val (.int p0), .val (.int p1), .val (.int p2), .val (.int p3), .val (.int p4), .val (.int (p0 &&& (3 : Int32))), .unset, .unset, .unset, .unset, .unset, .unset, .unset] [])) target
    exact kt
  obtain ⟨nn, e_nn⟩ : ∃ z : Int32, z = (p0 &&& (3 : Int32)) := ⟨_, rfl⟩
  rw [← e_nn] at g13
  have hcase := own_four p0
  rw [← e_nn] at hcase
  obtain ⟨v0, hm18, g18⟩ : ∃ (v0 : Int32), (v0 = (if ((p0 >>> ((2 : Int32) &&& 31)) &&& (1 : Int32)) = 0 then p1 else p4)) ∧ own_Go p e below s₁ (entryFrame m #[(.int p0), (.int p1), (.int p2), (.int p3), (.int p4)] maxLocals) s₁ (mkF m 19 #[.val (.int p0), .val (.int p1), .val (.int p2), .val (.int p3), .val (.int p4), .val (.int nn), .unset, .unset, .unset, .unset, .unset, .unset, .unset] [(.int v0)]) := by
    have g14 : own_Go p e below s₁ (entryFrame m #[(.int p0), (.int p1), (.int p2), (.int p3), (.int p4)] maxLocals) s₁ (mkF m 10 #[.val (.int p0), .val (.int p1), .val (.int p2), .val (.int p3), .val (.int p4), .val (.int nn), .unset, .unset, .unset, .unset, .unset, .unset, .unset] [(.int ((p0 >>> ((2 : Int32) &&& 31)) &&& (1 : Int32)))]) := by
      intro target kt
      refine g13 target ?_
      refine XS.iloadN X0.here hx rfl (hb hby at_5) rfl ?_
      show Steps p.tables e below (s₁.setTop (mkF m 6 #[.val (.int p0), .val (.int p1), .val (.int p2), .val (.int p3), .val (.int p4), .val (.int nn), .unset, .unset, .unset, .unset, .unset, .unset, .unset] [(.int p0)])) target
      refine XT.iconstV X0.here hx rfl (2 : Int32) (hb hby at_6) rfl ?_
      show Steps p.tables e below (s₁.setTop (mkF m 7 #[.val (.int p0), .val (.int p1), .val (.int p2), .val (.int p3), .val (.int p4), .val (.int nn), .unset, .unset, .unset, .unset, .unset, .unset, .unset] [(.int (2 : Int32)), (.int p0)])) target
      refine XT.ishr X0.here hx rfl (hb hby at_7) rfl ?_
      show Steps p.tables e below (s₁.setTop (mkF m 8 #[.val (.int p0), .val (.int p1), .val (.int p2), .val (.int p3), .val (.int p4), .val (.int nn), .unset, .unset, .unset, .unset, .unset, .unset, .unset] [(.int (p0 >>> ((2 : Int32) &&& 31)))])) target
      refine XT.iconstV X0.here hx rfl (1 : Int32) (hb hby at_8) rfl ?_
      show Steps p.tables e below (s₁.setTop (mkF m 9 #[.val (.int p0), .val (.int p1), .val (.int p2), .val (.int p3), .val (.int p4), .val (.int nn), .unset, .unset, .unset, .unset, .unset, .unset, .unset] [(.int (1 : Int32)), (.int (p0 >>> ((2 : Int32) &&& 31)))])) target
      refine XS.iand X0.here hx rfl (hb hby at_9) rfl ?_
      show Steps p.tables e below (s₁.setTop (mkF m 10 #[.val (.int p0), .val (.int p1), .val (.int p2), .val (.int p3), .val (.int p4), .val (.int nn), .unset, .unset, .unset, .unset, .unset, .unset, .unset] [(.int ((p0 >>> ((2 : Int32) &&& 31)) &&& (1 : Int32)))])) target
      exact kt
    by_cases hc15 : ((p0 >>> ((2 : Int32) &&& 31)) &&& (1 : Int32)) = 0
    · have g16 : own_Go p e below s₁ (entryFrame m #[(.int p0), (.int p1), (.int p2), (.int p3), (.int p4)] maxLocals) s₁ (mkF m 19 #[.val (.int p0), .val (.int p1), .val (.int p2), .val (.int p3), .val (.int p4), .val (.int nn), .unset, .unset, .unset, .unset, .unset, .unset, .unset] [(.int p1)]) := by
        intro target kt
        refine g14 target ?_
        refine XS.ifYes X0.here hx rfl (pc0 := 10) (pc' := 18) rfl (hb hby at_10) rfl (XT.i0_eq_t hc15) (by decide) (by decide) ?_
        show Steps p.tables e below (s₁.setTop (mkF m 18 #[.val (.int p0), .val (.int p1), .val (.int p2), .val (.int p3), .val (.int p4), .val (.int nn), .unset, .unset, .unset, .unset, .unset, .unset, .unset] [])) target
        refine XS.iloadN X0.here hx rfl (hb hby at_18) rfl ?_
        show Steps p.tables e below (s₁.setTop (mkF m 19 #[.val (.int p0), .val (.int p1), .val (.int p2), .val (.int p3), .val (.int p4), .val (.int nn), .unset, .unset, .unset, .unset, .unset, .unset, .unset] [(.int p1)])) target
        exact kt
      exact ⟨p1, (by simp only [if_pos hc15]), g16⟩
    · have g17 : own_Go p e below s₁ (entryFrame m #[(.int p0), (.int p1), (.int p2), (.int p3), (.int p4)] maxLocals) s₁ (mkF m 19 #[.val (.int p0), .val (.int p1), .val (.int p2), .val (.int p3), .val (.int p4), .val (.int nn), .unset, .unset, .unset, .unset, .unset, .unset, .unset] [(.int p4)]) := by
        intro target kt
        refine g14 target ?_
        refine XS.ifNo X0.here hx rfl (hb hby at_10) rfl (XT.i0_eq_f hc15) ?_
        show Steps p.tables e below (s₁.setTop (mkF m 13 #[.val (.int p0), .val (.int p1), .val (.int p2), .val (.int p3), .val (.int p4), .val (.int nn), .unset, .unset, .unset, .unset, .unset, .unset, .unset] [])) target
        refine XS.iload X0.here hx rfl (hb hby at_13) rfl ?_
        show Steps p.tables e below (s₁.setTop (mkF m 15 #[.val (.int p0), .val (.int p1), .val (.int p2), .val (.int p3), .val (.int p4), .val (.int nn), .unset, .unset, .unset, .unset, .unset, .unset, .unset] [(.int p4)])) target
        refine XS.goto X0.here hx rfl (pc0 := 15) (pc' := 19) rfl (hb hby at_15) (by decide) (by decide) ?_
        show Steps p.tables e below (s₁.setTop (mkF m 19 #[.val (.int p0), .val (.int p1), .val (.int p2), .val (.int p3), .val (.int p4), .val (.int nn), .unset, .unset, .unset, .unset, .unset, .unset, .unset] [(.int p4)])) target
        exact kt
      exact ⟨p4, (by simp only [if_neg hc15]), g17⟩
  have g19 : own_Go p e below s₁ (entryFrame m #[(.int p0), (.int p1), (.int p2), (.int p3), (.int p4)] maxLocals) s₁ (mkF m 21 #[.val (.int p0), .val (.int p1), .val (.int p2), .val (.int p3), .val (.int p4), .val (.int nn), .val (.int v0), .unset, .unset, .unset, .unset, .unset, .unset] []) := by
    intro target kt
    refine g18 target ?_
    refine XS.istore X0.here hx rfl (hb hby at_19) rfl (l' := #[.val (.int p0), .val (.int p1), .val (.int p2), .val (.int p3), .val (.int p4), .val (.int nn), .val (.int v0), .unset, .unset, .unset, .unset, .unset, .unset]) rfl ?_
    show Steps p.tables e below (s₁.setTop (mkF m 21 #[.val (.int p0), .val (.int p1), .val (.int p2), .val (.int p3), .val (.int p4), .val (.int nn), .val (.int v0), .unset, .unset, .unset, .unset, .unset, .unset] [])) target
    exact kt
  obtain ⟨v1, hm24, g24⟩ : ∃ (v1 : Int32), (v1 = (if ((p0 >>> ((3 : Int32) &&& 31)) &&& (1 : Int32)) = 0 then p2 else p4)) ∧ own_Go p e below s₁ (entryFrame m #[(.int p0), (.int p1), (.int p2), (.int p3), (.int p4)] maxLocals) s₁ (mkF m 35 #[.val (.int p0), .val (.int p1), .val (.int p2), .val (.int p3), .val (.int p4), .val (.int nn), .val (.int v0), .unset, .unset, .unset, .unset, .unset, .unset] [(.int v1)]) := by
    have g20 : own_Go p e below s₁ (entryFrame m #[(.int p0), (.int p1), (.int p2), (.int p3), (.int p4)] maxLocals) s₁ (mkF m 26 #[.val (.int p0), .val (.int p1), .val (.int p2), .val (.int p3), .val (.int p4), .val (.int nn), .val (.int v0), .unset, .unset, .unset, .unset, .unset, .unset] [(.int ((p0 >>> ((3 : Int32) &&& 31)) &&& (1 : Int32)))]) := by
      intro target kt
      refine g19 target ?_
      refine XS.iloadN X0.here hx rfl (hb hby at_21) rfl ?_
      show Steps p.tables e below (s₁.setTop (mkF m 22 #[.val (.int p0), .val (.int p1), .val (.int p2), .val (.int p3), .val (.int p4), .val (.int nn), .val (.int v0), .unset, .unset, .unset, .unset, .unset, .unset] [(.int p0)])) target
      refine XT.iconstV X0.here hx rfl (3 : Int32) (hb hby at_22) rfl ?_
      show Steps p.tables e below (s₁.setTop (mkF m 23 #[.val (.int p0), .val (.int p1), .val (.int p2), .val (.int p3), .val (.int p4), .val (.int nn), .val (.int v0), .unset, .unset, .unset, .unset, .unset, .unset] [(.int (3 : Int32)), (.int p0)])) target
      refine XT.ishr X0.here hx rfl (hb hby at_23) rfl ?_
      show Steps p.tables e below (s₁.setTop (mkF m 24 #[.val (.int p0), .val (.int p1), .val (.int p2), .val (.int p3), .val (.int p4), .val (.int nn), .val (.int v0), .unset, .unset, .unset, .unset, .unset, .unset] [(.int (p0 >>> ((3 : Int32) &&& 31)))])) target
      refine XT.iconstV X0.here hx rfl (1 : Int32) (hb hby at_24) rfl ?_
      show Steps p.tables e below (s₁.setTop (mkF m 25 #[.val (.int p0), .val (.int p1), .val (.int p2), .val (.int p3), .val (.int p4), .val (.int nn), .val (.int v0), .unset, .unset, .unset, .unset, .unset, .unset] [(.int (1 : Int32)), (.int (p0 >>> ((3 : Int32) &&& 31)))])) target
      refine XS.iand X0.here hx rfl (hb hby at_25) rfl ?_
      show Steps p.tables e below (s₁.setTop (mkF m 26 #[.val (.int p0), .val (.int p1), .val (.int p2), .val (.int p3), .val (.int p4), .val (.int nn), .val (.int v0), .unset, .unset, .unset, .unset, .unset, .unset] [(.int ((p0 >>> ((3 : Int32) &&& 31)) &&& (1 : Int32)))])) target
      exact kt
    by_cases hc21 : ((p0 >>> ((3 : Int32) &&& 31)) &&& (1 : Int32)) = 0
    · have g22 : own_Go p e below s₁ (entryFrame m #[(.int p0), (.int p1), (.int p2), (.int p3), (.int p4)] maxLocals) s₁ (mkF m 35 #[.val (.int p0), .val (.int p1), .val (.int p2), .val (.int p3), .val (.int p4), .val (.int nn), .val (.int v0), .unset, .unset, .unset, .unset, .unset, .unset] [(.int p2)]) := by
        intro target kt
        refine g20 target ?_
        refine XS.ifYes X0.here hx rfl (pc0 := 26) (pc' := 34) rfl (hb hby at_26) rfl (XT.i0_eq_t hc21) (by decide) (by decide) ?_
        show Steps p.tables e below (s₁.setTop (mkF m 34 #[.val (.int p0), .val (.int p1), .val (.int p2), .val (.int p3), .val (.int p4), .val (.int nn), .val (.int v0), .unset, .unset, .unset, .unset, .unset, .unset] [])) target
        refine XS.iloadN X0.here hx rfl (hb hby at_34) rfl ?_
        show Steps p.tables e below (s₁.setTop (mkF m 35 #[.val (.int p0), .val (.int p1), .val (.int p2), .val (.int p3), .val (.int p4), .val (.int nn), .val (.int v0), .unset, .unset, .unset, .unset, .unset, .unset] [(.int p2)])) target
        exact kt
      exact ⟨p2, (by simp only [if_pos hc21]), g22⟩
    · have g23 : own_Go p e below s₁ (entryFrame m #[(.int p0), (.int p1), (.int p2), (.int p3), (.int p4)] maxLocals) s₁ (mkF m 35 #[.val (.int p0), .val (.int p1), .val (.int p2), .val (.int p3), .val (.int p4), .val (.int nn), .val (.int v0), .unset, .unset, .unset, .unset, .unset, .unset] [(.int p4)]) := by
        intro target kt
        refine g20 target ?_
        refine XS.ifNo X0.here hx rfl (hb hby at_26) rfl (XT.i0_eq_f hc21) ?_
        show Steps p.tables e below (s₁.setTop (mkF m 29 #[.val (.int p0), .val (.int p1), .val (.int p2), .val (.int p3), .val (.int p4), .val (.int nn), .val (.int v0), .unset, .unset, .unset, .unset, .unset, .unset] [])) target
        refine XS.iload X0.here hx rfl (hb hby at_29) rfl ?_
        show Steps p.tables e below (s₁.setTop (mkF m 31 #[.val (.int p0), .val (.int p1), .val (.int p2), .val (.int p3), .val (.int p4), .val (.int nn), .val (.int v0), .unset, .unset, .unset, .unset, .unset, .unset] [(.int p4)])) target
        refine XS.goto X0.here hx rfl (pc0 := 31) (pc' := 35) rfl (hb hby at_31) (by decide) (by decide) ?_
        show Steps p.tables e below (s₁.setTop (mkF m 35 #[.val (.int p0), .val (.int p1), .val (.int p2), .val (.int p3), .val (.int p4), .val (.int nn), .val (.int v0), .unset, .unset, .unset, .unset, .unset, .unset] [(.int p4)])) target
        exact kt
      exact ⟨p4, (by simp only [if_neg hc21]), g23⟩
  have g25 : own_Go p e below s₁ (entryFrame m #[(.int p0), (.int p1), (.int p2), (.int p3), (.int p4)] maxLocals) s₁ (mkF m 37 #[.val (.int p0), .val (.int p1), .val (.int p2), .val (.int p3), .val (.int p4), .val (.int nn), .val (.int v0), .val (.int v1), .unset, .unset, .unset, .unset, .unset] []) := by
    intro target kt
    refine g24 target ?_
    refine XS.istore X0.here hx rfl (hb hby at_35) rfl (l' := #[.val (.int p0), .val (.int p1), .val (.int p2), .val (.int p3), .val (.int p4), .val (.int nn), .val (.int v0), .val (.int v1), .unset, .unset, .unset, .unset, .unset]) rfl ?_
    show Steps p.tables e below (s₁.setTop (mkF m 37 #[.val (.int p0), .val (.int p1), .val (.int p2), .val (.int p3), .val (.int p4), .val (.int nn), .val (.int v0), .val (.int v1), .unset, .unset, .unset, .unset, .unset] [])) target
    exact kt
  obtain ⟨v2, hm30, g30⟩ : ∃ (v2 : Int32), (v2 = (if ((p0 >>> ((4 : Int32) &&& 31)) &&& (1 : Int32)) = 0 then p3 else p4)) ∧ own_Go p e below s₁ (entryFrame m #[(.int p0), (.int p1), (.int p2), (.int p3), (.int p4)] maxLocals) s₁ (mkF m 51 #[.val (.int p0), .val (.int p1), .val (.int p2), .val (.int p3), .val (.int p4), .val (.int nn), .val (.int v0), .val (.int v1), .unset, .unset, .unset, .unset, .unset] [(.int v2)]) := by
    have g26 : own_Go p e below s₁ (entryFrame m #[(.int p0), (.int p1), (.int p2), (.int p3), (.int p4)] maxLocals) s₁ (mkF m 42 #[.val (.int p0), .val (.int p1), .val (.int p2), .val (.int p3), .val (.int p4), .val (.int nn), .val (.int v0), .val (.int v1), .unset, .unset, .unset, .unset, .unset] [(.int ((p0 >>> ((4 : Int32) &&& 31)) &&& (1 : Int32)))]) := by
      intro target kt
      refine g25 target ?_
      refine XS.iloadN X0.here hx rfl (hb hby at_37) rfl ?_
      show Steps p.tables e below (s₁.setTop (mkF m 38 #[.val (.int p0), .val (.int p1), .val (.int p2), .val (.int p3), .val (.int p4), .val (.int nn), .val (.int v0), .val (.int v1), .unset, .unset, .unset, .unset, .unset] [(.int p0)])) target
      refine XT.iconstV X0.here hx rfl (4 : Int32) (hb hby at_38) rfl ?_
      show Steps p.tables e below (s₁.setTop (mkF m 39 #[.val (.int p0), .val (.int p1), .val (.int p2), .val (.int p3), .val (.int p4), .val (.int nn), .val (.int v0), .val (.int v1), .unset, .unset, .unset, .unset, .unset] [(.int (4 : Int32)), (.int p0)])) target
      refine XT.ishr X0.here hx rfl (hb hby at_39) rfl ?_
      show Steps p.tables e below (s₁.setTop (mkF m 40 #[.val (.int p0), .val (.int p1), .val (.int p2), .val (.int p3), .val (.int p4), .val (.int nn), .val (.int v0), .val (.int v1), .unset, .unset, .unset, .unset, .unset] [(.int (p0 >>> ((4 : Int32) &&& 31)))])) target
      refine XT.iconstV X0.here hx rfl (1 : Int32) (hb hby at_40) rfl ?_
      show Steps p.tables e below (s₁.setTop (mkF m 41 #[.val (.int p0), .val (.int p1), .val (.int p2), .val (.int p3), .val (.int p4), .val (.int nn), .val (.int v0), .val (.int v1), .unset, .unset, .unset, .unset, .unset] [(.int (1 : Int32)), (.int (p0 >>> ((4 : Int32) &&& 31)))])) target
      refine XS.iand X0.here hx rfl (hb hby at_41) rfl ?_
      show Steps p.tables e below (s₁.setTop (mkF m 42 #[.val (.int p0), .val (.int p1), .val (.int p2), .val (.int p3), .val (.int p4), .val (.int nn), .val (.int v0), .val (.int v1), .unset, .unset, .unset, .unset, .unset] [(.int ((p0 >>> ((4 : Int32) &&& 31)) &&& (1 : Int32)))])) target
      exact kt
    by_cases hc27 : ((p0 >>> ((4 : Int32) &&& 31)) &&& (1 : Int32)) = 0
    · have g28 : own_Go p e below s₁ (entryFrame m #[(.int p0), (.int p1), (.int p2), (.int p3), (.int p4)] maxLocals) s₁ (mkF m 51 #[.val (.int p0), .val (.int p1), .val (.int p2), .val (.int p3), .val (.int p4), .val (.int nn), .val (.int v0), .val (.int v1), .unset, .unset, .unset, .unset, .unset] [(.int p3)]) := by
        intro target kt
        refine g26 target ?_
        refine XS.ifYes X0.here hx rfl (pc0 := 42) (pc' := 50) rfl (hb hby at_42) rfl (XT.i0_eq_t hc27) (by decide) (by decide) ?_
        show Steps p.tables e below (s₁.setTop (mkF m 50 #[.val (.int p0), .val (.int p1), .val (.int p2), .val (.int p3), .val (.int p4), .val (.int nn), .val (.int v0), .val (.int v1), .unset, .unset, .unset, .unset, .unset] [])) target
        refine XS.iloadN X0.here hx rfl (hb hby at_50) rfl ?_
        show Steps p.tables e below (s₁.setTop (mkF m 51 #[.val (.int p0), .val (.int p1), .val (.int p2), .val (.int p3), .val (.int p4), .val (.int nn), .val (.int v0), .val (.int v1), .unset, .unset, .unset, .unset, .unset] [(.int p3)])) target
        exact kt
      exact ⟨p3, (by simp only [if_pos hc27]), g28⟩
    · have g29 : own_Go p e below s₁ (entryFrame m #[(.int p0), (.int p1), (.int p2), (.int p3), (.int p4)] maxLocals) s₁ (mkF m 51 #[.val (.int p0), .val (.int p1), .val (.int p2), .val (.int p3), .val (.int p4), .val (.int nn), .val (.int v0), .val (.int v1), .unset, .unset, .unset, .unset, .unset] [(.int p4)]) := by
        intro target kt
        refine g26 target ?_
        refine XS.ifNo X0.here hx rfl (hb hby at_42) rfl (XT.i0_eq_f hc27) ?_
        show Steps p.tables e below (s₁.setTop (mkF m 45 #[.val (.int p0), .val (.int p1), .val (.int p2), .val (.int p3), .val (.int p4), .val (.int nn), .val (.int v0), .val (.int v1), .unset, .unset, .unset, .unset, .unset] [])) target
        refine XS.iload X0.here hx rfl (hb hby at_45) rfl ?_
        show Steps p.tables e below (s₁.setTop (mkF m 47 #[.val (.int p0), .val (.int p1), .val (.int p2), .val (.int p3), .val (.int p4), .val (.int nn), .val (.int v0), .val (.int v1), .unset, .unset, .unset, .unset, .unset] [(.int p4)])) target
        refine XS.goto X0.here hx rfl (pc0 := 47) (pc' := 51) rfl (hb hby at_47) (by decide) (by decide) ?_
        show Steps p.tables e below (s₁.setTop (mkF m 51 #[.val (.int p0), .val (.int p1), .val (.int p2), .val (.int p3), .val (.int p4), .val (.int nn), .val (.int v0), .val (.int v1), .unset, .unset, .unset, .unset, .unset] [(.int p4)])) target
        exact kt
      exact ⟨p4, (by simp only [if_neg hc27]), g29⟩
  have g31 : own_Go p e below s₁ (entryFrame m #[(.int p0), (.int p1), (.int p2), (.int p3), (.int p4)] maxLocals) s₁ (mkF m 55 #[.val (.int p0), .val (.int p1), .val (.int p2), .val (.int p3), .val (.int p4), .val (.int nn), .val (.int v0), .val (.int v1), .val (.int v2), .unset, .unset, .unset, .unset] [(.int nn)]) := by
    intro target kt
    refine g30 target ?_
    refine XS.istore X0.here hx rfl (hb hby at_51) rfl (l' := #[.val (.int p0), .val (.int p1), .val (.int p2), .val (.int p3), .val (.int p4), .val (.int nn), .val (.int v0), .val (.int v1), .val (.int v2), .unset, .unset, .unset, .unset]) rfl ?_
    show Steps p.tables e below (s₁.setTop (mkF m 53 #[.val (.int p0), .val (.int p1), .val (.int p2), .val (.int p3), .val (.int p4), .val (.int nn), .val (.int v0), .val (.int v1), .val (.int v2), .unset, .unset, .unset, .unset] [])) target
    refine XS.iload X0.here hx rfl (hb hby at_53) rfl ?_
    show Steps p.tables e below (s₁.setTop (mkF m 55 #[.val (.int p0), .val (.int p1), .val (.int p2), .val (.int p3), .val (.int p4), .val (.int nn), .val (.int v0), .val (.int v1), .val (.int v2), .unset, .unset, .unset, .unset] [(.int nn)])) target
    exact kt
  rcases hcase with hn | hn | hn | hn
  · subst hn
    obtain ⟨T32, h32, k32, X32, e32, E32, A32, st32⟩ := newP X0 hx hZ (hw _ (List.mem_of_getElem? (i := 0) rfl)) e0 (g := (mkF m 55 #[.val (.int p0), .val (.int p1), .val (.int p2), .val (.int p3), .val (.int p4), .val (.int (0 : Int32)), .val (.int v0), .val (.int v1), .val (.int v2), .unset, .unset, .unset, .unset] [(.int (0 : Int32))])) rfl (hb hby at_55) rfl (by decide) (cap := 0) (by decide) (by decide) (by decide) (by decide)
    obtain ⟨b1, ga32⟩ : ∃ z, z = h0.size := ⟨_, rfl⟩
    rw [← ga32] at A32 st32
    have Z32 : n0 ≤ h32.size := Nat.le_trans Z0 E32.1
    have g_b1 : n0 ≤ b1 := Nat.le_trans Z0 (Nat.le_of_eq ga32.symm)
    have g33 : own_Go p e below s₁ (entryFrame m #[(.int p0), (.int p1), (.int p2), (.int p3), (.int p4)] maxLocals) T32 (mkF m 57 #[.val (.int p0), .val (.int p1), .val (.int p2), .val (.int p3), .val (.int p4), .val (.int (0 : Int32)), .val (.int v0), .val (.int v1), .val (.int v2), .unset, .unset, .unset, .unset] [(.ref b1)]) := fun target kt => g31 target (st32 target kt)
    have V0 := own_new A32 (n := 0) (by decide)
    obtain ⟨f, ef⟩ : ∃ f : Nat → Int32, f = (fun _ => 0) := ⟨_, rfl⟩
    have V : own_Ai Z h32 b1 0 f := by rw [ef]; exact V0
    have g34 : own_Go p e below s₁ (entryFrame m #[(.int p0), (.int p1), (.int p2), (.int p3), (.int p4)] maxLocals) T32 (mkF m 143 #[.val (.int p0), .val (.int p1), .val (.int p2), .val (.int p3), .val (.int p4), .val (.int (0 : Int32)), .val (.int v0), .val (.int v1), .val (.int v2), .val (.ref b1), .val (.int (0 : Int32)), .unset, .unset] [(.int p4), (.ref b1)]) := by
      intro target kt
      refine g33 target ?_
      refine XS.astore X32.here hx rfl (hb hby at_57) rfl rfl (l' := #[.val (.int p0), .val (.int p1), .val (.int p2), .val (.int p3), .val (.int p4), .val (.int (0 : Int32)), .val (.int v0), .val (.int v1), .val (.int v2), .val (.ref b1), .unset, .unset, .unset]) rfl ?_
      show Steps p.tables e below (T32.setTop (mkF m 59 #[.val (.int p0), .val (.int p1), .val (.int p2), .val (.int p3), .val (.int p4), .val (.int (0 : Int32)), .val (.int v0), .val (.int v1), .val (.int v2), .val (.ref b1), .unset, .unset, .unset] [])) target
      refine XS.iload X32.here hx rfl (hb hby at_59) rfl ?_
      show Steps p.tables e below (T32.setTop (mkF m 61 #[.val (.int p0), .val (.int p1), .val (.int p2), .val (.int p3), .val (.int p4), .val (.int (0 : Int32)), .val (.int v0), .val (.int v1), .val (.int v2), .val (.ref b1), .unset, .unset, .unset] [(.int (0 : Int32))])) target
      refine XS.ifYes X32.here hx rfl (pc0 := 61) (pc' := 70) rfl (hb hby at_61) rfl (XT.i0_le_t (by decide)) (by decide) (by decide) ?_
      show Steps p.tables e below (T32.setTop (mkF m 70 #[.val (.int p0), .val (.int p1), .val (.int p2), .val (.int p3), .val (.int p4), .val (.int (0 : Int32)), .val (.int v0), .val (.int v1), .val (.int v2), .val (.ref b1), .unset, .unset, .unset] [])) target
      refine XS.iload X32.here hx rfl (hb hby at_70) rfl ?_
      show Steps p.tables e below (T32.setTop (mkF m 72 #[.val (.int p0), .val (.int p1), .val (.int p2), .val (.int p3), .val (.int p4), .val (.int (0 : Int32)), .val (.int v0), .val (.int v1), .val (.int v2), .val (.ref b1), .unset, .unset, .unset] [(.int (0 : Int32))])) target
      refine XT.iconstV X32.here hx rfl (1 : Int32) (hb hby at_72) rfl ?_
      show Steps p.tables e below (T32.setTop (mkF m 73 #[.val (.int p0), .val (.int p1), .val (.int p2), .val (.int p3), .val (.int p4), .val (.int (0 : Int32)), .val (.int v0), .val (.int v1), .val (.int v2), .val (.ref b1), .unset, .unset, .unset] [(.int (1 : Int32)), (.int (0 : Int32))])) target
      refine XS.icmpYes X32.here hx rfl (pc0 := 73) (pc' := 82) rfl (hb hby at_73) rfl (XT.ii_le_t (by decide)) (by decide) (by decide) ?_
      show Steps p.tables e below (T32.setTop (mkF m 82 #[.val (.int p0), .val (.int p1), .val (.int p2), .val (.int p3), .val (.int p4), .val (.int (0 : Int32)), .val (.int v0), .val (.int v1), .val (.int v2), .val (.ref b1), .unset, .unset, .unset] [])) target
      refine XS.iload X32.here hx rfl (hb hby at_82) rfl ?_
      show Steps p.tables e below (T32.setTop (mkF m 84 #[.val (.int p0), .val (.int p1), .val (.int p2), .val (.int p3), .val (.int p4), .val (.int (0 : Int32)), .val (.int v0), .val (.int v1), .val (.int v2), .val (.ref b1), .unset, .unset, .unset] [(.int (0 : Int32))])) target
      refine XT.iconstV X32.here hx rfl (2 : Int32) (hb hby at_84) rfl ?_
      show Steps p.tables e below (T32.setTop (mkF m 85 #[.val (.int p0), .val (.int p1), .val (.int p2), .val (.int p3), .val (.int p4), .val (.int (0 : Int32)), .val (.int v0), .val (.int v1), .val (.int v2), .val (.ref b1), .unset, .unset, .unset] [(.int (2 : Int32)), (.int (0 : Int32))])) target
      refine XS.icmpYes X32.here hx rfl (pc0 := 85) (pc' := 94) rfl (hb hby at_85) rfl (XT.ii_le_t (by decide)) (by decide) (by decide) ?_
      show Steps p.tables e below (T32.setTop (mkF m 94 #[.val (.int p0), .val (.int p1), .val (.int p2), .val (.int p3), .val (.int p4), .val (.int (0 : Int32)), .val (.int v0), .val (.int v1), .val (.int v2), .val (.ref b1), .unset, .unset, .unset] [])) target
      refine XS.iload X32.here hx rfl (hb hby at_94) rfl ?_
      show Steps p.tables e below (T32.setTop (mkF m 96 #[.val (.int p0), .val (.int p1), .val (.int p2), .val (.int p3), .val (.int p4), .val (.int (0 : Int32)), .val (.int v0), .val (.int v1), .val (.int v2), .val (.ref b1), .unset, .unset, .unset] [(.int (0 : Int32))])) target
      refine XS.ifYes X32.here hx rfl (pc0 := 96) (pc' := 106) rfl (hb hby at_96) rfl (XT.i0_le_t (by decide)) (by decide) (by decide) ?_
      show Steps p.tables e below (T32.setTop (mkF m 106 #[.val (.int p0), .val (.int p1), .val (.int p2), .val (.int p3), .val (.int p4), .val (.int (0 : Int32)), .val (.int v0), .val (.int v1), .val (.int v2), .val (.ref b1), .unset, .unset, .unset] [])) target
      refine XS.iload X32.here hx rfl (hb hby at_106) rfl ?_
      show Steps p.tables e below (T32.setTop (mkF m 108 #[.val (.int p0), .val (.int p1), .val (.int p2), .val (.int p3), .val (.int p4), .val (.int (0 : Int32)), .val (.int v0), .val (.int v1), .val (.int v2), .val (.ref b1), .unset, .unset, .unset] [(.int (0 : Int32))])) target
      refine XT.iconstV X32.here hx rfl (1 : Int32) (hb hby at_108) rfl ?_
      show Steps p.tables e below (T32.setTop (mkF m 109 #[.val (.int p0), .val (.int p1), .val (.int p2), .val (.int p3), .val (.int p4), .val (.int (0 : Int32)), .val (.int v0), .val (.int v1), .val (.int v2), .val (.ref b1), .unset, .unset, .unset] [(.int (1 : Int32)), (.int (0 : Int32))])) target
      refine XS.icmpYes X32.here hx rfl (pc0 := 109) (pc' := 119) rfl (hb hby at_109) rfl (XT.ii_le_t (by decide)) (by decide) (by decide) ?_
      show Steps p.tables e below (T32.setTop (mkF m 119 #[.val (.int p0), .val (.int p1), .val (.int p2), .val (.int p3), .val (.int p4), .val (.int (0 : Int32)), .val (.int v0), .val (.int v1), .val (.int v2), .val (.ref b1), .unset, .unset, .unset] [])) target
      refine XS.iload X32.here hx rfl (hb hby at_119) rfl ?_
      show Steps p.tables e below (T32.setTop (mkF m 121 #[.val (.int p0), .val (.int p1), .val (.int p2), .val (.int p3), .val (.int p4), .val (.int (0 : Int32)), .val (.int v0), .val (.int v1), .val (.int v2), .val (.ref b1), .unset, .unset, .unset] [(.int (0 : Int32))])) target
      refine XT.iconstV X32.here hx rfl (2 : Int32) (hb hby at_121) rfl ?_
      show Steps p.tables e below (T32.setTop (mkF m 122 #[.val (.int p0), .val (.int p1), .val (.int p2), .val (.int p3), .val (.int p4), .val (.int (0 : Int32)), .val (.int v0), .val (.int v1), .val (.int v2), .val (.ref b1), .unset, .unset, .unset] [(.int (2 : Int32)), (.int (0 : Int32))])) target
      refine XS.icmpYes X32.here hx rfl (pc0 := 122) (pc' := 136) rfl (hb hby at_122) rfl (XT.ii_le_t (by decide)) (by decide) (by decide) ?_
      show Steps p.tables e below (T32.setTop (mkF m 136 #[.val (.int p0), .val (.int p1), .val (.int p2), .val (.int p3), .val (.int p4), .val (.int (0 : Int32)), .val (.int v0), .val (.int v1), .val (.int v2), .val (.ref b1), .unset, .unset, .unset] [])) target
      refine XT.iconstV X32.here hx rfl (0 : Int32) (hb hby at_136) rfl ?_
      show Steps p.tables e below (T32.setTop (mkF m 137 #[.val (.int p0), .val (.int p1), .val (.int p2), .val (.int p3), .val (.int p4), .val (.int (0 : Int32)), .val (.int v0), .val (.int v1), .val (.int v2), .val (.ref b1), .unset, .unset, .unset] [(.int (0 : Int32))])) target
      refine XS.istore X32.here hx rfl (hb hby at_137) rfl (l' := #[.val (.int p0), .val (.int p1), .val (.int p2), .val (.int p3), .val (.int p4), .val (.int (0 : Int32)), .val (.int v0), .val (.int v1), .val (.int v2), .val (.ref b1), .val (.int (0 : Int32)), .unset, .unset]) rfl ?_
      show Steps p.tables e below (T32.setTop (mkF m 139 #[.val (.int p0), .val (.int p1), .val (.int p2), .val (.int p3), .val (.int p4), .val (.int (0 : Int32)), .val (.int v0), .val (.int v1), .val (.int v2), .val (.ref b1), .val (.int (0 : Int32)), .unset, .unset] [])) target
      refine XS.aload X32.here hx rfl (hb hby at_139) rfl rfl ?_
      show Steps p.tables e below (T32.setTop (mkF m 141 #[.val (.int p0), .val (.int p1), .val (.int p2), .val (.int p3), .val (.int p4), .val (.int (0 : Int32)), .val (.int v0), .val (.int v1), .val (.int v2), .val (.ref b1), .val (.int (0 : Int32)), .unset, .unset] [(.ref b1)])) target
      refine XS.iload X32.here hx rfl (hb hby at_141) rfl ?_
      show Steps p.tables e below (T32.setTop (mkF m 143 #[.val (.int p0), .val (.int p1), .val (.int p2), .val (.int p3), .val (.int p4), .val (.int (0 : Int32)), .val (.int v0), .val (.int v1), .val (.int v2), .val (.ref b1), .val (.int (0 : Int32)), .unset, .unset] [(.int p4), (.ref b1)])) target
      exact kt
    obtain ⟨_, _, ⟨T35, L35, k35, n35⟩, -, X35, ⟨Lc35, hQ35, l35, y35, z35⟩, st35⟩ := Jvm.LawKit.callS X32 hx (y := (⟨"com/example/ends_to_means/endstomeans/model/VertexChecks", "hasMove", "([II)Z"⟩ : MethodName)) hown (mvT hZ (hw _ (List.mem_of_getElem? (i := 1) rfl))) (mvT hZ (hw _ (List.mem_of_getElem? (i := 2) rfl))) (mvT hZ (hw _ (List.mem_of_getElem? (i := 3) rfl))) (mvT hZ (hw _ (List.mem_of_getElem? (i := 4) rfl))) (by decide) (backOf (W := 0) (rm1 l Z a0 hw [] b1 p4 0 f h32 n0 Z32 V (by decide)) hZ (hw _ (List.mem_of_getElem? (i := 4) rfl)) (hw _ (List.mem_of_getElem? (i := 3) rfl)) (by decide) (by decide)) (g := (mkF m 143 #[.val (.int p0), .val (.int p1), .val (.int p2), .val (.int p3), .val (.int p4), .val (.int (0 : Int32)), .val (.int v0), .val (.int v1), .val (.int v2), .val (.ref b1), .val (.int (0 : Int32)), .unset, .unset] [(.int p4), (.ref b1)])) rfl (by rw [hml]; rfl) (argsL := [(.ref b1), (.int p4)]) (rest := []) (lenOf pd_0 rfl) rfl (by show 2 * 0 + _ ≤ _; exact Nat.le_of_eq rfl) (hb hby at_143) (fun _ _ => ⟨rfl, e32, (by decide : 1 + 0 ≤ _), (by decide : 0 + 0 ≤ _)⟩)
    dsimp only [Pt.U, Pt.locs, Pt.cells, Pt.slots] at X35 l35 y35 z35 st35 hQ35
    subst l35 y35 z35
    obtain ⟨rfl, Nq35, eq35⟩ := hQ35
    have N35 := Fr.app N0 Nq35
    have g36 : own_Go p e below s₁ (entryFrame m #[(.int p0), (.int p1), (.int p2), (.int p3), (.int p4)] maxLocals) T35 (mkF m 146 #[.val (.int p0), .val (.int p1), .val (.int p2), .val (.int p3), .val (.int p4), .val (.int (0 : Int32)), .val (.int v0), .val (.int v1), .val (.int v2), .val (.ref b1), .val (.int (0 : Int32)), .unset, .unset] [(.int (own_has f p4 0 0))]) := fun target kt => g34 target (st35 target kt)
    obtain ⟨cf, Bf, Sf, Hf⟩ := V
    have hq : own_has f p4 0 0 = (0 : Int32) := by
      rfl
    have g37 : own_Go p e below s₁ (entryFrame m #[(.int p0), (.int p1), (.int p2), (.int p3), (.int p4)] maxLocals) T35 (mkF m 216 #[.val (.int p0), .val (.int p1), .val (.int p2), .val (.int p3), .val (.int p4), .val (.int (0 : Int32)), .val (.int v0), .val (.int v1), .val (.int v2), .val (.ref b1), .val (.int (0 : Int32)), .val (.int (own_has f p4 0 0)), .val (.int (1 : Int32))] [(.int (1 : Int32))]) := by
      intro target kt
      refine g36 target ?_
      refine XS.istore X35.here hx rfl (hb hby at_146) rfl (l' := #[.val (.int p0), .val (.int p1), .val (.int p2), .val (.int p3), .val (.int p4), .val (.int (0 : Int32)), .val (.int v0), .val (.int v1), .val (.int v2), .val (.ref b1), .val (.int (0 : Int32)), .val (.int (own_has f p4 0 0)), .unset]) rfl ?_
      show Steps p.tables e below (T35.setTop (mkF m 148 #[.val (.int p0), .val (.int p1), .val (.int p2), .val (.int p3), .val (.int p4), .val (.int (0 : Int32)), .val (.int v0), .val (.int v1), .val (.int v2), .val (.ref b1), .val (.int (0 : Int32)), .val (.int (own_has f p4 0 0)), .unset] [])) target
      refine XS.iload X35.here hx rfl (hb hby at_148) rfl ?_
      show Steps p.tables e below (T35.setTop (mkF m 150 #[.val (.int p0), .val (.int p1), .val (.int p2), .val (.int p3), .val (.int p4), .val (.int (0 : Int32)), .val (.int v0), .val (.int v1), .val (.int v2), .val (.ref b1), .val (.int (0 : Int32)), .val (.int (own_has f p4 0 0)), .unset] [(.int (0 : Int32))])) target
      refine XS.ifYes X35.here hx rfl (pc0 := 150) (pc' := 162) rfl (hb hby at_150) rfl (XT.i0_le_t (by decide)) (by decide) (by decide) ?_
      show Steps p.tables e below (T35.setTop (mkF m 162 #[.val (.int p0), .val (.int p1), .val (.int p2), .val (.int p3), .val (.int p4), .val (.int (0 : Int32)), .val (.int v0), .val (.int v1), .val (.int v2), .val (.ref b1), .val (.int (0 : Int32)), .val (.int (own_has f p4 0 0)), .unset] [])) target
      refine XS.iload X35.here hx rfl (hb hby at_162) rfl ?_
      show Steps p.tables e below (T35.setTop (mkF m 164 #[.val (.int p0), .val (.int p1), .val (.int p2), .val (.int p3), .val (.int p4), .val (.int (0 : Int32)), .val (.int v0), .val (.int v1), .val (.int v2), .val (.ref b1), .val (.int (0 : Int32)), .val (.int (own_has f p4 0 0)), .unset] [(.int (0 : Int32))])) target
      refine XT.iconstV X35.here hx rfl (1 : Int32) (hb hby at_164) rfl ?_
      show Steps p.tables e below (T35.setTop (mkF m 165 #[.val (.int p0), .val (.int p1), .val (.int p2), .val (.int p3), .val (.int p4), .val (.int (0 : Int32)), .val (.int v0), .val (.int v1), .val (.int v2), .val (.ref b1), .val (.int (0 : Int32)), .val (.int (own_has f p4 0 0)), .unset] [(.int (1 : Int32)), (.int (0 : Int32))])) target
      refine XS.icmpYes X35.here hx rfl (pc0 := 165) (pc' := 177) rfl (hb hby at_165) rfl (XT.ii_le_t (by decide)) (by decide) (by decide) ?_
      show Steps p.tables e below (T35.setTop (mkF m 177 #[.val (.int p0), .val (.int p1), .val (.int p2), .val (.int p3), .val (.int p4), .val (.int (0 : Int32)), .val (.int v0), .val (.int v1), .val (.int v2), .val (.ref b1), .val (.int (0 : Int32)), .val (.int (own_has f p4 0 0)), .unset] [])) target
      refine XS.iload X35.here hx rfl (hb hby at_177) rfl ?_
      show Steps p.tables e below (T35.setTop (mkF m 179 #[.val (.int p0), .val (.int p1), .val (.int p2), .val (.int p3), .val (.int p4), .val (.int (0 : Int32)), .val (.int v0), .val (.int v1), .val (.int v2), .val (.ref b1), .val (.int (0 : Int32)), .val (.int (own_has f p4 0 0)), .unset] [(.int (0 : Int32))])) target
      refine XT.iconstV X35.here hx rfl (2 : Int32) (hb hby at_179) rfl ?_
      show Steps p.tables e below (T35.setTop (mkF m 180 #[.val (.int p0), .val (.int p1), .val (.int p2), .val (.int p3), .val (.int p4), .val (.int (0 : Int32)), .val (.int v0), .val (.int v1), .val (.int v2), .val (.ref b1), .val (.int (0 : Int32)), .val (.int (own_has f p4 0 0)), .unset] [(.int (2 : Int32)), (.int (0 : Int32))])) target
      refine XS.icmpYes X35.here hx rfl (pc0 := 180) (pc' := 192) rfl (hb hby at_180) rfl (XT.ii_le_t (by decide)) (by decide) (by decide) ?_
      show Steps p.tables e below (T35.setTop (mkF m 192 #[.val (.int p0), .val (.int p1), .val (.int p2), .val (.int p3), .val (.int p4), .val (.int (0 : Int32)), .val (.int v0), .val (.int v1), .val (.int v2), .val (.ref b1), .val (.int (0 : Int32)), .val (.int (own_has f p4 0 0)), .unset] [])) target
      refine XT.iconstV X35.here hx rfl (1 : Int32) (hb hby at_192) rfl ?_
      show Steps p.tables e below (T35.setTop (mkF m 193 #[.val (.int p0), .val (.int p1), .val (.int p2), .val (.int p3), .val (.int p4), .val (.int (0 : Int32)), .val (.int v0), .val (.int v1), .val (.int v2), .val (.ref b1), .val (.int (0 : Int32)), .val (.int (own_has f p4 0 0)), .unset] [(.int (1 : Int32))])) target
      refine XS.goto X35.here hx rfl (pc0 := 193) (pc' := 197) rfl (hb hby at_193) (by decide) (by decide) ?_
      show Steps p.tables e below (T35.setTop (mkF m 197 #[.val (.int p0), .val (.int p1), .val (.int p2), .val (.int p3), .val (.int p4), .val (.int (0 : Int32)), .val (.int v0), .val (.int v1), .val (.int v2), .val (.ref b1), .val (.int (0 : Int32)), .val (.int (own_has f p4 0 0)), .unset] [(.int (1 : Int32))])) target
      refine XS.istore X35.here hx rfl (hb hby at_197) rfl (l' := #[.val (.int p0), .val (.int p1), .val (.int p2), .val (.int p3), .val (.int p4), .val (.int (0 : Int32)), .val (.int v0), .val (.int v1), .val (.int v2), .val (.ref b1), .val (.int (0 : Int32)), .val (.int (own_has f p4 0 0)), .val (.int (1 : Int32))]) rfl ?_
      show Steps p.tables e below (T35.setTop (mkF m 199 #[.val (.int p0), .val (.int p1), .val (.int p2), .val (.int p3), .val (.int p4), .val (.int (0 : Int32)), .val (.int v0), .val (.int v1), .val (.int v2), .val (.ref b1), .val (.int (0 : Int32)), .val (.int (own_has f p4 0 0)), .val (.int (1 : Int32))] [])) target
      refine XS.iload X35.here hx rfl (hb hby at_199) rfl ?_
      show Steps p.tables e below (T35.setTop (mkF m 201 #[.val (.int p0), .val (.int p1), .val (.int p2), .val (.int p3), .val (.int p4), .val (.int (0 : Int32)), .val (.int v0), .val (.int v1), .val (.int v2), .val (.ref b1), .val (.int (0 : Int32)), .val (.int (own_has f p4 0 0)), .val (.int (1 : Int32))] [(.int (own_has f p4 0 0))])) target
      refine XS.iload X35.here hx rfl (hb hby at_201) rfl ?_
      show Steps p.tables e below (T35.setTop (mkF m 203 #[.val (.int p0), .val (.int p1), .val (.int p2), .val (.int p3), .val (.int p4), .val (.int (0 : Int32)), .val (.int v0), .val (.int v1), .val (.int v2), .val (.ref b1), .val (.int (0 : Int32)), .val (.int (own_has f p4 0 0)), .val (.int (1 : Int32))] [(.int (0 : Int32)), (.int (own_has f p4 0 0))])) target
      refine XS.icmpNo X35.here hx rfl (hb hby at_203) rfl (XT.ii_ne_f hq) ?_
      show Steps p.tables e below (T35.setTop (mkF m 206 #[.val (.int p0), .val (.int p1), .val (.int p2), .val (.int p3), .val (.int p4), .val (.int (0 : Int32)), .val (.int v0), .val (.int v1), .val (.int v2), .val (.ref b1), .val (.int (0 : Int32)), .val (.int (own_has f p4 0 0)), .val (.int (1 : Int32))] [])) target
      refine XS.iload X35.here hx rfl (hb hby at_206) rfl ?_
      show Steps p.tables e below (T35.setTop (mkF m 208 #[.val (.int p0), .val (.int p1), .val (.int p2), .val (.int p3), .val (.int p4), .val (.int (0 : Int32)), .val (.int v0), .val (.int v1), .val (.int v2), .val (.ref b1), .val (.int (0 : Int32)), .val (.int (own_has f p4 0 0)), .val (.int (1 : Int32))] [(.int (1 : Int32))])) target
      refine XS.ifNo X35.here hx rfl (hb hby at_208) rfl (XT.i0_eq_f (by decide)) ?_
      show Steps p.tables e below (T35.setTop (mkF m 211 #[.val (.int p0), .val (.int p1), .val (.int p2), .val (.int p3), .val (.int p4), .val (.int (0 : Int32)), .val (.int v0), .val (.int v1), .val (.int v2), .val (.ref b1), .val (.int (0 : Int32)), .val (.int (own_has f p4 0 0)), .val (.int (1 : Int32))] [])) target
      refine XT.iconstV X35.here hx rfl (1 : Int32) (hb hby at_211) rfl ?_
      show Steps p.tables e below (T35.setTop (mkF m 212 #[.val (.int p0), .val (.int p1), .val (.int p2), .val (.int p3), .val (.int p4), .val (.int (0 : Int32)), .val (.int v0), .val (.int v1), .val (.int v2), .val (.ref b1), .val (.int (0 : Int32)), .val (.int (own_has f p4 0 0)), .val (.int (1 : Int32))] [(.int (1 : Int32))])) target
      refine XS.goto X35.here hx rfl (pc0 := 212) (pc' := 216) rfl (hb hby at_212) (by decide) (by decide) ?_
      show Steps p.tables e below (T35.setTop (mkF m 216 #[.val (.int p0), .val (.int p1), .val (.int p2), .val (.int p3), .val (.int p4), .val (.int (0 : Int32)), .val (.int v0), .val (.int v1), .val (.int v2), .val (.ref b1), .val (.int (0 : Int32)), .val (.int (own_has f p4 0 0)), .val (.int (1 : Int32))] [(.int (1 : Int32))])) target
      exact kt
    obtain ⟨fs, hr, hrun, hended, hW, hsame⟩ := X35.leave (v := some (.int (nar .boolean (1 : Int32)))) (fun h => by rw [Bd.returns] at h; cases h)
    refine ⟨_, _, g37 _ ?_, hrun, hended, _, _, rfl, ?_, ⟨_, rfl⟩, hW, hsame.mono (by decide) (by decide)⟩
    · exact retN X35 hx (t := .boolean) Bd.returns (by simp) (hb hby at_216) hr
    · show Q_rm0 Z p0 p1 p2 p3 p4  h0 n0 _ T35.heap _
      rw [eq35]
      exact ⟨rfl, N35⟩
  · subst hn
    obtain ⟨T38, h38, k38, X38, e38, E38, A38, st38⟩ := newP X0 hx hZ (hw _ (List.mem_of_getElem? (i := 0) rfl)) e0 (g := (mkF m 55 #[.val (.int p0), .val (.int p1), .val (.int p2), .val (.int p3), .val (.int p4), .val (.int (1 : Int32)), .val (.int v0), .val (.int v1), .val (.int v2), .unset, .unset, .unset, .unset] [(.int (1 : Int32))])) rfl (hb hby at_55) rfl (by decide) (cap := 1) (by decide) (by decide) (by decide) (by decide)
    obtain ⟨b1, ga38⟩ : ∃ z, z = h0.size := ⟨_, rfl⟩
    rw [← ga38] at A38 st38
    have Z38 : n0 ≤ h38.size := Nat.le_trans Z0 E38.1
    have g_b1 : n0 ≤ b1 := Nat.le_trans Z0 (Nat.le_of_eq ga38.symm)
    have g39 : own_Go p e below s₁ (entryFrame m #[(.int p0), (.int p1), (.int p2), (.int p3), (.int p4)] maxLocals) T38 (mkF m 57 #[.val (.int p0), .val (.int p1), .val (.int p2), .val (.int p3), .val (.int p4), .val (.int (1 : Int32)), .val (.int v0), .val (.int v1), .val (.int v2), .unset, .unset, .unset, .unset] [(.ref b1)]) := fun target kt => g31 target (st38 target kt)
    have V0 := own_new A38 (n := 1) (by decide)
    obtain ⟨c0, B0, S0, H0⟩ := V0
    have g40 : own_Go p e below s₁ (entryFrame m #[(.int p0), (.int p1), (.int p2), (.int p3), (.int p4)] maxLocals) T38 (mkF m 69 #[.val (.int p0), .val (.int p1), .val (.int p2), .val (.int p3), .val (.int p4), .val (.int (1 : Int32)), .val (.int v0), .val (.int v1), .val (.int v2), .val (.ref b1), .unset, .unset, .unset] [(.int v0), (.int (0 : Int32)), (.ref b1)]) := by
      intro target kt
      refine g39 target ?_
      refine XS.astore X38.here hx rfl (hb hby at_57) rfl rfl (l' := #[.val (.int p0), .val (.int p1), .val (.int p2), .val (.int p3), .val (.int p4), .val (.int (1 : Int32)), .val (.int v0), .val (.int v1), .val (.int v2), .val (.ref b1), .unset, .unset, .unset]) rfl ?_
      show Steps p.tables e below (T38.setTop (mkF m 59 #[.val (.int p0), .val (.int p1), .val (.int p2), .val (.int p3), .val (.int p4), .val (.int (1 : Int32)), .val (.int v0), .val (.int v1), .val (.int v2), .val (.ref b1), .unset, .unset, .unset] [])) target
      refine XS.iload X38.here hx rfl (hb hby at_59) rfl ?_
      show Steps p.tables e below (T38.setTop (mkF m 61 #[.val (.int p0), .val (.int p1), .val (.int p2), .val (.int p3), .val (.int p4), .val (.int (1 : Int32)), .val (.int v0), .val (.int v1), .val (.int v2), .val (.ref b1), .unset, .unset, .unset] [(.int (1 : Int32))])) target
      refine XS.ifNo X38.here hx rfl (hb hby at_61) rfl (XT.i0_le_f (by decide)) ?_
      show Steps p.tables e below (T38.setTop (mkF m 64 #[.val (.int p0), .val (.int p1), .val (.int p2), .val (.int p3), .val (.int p4), .val (.int (1 : Int32)), .val (.int v0), .val (.int v1), .val (.int v2), .val (.ref b1), .unset, .unset, .unset] [])) target
      refine XS.aload X38.here hx rfl (hb hby at_64) rfl rfl ?_
      show Steps p.tables e below (T38.setTop (mkF m 66 #[.val (.int p0), .val (.int p1), .val (.int p2), .val (.int p3), .val (.int p4), .val (.int (1 : Int32)), .val (.int v0), .val (.int v1), .val (.int v2), .val (.ref b1), .unset, .unset, .unset] [(.ref b1)])) target
      refine XT.iconstV X38.here hx rfl (0 : Int32) (hb hby at_66) rfl ?_
      show Steps p.tables e below (T38.setTop (mkF m 67 #[.val (.int p0), .val (.int p1), .val (.int p2), .val (.int p3), .val (.int p4), .val (.int (1 : Int32)), .val (.int v0), .val (.int v1), .val (.int v2), .val (.ref b1), .unset, .unset, .unset] [(.int (0 : Int32)), (.ref b1)])) target
      refine XS.iload X38.here hx rfl (hb hby at_67) rfl ?_
      show Steps p.tables e below (T38.setTop (mkF m 69 #[.val (.int p0), .val (.int p1), .val (.int p2), .val (.int p3), .val (.int p4), .val (.int (1 : Int32)), .val (.int v0), .val (.int v1), .val (.int v2), .val (.ref b1), .unset, .unset, .unset] [(.int v0), (.int (0 : Int32)), (.ref b1)])) target
      exact kt
    obtain ⟨T41, h41, X41, e41, W41, st41⟩ := stI X38 hx hZ e38 B0 (j := (0 : Int32)) (by rw [S0]; decide) (g := (mkF m 69 #[.val (.int p0), .val (.int p1), .val (.int p2), .val (.int p3), .val (.int p4), .val (.int (1 : Int32)), .val (.int v0), .val (.int v1), .val (.int v2), .val (.ref b1), .unset, .unset, .unset] [(.int v0), (.int (0 : Int32)), (.ref b1)])) rfl rfl (hb hby at_69)
    have g42 : own_Go p e below s₁ (entryFrame m #[(.int p0), (.int p1), (.int p2), (.int p3), (.int p4)] maxLocals) T41 (mkF m 70 #[.val (.int p0), .val (.int p1), .val (.int p2), .val (.int p3), .val (.int p4), .val (.int (1 : Int32)), .val (.int v0), .val (.int v1), .val (.int v2), .val (.ref b1), .unset, .unset, .unset] []) := fun target kt => g40 target (st41 target kt)
    have N41 := Fr.snoc X41 N0 g_b1
    have Z41 : n0 ≤ h41.size := Nat.le_trans Z38 (Keep.of_wr W41).1
    have V1 := own_set B0 S0 H0 W41 (by decide)
    obtain ⟨f, ef⟩ : ∃ f : Nat → Int32, f = (fun j => if j = Int32.toNatClampNeg (0 : Int32) then v0 else 0) := ⟨_, rfl⟩
    have V : own_Ai Z h41 b1 1 f := by rw [ef]; exact V1
    have f0 : f 0 = v0 := by rw [ef]; rfl
    obtain ⟨ex, hm47, g47⟩ : ∃ (ex : Int32), (ex = (if v0 = p4 then (1 : Int32) else (0 : Int32))) ∧ own_Go p e below s₁ (entryFrame m #[(.int p0), (.int p1), (.int p2), (.int p3), (.int p4)] maxLocals) T41 (mkF m 137 #[.val (.int p0), .val (.int p1), .val (.int p2), .val (.int p3), .val (.int p4), .val (.int (1 : Int32)), .val (.int v0), .val (.int v1), .val (.int v2), .val (.ref b1), .unset, .unset, .unset] [(.int ex)]) := by
      have g43 : own_Go p e below s₁ (entryFrame m #[(.int p0), (.int p1), (.int p2), (.int p3), (.int p4)] maxLocals) T41 (mkF m 103 #[.val (.int p0), .val (.int p1), .val (.int p2), .val (.int p3), .val (.int p4), .val (.int (1 : Int32)), .val (.int v0), .val (.int v1), .val (.int v2), .val (.ref b1), .unset, .unset, .unset] [(.int p4), (.int v0)]) := by
        intro target kt
        refine g42 target ?_
        refine XS.iload X41.here hx rfl (hb hby at_70) rfl ?_
        show Steps p.tables e below (T41.setTop (mkF m 72 #[.val (.int p0), .val (.int p1), .val (.int p2), .val (.int p3), .val (.int p4), .val (.int (1 : Int32)), .val (.int v0), .val (.int v1), .val (.int v2), .val (.ref b1), .unset, .unset, .unset] [(.int (1 : Int32))])) target
        refine XT.iconstV X41.here hx rfl (1 : Int32) (hb hby at_72) rfl ?_
        show Steps p.tables e below (T41.setTop (mkF m 73 #[.val (.int p0), .val (.int p1), .val (.int p2), .val (.int p3), .val (.int p4), .val (.int (1 : Int32)), .val (.int v0), .val (.int v1), .val (.int v2), .val (.ref b1), .unset, .unset, .unset] [(.int (1 : Int32)), (.int (1 : Int32))])) target
        refine XS.icmpYes X41.here hx rfl (pc0 := 73) (pc' := 82) rfl (hb hby at_73) rfl (XT.ii_le_t (by decide)) (by decide) (by decide) ?_
        show Steps p.tables e below (T41.setTop (mkF m 82 #[.val (.int p0), .val (.int p1), .val (.int p2), .val (.int p3), .val (.int p4), .val (.int (1 : Int32)), .val (.int v0), .val (.int v1), .val (.int v2), .val (.ref b1), .unset, .unset, .unset] [])) target
        refine XS.iload X41.here hx rfl (hb hby at_82) rfl ?_
        show Steps p.tables e below (T41.setTop (mkF m 84 #[.val (.int p0), .val (.int p1), .val (.int p2), .val (.int p3), .val (.int p4), .val (.int (1 : Int32)), .val (.int v0), .val (.int v1), .val (.int v2), .val (.ref b1), .unset, .unset, .unset] [(.int (1 : Int32))])) target
        refine XT.iconstV X41.here hx rfl (2 : Int32) (hb hby at_84) rfl ?_
        show Steps p.tables e below (T41.setTop (mkF m 85 #[.val (.int p0), .val (.int p1), .val (.int p2), .val (.int p3), .val (.int p4), .val (.int (1 : Int32)), .val (.int v0), .val (.int v1), .val (.int v2), .val (.ref b1), .unset, .unset, .unset] [(.int (2 : Int32)), (.int (1 : Int32))])) target
        refine XS.icmpYes X41.here hx rfl (pc0 := 85) (pc' := 94) rfl (hb hby at_85) rfl (XT.ii_le_t (by decide)) (by decide) (by decide) ?_
        show Steps p.tables e below (T41.setTop (mkF m 94 #[.val (.int p0), .val (.int p1), .val (.int p2), .val (.int p3), .val (.int p4), .val (.int (1 : Int32)), .val (.int v0), .val (.int v1), .val (.int v2), .val (.ref b1), .unset, .unset, .unset] [])) target
        refine XS.iload X41.here hx rfl (hb hby at_94) rfl ?_
        show Steps p.tables e below (T41.setTop (mkF m 96 #[.val (.int p0), .val (.int p1), .val (.int p2), .val (.int p3), .val (.int p4), .val (.int (1 : Int32)), .val (.int v0), .val (.int v1), .val (.int v2), .val (.ref b1), .unset, .unset, .unset] [(.int (1 : Int32))])) target
        refine XS.ifNo X41.here hx rfl (hb hby at_96) rfl (XT.i0_le_f (by decide)) ?_
        show Steps p.tables e below (T41.setTop (mkF m 99 #[.val (.int p0), .val (.int p1), .val (.int p2), .val (.int p3), .val (.int p4), .val (.int (1 : Int32)), .val (.int v0), .val (.int v1), .val (.int v2), .val (.ref b1), .unset, .unset, .unset] [])) target
        refine XS.iload X41.here hx rfl (hb hby at_99) rfl ?_
        show Steps p.tables e below (T41.setTop (mkF m 101 #[.val (.int p0), .val (.int p1), .val (.int p2), .val (.int p3), .val (.int p4), .val (.int (1 : Int32)), .val (.int v0), .val (.int v1), .val (.int v2), .val (.ref b1), .unset, .unset, .unset] [(.int v0)])) target
        refine XS.iload X41.here hx rfl (hb hby at_101) rfl ?_
        show Steps p.tables e below (T41.setTop (mkF m 103 #[.val (.int p0), .val (.int p1), .val (.int p2), .val (.int p3), .val (.int p4), .val (.int (1 : Int32)), .val (.int v0), .val (.int v1), .val (.int v2), .val (.ref b1), .unset, .unset, .unset] [(.int p4), (.int v0)])) target
        exact kt
      by_cases hc44 : v0 = p4
      · have g45 : own_Go p e below s₁ (entryFrame m #[(.int p0), (.int p1), (.int p2), (.int p3), (.int p4)] maxLocals) T41 (mkF m 137 #[.val (.int p0), .val (.int p1), .val (.int p2), .val (.int p3), .val (.int p4), .val (.int (1 : Int32)), .val (.int v0), .val (.int v1), .val (.int v2), .val (.ref b1), .unset, .unset, .unset] [(.int (1 : Int32))]) := by
          intro target kt
          refine g43 target ?_
          refine XS.icmpYes X41.here hx rfl (pc0 := 103) (pc' := 132) rfl (hb hby at_103) rfl (XT.ii_eq_t hc44) (by decide) (by decide) ?_
          show Steps p.tables e below (T41.setTop (mkF m 132 #[.val (.int p0), .val (.int p1), .val (.int p2), .val (.int p3), .val (.int p4), .val (.int (1 : Int32)), .val (.int v0), .val (.int v1), .val (.int v2), .val (.ref b1), .unset, .unset, .unset] [])) target
          refine XT.iconstV X41.here hx rfl (1 : Int32) (hb hby at_132) rfl ?_
          show Steps p.tables e below (T41.setTop (mkF m 133 #[.val (.int p0), .val (.int p1), .val (.int p2), .val (.int p3), .val (.int p4), .val (.int (1 : Int32)), .val (.int v0), .val (.int v1), .val (.int v2), .val (.ref b1), .unset, .unset, .unset] [(.int (1 : Int32))])) target
          refine XS.goto X41.here hx rfl (pc0 := 133) (pc' := 137) rfl (hb hby at_133) (by decide) (by decide) ?_
          show Steps p.tables e below (T41.setTop (mkF m 137 #[.val (.int p0), .val (.int p1), .val (.int p2), .val (.int p3), .val (.int p4), .val (.int (1 : Int32)), .val (.int v0), .val (.int v1), .val (.int v2), .val (.ref b1), .unset, .unset, .unset] [(.int (1 : Int32))])) target
          exact kt
        exact ⟨(1 : Int32), (by simp only [if_pos hc44]), g45⟩
      · have g46 : own_Go p e below s₁ (entryFrame m #[(.int p0), (.int p1), (.int p2), (.int p3), (.int p4)] maxLocals) T41 (mkF m 137 #[.val (.int p0), .val (.int p1), .val (.int p2), .val (.int p3), .val (.int p4), .val (.int (1 : Int32)), .val (.int v0), .val (.int v1), .val (.int v2), .val (.ref b1), .unset, .unset, .unset] [(.int (0 : Int32))]) := by
          intro target kt
          refine g43 target ?_
          refine XS.icmpNo X41.here hx rfl (hb hby at_103) rfl (XT.ii_eq_f hc44) ?_
          show Steps p.tables e below (T41.setTop (mkF m 106 #[.val (.int p0), .val (.int p1), .val (.int p2), .val (.int p3), .val (.int p4), .val (.int (1 : Int32)), .val (.int v0), .val (.int v1), .val (.int v2), .val (.ref b1), .unset, .unset, .unset] [])) target
          refine XS.iload X41.here hx rfl (hb hby at_106) rfl ?_
          show Steps p.tables e below (T41.setTop (mkF m 108 #[.val (.int p0), .val (.int p1), .val (.int p2), .val (.int p3), .val (.int p4), .val (.int (1 : Int32)), .val (.int v0), .val (.int v1), .val (.int v2), .val (.ref b1), .unset, .unset, .unset] [(.int (1 : Int32))])) target
          refine XT.iconstV X41.here hx rfl (1 : Int32) (hb hby at_108) rfl ?_
          show Steps p.tables e below (T41.setTop (mkF m 109 #[.val (.int p0), .val (.int p1), .val (.int p2), .val (.int p3), .val (.int p4), .val (.int (1 : Int32)), .val (.int v0), .val (.int v1), .val (.int v2), .val (.ref b1), .unset, .unset, .unset] [(.int (1 : Int32)), (.int (1 : Int32))])) target
          refine XS.icmpYes X41.here hx rfl (pc0 := 109) (pc' := 119) rfl (hb hby at_109) rfl (XT.ii_le_t (by decide)) (by decide) (by decide) ?_
          show Steps p.tables e below (T41.setTop (mkF m 119 #[.val (.int p0), .val (.int p1), .val (.int p2), .val (.int p3), .val (.int p4), .val (.int (1 : Int32)), .val (.int v0), .val (.int v1), .val (.int v2), .val (.ref b1), .unset, .unset, .unset] [])) target
          refine XS.iload X41.here hx rfl (hb hby at_119) rfl ?_
          show Steps p.tables e below (T41.setTop (mkF m 121 #[.val (.int p0), .val (.int p1), .val (.int p2), .val (.int p3), .val (.int p4), .val (.int (1 : Int32)), .val (.int v0), .val (.int v1), .val (.int v2), .val (.ref b1), .unset, .unset, .unset] [(.int (1 : Int32))])) target
          refine XT.iconstV X41.here hx rfl (2 : Int32) (hb hby at_121) rfl ?_
          show Steps p.tables e below (T41.setTop (mkF m 122 #[.val (.int p0), .val (.int p1), .val (.int p2), .val (.int p3), .val (.int p4), .val (.int (1 : Int32)), .val (.int v0), .val (.int v1), .val (.int v2), .val (.ref b1), .unset, .unset, .unset] [(.int (2 : Int32)), (.int (1 : Int32))])) target
          refine XS.icmpYes X41.here hx rfl (pc0 := 122) (pc' := 136) rfl (hb hby at_122) rfl (XT.ii_le_t (by decide)) (by decide) (by decide) ?_
          show Steps p.tables e below (T41.setTop (mkF m 136 #[.val (.int p0), .val (.int p1), .val (.int p2), .val (.int p3), .val (.int p4), .val (.int (1 : Int32)), .val (.int v0), .val (.int v1), .val (.int v2), .val (.ref b1), .unset, .unset, .unset] [])) target
          refine XT.iconstV X41.here hx rfl (0 : Int32) (hb hby at_136) rfl ?_
          show Steps p.tables e below (T41.setTop (mkF m 137 #[.val (.int p0), .val (.int p1), .val (.int p2), .val (.int p3), .val (.int p4), .val (.int (1 : Int32)), .val (.int v0), .val (.int v1), .val (.int v2), .val (.ref b1), .unset, .unset, .unset] [(.int (0 : Int32))])) target
          exact kt
        exact ⟨(0 : Int32), (by simp only [if_neg hc44]), g46⟩
    have g48 : own_Go p e below s₁ (entryFrame m #[(.int p0), (.int p1), (.int p2), (.int p3), (.int p4)] maxLocals) T41 (mkF m 143 #[.val (.int p0), .val (.int p1), .val (.int p2), .val (.int p3), .val (.int p4), .val (.int (1 : Int32)), .val (.int v0), .val (.int v1), .val (.int v2), .val (.ref b1), .val (.int ex), .unset, .unset] [(.int p4), (.ref b1)]) := by
      intro target kt
      refine g47 target ?_
      refine XS.istore X41.here hx rfl (hb hby at_137) rfl (l' := #[.val (.int p0), .val (.int p1), .val (.int p2), .val (.int p3), .val (.int p4), .val (.int (1 : Int32)), .val (.int v0), .val (.int v1), .val (.int v2), .val (.ref b1), .val (.int ex), .unset, .unset]) rfl ?_
      show Steps p.tables e below (T41.setTop (mkF m 139 #[.val (.int p0), .val (.int p1), .val (.int p2), .val (.int p3), .val (.int p4), .val (.int (1 : Int32)), .val (.int v0), .val (.int v1), .val (.int v2), .val (.ref b1), .val (.int ex), .unset, .unset] [])) target
      refine XS.aload X41.here hx rfl (hb hby at_139) rfl rfl ?_
      show Steps p.tables e below (T41.setTop (mkF m 141 #[.val (.int p0), .val (.int p1), .val (.int p2), .val (.int p3), .val (.int p4), .val (.int (1 : Int32)), .val (.int v0), .val (.int v1), .val (.int v2), .val (.ref b1), .val (.int ex), .unset, .unset] [(.ref b1)])) target
      refine XS.iload X41.here hx rfl (hb hby at_141) rfl ?_
      show Steps p.tables e below (T41.setTop (mkF m 143 #[.val (.int p0), .val (.int p1), .val (.int p2), .val (.int p3), .val (.int p4), .val (.int (1 : Int32)), .val (.int v0), .val (.int v1), .val (.int v2), .val (.ref b1), .val (.int ex), .unset, .unset] [(.int p4), (.ref b1)])) target
      exact kt
    obtain ⟨_, _, ⟨T49, L49, k49, n49⟩, -, X49, ⟨Lc49, hQ49, l49, y49, z49⟩, st49⟩ := Jvm.LawKit.callS X41 hx (y := (⟨"com/example/ends_to_means/endstomeans/model/VertexChecks", "hasMove", "([II)Z"⟩ : MethodName)) hown (mvT hZ (hw _ (List.mem_of_getElem? (i := 1) rfl))) (mvT hZ (hw _ (List.mem_of_getElem? (i := 2) rfl))) (mvT hZ (hw _ (List.mem_of_getElem? (i := 3) rfl))) (mvT hZ (hw _ (List.mem_of_getElem? (i := 4) rfl))) (by decide) (backOf (W := 0) (rm1 l Z a0 hw [] b1 p4 1 f h41 n0 Z41 V (by decide)) hZ (hw _ (List.mem_of_getElem? (i := 4) rfl)) (hw _ (List.mem_of_getElem? (i := 3) rfl)) (by decide) (by decide)) (g := (mkF m 143 #[.val (.int p0), .val (.int p1), .val (.int p2), .val (.int p3), .val (.int p4), .val (.int (1 : Int32)), .val (.int v0), .val (.int v1), .val (.int v2), .val (.ref b1), .val (.int ex), .unset, .unset] [(.int p4), (.ref b1)])) rfl (by rw [hml]; rfl) (argsL := [(.ref b1), (.int p4)]) (rest := []) (lenOf pd_0 rfl) rfl (by show 2 * 0 + _ ≤ _; exact Nat.le_of_eq rfl) (hb hby at_143) (fun _ _ => ⟨rfl, e41, (by decide : 1 + 0 ≤ _), (by decide : 1 + 0 ≤ _)⟩)
    dsimp only [Pt.U, Pt.locs, Pt.cells, Pt.slots] at X49 l49 y49 z49 st49 hQ49
    subst l49 y49 z49
    obtain ⟨rfl, Nq49, eq49⟩ := hQ49
    have N49 := Fr.app N41 Nq49
    have g50 : own_Go p e below s₁ (entryFrame m #[(.int p0), (.int p1), (.int p2), (.int p3), (.int p4)] maxLocals) T49 (mkF m 146 #[.val (.int p0), .val (.int p1), .val (.int p2), .val (.int p3), .val (.int p4), .val (.int (1 : Int32)), .val (.int v0), .val (.int v1), .val (.int v2), .val (.ref b1), .val (.int ex), .unset, .unset] [(.int (own_has f p4 0 1))]) := fun target kt => g48 target (st49 target kt)
    obtain ⟨cf, Bf, Sf, Hf⟩ := V
    have hat0 : cf.slots[Int32.toNatClampNeg (0 : Int32)]? = some (.int v0) := by rw [← f0]; exact Hf 0 (by decide)
    have hq : own_has f p4 0 1 = ex := by
      rw [hm47, ← f0]
      rfl
    have g51 : own_Go p e below s₁ (entryFrame m #[(.int p0), (.int p1), (.int p2), (.int p3), (.int p4)] maxLocals) T49 (mkF m 216 #[.val (.int p0), .val (.int p1), .val (.int p2), .val (.int p3), .val (.int p4), .val (.int (1 : Int32)), .val (.int v0), .val (.int v1), .val (.int v2), .val (.ref b1), .val (.int ex), .val (.int (own_has f p4 0 1)), .val (.int (1 : Int32))] [(.int (1 : Int32))]) := by
      intro target kt
      refine g50 target ?_
      refine XS.istore X49.here hx rfl (hb hby at_146) rfl (l' := #[.val (.int p0), .val (.int p1), .val (.int p2), .val (.int p3), .val (.int p4), .val (.int (1 : Int32)), .val (.int v0), .val (.int v1), .val (.int v2), .val (.ref b1), .val (.int ex), .val (.int (own_has f p4 0 1)), .unset]) rfl ?_
      show Steps p.tables e below (T49.setTop (mkF m 148 #[.val (.int p0), .val (.int p1), .val (.int p2), .val (.int p3), .val (.int p4), .val (.int (1 : Int32)), .val (.int v0), .val (.int v1), .val (.int v2), .val (.ref b1), .val (.int ex), .val (.int (own_has f p4 0 1)), .unset] [])) target
      refine XS.iload X49.here hx rfl (hb hby at_148) rfl ?_
      show Steps p.tables e below (T49.setTop (mkF m 150 #[.val (.int p0), .val (.int p1), .val (.int p2), .val (.int p3), .val (.int p4), .val (.int (1 : Int32)), .val (.int v0), .val (.int v1), .val (.int v2), .val (.ref b1), .val (.int ex), .val (.int (own_has f p4 0 1)), .unset] [(.int (1 : Int32))])) target
      refine XS.ifNo X49.here hx rfl (hb hby at_150) rfl (XT.i0_le_f (by decide)) ?_
      show Steps p.tables e below (T49.setTop (mkF m 153 #[.val (.int p0), .val (.int p1), .val (.int p2), .val (.int p3), .val (.int p4), .val (.int (1 : Int32)), .val (.int v0), .val (.int v1), .val (.int v2), .val (.ref b1), .val (.int ex), .val (.int (own_has f p4 0 1)), .unset] [])) target
      refine XS.aload X49.here hx rfl (hb hby at_153) rfl rfl ?_
      show Steps p.tables e below (T49.setTop (mkF m 155 #[.val (.int p0), .val (.int p1), .val (.int p2), .val (.int p3), .val (.int p4), .val (.int (1 : Int32)), .val (.int v0), .val (.int v1), .val (.int v2), .val (.ref b1), .val (.int ex), .val (.int (own_has f p4 0 1)), .unset] [(.ref b1)])) target
      refine XT.iconstV X49.here hx rfl (0 : Int32) (hb hby at_155) rfl ?_
      show Steps p.tables e below (T49.setTop (mkF m 156 #[.val (.int p0), .val (.int p1), .val (.int p2), .val (.int p3), .val (.int p4), .val (.int (1 : Int32)), .val (.int v0), .val (.int v1), .val (.int v2), .val (.ref b1), .val (.int ex), .val (.int (own_has f p4 0 1)), .unset] [(.int (0 : Int32)), (.ref b1)])) target
      refine X49.iaload hx (j := (0 : Int32)) (v := (.int v0)) (by rw [eq49]; exact Bf.1) (State.isArrayOf_alike hZ.alike Bf.2.1) Bf.2.2 (by rw [Sf]; decide) hat0 (g := (mkF m 156 #[.val (.int p0), .val (.int p1), .val (.int p2), .val (.int p3), .val (.int p4), .val (.int (1 : Int32)), .val (.int v0), .val (.int v1), .val (.int v2), .val (.ref b1), .val (.int ex), .val (.int (own_has f p4 0 1)), .unset] [(.int (0 : Int32)), (.ref b1)])) rfl rfl (hb hby at_156) _ ?_
      show Steps p.tables e below (T49.setTop (mkF m 157 #[.val (.int p0), .val (.int p1), .val (.int p2), .val (.int p3), .val (.int p4), .val (.int (1 : Int32)), .val (.int v0), .val (.int v1), .val (.int v2), .val (.ref b1), .val (.int ex), .val (.int (own_has f p4 0 1)), .unset] [(.int v0)])) target
      refine XS.iload X49.here hx rfl (hb hby at_157) rfl ?_
      show Steps p.tables e below (T49.setTop (mkF m 159 #[.val (.int p0), .val (.int p1), .val (.int p2), .val (.int p3), .val (.int p4), .val (.int (1 : Int32)), .val (.int v0), .val (.int v1), .val (.int v2), .val (.ref b1), .val (.int ex), .val (.int (own_has f p4 0 1)), .unset] [(.int v0), (.int v0)])) target
      refine XS.icmpNo X49.here hx rfl (hb hby at_159) rfl (XT.ii_ne_f rfl) ?_
      show Steps p.tables e below (T49.setTop (mkF m 162 #[.val (.int p0), .val (.int p1), .val (.int p2), .val (.int p3), .val (.int p4), .val (.int (1 : Int32)), .val (.int v0), .val (.int v1), .val (.int v2), .val (.ref b1), .val (.int ex), .val (.int (own_has f p4 0 1)), .unset] [])) target
      refine XS.iload X49.here hx rfl (hb hby at_162) rfl ?_
      show Steps p.tables e below (T49.setTop (mkF m 164 #[.val (.int p0), .val (.int p1), .val (.int p2), .val (.int p3), .val (.int p4), .val (.int (1 : Int32)), .val (.int v0), .val (.int v1), .val (.int v2), .val (.ref b1), .val (.int ex), .val (.int (own_has f p4 0 1)), .unset] [(.int (1 : Int32))])) target
      refine XT.iconstV X49.here hx rfl (1 : Int32) (hb hby at_164) rfl ?_
      show Steps p.tables e below (T49.setTop (mkF m 165 #[.val (.int p0), .val (.int p1), .val (.int p2), .val (.int p3), .val (.int p4), .val (.int (1 : Int32)), .val (.int v0), .val (.int v1), .val (.int v2), .val (.ref b1), .val (.int ex), .val (.int (own_has f p4 0 1)), .unset] [(.int (1 : Int32)), (.int (1 : Int32))])) target
      refine XS.icmpYes X49.here hx rfl (pc0 := 165) (pc' := 177) rfl (hb hby at_165) rfl (XT.ii_le_t (by decide)) (by decide) (by decide) ?_
      show Steps p.tables e below (T49.setTop (mkF m 177 #[.val (.int p0), .val (.int p1), .val (.int p2), .val (.int p3), .val (.int p4), .val (.int (1 : Int32)), .val (.int v0), .val (.int v1), .val (.int v2), .val (.ref b1), .val (.int ex), .val (.int (own_has f p4 0 1)), .unset] [])) target
      refine XS.iload X49.here hx rfl (hb hby at_177) rfl ?_
      show Steps p.tables e below (T49.setTop (mkF m 179 #[.val (.int p0), .val (.int p1), .val (.int p2), .val (.int p3), .val (.int p4), .val (.int (1 : Int32)), .val (.int v0), .val (.int v1), .val (.int v2), .val (.ref b1), .val (.int ex), .val (.int (own_has f p4 0 1)), .unset] [(.int (1 : Int32))])) target
      refine XT.iconstV X49.here hx rfl (2 : Int32) (hb hby at_179) rfl ?_
      show Steps p.tables e below (T49.setTop (mkF m 180 #[.val (.int p0), .val (.int p1), .val (.int p2), .val (.int p3), .val (.int p4), .val (.int (1 : Int32)), .val (.int v0), .val (.int v1), .val (.int v2), .val (.ref b1), .val (.int ex), .val (.int (own_has f p4 0 1)), .unset] [(.int (2 : Int32)), (.int (1 : Int32))])) target
      refine XS.icmpYes X49.here hx rfl (pc0 := 180) (pc' := 192) rfl (hb hby at_180) rfl (XT.ii_le_t (by decide)) (by decide) (by decide) ?_
      show Steps p.tables e below (T49.setTop (mkF m 192 #[.val (.int p0), .val (.int p1), .val (.int p2), .val (.int p3), .val (.int p4), .val (.int (1 : Int32)), .val (.int v0), .val (.int v1), .val (.int v2), .val (.ref b1), .val (.int ex), .val (.int (own_has f p4 0 1)), .unset] [])) target
      refine XT.iconstV X49.here hx rfl (1 : Int32) (hb hby at_192) rfl ?_
      show Steps p.tables e below (T49.setTop (mkF m 193 #[.val (.int p0), .val (.int p1), .val (.int p2), .val (.int p3), .val (.int p4), .val (.int (1 : Int32)), .val (.int v0), .val (.int v1), .val (.int v2), .val (.ref b1), .val (.int ex), .val (.int (own_has f p4 0 1)), .unset] [(.int (1 : Int32))])) target
      refine XS.goto X49.here hx rfl (pc0 := 193) (pc' := 197) rfl (hb hby at_193) (by decide) (by decide) ?_
      show Steps p.tables e below (T49.setTop (mkF m 197 #[.val (.int p0), .val (.int p1), .val (.int p2), .val (.int p3), .val (.int p4), .val (.int (1 : Int32)), .val (.int v0), .val (.int v1), .val (.int v2), .val (.ref b1), .val (.int ex), .val (.int (own_has f p4 0 1)), .unset] [(.int (1 : Int32))])) target
      refine XS.istore X49.here hx rfl (hb hby at_197) rfl (l' := #[.val (.int p0), .val (.int p1), .val (.int p2), .val (.int p3), .val (.int p4), .val (.int (1 : Int32)), .val (.int v0), .val (.int v1), .val (.int v2), .val (.ref b1), .val (.int ex), .val (.int (own_has f p4 0 1)), .val (.int (1 : Int32))]) rfl ?_
      show Steps p.tables e below (T49.setTop (mkF m 199 #[.val (.int p0), .val (.int p1), .val (.int p2), .val (.int p3), .val (.int p4), .val (.int (1 : Int32)), .val (.int v0), .val (.int v1), .val (.int v2), .val (.ref b1), .val (.int ex), .val (.int (own_has f p4 0 1)), .val (.int (1 : Int32))] [])) target
      refine XS.iload X49.here hx rfl (hb hby at_199) rfl ?_
      show Steps p.tables e below (T49.setTop (mkF m 201 #[.val (.int p0), .val (.int p1), .val (.int p2), .val (.int p3), .val (.int p4), .val (.int (1 : Int32)), .val (.int v0), .val (.int v1), .val (.int v2), .val (.ref b1), .val (.int ex), .val (.int (own_has f p4 0 1)), .val (.int (1 : Int32))] [(.int (own_has f p4 0 1))])) target
      refine XS.iload X49.here hx rfl (hb hby at_201) rfl ?_
      show Steps p.tables e below (T49.setTop (mkF m 203 #[.val (.int p0), .val (.int p1), .val (.int p2), .val (.int p3), .val (.int p4), .val (.int (1 : Int32)), .val (.int v0), .val (.int v1), .val (.int v2), .val (.ref b1), .val (.int ex), .val (.int (own_has f p4 0 1)), .val (.int (1 : Int32))] [(.int ex), (.int (own_has f p4 0 1))])) target
      refine XS.icmpNo X49.here hx rfl (hb hby at_203) rfl (XT.ii_ne_f hq) ?_
      show Steps p.tables e below (T49.setTop (mkF m 206 #[.val (.int p0), .val (.int p1), .val (.int p2), .val (.int p3), .val (.int p4), .val (.int (1 : Int32)), .val (.int v0), .val (.int v1), .val (.int v2), .val (.ref b1), .val (.int ex), .val (.int (own_has f p4 0 1)), .val (.int (1 : Int32))] [])) target
      refine XS.iload X49.here hx rfl (hb hby at_206) rfl ?_
      show Steps p.tables e below (T49.setTop (mkF m 208 #[.val (.int p0), .val (.int p1), .val (.int p2), .val (.int p3), .val (.int p4), .val (.int (1 : Int32)), .val (.int v0), .val (.int v1), .val (.int v2), .val (.ref b1), .val (.int ex), .val (.int (own_has f p4 0 1)), .val (.int (1 : Int32))] [(.int (1 : Int32))])) target
      refine XS.ifNo X49.here hx rfl (hb hby at_208) rfl (XT.i0_eq_f (by decide)) ?_
      show Steps p.tables e below (T49.setTop (mkF m 211 #[.val (.int p0), .val (.int p1), .val (.int p2), .val (.int p3), .val (.int p4), .val (.int (1 : Int32)), .val (.int v0), .val (.int v1), .val (.int v2), .val (.ref b1), .val (.int ex), .val (.int (own_has f p4 0 1)), .val (.int (1 : Int32))] [])) target
      refine XT.iconstV X49.here hx rfl (1 : Int32) (hb hby at_211) rfl ?_
      show Steps p.tables e below (T49.setTop (mkF m 212 #[.val (.int p0), .val (.int p1), .val (.int p2), .val (.int p3), .val (.int p4), .val (.int (1 : Int32)), .val (.int v0), .val (.int v1), .val (.int v2), .val (.ref b1), .val (.int ex), .val (.int (own_has f p4 0 1)), .val (.int (1 : Int32))] [(.int (1 : Int32))])) target
      refine XS.goto X49.here hx rfl (pc0 := 212) (pc' := 216) rfl (hb hby at_212) (by decide) (by decide) ?_
      show Steps p.tables e below (T49.setTop (mkF m 216 #[.val (.int p0), .val (.int p1), .val (.int p2), .val (.int p3), .val (.int p4), .val (.int (1 : Int32)), .val (.int v0), .val (.int v1), .val (.int v2), .val (.ref b1), .val (.int ex), .val (.int (own_has f p4 0 1)), .val (.int (1 : Int32))] [(.int (1 : Int32))])) target
      exact kt
    obtain ⟨fs, hr, hrun, hended, hW, hsame⟩ := X49.leave (v := some (.int (nar .boolean (1 : Int32)))) (fun h => by rw [Bd.returns] at h; cases h)
    refine ⟨_, _, g51 _ ?_, hrun, hended, _, _, rfl, ?_, ⟨_, rfl⟩, hW, hsame.mono (by decide) (by decide)⟩
    · exact retN X49 hx (t := .boolean) Bd.returns (by simp) (hb hby at_216) hr
    · show Q_rm0 Z p0 p1 p2 p3 p4  h0 n0 _ T49.heap _
      rw [eq49]
      exact ⟨rfl, N49⟩
  · subst hn
    obtain ⟨T52, h52, k52, X52, e52, E52, A52, st52⟩ := newP X0 hx hZ (hw _ (List.mem_of_getElem? (i := 0) rfl)) e0 (g := (mkF m 55 #[.val (.int p0), .val (.int p1), .val (.int p2), .val (.int p3), .val (.int p4), .val (.int (2 : Int32)), .val (.int v0), .val (.int v1), .val (.int v2), .unset, .unset, .unset, .unset] [(.int (2 : Int32))])) rfl (hb hby at_55) rfl (by decide) (cap := 2) (by decide) (by decide) (by decide) (by decide)
    obtain ⟨b1, ga52⟩ : ∃ z, z = h0.size := ⟨_, rfl⟩
    rw [← ga52] at A52 st52
    have Z52 : n0 ≤ h52.size := Nat.le_trans Z0 E52.1
    have g_b1 : n0 ≤ b1 := Nat.le_trans Z0 (Nat.le_of_eq ga52.symm)
    have g53 : own_Go p e below s₁ (entryFrame m #[(.int p0), (.int p1), (.int p2), (.int p3), (.int p4)] maxLocals) T52 (mkF m 57 #[.val (.int p0), .val (.int p1), .val (.int p2), .val (.int p3), .val (.int p4), .val (.int (2 : Int32)), .val (.int v0), .val (.int v1), .val (.int v2), .unset, .unset, .unset, .unset] [(.ref b1)]) := fun target kt => g31 target (st52 target kt)
    have V0 := own_new A52 (n := 2) (by decide)
    obtain ⟨c0, B0, S0, H0⟩ := V0
    have g54 : own_Go p e below s₁ (entryFrame m #[(.int p0), (.int p1), (.int p2), (.int p3), (.int p4)] maxLocals) T52 (mkF m 69 #[.val (.int p0), .val (.int p1), .val (.int p2), .val (.int p3), .val (.int p4), .val (.int (2 : Int32)), .val (.int v0), .val (.int v1), .val (.int v2), .val (.ref b1), .unset, .unset, .unset] [(.int v0), (.int (0 : Int32)), (.ref b1)]) := by
      intro target kt
      refine g53 target ?_
      refine XS.astore X52.here hx rfl (hb hby at_57) rfl rfl (l' := #[.val (.int p0), .val (.int p1), .val (.int p2), .val (.int p3), .val (.int p4), .val (.int (2 : Int32)), .val (.int v0), .val (.int v1), .val (.int v2), .val (.ref b1), .unset, .unset, .unset]) rfl ?_
      show Steps p.tables e below (T52.setTop (mkF m 59 #[.val (.int p0), .val (.int p1), .val (.int p2), .val (.int p3), .val (.int p4), .val (.int (2 : Int32)), .val (.int v0), .val (.int v1), .val (.int v2), .val (.ref b1), .unset, .unset, .unset] [])) target
      refine XS.iload X52.here hx rfl (hb hby at_59) rfl ?_
      show Steps p.tables e below (T52.setTop (mkF m 61 #[.val (.int p0), .val (.int p1), .val (.int p2), .val (.int p3), .val (.int p4), .val (.int (2 : Int32)), .val (.int v0), .val (.int v1), .val (.int v2), .val (.ref b1), .unset, .unset, .unset] [(.int (2 : Int32))])) target
      refine XS.ifNo X52.here hx rfl (hb hby at_61) rfl (XT.i0_le_f (by decide)) ?_
      show Steps p.tables e below (T52.setTop (mkF m 64 #[.val (.int p0), .val (.int p1), .val (.int p2), .val (.int p3), .val (.int p4), .val (.int (2 : Int32)), .val (.int v0), .val (.int v1), .val (.int v2), .val (.ref b1), .unset, .unset, .unset] [])) target
      refine XS.aload X52.here hx rfl (hb hby at_64) rfl rfl ?_
      show Steps p.tables e below (T52.setTop (mkF m 66 #[.val (.int p0), .val (.int p1), .val (.int p2), .val (.int p3), .val (.int p4), .val (.int (2 : Int32)), .val (.int v0), .val (.int v1), .val (.int v2), .val (.ref b1), .unset, .unset, .unset] [(.ref b1)])) target
      refine XT.iconstV X52.here hx rfl (0 : Int32) (hb hby at_66) rfl ?_
      show Steps p.tables e below (T52.setTop (mkF m 67 #[.val (.int p0), .val (.int p1), .val (.int p2), .val (.int p3), .val (.int p4), .val (.int (2 : Int32)), .val (.int v0), .val (.int v1), .val (.int v2), .val (.ref b1), .unset, .unset, .unset] [(.int (0 : Int32)), (.ref b1)])) target
      refine XS.iload X52.here hx rfl (hb hby at_67) rfl ?_
      show Steps p.tables e below (T52.setTop (mkF m 69 #[.val (.int p0), .val (.int p1), .val (.int p2), .val (.int p3), .val (.int p4), .val (.int (2 : Int32)), .val (.int v0), .val (.int v1), .val (.int v2), .val (.ref b1), .unset, .unset, .unset] [(.int v0), (.int (0 : Int32)), (.ref b1)])) target
      exact kt
    obtain ⟨T55, h55, X55, e55, W55, st55⟩ := stI X52 hx hZ e52 B0 (j := (0 : Int32)) (by rw [S0]; decide) (g := (mkF m 69 #[.val (.int p0), .val (.int p1), .val (.int p2), .val (.int p3), .val (.int p4), .val (.int (2 : Int32)), .val (.int v0), .val (.int v1), .val (.int v2), .val (.ref b1), .unset, .unset, .unset] [(.int v0), (.int (0 : Int32)), (.ref b1)])) rfl rfl (hb hby at_69)
    have g56 : own_Go p e below s₁ (entryFrame m #[(.int p0), (.int p1), (.int p2), (.int p3), (.int p4)] maxLocals) T55 (mkF m 70 #[.val (.int p0), .val (.int p1), .val (.int p2), .val (.int p3), .val (.int p4), .val (.int (2 : Int32)), .val (.int v0), .val (.int v1), .val (.int v2), .val (.ref b1), .unset, .unset, .unset] []) := fun target kt => g54 target (st55 target kt)
    have N55 := Fr.snoc X55 N0 g_b1
    have Z55 : n0 ≤ h55.size := Nat.le_trans Z52 (Keep.of_wr W55).1
    have V1 := own_set B0 S0 H0 W55 (by decide)
    obtain ⟨c1, B1, S1, H1⟩ := V1
    have g57 : own_Go p e below s₁ (entryFrame m #[(.int p0), (.int p1), (.int p2), (.int p3), (.int p4)] maxLocals) T55 (mkF m 81 #[.val (.int p0), .val (.int p1), .val (.int p2), .val (.int p3), .val (.int p4), .val (.int (2 : Int32)), .val (.int v0), .val (.int v1), .val (.int v2), .val (.ref b1), .unset, .unset, .unset] [(.int v1), (.int (1 : Int32)), (.ref b1)]) := by
      intro target kt
      refine g56 target ?_
      refine XS.iload X55.here hx rfl (hb hby at_70) rfl ?_
      show Steps p.tables e below (T55.setTop (mkF m 72 #[.val (.int p0), .val (.int p1), .val (.int p2), .val (.int p3), .val (.int p4), .val (.int (2 : Int32)), .val (.int v0), .val (.int v1), .val (.int v2), .val (.ref b1), .unset, .unset, .unset] [(.int (2 : Int32))])) target
      refine XT.iconstV X55.here hx rfl (1 : Int32) (hb hby at_72) rfl ?_
      show Steps p.tables e below (T55.setTop (mkF m 73 #[.val (.int p0), .val (.int p1), .val (.int p2), .val (.int p3), .val (.int p4), .val (.int (2 : Int32)), .val (.int v0), .val (.int v1), .val (.int v2), .val (.ref b1), .unset, .unset, .unset] [(.int (1 : Int32)), (.int (2 : Int32))])) target
      refine XS.icmpNo X55.here hx rfl (hb hby at_73) rfl (XT.ii_le_f (by decide)) ?_
      show Steps p.tables e below (T55.setTop (mkF m 76 #[.val (.int p0), .val (.int p1), .val (.int p2), .val (.int p3), .val (.int p4), .val (.int (2 : Int32)), .val (.int v0), .val (.int v1), .val (.int v2), .val (.ref b1), .unset, .unset, .unset] [])) target
      refine XS.aload X55.here hx rfl (hb hby at_76) rfl rfl ?_
      show Steps p.tables e below (T55.setTop (mkF m 78 #[.val (.int p0), .val (.int p1), .val (.int p2), .val (.int p3), .val (.int p4), .val (.int (2 : Int32)), .val (.int v0), .val (.int v1), .val (.int v2), .val (.ref b1), .unset, .unset, .unset] [(.ref b1)])) target
      refine XT.iconstV X55.here hx rfl (1 : Int32) (hb hby at_78) rfl ?_
      show Steps p.tables e below (T55.setTop (mkF m 79 #[.val (.int p0), .val (.int p1), .val (.int p2), .val (.int p3), .val (.int p4), .val (.int (2 : Int32)), .val (.int v0), .val (.int v1), .val (.int v2), .val (.ref b1), .unset, .unset, .unset] [(.int (1 : Int32)), (.ref b1)])) target
      refine XS.iload X55.here hx rfl (hb hby at_79) rfl ?_
      show Steps p.tables e below (T55.setTop (mkF m 81 #[.val (.int p0), .val (.int p1), .val (.int p2), .val (.int p3), .val (.int p4), .val (.int (2 : Int32)), .val (.int v0), .val (.int v1), .val (.int v2), .val (.ref b1), .unset, .unset, .unset] [(.int v1), (.int (1 : Int32)), (.ref b1)])) target
      exact kt
    obtain ⟨T58, h58, X58, e58, W58, st58⟩ := stI X55 hx hZ e55 B1 (j := (1 : Int32)) (by rw [S1]; decide) (g := (mkF m 81 #[.val (.int p0), .val (.int p1), .val (.int p2), .val (.int p3), .val (.int p4), .val (.int (2 : Int32)), .val (.int v0), .val (.int v1), .val (.int v2), .val (.ref b1), .unset, .unset, .unset] [(.int v1), (.int (1 : Int32)), (.ref b1)])) rfl rfl (hb hby at_81)
    have g59 : own_Go p e below s₁ (entryFrame m #[(.int p0), (.int p1), (.int p2), (.int p3), (.int p4)] maxLocals) T58 (mkF m 82 #[.val (.int p0), .val (.int p1), .val (.int p2), .val (.int p3), .val (.int p4), .val (.int (2 : Int32)), .val (.int v0), .val (.int v1), .val (.int v2), .val (.ref b1), .unset, .unset, .unset] []) := fun target kt => g57 target (st58 target kt)
    have N58 := Fr.snoc X58 N55 g_b1
    have Z58 : n0 ≤ h58.size := Nat.le_trans Z55 (Keep.of_wr W58).1
    have V2 := own_set B1 S1 H1 W58 (by decide)
    obtain ⟨f, ef⟩ : ∃ f : Nat → Int32, f = (fun j => if j = Int32.toNatClampNeg (1 : Int32) then v1 else (fun j => if j = Int32.toNatClampNeg (0 : Int32) then v0 else 0) j) := ⟨_, rfl⟩
    have V : own_Ai Z h58 b1 2 f := by rw [ef]; exact V2
    have f0 : f 0 = v0 := by rw [ef]; rfl
    have f1 : f 1 = v1 := by rw [ef]; rfl
    obtain ⟨ex, hm67, g67⟩ : ∃ (ex : Int32), (ex = (if v0 = p4 then (1 : Int32) else (if v1 = p4 then (1 : Int32) else (0 : Int32)))) ∧ own_Go p e below s₁ (entryFrame m #[(.int p0), (.int p1), (.int p2), (.int p3), (.int p4)] maxLocals) T58 (mkF m 137 #[.val (.int p0), .val (.int p1), .val (.int p2), .val (.int p3), .val (.int p4), .val (.int (2 : Int32)), .val (.int v0), .val (.int v1), .val (.int v2), .val (.ref b1), .unset, .unset, .unset] [(.int ex)]) := by
      have g60 : own_Go p e below s₁ (entryFrame m #[(.int p0), (.int p1), (.int p2), (.int p3), (.int p4)] maxLocals) T58 (mkF m 103 #[.val (.int p0), .val (.int p1), .val (.int p2), .val (.int p3), .val (.int p4), .val (.int (2 : Int32)), .val (.int v0), .val (.int v1), .val (.int v2), .val (.ref b1), .unset, .unset, .unset] [(.int p4), (.int v0)]) := by
        intro target kt
        refine g59 target ?_
        refine XS.iload X58.here hx rfl (hb hby at_82) rfl ?_
        show Steps p.tables e below (T58.setTop (mkF m 84 #[.val (.int p0), .val (.int p1), .val (.int p2), .val (.int p3), .val (.int p4), .val (.int (2 : Int32)), .val (.int v0), .val (.int v1), .val (.int v2), .val (.ref b1), .unset, .unset, .unset] [(.int (2 : Int32))])) target
        refine XT.iconstV X58.here hx rfl (2 : Int32) (hb hby at_84) rfl ?_
        show Steps p.tables e below (T58.setTop (mkF m 85 #[.val (.int p0), .val (.int p1), .val (.int p2), .val (.int p3), .val (.int p4), .val (.int (2 : Int32)), .val (.int v0), .val (.int v1), .val (.int v2), .val (.ref b1), .unset, .unset, .unset] [(.int (2 : Int32)), (.int (2 : Int32))])) target
        refine XS.icmpYes X58.here hx rfl (pc0 := 85) (pc' := 94) rfl (hb hby at_85) rfl (XT.ii_le_t (by decide)) (by decide) (by decide) ?_
        show Steps p.tables e below (T58.setTop (mkF m 94 #[.val (.int p0), .val (.int p1), .val (.int p2), .val (.int p3), .val (.int p4), .val (.int (2 : Int32)), .val (.int v0), .val (.int v1), .val (.int v2), .val (.ref b1), .unset, .unset, .unset] [])) target
        refine XS.iload X58.here hx rfl (hb hby at_94) rfl ?_
        show Steps p.tables e below (T58.setTop (mkF m 96 #[.val (.int p0), .val (.int p1), .val (.int p2), .val (.int p3), .val (.int p4), .val (.int (2 : Int32)), .val (.int v0), .val (.int v1), .val (.int v2), .val (.ref b1), .unset, .unset, .unset] [(.int (2 : Int32))])) target
        refine XS.ifNo X58.here hx rfl (hb hby at_96) rfl (XT.i0_le_f (by decide)) ?_
        show Steps p.tables e below (T58.setTop (mkF m 99 #[.val (.int p0), .val (.int p1), .val (.int p2), .val (.int p3), .val (.int p4), .val (.int (2 : Int32)), .val (.int v0), .val (.int v1), .val (.int v2), .val (.ref b1), .unset, .unset, .unset] [])) target
        refine XS.iload X58.here hx rfl (hb hby at_99) rfl ?_
        show Steps p.tables e below (T58.setTop (mkF m 101 #[.val (.int p0), .val (.int p1), .val (.int p2), .val (.int p3), .val (.int p4), .val (.int (2 : Int32)), .val (.int v0), .val (.int v1), .val (.int v2), .val (.ref b1), .unset, .unset, .unset] [(.int v0)])) target
        refine XS.iload X58.here hx rfl (hb hby at_101) rfl ?_
        show Steps p.tables e below (T58.setTop (mkF m 103 #[.val (.int p0), .val (.int p1), .val (.int p2), .val (.int p3), .val (.int p4), .val (.int (2 : Int32)), .val (.int v0), .val (.int v1), .val (.int v2), .val (.ref b1), .unset, .unset, .unset] [(.int p4), (.int v0)])) target
        exact kt
      by_cases hc61 : v0 = p4
      · have g62 : own_Go p e below s₁ (entryFrame m #[(.int p0), (.int p1), (.int p2), (.int p3), (.int p4)] maxLocals) T58 (mkF m 137 #[.val (.int p0), .val (.int p1), .val (.int p2), .val (.int p3), .val (.int p4), .val (.int (2 : Int32)), .val (.int v0), .val (.int v1), .val (.int v2), .val (.ref b1), .unset, .unset, .unset] [(.int (1 : Int32))]) := by
          intro target kt
          refine g60 target ?_
          refine XS.icmpYes X58.here hx rfl (pc0 := 103) (pc' := 132) rfl (hb hby at_103) rfl (XT.ii_eq_t hc61) (by decide) (by decide) ?_
          show Steps p.tables e below (T58.setTop (mkF m 132 #[.val (.int p0), .val (.int p1), .val (.int p2), .val (.int p3), .val (.int p4), .val (.int (2 : Int32)), .val (.int v0), .val (.int v1), .val (.int v2), .val (.ref b1), .unset, .unset, .unset] [])) target
          refine XT.iconstV X58.here hx rfl (1 : Int32) (hb hby at_132) rfl ?_
          show Steps p.tables e below (T58.setTop (mkF m 133 #[.val (.int p0), .val (.int p1), .val (.int p2), .val (.int p3), .val (.int p4), .val (.int (2 : Int32)), .val (.int v0), .val (.int v1), .val (.int v2), .val (.ref b1), .unset, .unset, .unset] [(.int (1 : Int32))])) target
          refine XS.goto X58.here hx rfl (pc0 := 133) (pc' := 137) rfl (hb hby at_133) (by decide) (by decide) ?_
          show Steps p.tables e below (T58.setTop (mkF m 137 #[.val (.int p0), .val (.int p1), .val (.int p2), .val (.int p3), .val (.int p4), .val (.int (2 : Int32)), .val (.int v0), .val (.int v1), .val (.int v2), .val (.ref b1), .unset, .unset, .unset] [(.int (1 : Int32))])) target
          exact kt
        exact ⟨(1 : Int32), (by simp only [if_pos hc61]), g62⟩
      · have g63 : own_Go p e below s₁ (entryFrame m #[(.int p0), (.int p1), (.int p2), (.int p3), (.int p4)] maxLocals) T58 (mkF m 116 #[.val (.int p0), .val (.int p1), .val (.int p2), .val (.int p3), .val (.int p4), .val (.int (2 : Int32)), .val (.int v0), .val (.int v1), .val (.int v2), .val (.ref b1), .unset, .unset, .unset] [(.int p4), (.int v1)]) := by
          intro target kt
          refine g60 target ?_
          refine XS.icmpNo X58.here hx rfl (hb hby at_103) rfl (XT.ii_eq_f hc61) ?_
          show Steps p.tables e below (T58.setTop (mkF m 106 #[.val (.int p0), .val (.int p1), .val (.int p2), .val (.int p3), .val (.int p4), .val (.int (2 : Int32)), .val (.int v0), .val (.int v1), .val (.int v2), .val (.ref b1), .unset, .unset, .unset] [])) target
          refine XS.iload X58.here hx rfl (hb hby at_106) rfl ?_
          show Steps p.tables e below (T58.setTop (mkF m 108 #[.val (.int p0), .val (.int p1), .val (.int p2), .val (.int p3), .val (.int p4), .val (.int (2 : Int32)), .val (.int v0), .val (.int v1), .val (.int v2), .val (.ref b1), .unset, .unset, .unset] [(.int (2 : Int32))])) target
          refine XT.iconstV X58.here hx rfl (1 : Int32) (hb hby at_108) rfl ?_
          show Steps p.tables e below (T58.setTop (mkF m 109 #[.val (.int p0), .val (.int p1), .val (.int p2), .val (.int p3), .val (.int p4), .val (.int (2 : Int32)), .val (.int v0), .val (.int v1), .val (.int v2), .val (.ref b1), .unset, .unset, .unset] [(.int (1 : Int32)), (.int (2 : Int32))])) target
          refine XS.icmpNo X58.here hx rfl (hb hby at_109) rfl (XT.ii_le_f (by decide)) ?_
          show Steps p.tables e below (T58.setTop (mkF m 112 #[.val (.int p0), .val (.int p1), .val (.int p2), .val (.int p3), .val (.int p4), .val (.int (2 : Int32)), .val (.int v0), .val (.int v1), .val (.int v2), .val (.ref b1), .unset, .unset, .unset] [])) target
          refine XS.iload X58.here hx rfl (hb hby at_112) rfl ?_
          show Steps p.tables e below (T58.setTop (mkF m 114 #[.val (.int p0), .val (.int p1), .val (.int p2), .val (.int p3), .val (.int p4), .val (.int (2 : Int32)), .val (.int v0), .val (.int v1), .val (.int v2), .val (.ref b1), .unset, .unset, .unset] [(.int v1)])) target
          refine XS.iload X58.here hx rfl (hb hby at_114) rfl ?_
          show Steps p.tables e below (T58.setTop (mkF m 116 #[.val (.int p0), .val (.int p1), .val (.int p2), .val (.int p3), .val (.int p4), .val (.int (2 : Int32)), .val (.int v0), .val (.int v1), .val (.int v2), .val (.ref b1), .unset, .unset, .unset] [(.int p4), (.int v1)])) target
          exact kt
        by_cases hc64 : v1 = p4
        · have g65 : own_Go p e below s₁ (entryFrame m #[(.int p0), (.int p1), (.int p2), (.int p3), (.int p4)] maxLocals) T58 (mkF m 137 #[.val (.int p0), .val (.int p1), .val (.int p2), .val (.int p3), .val (.int p4), .val (.int (2 : Int32)), .val (.int v0), .val (.int v1), .val (.int v2), .val (.ref b1), .unset, .unset, .unset] [(.int (1 : Int32))]) := by
            intro target kt
            refine g63 target ?_
            refine XS.icmpYes X58.here hx rfl (pc0 := 116) (pc' := 132) rfl (hb hby at_116) rfl (XT.ii_eq_t hc64) (by decide) (by decide) ?_
            show Steps p.tables e below (T58.setTop (mkF m 132 #[.val (.int p0), .val (.int p1), .val (.int p2), .val (.int p3), .val (.int p4), .val (.int (2 : Int32)), .val (.int v0), .val (.int v1), .val (.int v2), .val (.ref b1), .unset, .unset, .unset] [])) target
            refine XT.iconstV X58.here hx rfl (1 : Int32) (hb hby at_132) rfl ?_
            show Steps p.tables e below (T58.setTop (mkF m 133 #[.val (.int p0), .val (.int p1), .val (.int p2), .val (.int p3), .val (.int p4), .val (.int (2 : Int32)), .val (.int v0), .val (.int v1), .val (.int v2), .val (.ref b1), .unset, .unset, .unset] [(.int (1 : Int32))])) target
            refine XS.goto X58.here hx rfl (pc0 := 133) (pc' := 137) rfl (hb hby at_133) (by decide) (by decide) ?_
            show Steps p.tables e below (T58.setTop (mkF m 137 #[.val (.int p0), .val (.int p1), .val (.int p2), .val (.int p3), .val (.int p4), .val (.int (2 : Int32)), .val (.int v0), .val (.int v1), .val (.int v2), .val (.ref b1), .unset, .unset, .unset] [(.int (1 : Int32))])) target
            exact kt
          exact ⟨(1 : Int32), (by simp only [if_neg hc61, if_pos hc64]), g65⟩
        · have g66 : own_Go p e below s₁ (entryFrame m #[(.int p0), (.int p1), (.int p2), (.int p3), (.int p4)] maxLocals) T58 (mkF m 137 #[.val (.int p0), .val (.int p1), .val (.int p2), .val (.int p3), .val (.int p4), .val (.int (2 : Int32)), .val (.int v0), .val (.int v1), .val (.int v2), .val (.ref b1), .unset, .unset, .unset] [(.int (0 : Int32))]) := by
            intro target kt
            refine g63 target ?_
            refine XS.icmpNo X58.here hx rfl (hb hby at_116) rfl (XT.ii_eq_f hc64) ?_
            show Steps p.tables e below (T58.setTop (mkF m 119 #[.val (.int p0), .val (.int p1), .val (.int p2), .val (.int p3), .val (.int p4), .val (.int (2 : Int32)), .val (.int v0), .val (.int v1), .val (.int v2), .val (.ref b1), .unset, .unset, .unset] [])) target
            refine XS.iload X58.here hx rfl (hb hby at_119) rfl ?_
            show Steps p.tables e below (T58.setTop (mkF m 121 #[.val (.int p0), .val (.int p1), .val (.int p2), .val (.int p3), .val (.int p4), .val (.int (2 : Int32)), .val (.int v0), .val (.int v1), .val (.int v2), .val (.ref b1), .unset, .unset, .unset] [(.int (2 : Int32))])) target
            refine XT.iconstV X58.here hx rfl (2 : Int32) (hb hby at_121) rfl ?_
            show Steps p.tables e below (T58.setTop (mkF m 122 #[.val (.int p0), .val (.int p1), .val (.int p2), .val (.int p3), .val (.int p4), .val (.int (2 : Int32)), .val (.int v0), .val (.int v1), .val (.int v2), .val (.ref b1), .unset, .unset, .unset] [(.int (2 : Int32)), (.int (2 : Int32))])) target
            refine XS.icmpYes X58.here hx rfl (pc0 := 122) (pc' := 136) rfl (hb hby at_122) rfl (XT.ii_le_t (by decide)) (by decide) (by decide) ?_
            show Steps p.tables e below (T58.setTop (mkF m 136 #[.val (.int p0), .val (.int p1), .val (.int p2), .val (.int p3), .val (.int p4), .val (.int (2 : Int32)), .val (.int v0), .val (.int v1), .val (.int v2), .val (.ref b1), .unset, .unset, .unset] [])) target
            refine XT.iconstV X58.here hx rfl (0 : Int32) (hb hby at_136) rfl ?_
            show Steps p.tables e below (T58.setTop (mkF m 137 #[.val (.int p0), .val (.int p1), .val (.int p2), .val (.int p3), .val (.int p4), .val (.int (2 : Int32)), .val (.int v0), .val (.int v1), .val (.int v2), .val (.ref b1), .unset, .unset, .unset] [(.int (0 : Int32))])) target
            exact kt
          exact ⟨(0 : Int32), (by simp only [if_neg hc61, if_neg hc64]), g66⟩
    have g68 : own_Go p e below s₁ (entryFrame m #[(.int p0), (.int p1), (.int p2), (.int p3), (.int p4)] maxLocals) T58 (mkF m 143 #[.val (.int p0), .val (.int p1), .val (.int p2), .val (.int p3), .val (.int p4), .val (.int (2 : Int32)), .val (.int v0), .val (.int v1), .val (.int v2), .val (.ref b1), .val (.int ex), .unset, .unset] [(.int p4), (.ref b1)]) := by
      intro target kt
      refine g67 target ?_
      refine XS.istore X58.here hx rfl (hb hby at_137) rfl (l' := #[.val (.int p0), .val (.int p1), .val (.int p2), .val (.int p3), .val (.int p4), .val (.int (2 : Int32)), .val (.int v0), .val (.int v1), .val (.int v2), .val (.ref b1), .val (.int ex), .unset, .unset]) rfl ?_
      show Steps p.tables e below (T58.setTop (mkF m 139 #[.val (.int p0), .val (.int p1), .val (.int p2), .val (.int p3), .val (.int p4), .val (.int (2 : Int32)), .val (.int v0), .val (.int v1), .val (.int v2), .val (.ref b1), .val (.int ex), .unset, .unset] [])) target
      refine XS.aload X58.here hx rfl (hb hby at_139) rfl rfl ?_
      show Steps p.tables e below (T58.setTop (mkF m 141 #[.val (.int p0), .val (.int p1), .val (.int p2), .val (.int p3), .val (.int p4), .val (.int (2 : Int32)), .val (.int v0), .val (.int v1), .val (.int v2), .val (.ref b1), .val (.int ex), .unset, .unset] [(.ref b1)])) target
      refine XS.iload X58.here hx rfl (hb hby at_141) rfl ?_
      show Steps p.tables e below (T58.setTop (mkF m 143 #[.val (.int p0), .val (.int p1), .val (.int p2), .val (.int p3), .val (.int p4), .val (.int (2 : Int32)), .val (.int v0), .val (.int v1), .val (.int v2), .val (.ref b1), .val (.int ex), .unset, .unset] [(.int p4), (.ref b1)])) target
      exact kt
    obtain ⟨_, _, ⟨T69, L69, k69, n69⟩, -, X69, ⟨Lc69, hQ69, l69, y69, z69⟩, st69⟩ := Jvm.LawKit.callS X58 hx (y := (⟨"com/example/ends_to_means/endstomeans/model/VertexChecks", "hasMove", "([II)Z"⟩ : MethodName)) hown (mvT hZ (hw _ (List.mem_of_getElem? (i := 1) rfl))) (mvT hZ (hw _ (List.mem_of_getElem? (i := 2) rfl))) (mvT hZ (hw _ (List.mem_of_getElem? (i := 3) rfl))) (mvT hZ (hw _ (List.mem_of_getElem? (i := 4) rfl))) (by decide) (backOf (W := 0) (rm1 l Z a0 hw [] b1 p4 2 f h58 n0 Z58 V (by decide)) hZ (hw _ (List.mem_of_getElem? (i := 4) rfl)) (hw _ (List.mem_of_getElem? (i := 3) rfl)) (by decide) (by decide)) (g := (mkF m 143 #[.val (.int p0), .val (.int p1), .val (.int p2), .val (.int p3), .val (.int p4), .val (.int (2 : Int32)), .val (.int v0), .val (.int v1), .val (.int v2), .val (.ref b1), .val (.int ex), .unset, .unset] [(.int p4), (.ref b1)])) rfl (by rw [hml]; rfl) (argsL := [(.ref b1), (.int p4)]) (rest := []) (lenOf pd_0 rfl) rfl (by show 2 * 0 + _ ≤ _; exact Nat.le_of_eq rfl) (hb hby at_143) (fun _ _ => ⟨rfl, e58, (by decide : 1 + 0 ≤ _), (by decide : 2 + 0 ≤ _)⟩)
    dsimp only [Pt.U, Pt.locs, Pt.cells, Pt.slots] at X69 l69 y69 z69 st69 hQ69
    subst l69 y69 z69
    obtain ⟨rfl, Nq69, eq69⟩ := hQ69
    have N69 := Fr.app N58 Nq69
    have g70 : own_Go p e below s₁ (entryFrame m #[(.int p0), (.int p1), (.int p2), (.int p3), (.int p4)] maxLocals) T69 (mkF m 146 #[.val (.int p0), .val (.int p1), .val (.int p2), .val (.int p3), .val (.int p4), .val (.int (2 : Int32)), .val (.int v0), .val (.int v1), .val (.int v2), .val (.ref b1), .val (.int ex), .unset, .unset] [(.int (own_has f p4 0 2))]) := fun target kt => g68 target (st69 target kt)
    obtain ⟨cf, Bf, Sf, Hf⟩ := V
    have hat0 : cf.slots[Int32.toNatClampNeg (0 : Int32)]? = some (.int v0) := by rw [← f0]; exact Hf 0 (by decide)
    have hat1 : cf.slots[Int32.toNatClampNeg (1 : Int32)]? = some (.int v1) := by rw [← f1]; exact Hf 1 (by decide)
    have hq : own_has f p4 0 2 = ex := by
      rw [hm67, ← f0, ← f1]
      rfl
    have g71 : own_Go p e below s₁ (entryFrame m #[(.int p0), (.int p1), (.int p2), (.int p3), (.int p4)] maxLocals) T69 (mkF m 216 #[.val (.int p0), .val (.int p1), .val (.int p2), .val (.int p3), .val (.int p4), .val (.int (2 : Int32)), .val (.int v0), .val (.int v1), .val (.int v2), .val (.ref b1), .val (.int ex), .val (.int (own_has f p4 0 2)), .val (.int (1 : Int32))] [(.int (1 : Int32))]) := by
      intro target kt
      refine g70 target ?_
      refine XS.istore X69.here hx rfl (hb hby at_146) rfl (l' := #[.val (.int p0), .val (.int p1), .val (.int p2), .val (.int p3), .val (.int p4), .val (.int (2 : Int32)), .val (.int v0), .val (.int v1), .val (.int v2), .val (.ref b1), .val (.int ex), .val (.int (own_has f p4 0 2)), .unset]) rfl ?_
      show Steps p.tables e below (T69.setTop (mkF m 148 #[.val (.int p0), .val (.int p1), .val (.int p2), .val (.int p3), .val (.int p4), .val (.int (2 : Int32)), .val (.int v0), .val (.int v1), .val (.int v2), .val (.ref b1), .val (.int ex), .val (.int (own_has f p4 0 2)), .unset] [])) target
      refine XS.iload X69.here hx rfl (hb hby at_148) rfl ?_
      show Steps p.tables e below (T69.setTop (mkF m 150 #[.val (.int p0), .val (.int p1), .val (.int p2), .val (.int p3), .val (.int p4), .val (.int (2 : Int32)), .val (.int v0), .val (.int v1), .val (.int v2), .val (.ref b1), .val (.int ex), .val (.int (own_has f p4 0 2)), .unset] [(.int (2 : Int32))])) target
      refine XS.ifNo X69.here hx rfl (hb hby at_150) rfl (XT.i0_le_f (by decide)) ?_
      show Steps p.tables e below (T69.setTop (mkF m 153 #[.val (.int p0), .val (.int p1), .val (.int p2), .val (.int p3), .val (.int p4), .val (.int (2 : Int32)), .val (.int v0), .val (.int v1), .val (.int v2), .val (.ref b1), .val (.int ex), .val (.int (own_has f p4 0 2)), .unset] [])) target
      refine XS.aload X69.here hx rfl (hb hby at_153) rfl rfl ?_
      show Steps p.tables e below (T69.setTop (mkF m 155 #[.val (.int p0), .val (.int p1), .val (.int p2), .val (.int p3), .val (.int p4), .val (.int (2 : Int32)), .val (.int v0), .val (.int v1), .val (.int v2), .val (.ref b1), .val (.int ex), .val (.int (own_has f p4 0 2)), .unset] [(.ref b1)])) target
      refine XT.iconstV X69.here hx rfl (0 : Int32) (hb hby at_155) rfl ?_
      show Steps p.tables e below (T69.setTop (mkF m 156 #[.val (.int p0), .val (.int p1), .val (.int p2), .val (.int p3), .val (.int p4), .val (.int (2 : Int32)), .val (.int v0), .val (.int v1), .val (.int v2), .val (.ref b1), .val (.int ex), .val (.int (own_has f p4 0 2)), .unset] [(.int (0 : Int32)), (.ref b1)])) target
      refine X69.iaload hx (j := (0 : Int32)) (v := (.int v0)) (by rw [eq69]; exact Bf.1) (State.isArrayOf_alike hZ.alike Bf.2.1) Bf.2.2 (by rw [Sf]; decide) hat0 (g := (mkF m 156 #[.val (.int p0), .val (.int p1), .val (.int p2), .val (.int p3), .val (.int p4), .val (.int (2 : Int32)), .val (.int v0), .val (.int v1), .val (.int v2), .val (.ref b1), .val (.int ex), .val (.int (own_has f p4 0 2)), .unset] [(.int (0 : Int32)), (.ref b1)])) rfl rfl (hb hby at_156) _ ?_
      show Steps p.tables e below (T69.setTop (mkF m 157 #[.val (.int p0), .val (.int p1), .val (.int p2), .val (.int p3), .val (.int p4), .val (.int (2 : Int32)), .val (.int v0), .val (.int v1), .val (.int v2), .val (.ref b1), .val (.int ex), .val (.int (own_has f p4 0 2)), .unset] [(.int v0)])) target
      refine XS.iload X69.here hx rfl (hb hby at_157) rfl ?_
      show Steps p.tables e below (T69.setTop (mkF m 159 #[.val (.int p0), .val (.int p1), .val (.int p2), .val (.int p3), .val (.int p4), .val (.int (2 : Int32)), .val (.int v0), .val (.int v1), .val (.int v2), .val (.ref b1), .val (.int ex), .val (.int (own_has f p4 0 2)), .unset] [(.int v0), (.int v0)])) target
      refine XS.icmpNo X69.here hx rfl (hb hby at_159) rfl (XT.ii_ne_f rfl) ?_
      show Steps p.tables e below (T69.setTop (mkF m 162 #[.val (.int p0), .val (.int p1), .val (.int p2), .val (.int p3), .val (.int p4), .val (.int (2 : Int32)), .val (.int v0), .val (.int v1), .val (.int v2), .val (.ref b1), .val (.int ex), .val (.int (own_has f p4 0 2)), .unset] [])) target
      refine XS.iload X69.here hx rfl (hb hby at_162) rfl ?_
      show Steps p.tables e below (T69.setTop (mkF m 164 #[.val (.int p0), .val (.int p1), .val (.int p2), .val (.int p3), .val (.int p4), .val (.int (2 : Int32)), .val (.int v0), .val (.int v1), .val (.int v2), .val (.ref b1), .val (.int ex), .val (.int (own_has f p4 0 2)), .unset] [(.int (2 : Int32))])) target
      refine XT.iconstV X69.here hx rfl (1 : Int32) (hb hby at_164) rfl ?_
      show Steps p.tables e below (T69.setTop (mkF m 165 #[.val (.int p0), .val (.int p1), .val (.int p2), .val (.int p3), .val (.int p4), .val (.int (2 : Int32)), .val (.int v0), .val (.int v1), .val (.int v2), .val (.ref b1), .val (.int ex), .val (.int (own_has f p4 0 2)), .unset] [(.int (1 : Int32)), (.int (2 : Int32))])) target
      refine XS.icmpNo X69.here hx rfl (hb hby at_165) rfl (XT.ii_le_f (by decide)) ?_
      show Steps p.tables e below (T69.setTop (mkF m 168 #[.val (.int p0), .val (.int p1), .val (.int p2), .val (.int p3), .val (.int p4), .val (.int (2 : Int32)), .val (.int v0), .val (.int v1), .val (.int v2), .val (.ref b1), .val (.int ex), .val (.int (own_has f p4 0 2)), .unset] [])) target
      refine XS.aload X69.here hx rfl (hb hby at_168) rfl rfl ?_
      show Steps p.tables e below (T69.setTop (mkF m 170 #[.val (.int p0), .val (.int p1), .val (.int p2), .val (.int p3), .val (.int p4), .val (.int (2 : Int32)), .val (.int v0), .val (.int v1), .val (.int v2), .val (.ref b1), .val (.int ex), .val (.int (own_has f p4 0 2)), .unset] [(.ref b1)])) target
      refine XT.iconstV X69.here hx rfl (1 : Int32) (hb hby at_170) rfl ?_
      show Steps p.tables e below (T69.setTop (mkF m 171 #[.val (.int p0), .val (.int p1), .val (.int p2), .val (.int p3), .val (.int p4), .val (.int (2 : Int32)), .val (.int v0), .val (.int v1), .val (.int v2), .val (.ref b1), .val (.int ex), .val (.int (own_has f p4 0 2)), .unset] [(.int (1 : Int32)), (.ref b1)])) target
      refine X69.iaload hx (j := (1 : Int32)) (v := (.int v1)) (by rw [eq69]; exact Bf.1) (State.isArrayOf_alike hZ.alike Bf.2.1) Bf.2.2 (by rw [Sf]; decide) hat1 (g := (mkF m 171 #[.val (.int p0), .val (.int p1), .val (.int p2), .val (.int p3), .val (.int p4), .val (.int (2 : Int32)), .val (.int v0), .val (.int v1), .val (.int v2), .val (.ref b1), .val (.int ex), .val (.int (own_has f p4 0 2)), .unset] [(.int (1 : Int32)), (.ref b1)])) rfl rfl (hb hby at_171) _ ?_
      show Steps p.tables e below (T69.setTop (mkF m 172 #[.val (.int p0), .val (.int p1), .val (.int p2), .val (.int p3), .val (.int p4), .val (.int (2 : Int32)), .val (.int v0), .val (.int v1), .val (.int v2), .val (.ref b1), .val (.int ex), .val (.int (own_has f p4 0 2)), .unset] [(.int v1)])) target
      refine XS.iload X69.here hx rfl (hb hby at_172) rfl ?_
      show Steps p.tables e below (T69.setTop (mkF m 174 #[.val (.int p0), .val (.int p1), .val (.int p2), .val (.int p3), .val (.int p4), .val (.int (2 : Int32)), .val (.int v0), .val (.int v1), .val (.int v2), .val (.ref b1), .val (.int ex), .val (.int (own_has f p4 0 2)), .unset] [(.int v1), (.int v1)])) target
      refine XS.icmpNo X69.here hx rfl (hb hby at_174) rfl (XT.ii_ne_f rfl) ?_
      show Steps p.tables e below (T69.setTop (mkF m 177 #[.val (.int p0), .val (.int p1), .val (.int p2), .val (.int p3), .val (.int p4), .val (.int (2 : Int32)), .val (.int v0), .val (.int v1), .val (.int v2), .val (.ref b1), .val (.int ex), .val (.int (own_has f p4 0 2)), .unset] [])) target
      refine XS.iload X69.here hx rfl (hb hby at_177) rfl ?_
      show Steps p.tables e below (T69.setTop (mkF m 179 #[.val (.int p0), .val (.int p1), .val (.int p2), .val (.int p3), .val (.int p4), .val (.int (2 : Int32)), .val (.int v0), .val (.int v1), .val (.int v2), .val (.ref b1), .val (.int ex), .val (.int (own_has f p4 0 2)), .unset] [(.int (2 : Int32))])) target
      refine XT.iconstV X69.here hx rfl (2 : Int32) (hb hby at_179) rfl ?_
      show Steps p.tables e below (T69.setTop (mkF m 180 #[.val (.int p0), .val (.int p1), .val (.int p2), .val (.int p3), .val (.int p4), .val (.int (2 : Int32)), .val (.int v0), .val (.int v1), .val (.int v2), .val (.ref b1), .val (.int ex), .val (.int (own_has f p4 0 2)), .unset] [(.int (2 : Int32)), (.int (2 : Int32))])) target
      refine XS.icmpYes X69.here hx rfl (pc0 := 180) (pc' := 192) rfl (hb hby at_180) rfl (XT.ii_le_t (by decide)) (by decide) (by decide) ?_
      show Steps p.tables e below (T69.setTop (mkF m 192 #[.val (.int p0), .val (.int p1), .val (.int p2), .val (.int p3), .val (.int p4), .val (.int (2 : Int32)), .val (.int v0), .val (.int v1), .val (.int v2), .val (.ref b1), .val (.int ex), .val (.int (own_has f p4 0 2)), .unset] [])) target
      refine XT.iconstV X69.here hx rfl (1 : Int32) (hb hby at_192) rfl ?_
      show Steps p.tables e below (T69.setTop (mkF m 193 #[.val (.int p0), .val (.int p1), .val (.int p2), .val (.int p3), .val (.int p4), .val (.int (2 : Int32)), .val (.int v0), .val (.int v1), .val (.int v2), .val (.ref b1), .val (.int ex), .val (.int (own_has f p4 0 2)), .unset] [(.int (1 : Int32))])) target
      refine XS.goto X69.here hx rfl (pc0 := 193) (pc' := 197) rfl (hb hby at_193) (by decide) (by decide) ?_
      show Steps p.tables e below (T69.setTop (mkF m 197 #[.val (.int p0), .val (.int p1), .val (.int p2), .val (.int p3), .val (.int p4), .val (.int (2 : Int32)), .val (.int v0), .val (.int v1), .val (.int v2), .val (.ref b1), .val (.int ex), .val (.int (own_has f p4 0 2)), .unset] [(.int (1 : Int32))])) target
      refine XS.istore X69.here hx rfl (hb hby at_197) rfl (l' := #[.val (.int p0), .val (.int p1), .val (.int p2), .val (.int p3), .val (.int p4), .val (.int (2 : Int32)), .val (.int v0), .val (.int v1), .val (.int v2), .val (.ref b1), .val (.int ex), .val (.int (own_has f p4 0 2)), .val (.int (1 : Int32))]) rfl ?_
      show Steps p.tables e below (T69.setTop (mkF m 199 #[.val (.int p0), .val (.int p1), .val (.int p2), .val (.int p3), .val (.int p4), .val (.int (2 : Int32)), .val (.int v0), .val (.int v1), .val (.int v2), .val (.ref b1), .val (.int ex), .val (.int (own_has f p4 0 2)), .val (.int (1 : Int32))] [])) target
      refine XS.iload X69.here hx rfl (hb hby at_199) rfl ?_
      show Steps p.tables e below (T69.setTop (mkF m 201 #[.val (.int p0), .val (.int p1), .val (.int p2), .val (.int p3), .val (.int p4), .val (.int (2 : Int32)), .val (.int v0), .val (.int v1), .val (.int v2), .val (.ref b1), .val (.int ex), .val (.int (own_has f p4 0 2)), .val (.int (1 : Int32))] [(.int (own_has f p4 0 2))])) target
      refine XS.iload X69.here hx rfl (hb hby at_201) rfl ?_
      show Steps p.tables e below (T69.setTop (mkF m 203 #[.val (.int p0), .val (.int p1), .val (.int p2), .val (.int p3), .val (.int p4), .val (.int (2 : Int32)), .val (.int v0), .val (.int v1), .val (.int v2), .val (.ref b1), .val (.int ex), .val (.int (own_has f p4 0 2)), .val (.int (1 : Int32))] [(.int ex), (.int (own_has f p4 0 2))])) target
      refine XS.icmpNo X69.here hx rfl (hb hby at_203) rfl (XT.ii_ne_f hq) ?_
      show Steps p.tables e below (T69.setTop (mkF m 206 #[.val (.int p0), .val (.int p1), .val (.int p2), .val (.int p3), .val (.int p4), .val (.int (2 : Int32)), .val (.int v0), .val (.int v1), .val (.int v2), .val (.ref b1), .val (.int ex), .val (.int (own_has f p4 0 2)), .val (.int (1 : Int32))] [])) target
      refine XS.iload X69.here hx rfl (hb hby at_206) rfl ?_
      show Steps p.tables e below (T69.setTop (mkF m 208 #[.val (.int p0), .val (.int p1), .val (.int p2), .val (.int p3), .val (.int p4), .val (.int (2 : Int32)), .val (.int v0), .val (.int v1), .val (.int v2), .val (.ref b1), .val (.int ex), .val (.int (own_has f p4 0 2)), .val (.int (1 : Int32))] [(.int (1 : Int32))])) target
      refine XS.ifNo X69.here hx rfl (hb hby at_208) rfl (XT.i0_eq_f (by decide)) ?_
      show Steps p.tables e below (T69.setTop (mkF m 211 #[.val (.int p0), .val (.int p1), .val (.int p2), .val (.int p3), .val (.int p4), .val (.int (2 : Int32)), .val (.int v0), .val (.int v1), .val (.int v2), .val (.ref b1), .val (.int ex), .val (.int (own_has f p4 0 2)), .val (.int (1 : Int32))] [])) target
      refine XT.iconstV X69.here hx rfl (1 : Int32) (hb hby at_211) rfl ?_
      show Steps p.tables e below (T69.setTop (mkF m 212 #[.val (.int p0), .val (.int p1), .val (.int p2), .val (.int p3), .val (.int p4), .val (.int (2 : Int32)), .val (.int v0), .val (.int v1), .val (.int v2), .val (.ref b1), .val (.int ex), .val (.int (own_has f p4 0 2)), .val (.int (1 : Int32))] [(.int (1 : Int32))])) target
      refine XS.goto X69.here hx rfl (pc0 := 212) (pc' := 216) rfl (hb hby at_212) (by decide) (by decide) ?_
      show Steps p.tables e below (T69.setTop (mkF m 216 #[.val (.int p0), .val (.int p1), .val (.int p2), .val (.int p3), .val (.int p4), .val (.int (2 : Int32)), .val (.int v0), .val (.int v1), .val (.int v2), .val (.ref b1), .val (.int ex), .val (.int (own_has f p4 0 2)), .val (.int (1 : Int32))] [(.int (1 : Int32))])) target
      exact kt
    obtain ⟨fs, hr, hrun, hended, hW, hsame⟩ := X69.leave (v := some (.int (nar .boolean (1 : Int32)))) (fun h => by rw [Bd.returns] at h; cases h)
    refine ⟨_, _, g71 _ ?_, hrun, hended, _, _, rfl, ?_, ⟨_, rfl⟩, hW, hsame.mono (by decide) (by decide)⟩
    · exact retN X69 hx (t := .boolean) Bd.returns (by simp) (hb hby at_216) hr
    · show Q_rm0 Z p0 p1 p2 p3 p4  h0 n0 _ T69.heap _
      rw [eq69]
      exact ⟨rfl, N69⟩
  · subst hn
    obtain ⟨T72, h72, k72, X72, e72, E72, A72, st72⟩ := newP X0 hx hZ (hw _ (List.mem_of_getElem? (i := 0) rfl)) e0 (g := (mkF m 55 #[.val (.int p0), .val (.int p1), .val (.int p2), .val (.int p3), .val (.int p4), .val (.int (3 : Int32)), .val (.int v0), .val (.int v1), .val (.int v2), .unset, .unset, .unset, .unset] [(.int (3 : Int32))])) rfl (hb hby at_55) rfl (by decide) (cap := 3) (by decide) (by decide) (by decide) (by decide)
    obtain ⟨b1, ga72⟩ : ∃ z, z = h0.size := ⟨_, rfl⟩
    rw [← ga72] at A72 st72
    have Z72 : n0 ≤ h72.size := Nat.le_trans Z0 E72.1
    have g_b1 : n0 ≤ b1 := Nat.le_trans Z0 (Nat.le_of_eq ga72.symm)
    have g73 : own_Go p e below s₁ (entryFrame m #[(.int p0), (.int p1), (.int p2), (.int p3), (.int p4)] maxLocals) T72 (mkF m 57 #[.val (.int p0), .val (.int p1), .val (.int p2), .val (.int p3), .val (.int p4), .val (.int (3 : Int32)), .val (.int v0), .val (.int v1), .val (.int v2), .unset, .unset, .unset, .unset] [(.ref b1)]) := fun target kt => g31 target (st72 target kt)
    have V0 := own_new A72 (n := 3) (by decide)
    obtain ⟨c0, B0, S0, H0⟩ := V0
    have g74 : own_Go p e below s₁ (entryFrame m #[(.int p0), (.int p1), (.int p2), (.int p3), (.int p4)] maxLocals) T72 (mkF m 69 #[.val (.int p0), .val (.int p1), .val (.int p2), .val (.int p3), .val (.int p4), .val (.int (3 : Int32)), .val (.int v0), .val (.int v1), .val (.int v2), .val (.ref b1), .unset, .unset, .unset] [(.int v0), (.int (0 : Int32)), (.ref b1)]) := by
      intro target kt
      refine g73 target ?_
      refine XS.astore X72.here hx rfl (hb hby at_57) rfl rfl (l' := #[.val (.int p0), .val (.int p1), .val (.int p2), .val (.int p3), .val (.int p4), .val (.int (3 : Int32)), .val (.int v0), .val (.int v1), .val (.int v2), .val (.ref b1), .unset, .unset, .unset]) rfl ?_
      show Steps p.tables e below (T72.setTop (mkF m 59 #[.val (.int p0), .val (.int p1), .val (.int p2), .val (.int p3), .val (.int p4), .val (.int (3 : Int32)), .val (.int v0), .val (.int v1), .val (.int v2), .val (.ref b1), .unset, .unset, .unset] [])) target
      refine XS.iload X72.here hx rfl (hb hby at_59) rfl ?_
      show Steps p.tables e below (T72.setTop (mkF m 61 #[.val (.int p0), .val (.int p1), .val (.int p2), .val (.int p3), .val (.int p4), .val (.int (3 : Int32)), .val (.int v0), .val (.int v1), .val (.int v2), .val (.ref b1), .unset, .unset, .unset] [(.int (3 : Int32))])) target
      refine XS.ifNo X72.here hx rfl (hb hby at_61) rfl (XT.i0_le_f (by decide)) ?_
      show Steps p.tables e below (T72.setTop (mkF m 64 #[.val (.int p0), .val (.int p1), .val (.int p2), .val (.int p3), .val (.int p4), .val (.int (3 : Int32)), .val (.int v0), .val (.int v1), .val (.int v2), .val (.ref b1), .unset, .unset, .unset] [])) target
      refine XS.aload X72.here hx rfl (hb hby at_64) rfl rfl ?_
      show Steps p.tables e below (T72.setTop (mkF m 66 #[.val (.int p0), .val (.int p1), .val (.int p2), .val (.int p3), .val (.int p4), .val (.int (3 : Int32)), .val (.int v0), .val (.int v1), .val (.int v2), .val (.ref b1), .unset, .unset, .unset] [(.ref b1)])) target
      refine XT.iconstV X72.here hx rfl (0 : Int32) (hb hby at_66) rfl ?_
      show Steps p.tables e below (T72.setTop (mkF m 67 #[.val (.int p0), .val (.int p1), .val (.int p2), .val (.int p3), .val (.int p4), .val (.int (3 : Int32)), .val (.int v0), .val (.int v1), .val (.int v2), .val (.ref b1), .unset, .unset, .unset] [(.int (0 : Int32)), (.ref b1)])) target
      refine XS.iload X72.here hx rfl (hb hby at_67) rfl ?_
      show Steps p.tables e below (T72.setTop (mkF m 69 #[.val (.int p0), .val (.int p1), .val (.int p2), .val (.int p3), .val (.int p4), .val (.int (3 : Int32)), .val (.int v0), .val (.int v1), .val (.int v2), .val (.ref b1), .unset, .unset, .unset] [(.int v0), (.int (0 : Int32)), (.ref b1)])) target
      exact kt
    obtain ⟨T75, h75, X75, e75, W75, st75⟩ := stI X72 hx hZ e72 B0 (j := (0 : Int32)) (by rw [S0]; decide) (g := (mkF m 69 #[.val (.int p0), .val (.int p1), .val (.int p2), .val (.int p3), .val (.int p4), .val (.int (3 : Int32)), .val (.int v0), .val (.int v1), .val (.int v2), .val (.ref b1), .unset, .unset, .unset] [(.int v0), (.int (0 : Int32)), (.ref b1)])) rfl rfl (hb hby at_69)
    have g76 : own_Go p e below s₁ (entryFrame m #[(.int p0), (.int p1), (.int p2), (.int p3), (.int p4)] maxLocals) T75 (mkF m 70 #[.val (.int p0), .val (.int p1), .val (.int p2), .val (.int p3), .val (.int p4), .val (.int (3 : Int32)), .val (.int v0), .val (.int v1), .val (.int v2), .val (.ref b1), .unset, .unset, .unset] []) := fun target kt => g74 target (st75 target kt)
    have N75 := Fr.snoc X75 N0 g_b1
    have Z75 : n0 ≤ h75.size := Nat.le_trans Z72 (Keep.of_wr W75).1
    have V1 := own_set B0 S0 H0 W75 (by decide)
    obtain ⟨c1, B1, S1, H1⟩ := V1
    have g77 : own_Go p e below s₁ (entryFrame m #[(.int p0), (.int p1), (.int p2), (.int p3), (.int p4)] maxLocals) T75 (mkF m 81 #[.val (.int p0), .val (.int p1), .val (.int p2), .val (.int p3), .val (.int p4), .val (.int (3 : Int32)), .val (.int v0), .val (.int v1), .val (.int v2), .val (.ref b1), .unset, .unset, .unset] [(.int v1), (.int (1 : Int32)), (.ref b1)]) := by
      intro target kt
      refine g76 target ?_
      refine XS.iload X75.here hx rfl (hb hby at_70) rfl ?_
      show Steps p.tables e below (T75.setTop (mkF m 72 #[.val (.int p0), .val (.int p1), .val (.int p2), .val (.int p3), .val (.int p4), .val (.int (3 : Int32)), .val (.int v0), .val (.int v1), .val (.int v2), .val (.ref b1), .unset, .unset, .unset] [(.int (3 : Int32))])) target
      refine XT.iconstV X75.here hx rfl (1 : Int32) (hb hby at_72) rfl ?_
      show Steps p.tables e below (T75.setTop (mkF m 73 #[.val (.int p0), .val (.int p1), .val (.int p2), .val (.int p3), .val (.int p4), .val (.int (3 : Int32)), .val (.int v0), .val (.int v1), .val (.int v2), .val (.ref b1), .unset, .unset, .unset] [(.int (1 : Int32)), (.int (3 : Int32))])) target
      refine XS.icmpNo X75.here hx rfl (hb hby at_73) rfl (XT.ii_le_f (by decide)) ?_
      show Steps p.tables e below (T75.setTop (mkF m 76 #[.val (.int p0), .val (.int p1), .val (.int p2), .val (.int p3), .val (.int p4), .val (.int (3 : Int32)), .val (.int v0), .val (.int v1), .val (.int v2), .val (.ref b1), .unset, .unset, .unset] [])) target
      refine XS.aload X75.here hx rfl (hb hby at_76) rfl rfl ?_
      show Steps p.tables e below (T75.setTop (mkF m 78 #[.val (.int p0), .val (.int p1), .val (.int p2), .val (.int p3), .val (.int p4), .val (.int (3 : Int32)), .val (.int v0), .val (.int v1), .val (.int v2), .val (.ref b1), .unset, .unset, .unset] [(.ref b1)])) target
      refine XT.iconstV X75.here hx rfl (1 : Int32) (hb hby at_78) rfl ?_
      show Steps p.tables e below (T75.setTop (mkF m 79 #[.val (.int p0), .val (.int p1), .val (.int p2), .val (.int p3), .val (.int p4), .val (.int (3 : Int32)), .val (.int v0), .val (.int v1), .val (.int v2), .val (.ref b1), .unset, .unset, .unset] [(.int (1 : Int32)), (.ref b1)])) target
      refine XS.iload X75.here hx rfl (hb hby at_79) rfl ?_
      show Steps p.tables e below (T75.setTop (mkF m 81 #[.val (.int p0), .val (.int p1), .val (.int p2), .val (.int p3), .val (.int p4), .val (.int (3 : Int32)), .val (.int v0), .val (.int v1), .val (.int v2), .val (.ref b1), .unset, .unset, .unset] [(.int v1), (.int (1 : Int32)), (.ref b1)])) target
      exact kt
    obtain ⟨T78, h78, X78, e78, W78, st78⟩ := stI X75 hx hZ e75 B1 (j := (1 : Int32)) (by rw [S1]; decide) (g := (mkF m 81 #[.val (.int p0), .val (.int p1), .val (.int p2), .val (.int p3), .val (.int p4), .val (.int (3 : Int32)), .val (.int v0), .val (.int v1), .val (.int v2), .val (.ref b1), .unset, .unset, .unset] [(.int v1), (.int (1 : Int32)), (.ref b1)])) rfl rfl (hb hby at_81)
    have g79 : own_Go p e below s₁ (entryFrame m #[(.int p0), (.int p1), (.int p2), (.int p3), (.int p4)] maxLocals) T78 (mkF m 82 #[.val (.int p0), .val (.int p1), .val (.int p2), .val (.int p3), .val (.int p4), .val (.int (3 : Int32)), .val (.int v0), .val (.int v1), .val (.int v2), .val (.ref b1), .unset, .unset, .unset] []) := fun target kt => g77 target (st78 target kt)
    have N78 := Fr.snoc X78 N75 g_b1
    have Z78 : n0 ≤ h78.size := Nat.le_trans Z75 (Keep.of_wr W78).1
    have V2 := own_set B1 S1 H1 W78 (by decide)
    obtain ⟨c2, B2, S2, H2⟩ := V2
    have g80 : own_Go p e below s₁ (entryFrame m #[(.int p0), (.int p1), (.int p2), (.int p3), (.int p4)] maxLocals) T78 (mkF m 93 #[.val (.int p0), .val (.int p1), .val (.int p2), .val (.int p3), .val (.int p4), .val (.int (3 : Int32)), .val (.int v0), .val (.int v1), .val (.int v2), .val (.ref b1), .unset, .unset, .unset] [(.int v2), (.int (2 : Int32)), (.ref b1)]) := by
      intro target kt
      refine g79 target ?_
      refine XS.iload X78.here hx rfl (hb hby at_82) rfl ?_
      show Steps p.tables e below (T78.setTop (mkF m 84 #[.val (.int p0), .val (.int p1), .val (.int p2), .val (.int p3), .val (.int p4), .val (.int (3 : Int32)), .val (.int v0), .val (.int v1), .val (.int v2), .val (.ref b1), .unset, .unset, .unset] [(.int (3 : Int32))])) target
      refine XT.iconstV X78.here hx rfl (2 : Int32) (hb hby at_84) rfl ?_
      show Steps p.tables e below (T78.setTop (mkF m 85 #[.val (.int p0), .val (.int p1), .val (.int p2), .val (.int p3), .val (.int p4), .val (.int (3 : Int32)), .val (.int v0), .val (.int v1), .val (.int v2), .val (.ref b1), .unset, .unset, .unset] [(.int (2 : Int32)), (.int (3 : Int32))])) target
      refine XS.icmpNo X78.here hx rfl (hb hby at_85) rfl (XT.ii_le_f (by decide)) ?_
      show Steps p.tables e below (T78.setTop (mkF m 88 #[.val (.int p0), .val (.int p1), .val (.int p2), .val (.int p3), .val (.int p4), .val (.int (3 : Int32)), .val (.int v0), .val (.int v1), .val (.int v2), .val (.ref b1), .unset, .unset, .unset] [])) target
      refine XS.aload X78.here hx rfl (hb hby at_88) rfl rfl ?_
      show Steps p.tables e below (T78.setTop (mkF m 90 #[.val (.int p0), .val (.int p1), .val (.int p2), .val (.int p3), .val (.int p4), .val (.int (3 : Int32)), .val (.int v0), .val (.int v1), .val (.int v2), .val (.ref b1), .unset, .unset, .unset] [(.ref b1)])) target
      refine XT.iconstV X78.here hx rfl (2 : Int32) (hb hby at_90) rfl ?_
      show Steps p.tables e below (T78.setTop (mkF m 91 #[.val (.int p0), .val (.int p1), .val (.int p2), .val (.int p3), .val (.int p4), .val (.int (3 : Int32)), .val (.int v0), .val (.int v1), .val (.int v2), .val (.ref b1), .unset, .unset, .unset] [(.int (2 : Int32)), (.ref b1)])) target
      refine XS.iload X78.here hx rfl (hb hby at_91) rfl ?_
      show Steps p.tables e below (T78.setTop (mkF m 93 #[.val (.int p0), .val (.int p1), .val (.int p2), .val (.int p3), .val (.int p4), .val (.int (3 : Int32)), .val (.int v0), .val (.int v1), .val (.int v2), .val (.ref b1), .unset, .unset, .unset] [(.int v2), (.int (2 : Int32)), (.ref b1)])) target
      exact kt
    obtain ⟨T81, h81, X81, e81, W81, st81⟩ := stI X78 hx hZ e78 B2 (j := (2 : Int32)) (by rw [S2]; decide) (g := (mkF m 93 #[.val (.int p0), .val (.int p1), .val (.int p2), .val (.int p3), .val (.int p4), .val (.int (3 : Int32)), .val (.int v0), .val (.int v1), .val (.int v2), .val (.ref b1), .unset, .unset, .unset] [(.int v2), (.int (2 : Int32)), (.ref b1)])) rfl rfl (hb hby at_93)
    have g82 : own_Go p e below s₁ (entryFrame m #[(.int p0), (.int p1), (.int p2), (.int p3), (.int p4)] maxLocals) T81 (mkF m 94 #[.val (.int p0), .val (.int p1), .val (.int p2), .val (.int p3), .val (.int p4), .val (.int (3 : Int32)), .val (.int v0), .val (.int v1), .val (.int v2), .val (.ref b1), .unset, .unset, .unset] []) := fun target kt => g80 target (st81 target kt)
    have N81 := Fr.snoc X81 N78 g_b1
    have Z81 : n0 ≤ h81.size := Nat.le_trans Z78 (Keep.of_wr W81).1
    have V3 := own_set B2 S2 H2 W81 (by decide)
    obtain ⟨f, ef⟩ : ∃ f : Nat → Int32, f = (fun j => if j = Int32.toNatClampNeg (2 : Int32) then v2 else (fun j => if j = Int32.toNatClampNeg (1 : Int32) then v1 else (fun j => if j = Int32.toNatClampNeg (0 : Int32) then v0 else 0) j) j) := ⟨_, rfl⟩
    have V : own_Ai Z h81 b1 3 f := by rw [ef]; exact V3
    have f0 : f 0 = v0 := by rw [ef]; rfl
    have f1 : f 1 = v1 := by rw [ef]; rfl
    have f2 : f 2 = v2 := by rw [ef]; rfl
    obtain ⟨ex, hm93, g93⟩ : ∃ (ex : Int32), (ex = (if v0 = p4 then (1 : Int32) else (if v1 = p4 then (1 : Int32) else (if v2 = p4 then (1 : Int32) else (0 : Int32))))) ∧ own_Go p e below s₁ (entryFrame m #[(.int p0), (.int p1), (.int p2), (.int p3), (.int p4)] maxLocals) T81 (mkF m 137 #[.val (.int p0), .val (.int p1), .val (.int p2), .val (.int p3), .val (.int p4), .val (.int (3 : Int32)), .val (.int v0), .val (.int v1), .val (.int v2), .val (.ref b1), .unset, .unset, .unset] [(.int ex)]) := by
      have g83 : own_Go p e below s₁ (entryFrame m #[(.int p0), (.int p1), (.int p2), (.int p3), (.int p4)] maxLocals) T81 (mkF m 103 #[.val (.int p0), .val (.int p1), .val (.int p2), .val (.int p3), .val (.int p4), .val (.int (3 : Int32)), .val (.int v0), .val (.int v1), .val (.int v2), .val (.ref b1), .unset, .unset, .unset] [(.int p4), (.int v0)]) := by
        intro target kt
        refine g82 target ?_
        refine XS.iload X81.here hx rfl (hb hby at_94) rfl ?_
        show Steps p.tables e below (T81.setTop (mkF m 96 #[.val (.int p0), .val (.int p1), .val (.int p2), .val (.int p3), .val (.int p4), .val (.int (3 : Int32)), .val (.int v0), .val (.int v1), .val (.int v2), .val (.ref b1), .unset, .unset, .unset] [(.int (3 : Int32))])) target
        refine XS.ifNo X81.here hx rfl (hb hby at_96) rfl (XT.i0_le_f (by decide)) ?_
        show Steps p.tables e below (T81.setTop (mkF m 99 #[.val (.int p0), .val (.int p1), .val (.int p2), .val (.int p3), .val (.int p4), .val (.int (3 : Int32)), .val (.int v0), .val (.int v1), .val (.int v2), .val (.ref b1), .unset, .unset, .unset] [])) target
        refine XS.iload X81.here hx rfl (hb hby at_99) rfl ?_
        show Steps p.tables e below (T81.setTop (mkF m 101 #[.val (.int p0), .val (.int p1), .val (.int p2), .val (.int p3), .val (.int p4), .val (.int (3 : Int32)), .val (.int v0), .val (.int v1), .val (.int v2), .val (.ref b1), .unset, .unset, .unset] [(.int v0)])) target
        refine XS.iload X81.here hx rfl (hb hby at_101) rfl ?_
        show Steps p.tables e below (T81.setTop (mkF m 103 #[.val (.int p0), .val (.int p1), .val (.int p2), .val (.int p3), .val (.int p4), .val (.int (3 : Int32)), .val (.int v0), .val (.int v1), .val (.int v2), .val (.ref b1), .unset, .unset, .unset] [(.int p4), (.int v0)])) target
        exact kt
      by_cases hc84 : v0 = p4
      · have g85 : own_Go p e below s₁ (entryFrame m #[(.int p0), (.int p1), (.int p2), (.int p3), (.int p4)] maxLocals) T81 (mkF m 137 #[.val (.int p0), .val (.int p1), .val (.int p2), .val (.int p3), .val (.int p4), .val (.int (3 : Int32)), .val (.int v0), .val (.int v1), .val (.int v2), .val (.ref b1), .unset, .unset, .unset] [(.int (1 : Int32))]) := by
          intro target kt
          refine g83 target ?_
          refine XS.icmpYes X81.here hx rfl (pc0 := 103) (pc' := 132) rfl (hb hby at_103) rfl (XT.ii_eq_t hc84) (by decide) (by decide) ?_
          show Steps p.tables e below (T81.setTop (mkF m 132 #[.val (.int p0), .val (.int p1), .val (.int p2), .val (.int p3), .val (.int p4), .val (.int (3 : Int32)), .val (.int v0), .val (.int v1), .val (.int v2), .val (.ref b1), .unset, .unset, .unset] [])) target
          refine XT.iconstV X81.here hx rfl (1 : Int32) (hb hby at_132) rfl ?_
          show Steps p.tables e below (T81.setTop (mkF m 133 #[.val (.int p0), .val (.int p1), .val (.int p2), .val (.int p3), .val (.int p4), .val (.int (3 : Int32)), .val (.int v0), .val (.int v1), .val (.int v2), .val (.ref b1), .unset, .unset, .unset] [(.int (1 : Int32))])) target
          refine XS.goto X81.here hx rfl (pc0 := 133) (pc' := 137) rfl (hb hby at_133) (by decide) (by decide) ?_
          show Steps p.tables e below (T81.setTop (mkF m 137 #[.val (.int p0), .val (.int p1), .val (.int p2), .val (.int p3), .val (.int p4), .val (.int (3 : Int32)), .val (.int v0), .val (.int v1), .val (.int v2), .val (.ref b1), .unset, .unset, .unset] [(.int (1 : Int32))])) target
          exact kt
        exact ⟨(1 : Int32), (by simp only [if_pos hc84]), g85⟩
      · have g86 : own_Go p e below s₁ (entryFrame m #[(.int p0), (.int p1), (.int p2), (.int p3), (.int p4)] maxLocals) T81 (mkF m 116 #[.val (.int p0), .val (.int p1), .val (.int p2), .val (.int p3), .val (.int p4), .val (.int (3 : Int32)), .val (.int v0), .val (.int v1), .val (.int v2), .val (.ref b1), .unset, .unset, .unset] [(.int p4), (.int v1)]) := by
          intro target kt
          refine g83 target ?_
          refine XS.icmpNo X81.here hx rfl (hb hby at_103) rfl (XT.ii_eq_f hc84) ?_
          show Steps p.tables e below (T81.setTop (mkF m 106 #[.val (.int p0), .val (.int p1), .val (.int p2), .val (.int p3), .val (.int p4), .val (.int (3 : Int32)), .val (.int v0), .val (.int v1), .val (.int v2), .val (.ref b1), .unset, .unset, .unset] [])) target
          refine XS.iload X81.here hx rfl (hb hby at_106) rfl ?_
          show Steps p.tables e below (T81.setTop (mkF m 108 #[.val (.int p0), .val (.int p1), .val (.int p2), .val (.int p3), .val (.int p4), .val (.int (3 : Int32)), .val (.int v0), .val (.int v1), .val (.int v2), .val (.ref b1), .unset, .unset, .unset] [(.int (3 : Int32))])) target
          refine XT.iconstV X81.here hx rfl (1 : Int32) (hb hby at_108) rfl ?_
          show Steps p.tables e below (T81.setTop (mkF m 109 #[.val (.int p0), .val (.int p1), .val (.int p2), .val (.int p3), .val (.int p4), .val (.int (3 : Int32)), .val (.int v0), .val (.int v1), .val (.int v2), .val (.ref b1), .unset, .unset, .unset] [(.int (1 : Int32)), (.int (3 : Int32))])) target
          refine XS.icmpNo X81.here hx rfl (hb hby at_109) rfl (XT.ii_le_f (by decide)) ?_
          show Steps p.tables e below (T81.setTop (mkF m 112 #[.val (.int p0), .val (.int p1), .val (.int p2), .val (.int p3), .val (.int p4), .val (.int (3 : Int32)), .val (.int v0), .val (.int v1), .val (.int v2), .val (.ref b1), .unset, .unset, .unset] [])) target
          refine XS.iload X81.here hx rfl (hb hby at_112) rfl ?_
          show Steps p.tables e below (T81.setTop (mkF m 114 #[.val (.int p0), .val (.int p1), .val (.int p2), .val (.int p3), .val (.int p4), .val (.int (3 : Int32)), .val (.int v0), .val (.int v1), .val (.int v2), .val (.ref b1), .unset, .unset, .unset] [(.int v1)])) target
          refine XS.iload X81.here hx rfl (hb hby at_114) rfl ?_
          show Steps p.tables e below (T81.setTop (mkF m 116 #[.val (.int p0), .val (.int p1), .val (.int p2), .val (.int p3), .val (.int p4), .val (.int (3 : Int32)), .val (.int v0), .val (.int v1), .val (.int v2), .val (.ref b1), .unset, .unset, .unset] [(.int p4), (.int v1)])) target
          exact kt
        by_cases hc87 : v1 = p4
        · have g88 : own_Go p e below s₁ (entryFrame m #[(.int p0), (.int p1), (.int p2), (.int p3), (.int p4)] maxLocals) T81 (mkF m 137 #[.val (.int p0), .val (.int p1), .val (.int p2), .val (.int p3), .val (.int p4), .val (.int (3 : Int32)), .val (.int v0), .val (.int v1), .val (.int v2), .val (.ref b1), .unset, .unset, .unset] [(.int (1 : Int32))]) := by
            intro target kt
            refine g86 target ?_
            refine XS.icmpYes X81.here hx rfl (pc0 := 116) (pc' := 132) rfl (hb hby at_116) rfl (XT.ii_eq_t hc87) (by decide) (by decide) ?_
            show Steps p.tables e below (T81.setTop (mkF m 132 #[.val (.int p0), .val (.int p1), .val (.int p2), .val (.int p3), .val (.int p4), .val (.int (3 : Int32)), .val (.int v0), .val (.int v1), .val (.int v2), .val (.ref b1), .unset, .unset, .unset] [])) target
            refine XT.iconstV X81.here hx rfl (1 : Int32) (hb hby at_132) rfl ?_
            show Steps p.tables e below (T81.setTop (mkF m 133 #[.val (.int p0), .val (.int p1), .val (.int p2), .val (.int p3), .val (.int p4), .val (.int (3 : Int32)), .val (.int v0), .val (.int v1), .val (.int v2), .val (.ref b1), .unset, .unset, .unset] [(.int (1 : Int32))])) target
            refine XS.goto X81.here hx rfl (pc0 := 133) (pc' := 137) rfl (hb hby at_133) (by decide) (by decide) ?_
            show Steps p.tables e below (T81.setTop (mkF m 137 #[.val (.int p0), .val (.int p1), .val (.int p2), .val (.int p3), .val (.int p4), .val (.int (3 : Int32)), .val (.int v0), .val (.int v1), .val (.int v2), .val (.ref b1), .unset, .unset, .unset] [(.int (1 : Int32))])) target
            exact kt
          exact ⟨(1 : Int32), (by simp only [if_neg hc84, if_pos hc87]), g88⟩
        · have g89 : own_Go p e below s₁ (entryFrame m #[(.int p0), (.int p1), (.int p2), (.int p3), (.int p4)] maxLocals) T81 (mkF m 129 #[.val (.int p0), .val (.int p1), .val (.int p2), .val (.int p3), .val (.int p4), .val (.int (3 : Int32)), .val (.int v0), .val (.int v1), .val (.int v2), .val (.ref b1), .unset, .unset, .unset] [(.int p4), (.int v2)]) := by
            intro target kt
            refine g86 target ?_
            refine XS.icmpNo X81.here hx rfl (hb hby at_116) rfl (XT.ii_eq_f hc87) ?_
            show Steps p.tables e below (T81.setTop (mkF m 119 #[.val (.int p0), .val (.int p1), .val (.int p2), .val (.int p3), .val (.int p4), .val (.int (3 : Int32)), .val (.int v0), .val (.int v1), .val (.int v2), .val (.ref b1), .unset, .unset, .unset] [])) target
            refine XS.iload X81.here hx rfl (hb hby at_119) rfl ?_
            show Steps p.tables e below (T81.setTop (mkF m 121 #[.val (.int p0), .val (.int p1), .val (.int p2), .val (.int p3), .val (.int p4), .val (.int (3 : Int32)), .val (.int v0), .val (.int v1), .val (.int v2), .val (.ref b1), .unset, .unset, .unset] [(.int (3 : Int32))])) target
            refine XT.iconstV X81.here hx rfl (2 : Int32) (hb hby at_121) rfl ?_
            show Steps p.tables e below (T81.setTop (mkF m 122 #[.val (.int p0), .val (.int p1), .val (.int p2), .val (.int p3), .val (.int p4), .val (.int (3 : Int32)), .val (.int v0), .val (.int v1), .val (.int v2), .val (.ref b1), .unset, .unset, .unset] [(.int (2 : Int32)), (.int (3 : Int32))])) target
            refine XS.icmpNo X81.here hx rfl (hb hby at_122) rfl (XT.ii_le_f (by decide)) ?_
            show Steps p.tables e below (T81.setTop (mkF m 125 #[.val (.int p0), .val (.int p1), .val (.int p2), .val (.int p3), .val (.int p4), .val (.int (3 : Int32)), .val (.int v0), .val (.int v1), .val (.int v2), .val (.ref b1), .unset, .unset, .unset] [])) target
            refine XS.iload X81.here hx rfl (hb hby at_125) rfl ?_
            show Steps p.tables e below (T81.setTop (mkF m 127 #[.val (.int p0), .val (.int p1), .val (.int p2), .val (.int p3), .val (.int p4), .val (.int (3 : Int32)), .val (.int v0), .val (.int v1), .val (.int v2), .val (.ref b1), .unset, .unset, .unset] [(.int v2)])) target
            refine XS.iload X81.here hx rfl (hb hby at_127) rfl ?_
            show Steps p.tables e below (T81.setTop (mkF m 129 #[.val (.int p0), .val (.int p1), .val (.int p2), .val (.int p3), .val (.int p4), .val (.int (3 : Int32)), .val (.int v0), .val (.int v1), .val (.int v2), .val (.ref b1), .unset, .unset, .unset] [(.int p4), (.int v2)])) target
            exact kt
          by_cases hc90 : v2 = p4
          · have g91 : own_Go p e below s₁ (entryFrame m #[(.int p0), (.int p1), (.int p2), (.int p3), (.int p4)] maxLocals) T81 (mkF m 137 #[.val (.int p0), .val (.int p1), .val (.int p2), .val (.int p3), .val (.int p4), .val (.int (3 : Int32)), .val (.int v0), .val (.int v1), .val (.int v2), .val (.ref b1), .unset, .unset, .unset] [(.int (1 : Int32))]) := by
              intro target kt
              refine g89 target ?_
              refine XS.icmpNo X81.here hx rfl (hb hby at_129) rfl (XT.ii_ne_f hc90) ?_
              show Steps p.tables e below (T81.setTop (mkF m 132 #[.val (.int p0), .val (.int p1), .val (.int p2), .val (.int p3), .val (.int p4), .val (.int (3 : Int32)), .val (.int v0), .val (.int v1), .val (.int v2), .val (.ref b1), .unset, .unset, .unset] [])) target
              refine XT.iconstV X81.here hx rfl (1 : Int32) (hb hby at_132) rfl ?_
              show Steps p.tables e below (T81.setTop (mkF m 133 #[.val (.int p0), .val (.int p1), .val (.int p2), .val (.int p3), .val (.int p4), .val (.int (3 : Int32)), .val (.int v0), .val (.int v1), .val (.int v2), .val (.ref b1), .unset, .unset, .unset] [(.int (1 : Int32))])) target
              refine XS.goto X81.here hx rfl (pc0 := 133) (pc' := 137) rfl (hb hby at_133) (by decide) (by decide) ?_
              show Steps p.tables e below (T81.setTop (mkF m 137 #[.val (.int p0), .val (.int p1), .val (.int p2), .val (.int p3), .val (.int p4), .val (.int (3 : Int32)), .val (.int v0), .val (.int v1), .val (.int v2), .val (.ref b1), .unset, .unset, .unset] [(.int (1 : Int32))])) target
              exact kt
            exact ⟨(1 : Int32), (by simp only [if_neg hc84, if_neg hc87, if_pos hc90]), g91⟩
          · have g92 : own_Go p e below s₁ (entryFrame m #[(.int p0), (.int p1), (.int p2), (.int p3), (.int p4)] maxLocals) T81 (mkF m 137 #[.val (.int p0), .val (.int p1), .val (.int p2), .val (.int p3), .val (.int p4), .val (.int (3 : Int32)), .val (.int v0), .val (.int v1), .val (.int v2), .val (.ref b1), .unset, .unset, .unset] [(.int (0 : Int32))]) := by
              intro target kt
              refine g89 target ?_
              refine XS.icmpYes X81.here hx rfl (pc0 := 129) (pc' := 136) rfl (hb hby at_129) rfl (XT.ii_ne_t hc90) (by decide) (by decide) ?_
              show Steps p.tables e below (T81.setTop (mkF m 136 #[.val (.int p0), .val (.int p1), .val (.int p2), .val (.int p3), .val (.int p4), .val (.int (3 : Int32)), .val (.int v0), .val (.int v1), .val (.int v2), .val (.ref b1), .unset, .unset, .unset] [])) target
              refine XT.iconstV X81.here hx rfl (0 : Int32) (hb hby at_136) rfl ?_
              show Steps p.tables e below (T81.setTop (mkF m 137 #[.val (.int p0), .val (.int p1), .val (.int p2), .val (.int p3), .val (.int p4), .val (.int (3 : Int32)), .val (.int v0), .val (.int v1), .val (.int v2), .val (.ref b1), .unset, .unset, .unset] [(.int (0 : Int32))])) target
              exact kt
            exact ⟨(0 : Int32), (by simp only [if_neg hc84, if_neg hc87, if_neg hc90]), g92⟩
    have g94 : own_Go p e below s₁ (entryFrame m #[(.int p0), (.int p1), (.int p2), (.int p3), (.int p4)] maxLocals) T81 (mkF m 143 #[.val (.int p0), .val (.int p1), .val (.int p2), .val (.int p3), .val (.int p4), .val (.int (3 : Int32)), .val (.int v0), .val (.int v1), .val (.int v2), .val (.ref b1), .val (.int ex), .unset, .unset] [(.int p4), (.ref b1)]) := by
      intro target kt
      refine g93 target ?_
      refine XS.istore X81.here hx rfl (hb hby at_137) rfl (l' := #[.val (.int p0), .val (.int p1), .val (.int p2), .val (.int p3), .val (.int p4), .val (.int (3 : Int32)), .val (.int v0), .val (.int v1), .val (.int v2), .val (.ref b1), .val (.int ex), .unset, .unset]) rfl ?_
      show Steps p.tables e below (T81.setTop (mkF m 139 #[.val (.int p0), .val (.int p1), .val (.int p2), .val (.int p3), .val (.int p4), .val (.int (3 : Int32)), .val (.int v0), .val (.int v1), .val (.int v2), .val (.ref b1), .val (.int ex), .unset, .unset] [])) target
      refine XS.aload X81.here hx rfl (hb hby at_139) rfl rfl ?_
      show Steps p.tables e below (T81.setTop (mkF m 141 #[.val (.int p0), .val (.int p1), .val (.int p2), .val (.int p3), .val (.int p4), .val (.int (3 : Int32)), .val (.int v0), .val (.int v1), .val (.int v2), .val (.ref b1), .val (.int ex), .unset, .unset] [(.ref b1)])) target
      refine XS.iload X81.here hx rfl (hb hby at_141) rfl ?_
      show Steps p.tables e below (T81.setTop (mkF m 143 #[.val (.int p0), .val (.int p1), .val (.int p2), .val (.int p3), .val (.int p4), .val (.int (3 : Int32)), .val (.int v0), .val (.int v1), .val (.int v2), .val (.ref b1), .val (.int ex), .unset, .unset] [(.int p4), (.ref b1)])) target
      exact kt
    obtain ⟨_, _, ⟨T95, L95, k95, n95⟩, -, X95, ⟨Lc95, hQ95, l95, y95, z95⟩, st95⟩ := Jvm.LawKit.callS X81 hx (y := (⟨"com/example/ends_to_means/endstomeans/model/VertexChecks", "hasMove", "([II)Z"⟩ : MethodName)) hown (mvT hZ (hw _ (List.mem_of_getElem? (i := 1) rfl))) (mvT hZ (hw _ (List.mem_of_getElem? (i := 2) rfl))) (mvT hZ (hw _ (List.mem_of_getElem? (i := 3) rfl))) (mvT hZ (hw _ (List.mem_of_getElem? (i := 4) rfl))) (by decide) (backOf (W := 0) (rm1 l Z a0 hw [] b1 p4 3 f h81 n0 Z81 V (by decide)) hZ (hw _ (List.mem_of_getElem? (i := 4) rfl)) (hw _ (List.mem_of_getElem? (i := 3) rfl)) (by decide) (by decide)) (g := (mkF m 143 #[.val (.int p0), .val (.int p1), .val (.int p2), .val (.int p3), .val (.int p4), .val (.int (3 : Int32)), .val (.int v0), .val (.int v1), .val (.int v2), .val (.ref b1), .val (.int ex), .unset, .unset] [(.int p4), (.ref b1)])) rfl (by rw [hml]; rfl) (argsL := [(.ref b1), (.int p4)]) (rest := []) (lenOf pd_0 rfl) rfl (by show 2 * 0 + _ ≤ _; exact Nat.le_of_eq rfl) (hb hby at_143) (fun _ _ => ⟨rfl, e81, (by decide : 1 + 0 ≤ _), (by decide : 3 + 0 ≤ _)⟩)
    dsimp only [Pt.U, Pt.locs, Pt.cells, Pt.slots] at X95 l95 y95 z95 st95 hQ95
    subst l95 y95 z95
    obtain ⟨rfl, Nq95, eq95⟩ := hQ95
    have N95 := Fr.app N81 Nq95
    have g96 : own_Go p e below s₁ (entryFrame m #[(.int p0), (.int p1), (.int p2), (.int p3), (.int p4)] maxLocals) T95 (mkF m 146 #[.val (.int p0), .val (.int p1), .val (.int p2), .val (.int p3), .val (.int p4), .val (.int (3 : Int32)), .val (.int v0), .val (.int v1), .val (.int v2), .val (.ref b1), .val (.int ex), .unset, .unset] [(.int (own_has f p4 0 3))]) := fun target kt => g94 target (st95 target kt)
    obtain ⟨cf, Bf, Sf, Hf⟩ := V
    have hat0 : cf.slots[Int32.toNatClampNeg (0 : Int32)]? = some (.int v0) := by rw [← f0]; exact Hf 0 (by decide)
    have hat1 : cf.slots[Int32.toNatClampNeg (1 : Int32)]? = some (.int v1) := by rw [← f1]; exact Hf 1 (by decide)
    have hat2 : cf.slots[Int32.toNatClampNeg (2 : Int32)]? = some (.int v2) := by rw [← f2]; exact Hf 2 (by decide)
    have hq : own_has f p4 0 3 = ex := by
      rw [hm93, ← f0, ← f1, ← f2]
      rfl
    have g97 : own_Go p e below s₁ (entryFrame m #[(.int p0), (.int p1), (.int p2), (.int p3), (.int p4)] maxLocals) T95 (mkF m 216 #[.val (.int p0), .val (.int p1), .val (.int p2), .val (.int p3), .val (.int p4), .val (.int (3 : Int32)), .val (.int v0), .val (.int v1), .val (.int v2), .val (.ref b1), .val (.int ex), .val (.int (own_has f p4 0 3)), .val (.int (1 : Int32))] [(.int (1 : Int32))]) := by
      intro target kt
      refine g96 target ?_
      refine XS.istore X95.here hx rfl (hb hby at_146) rfl (l' := #[.val (.int p0), .val (.int p1), .val (.int p2), .val (.int p3), .val (.int p4), .val (.int (3 : Int32)), .val (.int v0), .val (.int v1), .val (.int v2), .val (.ref b1), .val (.int ex), .val (.int (own_has f p4 0 3)), .unset]) rfl ?_
      show Steps p.tables e below (T95.setTop (mkF m 148 #[.val (.int p0), .val (.int p1), .val (.int p2), .val (.int p3), .val (.int p4), .val (.int (3 : Int32)), .val (.int v0), .val (.int v1), .val (.int v2), .val (.ref b1), .val (.int ex), .val (.int (own_has f p4 0 3)), .unset] [])) target
      refine XS.iload X95.here hx rfl (hb hby at_148) rfl ?_
      show Steps p.tables e below (T95.setTop (mkF m 150 #[.val (.int p0), .val (.int p1), .val (.int p2), .val (.int p3), .val (.int p4), .val (.int (3 : Int32)), .val (.int v0), .val (.int v1), .val (.int v2), .val (.ref b1), .val (.int ex), .val (.int (own_has f p4 0 3)), .unset] [(.int (3 : Int32))])) target
      refine XS.ifNo X95.here hx rfl (hb hby at_150) rfl (XT.i0_le_f (by decide)) ?_
      show Steps p.tables e below (T95.setTop (mkF m 153 #[.val (.int p0), .val (.int p1), .val (.int p2), .val (.int p3), .val (.int p4), .val (.int (3 : Int32)), .val (.int v0), .val (.int v1), .val (.int v2), .val (.ref b1), .val (.int ex), .val (.int (own_has f p4 0 3)), .unset] [])) target
      refine XS.aload X95.here hx rfl (hb hby at_153) rfl rfl ?_
      show Steps p.tables e below (T95.setTop (mkF m 155 #[.val (.int p0), .val (.int p1), .val (.int p2), .val (.int p3), .val (.int p4), .val (.int (3 : Int32)), .val (.int v0), .val (.int v1), .val (.int v2), .val (.ref b1), .val (.int ex), .val (.int (own_has f p4 0 3)), .unset] [(.ref b1)])) target
      refine XT.iconstV X95.here hx rfl (0 : Int32) (hb hby at_155) rfl ?_
      show Steps p.tables e below (T95.setTop (mkF m 156 #[.val (.int p0), .val (.int p1), .val (.int p2), .val (.int p3), .val (.int p4), .val (.int (3 : Int32)), .val (.int v0), .val (.int v1), .val (.int v2), .val (.ref b1), .val (.int ex), .val (.int (own_has f p4 0 3)), .unset] [(.int (0 : Int32)), (.ref b1)])) target
      refine X95.iaload hx (j := (0 : Int32)) (v := (.int v0)) (by rw [eq95]; exact Bf.1) (State.isArrayOf_alike hZ.alike Bf.2.1) Bf.2.2 (by rw [Sf]; decide) hat0 (g := (mkF m 156 #[.val (.int p0), .val (.int p1), .val (.int p2), .val (.int p3), .val (.int p4), .val (.int (3 : Int32)), .val (.int v0), .val (.int v1), .val (.int v2), .val (.ref b1), .val (.int ex), .val (.int (own_has f p4 0 3)), .unset] [(.int (0 : Int32)), (.ref b1)])) rfl rfl (hb hby at_156) _ ?_
      show Steps p.tables e below (T95.setTop (mkF m 157 #[.val (.int p0), .val (.int p1), .val (.int p2), .val (.int p3), .val (.int p4), .val (.int (3 : Int32)), .val (.int v0), .val (.int v1), .val (.int v2), .val (.ref b1), .val (.int ex), .val (.int (own_has f p4 0 3)), .unset] [(.int v0)])) target
      refine XS.iload X95.here hx rfl (hb hby at_157) rfl ?_
      show Steps p.tables e below (T95.setTop (mkF m 159 #[.val (.int p0), .val (.int p1), .val (.int p2), .val (.int p3), .val (.int p4), .val (.int (3 : Int32)), .val (.int v0), .val (.int v1), .val (.int v2), .val (.ref b1), .val (.int ex), .val (.int (own_has f p4 0 3)), .unset] [(.int v0), (.int v0)])) target
      refine XS.icmpNo X95.here hx rfl (hb hby at_159) rfl (XT.ii_ne_f rfl) ?_
      show Steps p.tables e below (T95.setTop (mkF m 162 #[.val (.int p0), .val (.int p1), .val (.int p2), .val (.int p3), .val (.int p4), .val (.int (3 : Int32)), .val (.int v0), .val (.int v1), .val (.int v2), .val (.ref b1), .val (.int ex), .val (.int (own_has f p4 0 3)), .unset] [])) target
      refine XS.iload X95.here hx rfl (hb hby at_162) rfl ?_
      show Steps p.tables e below (T95.setTop (mkF m 164 #[.val (.int p0), .val (.int p1), .val (.int p2), .val (.int p3), .val (.int p4), .val (.int (3 : Int32)), .val (.int v0), .val (.int v1), .val (.int v2), .val (.ref b1), .val (.int ex), .val (.int (own_has f p4 0 3)), .unset] [(.int (3 : Int32))])) target
      refine XT.iconstV X95.here hx rfl (1 : Int32) (hb hby at_164) rfl ?_
      show Steps p.tables e below (T95.setTop (mkF m 165 #[.val (.int p0), .val (.int p1), .val (.int p2), .val (.int p3), .val (.int p4), .val (.int (3 : Int32)), .val (.int v0), .val (.int v1), .val (.int v2), .val (.ref b1), .val (.int ex), .val (.int (own_has f p4 0 3)), .unset] [(.int (1 : Int32)), (.int (3 : Int32))])) target
      refine XS.icmpNo X95.here hx rfl (hb hby at_165) rfl (XT.ii_le_f (by decide)) ?_
      show Steps p.tables e below (T95.setTop (mkF m 168 #[.val (.int p0), .val (.int p1), .val (.int p2), .val (.int p3), .val (.int p4), .val (.int (3 : Int32)), .val (.int v0), .val (.int v1), .val (.int v2), .val (.ref b1), .val (.int ex), .val (.int (own_has f p4 0 3)), .unset] [])) target
      refine XS.aload X95.here hx rfl (hb hby at_168) rfl rfl ?_
      show Steps p.tables e below (T95.setTop (mkF m 170 #[.val (.int p0), .val (.int p1), .val (.int p2), .val (.int p3), .val (.int p4), .val (.int (3 : Int32)), .val (.int v0), .val (.int v1), .val (.int v2), .val (.ref b1), .val (.int ex), .val (.int (own_has f p4 0 3)), .unset] [(.ref b1)])) target
      refine XT.iconstV X95.here hx rfl (1 : Int32) (hb hby at_170) rfl ?_
      show Steps p.tables e below (T95.setTop (mkF m 171 #[.val (.int p0), .val (.int p1), .val (.int p2), .val (.int p3), .val (.int p4), .val (.int (3 : Int32)), .val (.int v0), .val (.int v1), .val (.int v2), .val (.ref b1), .val (.int ex), .val (.int (own_has f p4 0 3)), .unset] [(.int (1 : Int32)), (.ref b1)])) target
      refine X95.iaload hx (j := (1 : Int32)) (v := (.int v1)) (by rw [eq95]; exact Bf.1) (State.isArrayOf_alike hZ.alike Bf.2.1) Bf.2.2 (by rw [Sf]; decide) hat1 (g := (mkF m 171 #[.val (.int p0), .val (.int p1), .val (.int p2), .val (.int p3), .val (.int p4), .val (.int (3 : Int32)), .val (.int v0), .val (.int v1), .val (.int v2), .val (.ref b1), .val (.int ex), .val (.int (own_has f p4 0 3)), .unset] [(.int (1 : Int32)), (.ref b1)])) rfl rfl (hb hby at_171) _ ?_
      show Steps p.tables e below (T95.setTop (mkF m 172 #[.val (.int p0), .val (.int p1), .val (.int p2), .val (.int p3), .val (.int p4), .val (.int (3 : Int32)), .val (.int v0), .val (.int v1), .val (.int v2), .val (.ref b1), .val (.int ex), .val (.int (own_has f p4 0 3)), .unset] [(.int v1)])) target
      refine XS.iload X95.here hx rfl (hb hby at_172) rfl ?_
      show Steps p.tables e below (T95.setTop (mkF m 174 #[.val (.int p0), .val (.int p1), .val (.int p2), .val (.int p3), .val (.int p4), .val (.int (3 : Int32)), .val (.int v0), .val (.int v1), .val (.int v2), .val (.ref b1), .val (.int ex), .val (.int (own_has f p4 0 3)), .unset] [(.int v1), (.int v1)])) target
      refine XS.icmpNo X95.here hx rfl (hb hby at_174) rfl (XT.ii_ne_f rfl) ?_
      show Steps p.tables e below (T95.setTop (mkF m 177 #[.val (.int p0), .val (.int p1), .val (.int p2), .val (.int p3), .val (.int p4), .val (.int (3 : Int32)), .val (.int v0), .val (.int v1), .val (.int v2), .val (.ref b1), .val (.int ex), .val (.int (own_has f p4 0 3)), .unset] [])) target
      refine XS.iload X95.here hx rfl (hb hby at_177) rfl ?_
      show Steps p.tables e below (T95.setTop (mkF m 179 #[.val (.int p0), .val (.int p1), .val (.int p2), .val (.int p3), .val (.int p4), .val (.int (3 : Int32)), .val (.int v0), .val (.int v1), .val (.int v2), .val (.ref b1), .val (.int ex), .val (.int (own_has f p4 0 3)), .unset] [(.int (3 : Int32))])) target
      refine XT.iconstV X95.here hx rfl (2 : Int32) (hb hby at_179) rfl ?_
      show Steps p.tables e below (T95.setTop (mkF m 180 #[.val (.int p0), .val (.int p1), .val (.int p2), .val (.int p3), .val (.int p4), .val (.int (3 : Int32)), .val (.int v0), .val (.int v1), .val (.int v2), .val (.ref b1), .val (.int ex), .val (.int (own_has f p4 0 3)), .unset] [(.int (2 : Int32)), (.int (3 : Int32))])) target
      refine XS.icmpNo X95.here hx rfl (hb hby at_180) rfl (XT.ii_le_f (by decide)) ?_
      show Steps p.tables e below (T95.setTop (mkF m 183 #[.val (.int p0), .val (.int p1), .val (.int p2), .val (.int p3), .val (.int p4), .val (.int (3 : Int32)), .val (.int v0), .val (.int v1), .val (.int v2), .val (.ref b1), .val (.int ex), .val (.int (own_has f p4 0 3)), .unset] [])) target
      refine XS.aload X95.here hx rfl (hb hby at_183) rfl rfl ?_
      show Steps p.tables e below (T95.setTop (mkF m 185 #[.val (.int p0), .val (.int p1), .val (.int p2), .val (.int p3), .val (.int p4), .val (.int (3 : Int32)), .val (.int v0), .val (.int v1), .val (.int v2), .val (.ref b1), .val (.int ex), .val (.int (own_has f p4 0 3)), .unset] [(.ref b1)])) target
      refine XT.iconstV X95.here hx rfl (2 : Int32) (hb hby at_185) rfl ?_
      show Steps p.tables e below (T95.setTop (mkF m 186 #[.val (.int p0), .val (.int p1), .val (.int p2), .val (.int p3), .val (.int p4), .val (.int (3 : Int32)), .val (.int v0), .val (.int v1), .val (.int v2), .val (.ref b1), .val (.int ex), .val (.int (own_has f p4 0 3)), .unset] [(.int (2 : Int32)), (.ref b1)])) target
      refine X95.iaload hx (j := (2 : Int32)) (v := (.int v2)) (by rw [eq95]; exact Bf.1) (State.isArrayOf_alike hZ.alike Bf.2.1) Bf.2.2 (by rw [Sf]; decide) hat2 (g := (mkF m 186 #[.val (.int p0), .val (.int p1), .val (.int p2), .val (.int p3), .val (.int p4), .val (.int (3 : Int32)), .val (.int v0), .val (.int v1), .val (.int v2), .val (.ref b1), .val (.int ex), .val (.int (own_has f p4 0 3)), .unset] [(.int (2 : Int32)), (.ref b1)])) rfl rfl (hb hby at_186) _ ?_
      show Steps p.tables e below (T95.setTop (mkF m 187 #[.val (.int p0), .val (.int p1), .val (.int p2), .val (.int p3), .val (.int p4), .val (.int (3 : Int32)), .val (.int v0), .val (.int v1), .val (.int v2), .val (.ref b1), .val (.int ex), .val (.int (own_has f p4 0 3)), .unset] [(.int v2)])) target
      refine XS.iload X95.here hx rfl (hb hby at_187) rfl ?_
      show Steps p.tables e below (T95.setTop (mkF m 189 #[.val (.int p0), .val (.int p1), .val (.int p2), .val (.int p3), .val (.int p4), .val (.int (3 : Int32)), .val (.int v0), .val (.int v1), .val (.int v2), .val (.ref b1), .val (.int ex), .val (.int (own_has f p4 0 3)), .unset] [(.int v2), (.int v2)])) target
      refine XS.icmpNo X95.here hx rfl (hb hby at_189) rfl (XT.ii_ne_f rfl) ?_
      show Steps p.tables e below (T95.setTop (mkF m 192 #[.val (.int p0), .val (.int p1), .val (.int p2), .val (.int p3), .val (.int p4), .val (.int (3 : Int32)), .val (.int v0), .val (.int v1), .val (.int v2), .val (.ref b1), .val (.int ex), .val (.int (own_has f p4 0 3)), .unset] [])) target
      refine XT.iconstV X95.here hx rfl (1 : Int32) (hb hby at_192) rfl ?_
      show Steps p.tables e below (T95.setTop (mkF m 193 #[.val (.int p0), .val (.int p1), .val (.int p2), .val (.int p3), .val (.int p4), .val (.int (3 : Int32)), .val (.int v0), .val (.int v1), .val (.int v2), .val (.ref b1), .val (.int ex), .val (.int (own_has f p4 0 3)), .unset] [(.int (1 : Int32))])) target
      refine XS.goto X95.here hx rfl (pc0 := 193) (pc' := 197) rfl (hb hby at_193) (by decide) (by decide) ?_
      show Steps p.tables e below (T95.setTop (mkF m 197 #[.val (.int p0), .val (.int p1), .val (.int p2), .val (.int p3), .val (.int p4), .val (.int (3 : Int32)), .val (.int v0), .val (.int v1), .val (.int v2), .val (.ref b1), .val (.int ex), .val (.int (own_has f p4 0 3)), .unset] [(.int (1 : Int32))])) target
      refine XS.istore X95.here hx rfl (hb hby at_197) rfl (l' := #[.val (.int p0), .val (.int p1), .val (.int p2), .val (.int p3), .val (.int p4), .val (.int (3 : Int32)), .val (.int v0), .val (.int v1), .val (.int v2), .val (.ref b1), .val (.int ex), .val (.int (own_has f p4 0 3)), .val (.int (1 : Int32))]) rfl ?_
      show Steps p.tables e below (T95.setTop (mkF m 199 #[.val (.int p0), .val (.int p1), .val (.int p2), .val (.int p3), .val (.int p4), .val (.int (3 : Int32)), .val (.int v0), .val (.int v1), .val (.int v2), .val (.ref b1), .val (.int ex), .val (.int (own_has f p4 0 3)), .val (.int (1 : Int32))] [])) target
      refine XS.iload X95.here hx rfl (hb hby at_199) rfl ?_
      show Steps p.tables e below (T95.setTop (mkF m 201 #[.val (.int p0), .val (.int p1), .val (.int p2), .val (.int p3), .val (.int p4), .val (.int (3 : Int32)), .val (.int v0), .val (.int v1), .val (.int v2), .val (.ref b1), .val (.int ex), .val (.int (own_has f p4 0 3)), .val (.int (1 : Int32))] [(.int (own_has f p4 0 3))])) target
      refine XS.iload X95.here hx rfl (hb hby at_201) rfl ?_
      show Steps p.tables e below (T95.setTop (mkF m 203 #[.val (.int p0), .val (.int p1), .val (.int p2), .val (.int p3), .val (.int p4), .val (.int (3 : Int32)), .val (.int v0), .val (.int v1), .val (.int v2), .val (.ref b1), .val (.int ex), .val (.int (own_has f p4 0 3)), .val (.int (1 : Int32))] [(.int ex), (.int (own_has f p4 0 3))])) target
      refine XS.icmpNo X95.here hx rfl (hb hby at_203) rfl (XT.ii_ne_f hq) ?_
      show Steps p.tables e below (T95.setTop (mkF m 206 #[.val (.int p0), .val (.int p1), .val (.int p2), .val (.int p3), .val (.int p4), .val (.int (3 : Int32)), .val (.int v0), .val (.int v1), .val (.int v2), .val (.ref b1), .val (.int ex), .val (.int (own_has f p4 0 3)), .val (.int (1 : Int32))] [])) target
      refine XS.iload X95.here hx rfl (hb hby at_206) rfl ?_
      show Steps p.tables e below (T95.setTop (mkF m 208 #[.val (.int p0), .val (.int p1), .val (.int p2), .val (.int p3), .val (.int p4), .val (.int (3 : Int32)), .val (.int v0), .val (.int v1), .val (.int v2), .val (.ref b1), .val (.int ex), .val (.int (own_has f p4 0 3)), .val (.int (1 : Int32))] [(.int (1 : Int32))])) target
      refine XS.ifNo X95.here hx rfl (hb hby at_208) rfl (XT.i0_eq_f (by decide)) ?_
      show Steps p.tables e below (T95.setTop (mkF m 211 #[.val (.int p0), .val (.int p1), .val (.int p2), .val (.int p3), .val (.int p4), .val (.int (3 : Int32)), .val (.int v0), .val (.int v1), .val (.int v2), .val (.ref b1), .val (.int ex), .val (.int (own_has f p4 0 3)), .val (.int (1 : Int32))] [])) target
      refine XT.iconstV X95.here hx rfl (1 : Int32) (hb hby at_211) rfl ?_
      show Steps p.tables e below (T95.setTop (mkF m 212 #[.val (.int p0), .val (.int p1), .val (.int p2), .val (.int p3), .val (.int p4), .val (.int (3 : Int32)), .val (.int v0), .val (.int v1), .val (.int v2), .val (.ref b1), .val (.int ex), .val (.int (own_has f p4 0 3)), .val (.int (1 : Int32))] [(.int (1 : Int32))])) target
      refine XS.goto X95.here hx rfl (pc0 := 212) (pc' := 216) rfl (hb hby at_212) (by decide) (by decide) ?_
      show Steps p.tables e below (T95.setTop (mkF m 216 #[.val (.int p0), .val (.int p1), .val (.int p2), .val (.int p3), .val (.int p4), .val (.int (3 : Int32)), .val (.int v0), .val (.int v1), .val (.int v2), .val (.ref b1), .val (.int ex), .val (.int (own_has f p4 0 3)), .val (.int (1 : Int32))] [(.int (1 : Int32))])) target
      exact kt
    obtain ⟨fs, hr, hrun, hended, hW, hsame⟩ := X95.leave (v := some (.int (nar .boolean (1 : Int32)))) (fun h => by rw [Bd.returns] at h; cases h)
    refine ⟨_, _, g97 _ ?_, hrun, hended, _, _, rfl, ?_, ⟨_, rfl⟩, hW, hsame.mono (by decide) (by decide)⟩
    · exact retN X95 hx (t := .boolean) Bd.returns (by simp) (hb hby at_216) hr
    · show Q_rm0 Z p0 p1 p2 p3 p4  h0 n0 _ T95.heap _
      rw [eq95]
      exact ⟨rfl, N95⟩
set_option maxRecDepth 65536 in
set_option maxHeartbeats 40000000 in
theorem comes_1 {Post : Tables → Env → Array Value → State → Outcome → State → Prop} (hpost : ∀ tb e args s v u, (limb_1_1.after args s (.returned v) u = true ∧ limb_1_2.after args s (.returned v) u = true ∧ True) → FrameEnd s (.returned v) u (Jvm.fieldLocs frame_1_writes args s ++ Jvm.arrayLocs frame_1_arrays args s ++ Jvm.staticLocs frame_1_statics s) 16 128 → Post tb e args s (.returned v) u) :
    ArmFor flags0 classFile x code maxLocals ret World_1 tables_1 room_1 Calls_1 rest_1 Pre_1 Post := by
  intro l hfl _ _ p e ha hc hk s m args below hf hA hF happ hP
  obtain ⟨hcalls, hrest, hpre⟩ := hP
  obtain ⟨-, -, -, hnamed, -, -, -, hat⟩ := (Spec.applies_iff hf).mp happ
  obtain ⟨hg, hn⟩ := and_e (Cond.before_iff.mp (show (Jvm.Cond.and given_1 narrow_1).before args s = true from hpre))
  obtain ⟨hcnt, hs0⟩ := and_e hg
  obtain ⟨ha0, hs1⟩ := and_e hs0
  obtain ⟨ha1, hs2⟩ := and_e hs1
  obtain ⟨ha2, hs3⟩ := and_e hs2
  obtain ⟨ha3, hs4⟩ := and_e hs3
  have ha4 := hs4
  obtain ⟨w0, w1, w2, w3, w4, rfl⟩ : ∃ w0 w1 w2 w3 w4 : Value, args = #[w0, w1, w2, w3, w4] := by
    have hs : args.size = 5 := by simpa [Cond.value, given_1] using hcnt
    obtain ⟨L⟩ := args
    match L, hs with
    | [w0, w1, w2, w3, w4], _ => exact ⟨w0, w1, w2, w3, w4, rfl⟩
  have hw := fun d (hd : d ∈ tables_1) => atoms_spec (ws := Jvm.Cond.code x code maxLocals ret :: tables_1) hat d (List.mem_cons_of_mem _ hd)
  have hfit : Fit s := fun {y c} hc i hi => by
    obtain ⟨ha, rfl⟩ := Array.getElem?_eq_some_iff.mp hc
    have q := List.all_eq_true.mp ((Array.all_eq_true_iff_forall_mem.mp hF) _ (Array.getElem_mem ha)) i (List.mem_range.mpr hi)
    simpa [Array.getElem?_eq_getElem hi] using q
  obtain ⟨i0, ei0⟩ := is_v ha0
  obtain rfl : w0 = (.int i0) := Option.some.inj ei0
  obtain ⟨i1, ei1⟩ := is_v ha1
  obtain rfl : w1 = (.int i1) := Option.some.inj ei1
  obtain ⟨i2, ei2⟩ := is_v ha2
  obtain rfl : w2 = (.int i2) := Option.some.inj ei2
  obtain ⟨i3, ei3⟩ := is_v ha3
  obtain rfl : w3 = (.int i3) := Option.some.inj ei3
  obtain ⟨i4, ei4⟩ := is_v ha4
  obtain rfl : w4 = (.int i4) := Option.some.inj ei4
  obtain ⟨n, o, h1, h2, h3, _, L, rfl, ⟨rfl, N⟩, hq⟩ := rm0 l s _ hw tables_1 i0 i1 i2 i3 i4  s.heap s.heap.size (Nat.le_refl _)  p e ha hc hk s m _ below hf ((Spec.applies_iff_loose hf).mp happ).1 ⟨rfl, State.Warmed39.refl s, rfl⟩ trivial
  refine ⟨n, _, h1, h2, h3, hpost _ _ _ _ _ _ ⟨Cond.after_iff.mpr rfl, Cond.after_iff.mpr (eq_i res_at (Term.int_eval (1)) rfl), trivial⟩ ⟨hq.1, hq.2.1, (hq.2.2.sift fun y hy => Or.inr (N y hy)).mono (by decide) (by decide)⟩⟩
theorem main_1_1 : Claimed_1_1 := comes_1 fun _ _ _ _ _ _ h hF => ⟨h.1, hF⟩
theorem main_1_2 : Claimed_1_2 := comes_1 fun _ _ _ _ _ _ h hF => ⟨h.2.1, hF⟩
end Jvm.Pilot.@@N@@
namespace Jvm.Pilot.@@N@@
open Jvm Jvm.ClassFile Sem Op Lib Jvm.Free Jvm.Stand Jvm.Pilot.@@N@@.Jvm.D
/-! MADE BY PROGRAM (witnessworld.py) out of the Statement's table words and the real class files: 9 classes; the members and pool entries that the words name. The judged class is class 1, her method 1. -/
namespace start1
open Jvm.ClassFile
def u (s : String) : CpInfo := .utf8 (stringToUtf16 s)
/-- a pool by its gaps: so many unusable entries, then the entry; so many at the end -/
def gap : Nat → List CpInfo → List CpInfo
  | 0, r => r
  | n + 1, r => .unusable :: gap n r
def poolList (es : List (Nat × CpInfo)) (last : Nat) : List CpInfo := es.foldr (fun e r => gap e.1 (e.2 :: r)) (gap last [])
def pool (es : List (Nat × CpInfo)) (last : Nat) : Array CpInfo := ⟨poolList es last⟩
def fileOf (pool : Array CpInfo) (this : Nat) (attrs : Array Attribute := #[]) (ms : Array MethodInfo := #[]) (fl : Nat := 33) (sup : Nat := 0) (ifs : Array Nat := #[]) (fds : Array FieldInfo := #[]) : ClassFile where
  minorVersion := 0
  majorVersion := 65
  constantPool := pool
  accessFlags := fl
  thisClass := this
  superClass := sup
  interfaces := ifs
  fields := fds
  methods := ms
  attributes := attrs
def plain (name : String) (sup : Option ClassId) : Class where
  name := name
  kind := .ordinary
  loader := none
  accessFlags := 33
  super := sup
  interfaces := #[]
  cf := none
  fields := #[]
  methods := #[]
  instanceTypes := #[]
  staticTypes := #[]
  resolved := #[]
  callSites := []
  init := .initialized
  statics := none
  mirror := none

def pool0 : Array CpInfo := pool [(5, u "<init>"), (0, u "()V"), (1, .class_ 10), (1, u "java/lang/Object")] 113

def k0m0 : Method := { name := "<init>", desc := "()V", sig := { parameters := [], returnType := none }, accessFlags := 1, code := none }
/-- java/lang/Object -/
def k0 : Class := { plain "java/lang/Object" none with
  accessFlags := 33
  interfaces := #[]
  cf := some (fileOf pool0 8 #[] #[{ accessFlags := 1, nameIndex := 5, descriptorIndex := 6, attributes := #[] }] 33 0 #[] #[])
  fields := #[]
  methods := #[k0m0]
  instanceTypes := #[]
  staticTypes := #[]
  resolved := Array.replicate 124 none
  statics := none }

def pool1 : Array CpInfo := pool [(2, .class_ 4), (1, u "java/lang/Object"), (0, u "<init>"), (0, u "()V"), (0, .methodref 8 9), (0, .class_ 10), (0, .nameAndType 11 12), (0, u "com/example/ends_to_means/endstomeans/model/VertexChecks"), (0, u "hasMove"), (0, u "([II)Z"), (0, .class_ 14), (0, u "com/example/ends_to_means/endstomeans/model/VertexChecksHasMovePinLaw"), (2, u "law"), (0, u "(IIIII)Z")] 5

def k1m0 : Method := { name := "<init>", desc := "()V", sig := { parameters := [], returnType := none }, accessFlags := 2, code := none }
def k1c1 : Code := { maxStack := 3, maxLocals := 13, code := code, exceptionTable := #[], attributes := #[] }
def k1m1 : Method := { name := "law", desc := "(IIIII)Z", sig := { parameters := [.int, .int, .int, .int, .int], returnType := some .boolean }, accessFlags := 9, code := some k1c1 }
/-- com/example/ends_to_means/endstomeans/model/VertexChecksHasMovePinLaw -/
def k1 : Class := { plain "com/example/ends_to_means/endstomeans/model/VertexChecksHasMovePinLaw" (some 0) with
  accessFlags := 49
  interfaces := #[]
  cf := some (fileOf pool1 13 #[] #[{ accessFlags := 2, nameIndex := 5, descriptorIndex := 6, attributes := #[] }, { accessFlags := 9, nameIndex := 17, descriptorIndex := 18, attributes := #[] }] 49 2 #[] #[])
  fields := #[]
  methods := #[k1m0, k1m1]
  instanceTypes := #[]
  staticTypes := #[]
  resolved := Array.replicate 24 none
  statics := none }

def pool2 : Array CpInfo := pool [(2, .class_ 4), (1, u "java/lang/Object"), (0, u "<init>"), (0, u "()V"), (52, .class_ 61), (1, u "com/example/ends_to_means/endstomeans/model/VertexChecks"), (0, u "hasMove"), (0, u "([II)Z")] 38

def k2m0 : Method := { name := "<init>", desc := "()V", sig := { parameters := [], returnType := none }, accessFlags := 2, code := none }
def k2c1 : Code := { maxStack := 2, maxLocals := 4, code := prog_106_method_6_code, exceptionTable := #[], attributes := #[] }
def k2m1 : Method := { name := "hasMove", desc := "([II)Z", sig := { parameters := [(.array .int), .int], returnType := some .boolean }, accessFlags := 8, code := some k2c1 }
/-- com/example/ends_to_means/endstomeans/model/VertexChecks -/
def k2 : Class := { plain "com/example/ends_to_means/endstomeans/model/VertexChecks" (some 0) with
  accessFlags := 48
  interfaces := #[]
  cf := some (fileOf pool2 59 #[] #[{ accessFlags := 2, nameIndex := 5, descriptorIndex := 6, attributes := #[] }, { accessFlags := 8, nameIndex := 62, descriptorIndex := 63, attributes := #[] }] 48 2 #[] #[])
  fields := #[]
  methods := #[k2m0, k2m1]
  instanceTypes := #[]
  staticTypes := #[]
  resolved := Array.replicate 102 none
  statics := none }

def pool3 : Array CpInfo := pool [(1, u "java/lang/Cloneable"), (0, .class_ 1), (0, u "java/lang/Object"), (0, .class_ 3)] 3

/-- java/lang/Cloneable -/
def k3 : Class := { plain "java/lang/Cloneable" (some 0) with
  accessFlags := 1537
  interfaces := #[]
  cf := some (fileOf pool3 2 #[] #[] 1537 4 #[] #[])
  fields := #[]
  methods := #[]
  instanceTypes := #[]
  staticTypes := #[]
  resolved := Array.replicate 8 none
  statics := none }

def pool4 : Array CpInfo := pool [(1, u "java/io/Serializable"), (0, .class_ 1), (0, u "java/lang/Object"), (0, .class_ 3)] 3

/-- java/io/Serializable -/
def k4 : Class := { plain "java/io/Serializable" (some 0) with
  accessFlags := 1537
  interfaces := #[]
  cf := some (fileOf pool4 2 #[] #[] 1537 4 #[] #[])
  fields := #[]
  methods := #[]
  instanceTypes := #[]
  staticTypes := #[]
  resolved := Array.replicate 8 none
  statics := none }

/-- the primitive byte -/
def k5 : Class := { plain "byte" none with kind := .primitive 'B', accessFlags := 0x411 }
/-- [B -/
def k6 : Class := { plain "[B" (some 0) with kind := .array 5 .byte, interfaces := #[3, 4], accessFlags := 1041 }

/-- the primitive int -/
def k7 : Class := { plain "int" none with kind := .primitive 'I', accessFlags := 0x411 }
/-- [I -/
def k8 : Class := { plain "[I" (some 0) with kind := .array 7 .int, interfaces := #[3, 4], accessFlags := 1041 }

def heap : Heap := #[]
def classes : Array Class := #[k0, k1, k2, k3, k4, k5, k6, k7, k8]
def interned : List (Array UInt16 × Addr) := []
def slotsUsed : Nat := 0
def theMethod : MethodId := ⟨1, 1⟩
def args0 : Array Value := #[.int 5, .int 1, .int 2, .int 3, .int 4]
def aboutOver (below : List Frame) : State where
  vm := { classes := classes, interned := interned.toArray }
  heap := heap
  slotsUsed := slotsUsed
  threads := #[{ frames := .invoking theMethod args0 :: below }]
def below0 : List Frame := [.native { method := ⟨0, 0⟩, args := #[] }]
def about1 : State := aboutOver below0
def p0 : Program := .bare "" "" ""
def e0 : Env := launch0.env 0 0 0
theorem w_frames : about1.frames = Frame.invoking theMethod args0 :: below0 := rfl
set_option maxRecDepth 65536 in
theorem w_args : argsFit about1.vm theMethod args0 = true := by decide +kernel
set_option maxRecDepth 65536 in
theorem w_heap : heapFits about1 = true := by decide +kernel
set_option maxRecDepth 65536 in
theorem w_runnable : about1.curStatus? = some .runnable := by decide +kernel
set_option maxRecDepth 65536 in
theorem w_alone : about1.alone = true := by decide +kernel
set_option maxRecDepth 65536 in
theorem w_named : about1.methodNamed? x = some theMethod := by decide +kernel
set_option maxRecDepth 65536 in
theorem w_hears : about1.hears theMethod below0 = true := by decide +kernel
set_option maxRecDepth 65536 in
theorem w_ripe : about1.ripe theMethod args0 below0 = true := by decide +kernel
theorem w_running : about1.status = .running := rfl
set_option maxRecDepth 65536 in
theorem w_room : about1.hasRoom e0.platform room_1 = true :=
  launch0.hasRoom_least _ room_1 (by decide +kernel) (by decide +kernel) (by decide +kernel) (by decide +kernel) (by decide +kernel) (by decide +kernel)
theorem allAtoms_all (ts : List Jvm.Cond) (a : Array Jvm.Value) (st : Jvm.State) : (allAtoms ts).before a st = ts.all (fun c => c.before a st) := by
  induction ts with
  | nil => rfl
  | cons c t ih =>
    show (Jvm.Cond.and c (allAtoms t)).before a st = _
    rw [Jvm.Cond.before_and, ih, List.all_cons]
def words1 : List Jvm.Cond := Jvm.Cond.code x code maxLocals ret :: tables_1
/-- a 'code' word, met by the world's own term for the bytes: nothing is compared byte by byte -/
theorem code_word {y : MethodName} {bytes : ByteArray} {mx : Nat} {rt : Option FieldType} {a : Array Value} {s : State} {m : MethodId} {meth : Method} {c : Code} (h1 : s.methodNamed? y = some m) (h2 : s.vm.method? m = some meth) (h3 : meth.code = some c) (h4 : c.code = bytes)
    (h5 : (c.maxLocals == mx && c.exceptionTable.isEmpty && decide (c.maxStack ≤ mostOperands) && decide (meth.sig.returnType = rt) && !meth.locks && decide (parseMethodDescriptor y.desc = some meth.sig)) = true) : (Jvm.Cond.code y bytes mx rt).before a s = true := by
  simp only [Bool.and_eq_true, beq_iff_eq, Bool.not_eq_true', decide_eq_true_eq] at h5
  obtain ⟨⟨⟨⟨⟨g1, g2⟩, g3⟩, g4⟩, g5⟩, g6⟩ := h5
  simp [Cond.before, Cond.holds, Cond.value, h1, h2, h3, h4, g1, g2, g3, g4, g5, g6]
def isCode : Jvm.Cond → Bool
  | .code _ _ _ _ => true
  | _ => false
theorem all_split {L : List Jvm.Cond} {P : Jvm.Cond → Bool} (h1 : L.all (fun c => isCode c || P c) = true) (h2 : ∀ c ∈ L.filter isCode, P c = true) : L.all P = true := by
  refine List.all_eq_true.mpr fun c hc => ?_
  have h := List.all_eq_true.mp h1 c hc
  rcases Bool.eq_false_or_eq_true (isCode c) with hi | hi
  · exact h2 c (List.mem_filter.mpr ⟨hc, hi⟩)
  · simpa [hi] using h
set_option maxRecDepth 65536 in
theorem w_c0 : (Jvm.Cond.code x code maxLocals ret).before args0 about1 = true := code_word (m := ⟨1, 1⟩) (meth := k1m1) (c := k1c1) (by decide +kernel) rfl rfl rfl (by decide +kernel)
set_option maxRecDepth 65536 in
theorem w_c1 : (Jvm.Cond.code ({ cls := "com/example/ends_to_means/endstomeans/model/VertexChecks", name := "hasMove", desc := "([II)Z" } : Jvm.MethodName) prog_106_method_6_code (4 : Nat) (Option.some Jvm.ClassFile.FieldType.boolean)).before args0 about1 = true := code_word (m := ⟨2, 1⟩) (meth := k2m1) (c := k2c1) (by decide +kernel) rfl rfl rfl (by decide +kernel)
def codes1 : List Jvm.Cond := [Jvm.Cond.code x code maxLocals ret, Jvm.Cond.code ({ cls := "com/example/ends_to_means/endstomeans/model/VertexChecks", name := "hasMove", desc := "([II)Z" } : Jvm.MethodName) prog_106_method_6_code (4 : Nat) (Option.some Jvm.ClassFile.FieldType.boolean)]
set_option maxRecDepth 65536 in
theorem codes_eq : words1.filter isCode = codes1 := rfl
theorem w_codes : ∀ c ∈ words1.filter isCode, c.before args0 about1 = true := by
  rw [codes_eq]
  intro c hc
  simp only [codes1, List.mem_cons, List.not_mem_nil, or_false] at hc
  rcases hc with rfl | rfl
  · exact w_c0
  · exact w_c1
set_option maxRecDepth 65536 in
theorem w_t1 : words1.all (fun c => isCode c || c.before args0 about1) = true := by decide +kernel
theorem w_tables : (allAtoms (Jvm.Cond.code x code maxLocals ret :: tables_1)).before args0 about1 = true := by
  rw [allAtoms_all]
  show words1.all (fun c => c.before args0 about1) = true
  refine all_split ?_ w_codes
  rw [w_t1]
set_option maxRecDepth 65536 in
theorem w_case : (Jvm.Cond.and given_1 narrow_1).before args0 about1 = true := by decide +kernel
theorem w_applies : (headSpec (Jvm.Cond.code x code maxLocals ret :: tables_1) room_1).applies x e0.platform about1 = true :=
  (Spec.applies_iff w_frames).mpr ⟨w_running, w_runnable, w_alone, w_named, w_hears, w_ripe, w_room, w_tables⟩
theorem atStart : AtStart classFile x code maxLocals ret World_1 tables_1 room_1 Calls_1 rest_1 Pre_1 launch0 p0 e0 about1 theMethod args0 below0 :=
  ⟨lists_1, trivial, launch0.admits_env _ _ _, launch0.least_env, fairChoices_fair.cas, fairChoices_fair.clock, w_frames, w_args, w_heap, w_applies, trivial, trivial, w_case⟩
end start1
theorem witness_1 : WitnessClaimed_1 := ⟨start1.p0, start1.e0, start1.about1, start1.theMethod, start1.args0, start1.below0, start1.atStart⟩
end Jvm.Pilot.@@N@@
