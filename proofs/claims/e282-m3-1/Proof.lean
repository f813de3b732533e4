import JvmDerived
import JvmDerived.Pilot.@@N@@Statement
import JvmDerived.Pilot.@@N@@Code
set_option linter.unusedVariables false
set_option linter.unusedSimpArgs false
namespace Jvm.RoadKit
open Sem ClassFile Op Lib Jvm.Stand Jvm.Free Jvm.LawKit
section New
variable {p : Program} {l : Launch} {e : Env} {R : Room} {s : State} {m : MethodId} {args : Array Value} {below : List Frame} {meth : Method} {c : Code} {T : State} {locs : List Loc} {cells slots : Nat}
theorem retI (X : Stand p l e R s m args below meth c T locs cells slots) (hx : p.tables.exec = Jvm.exec) {pc : Nat} {Ls : Array Slot} {z : Int32} {rest : List Value} (hret : meth.sig.returnType = some .int) (hd : decode c.code pc = .ok (.ireturn, 1)) {fs : List Frame}
    (hl : ∀ (f : JFrame) (acts : List Action), f.method = m → f.locked = none → f.entered = [] → (doReturn e (T.setTop f) acts (some (.int z))).1 = T.setFrames fs) : Steps p.tables e below (T.setTop (mkF m pc Ls (.int z :: rest))) (T.setFrames fs) := by
  have hm' : T.vm.method? m = some meth := X.method'
  have hn : narrow .int (.int z) = .int z := rfl
  show Steps p.tables e below (T.setTop { method := m, pc := pc, locals := Ls, stack := _ :: rest, locked := none }) _
  jvm_step X.here [X.here.top, hx, hd, hm', hret, hn]
  first | (intro acts; rw [hl _ acts rfl rfl rfl]) | rw [hl _ _ rfl rfl rfl]
  exact Steps.refl _
end New
end Jvm.RoadKit
namespace Jvm.Pilot.@@N@@
open Jvm Jvm.ClassFile Sem Op Lib Jvm.Free Jvm.Stand Jvm.LawKit Jvm.RoadKit Bundle Jvm.Pilot.@@N@@.Jvm.D
def own_emp : List Int32 → Int32
  | [] => 1
  | x :: t => if x = (0 : Int32) then own_emp t else 0
theorem own_rem (p1 : Int32) : ∃ k : Int32, k = (p1 &&& (2147483647 : Int32)) % (4 : Int32) ∧ (k = (0 : Int32) ∨ k = (1 : Int32) ∨ k = (2 : Int32) ∨ k = (3 : Int32)) := by
  refine ⟨_, rfl, ?_⟩
  have h1 := c_and p1 (2147483647 : Int32) (by decide)
  have h2 := (c_irem (p1 &&& (2147483647 : Int32)) (4 : Int32) 4 (by decide)).1 h1.1
  generalize (p1 &&& (2147483647 : Int32)) % (4 : Int32) = k at *
  generalize (p1 &&& (2147483647 : Int32)) = q at *
  have e : ∀ i : Int32, k = i ↔ k.toInt = i.toInt := fun i => Int32.toInt_inj.symm
  simp only [e, show (0 : Int32).toInt = 0 from rfl, show (1 : Int32).toInt = 1 from rfl, show (2 : Int32).toInt = 2 from rfl, show (3 : Int32).toInt = 3 from rfl]
  omega
theorem d1_0 : decode prog_13_method_9_code 0 = .ok (.aload_n 0, 1) := by decide +kernel
theorem d1_1 : decode prog_13_method_9_code 1 = .ok (.astore_n 1, 1) := by decide +kernel
theorem d1_2 : decode prog_13_method_9_code 2 = .ok (.aload_n 1, 1) := by decide +kernel
theorem d1_3 : decode prog_13_method_9_code 3 = .ok (.arraylength, 1) := by decide +kernel
theorem d1_4 : decode prog_13_method_9_code 4 = .ok (.istore_n 2, 1) := by decide +kernel
theorem d1_5 : decode prog_13_method_9_code 5 = .ok (.iconst 0, 1) := by decide +kernel
theorem d1_6 : decode prog_13_method_9_code 6 = .ok (.istore_n 3, 1) := by decide +kernel
theorem d1_7 : decode prog_13_method_9_code 7 = .ok (.iload_n 3, 1) := by decide +kernel
theorem d1_8 : decode prog_13_method_9_code 8 = .ok (.iload_n 2, 1) := by decide +kernel
theorem d1_9 : decode prog_13_method_9_code 9 = .ok (.if_icmp .ge 21, 3) := by decide +kernel
theorem d1_30 : decode prog_13_method_9_code 30 = .ok (.iconst 1, 1) := by decide +kernel
theorem d1_31 : decode prog_13_method_9_code 31 = .ok (.ireturn, 1) := by decide +kernel
theorem pn_c0 : plainName "com/example/evntual/evntual/engine/Bits" = true := by first | (simp [plainName, overriddenIn]; done) | decide +kernel
theorem ef_rm1_0 (m : MethodId) (x0 : Addr) : entryFrame m #[(.ref x0)] 5 = mkF m 0 #[.val (.ref x0), .unset, .unset, .unset, .unset] [] := by first | (simp [entryFrame, mkF, argsToLocals, Value.category]; done) | rfl
def Q_rm1_0 (Z : State)  (h0 : Heap) (n0 : Nat) (v : Option Value) (h : Heap) (L : List Loc) : Prop := v = some (.int (own_emp [])) ∧ Fr n0 L ∧ h = h0
set_option maxRecDepth 65536 in
set_option maxHeartbeats 40000000 in
theorem rm1_0 (l : Launch) (Z : State) (a0 : Array Value) (hw : ∀ d ∈ tables_1, d.before a0 Z = true) (ws : List Jvm.Cond) (a1 : Addr) (kc : ClassId) (h0 : Heap) (n0 : Nat) (Z0 : n0 ≤ h0.size) (V : Arv Z h0 a1 kc .int (0 : Int32) [] (.int (0 : Int32))) :
    MetFree l (⟨"com/example/evntual/evntual/engine/Bits", "isEmpty", "([I)Z"⟩ : MethodName) (head1 (Jvm.Cond.code (⟨"com/example/evntual/evntual/engine/Bits", "isEmpty", "([I)Z"⟩ : MethodName) prog_13_method_9_code 5 (some .boolean) :: ws) ({ frames := 0, cells := 0, slots := 0, locals := 0 } : Room)) (fun a U => a = #[(.ref a1)] ∧ Z.Warmed39 U.vm ∧ U.heap = h0) (fun _ _ _ _ _ => True) (fun _ U o U' => ∃ v L, o = .returned v ∧ Q_rm1_0 Z  h0 n0 v U'.heap L ∧ FrameEnd U o U' L ({ frames := 0, cells := 0, slots := 0, locals := 0 } : Room).cells ({ frames := 0, cells := 0, slots := 0, locals := 0 } : Room).slots) := by
  refine MetFree.of_bodySF (plainFor_of_name pn_c0) hisR ?_
  intro p e s m args below meth c s₁ Bd hml0 hP hK
  obtain ⟨rfl, hZ, hh⟩ := hP
  have hx := Bd.exec
  have hby := Bd.bytes
  have hml : c.maxLocals = 5 := hml0
  have hown : s.vm.findClass "com/example/evntual/evntual/engine/Bits" = some m.cls := findClass_of_methodNamed Bd.named
  have hnm := (name_of_methodNamed Bd.named Bd.method).1
  have X0 : Stand p l e ({ frames := 0, cells := 0, slots := 0, locals := 0 } : Room) s m #[(.ref a1)] below meth c s₁ [] 0 0 := Stand.of_body Bd
  have e0 : s₁.heap = h0 := by rw [← hh, Bd.state]; rfl
  have N0 := Fr.nil n0
  have pre0 : ∀ t, Steps p.tables e below (s₁.setTop (mkF m 0 #[.val (.ref a1), .unset, .unset, .unset, .unset] [])) t → Steps p.tables e below (s₁.setTop (entryFrame m #[(.ref a1)] 5)) t := fun t k => castTop (ef_rm1_0 m a1) k
  obtain ⟨cl1, Ar1, q1, S1, M1, H1, G1⟩ := id V
  have k2 : ∀ t, Steps p.tables e below (s₁.setTop (mkF m 31 #[.val (.ref a1), .val (.ref a1), .val (.int (0 : Int32)), .val (.int (0 : Int32)), .unset] [(.int (1 : Int32))])) t → Steps p.tables e below (s₁.setTop (entryFrame m #[(.ref a1)] 5)) t := fun t kt => pre0 t (by
      let A0 : Array Slot := #[.val (.ref a1), .unset, .unset, .unset, .unset]
      show Steps p.tables e below (s₁.setTop (mkF m 0 A0 [])) _
      refine XS.aloadN X0.here hx rfl (hb hby d1_0) rfl rfl ?_
      show Steps p.tables e below (s₁.setTop (mkF m 1 A0 [(.ref a1)])) _
      let A1 : Array Slot := #[.val (.ref a1), .val (.ref a1), .unset, .unset, .unset]
      refine XS.astoreN X0.here hx rfl (hb hby d1_1) rfl rfl (l' := A1) rfl ?_
      show Steps p.tables e below (s₁.setTop (mkF m 2 A1 [])) _
      refine XS.aloadN X0.here hx rfl (hb hby d1_2) rfl rfl ?_
      show Steps p.tables e below (s₁.setTop (mkF m 3 A1 [(.ref a1)])) _
      refine X0.arraylength hx (by rw [e0]; exact Ar1.1) (State.isArrayOf_alike hZ.alike Ar1.2.1) (g := (mkF m 3 A1 [(.ref a1)])) rfl rfl (hb hby d1_3) _ ?_
      rw [len_of S1 M1]
      show Steps p.tables e below (s₁.setTop (mkF m 4 A1 [(.int (0 : Int32))])) _
      let A2 : Array Slot := #[.val (.ref a1), .val (.ref a1), .val (.int (0 : Int32)), .unset, .unset]
      refine XS.istoreN X0.here hx rfl (hb hby d1_4) rfl (l' := A2) rfl ?_
      show Steps p.tables e below (s₁.setTop (mkF m 5 A2 [])) _
      refine XS.iconst X0.here hx rfl (hb hby d1_5) ?_
      show Steps p.tables e below (s₁.setTop (mkF m 6 A2 [(.int (0 : Int32))])) _
      let A3 : Array Slot := #[.val (.ref a1), .val (.ref a1), .val (.int (0 : Int32)), .val (.int (0 : Int32)), .unset]
      refine XS.istoreN X0.here hx rfl (hb hby d1_6) rfl (l' := A3) rfl ?_
      show Steps p.tables e below (s₁.setTop (mkF m 7 A3 [])) _
      refine XS.iloadN X0.here hx rfl (hb hby d1_7) rfl ?_
      show Steps p.tables e below (s₁.setTop (mkF m 8 A3 [(.int (0 : Int32))])) _
      refine XS.iloadN X0.here hx rfl (hb hby d1_8) rfl ?_
      show Steps p.tables e below (s₁.setTop (mkF m 9 A3 [(.int (0 : Int32)), (.int (0 : Int32))])) _
      refine XS.icmpYes X0.here hx rfl (pc0 := 9) (pc' := 30) rfl (hb hby d1_9) rfl (flt (by decide : ¬ ((0 : Int32) < (0 : Int32)))).2.1 (by decide) (by decide) ?_
      show Steps p.tables e below (s₁.setTop (mkF m 30 A3 [])) _
      refine XS.iconst X0.here hx rfl (hb hby d1_30) ?_
      exact kt)
  obtain ⟨fs, hr, hrun, hended, hW, hsame⟩ := X0.leave (v := some (.int (1 : Int32))) (fun h => by rw [Bd.returns] at h; cases h)
  refine ⟨_, _, k2 _ ?_, hrun, hended, _, _, rfl, ?_, ⟨_, rfl⟩, hW, hsame.mono (by decide) (by decide)⟩
  · show Steps p.tables e below (s₁.setTop (mkF m 31 #[.val (.ref a1), .val (.ref a1), .val (.int (0 : Int32)), .val (.int (0 : Int32)), .unset] [(.int (1 : Int32))])) _
    exact retN X0 hx (t := .boolean) Bd.returns (by simp) (hb hby d1_31) hr
  · show Q_rm1_0 Z  h0 n0 _ s₁.heap _
    rw [e0]
    exact ⟨rfl, N0, rfl⟩
theorem d1_12 : decode prog_13_method_9_code 12 = .ok (.aload_n 1, 1) := by decide +kernel
theorem d1_13 : decode prog_13_method_9_code 13 = .ok (.iload_n 3, 1) := by decide +kernel
theorem d1_14 : decode prog_13_method_9_code 14 = .ok (.iaload, 1) := by decide +kernel
theorem d1_15 : decode prog_13_method_9_code 15 = .ok (.istore 4, 2) := by decide +kernel
theorem d1_17 : decode prog_13_method_9_code 17 = .ok (.iload 4, 2) := by decide +kernel
theorem d1_19 : decode prog_13_method_9_code 19 = .ok (.ifCond .eq 5, 3) := by decide +kernel
theorem d1_24 : decode prog_13_method_9_code 24 = .ok (.iinc 3 1, 3) := by decide +kernel
theorem d1_27 : decode prog_13_method_9_code 27 = .ok (.goto (-20), 3) := by decide +kernel
theorem d1_22 : decode prog_13_method_9_code 22 = .ok (.iconst 0, 1) := by decide +kernel
theorem d1_23 : decode prog_13_method_9_code 23 = .ok (.ireturn, 1) := by decide +kernel
theorem ef_rm1_1 (m : MethodId) (x0 : Addr) : entryFrame m #[(.ref x0)] 5 = mkF m 0 #[.val (.ref x0), .unset, .unset, .unset, .unset] [] := by first | (simp [entryFrame, mkF, argsToLocals, Value.category]; done) | rfl
def Q_rm1_1 (Z : State)  (x0 : Int32) (h0 : Heap) (n0 : Nat) (v : Option Value) (h : Heap) (L : List Loc) : Prop := v = some (.int (own_emp [x0])) ∧ Fr n0 L ∧ h = h0
set_option maxRecDepth 65536 in
set_option maxHeartbeats 40000000 in
theorem rm1_1 (l : Launch) (Z : State) (a0 : Array Value) (hw : ∀ d ∈ tables_1, d.before a0 Z = true) (ws : List Jvm.Cond) (a1 : Addr) (kc : ClassId) (x0 : Int32) (h0 : Heap) (n0 : Nat) (Z0 : n0 ≤ h0.size) (V : Arv Z h0 a1 kc .int (1 : Int32) [(.int x0)] (.int (0 : Int32))) :
    MetFree l (⟨"com/example/evntual/evntual/engine/Bits", "isEmpty", "([I)Z"⟩ : MethodName) (head1 (Jvm.Cond.code (⟨"com/example/evntual/evntual/engine/Bits", "isEmpty", "([I)Z"⟩ : MethodName) prog_13_method_9_code 5 (some .boolean) :: ws) ({ frames := 0, cells := 0, slots := 0, locals := 0 } : Room)) (fun a U => a = #[(.ref a1)] ∧ Z.Warmed39 U.vm ∧ U.heap = h0) (fun _ _ _ _ _ => True) (fun _ U o U' => ∃ v L, o = .returned v ∧ Q_rm1_1 Z x0 h0 n0 v U'.heap L ∧ FrameEnd U o U' L ({ frames := 0, cells := 0, slots := 0, locals := 0 } : Room).cells ({ frames := 0, cells := 0, slots := 0, locals := 0 } : Room).slots) := by
  refine MetFree.of_bodySF (plainFor_of_name pn_c0) hisR ?_
  intro p e s m args below meth c s₁ Bd hml0 hP hK
  obtain ⟨rfl, hZ, hh⟩ := hP
  have hx := Bd.exec
  have hby := Bd.bytes
  have hml : c.maxLocals = 5 := hml0
  have hown : s.vm.findClass "com/example/evntual/evntual/engine/Bits" = some m.cls := findClass_of_methodNamed Bd.named
  have hnm := (name_of_methodNamed Bd.named Bd.method).1
  have X0 : Stand p l e ({ frames := 0, cells := 0, slots := 0, locals := 0 } : Room) s m #[(.ref a1)] below meth c s₁ [] 0 0 := Stand.of_body Bd
  have e0 : s₁.heap = h0 := by rw [← hh, Bd.state]; rfl
  have N0 := Fr.nil n0
  have pre0 : ∀ t, Steps p.tables e below (s₁.setTop (mkF m 0 #[.val (.ref a1), .unset, .unset, .unset, .unset] [])) t → Steps p.tables e below (s₁.setTop (entryFrame m #[(.ref a1)] 5)) t := fun t k => castTop (ef_rm1_1 m a1) k
  obtain ⟨cl3, Ar3, q3, S3, M3, H3, G3⟩ := id V
  obtain ⟨cl4, Ar4, q4, S4, M4, H4, G4⟩ := id V
  have hin5 : ¬ ((0 : Int32) < 0 ∨ cl4.slots.size ≤ ((0 : Int32)).toNatClampNeg) := inb_of S4 ⟨by decide, by decide⟩
  have hat5 : cl4.slots[((0 : Int32)).toNatClampNeg]? = some (.int x0) := H4.at hin5 rfl
  have k6 : ∀ t, Steps p.tables e below (s₁.setTop (mkF m 19 #[.val (.ref a1), .val (.ref a1), .val (.int (1 : Int32)), .val (.int (0 : Int32)), .val (.int x0)] [(.int x0)])) t → Steps p.tables e below (s₁.setTop (entryFrame m #[(.ref a1)] 5)) t := fun t kt => pre0 t (by
      let A0 : Array Slot := #[.val (.ref a1), .unset, .unset, .unset, .unset]
      show Steps p.tables e below (s₁.setTop (mkF m 0 A0 [])) _
      refine XS.aloadN X0.here hx rfl (hb hby d1_0) rfl rfl ?_
      show Steps p.tables e below (s₁.setTop (mkF m 1 A0 [(.ref a1)])) _
      let A1 : Array Slot := #[.val (.ref a1), .val (.ref a1), .unset, .unset, .unset]
      refine XS.astoreN X0.here hx rfl (hb hby d1_1) rfl rfl (l' := A1) rfl ?_
      show Steps p.tables e below (s₁.setTop (mkF m 2 A1 [])) _
      refine XS.aloadN X0.here hx rfl (hb hby d1_2) rfl rfl ?_
      show Steps p.tables e below (s₁.setTop (mkF m 3 A1 [(.ref a1)])) _
      refine X0.arraylength hx (by rw [e0]; exact Ar3.1) (State.isArrayOf_alike hZ.alike Ar3.2.1) (g := (mkF m 3 A1 [(.ref a1)])) rfl rfl (hb hby d1_3) _ ?_
      rw [len_of S3 M3]
      show Steps p.tables e below (s₁.setTop (mkF m 4 A1 [(.int (1 : Int32))])) _
      let A2 : Array Slot := #[.val (.ref a1), .val (.ref a1), .val (.int (1 : Int32)), .unset, .unset]
      refine XS.istoreN X0.here hx rfl (hb hby d1_4) rfl (l' := A2) rfl ?_
      show Steps p.tables e below (s₁.setTop (mkF m 5 A2 [])) _
      refine XS.iconst X0.here hx rfl (hb hby d1_5) ?_
      show Steps p.tables e below (s₁.setTop (mkF m 6 A2 [(.int (0 : Int32))])) _
      let A3 : Array Slot := #[.val (.ref a1), .val (.ref a1), .val (.int (1 : Int32)), .val (.int (0 : Int32)), .unset]
      refine XS.istoreN X0.here hx rfl (hb hby d1_6) rfl (l' := A3) rfl ?_
      show Steps p.tables e below (s₁.setTop (mkF m 7 A3 [])) _
      refine XS.iloadN X0.here hx rfl (hb hby d1_7) rfl ?_
      show Steps p.tables e below (s₁.setTop (mkF m 8 A3 [(.int (0 : Int32))])) _
      refine XS.iloadN X0.here hx rfl (hb hby d1_8) rfl ?_
      show Steps p.tables e below (s₁.setTop (mkF m 9 A3 [(.int (1 : Int32)), (.int (0 : Int32))])) _
      refine XS.icmpNo X0.here hx rfl (hb hby d1_9) rfl (tlt (by decide : (0 : Int32) < (1 : Int32))).2.1 ?_
      show Steps p.tables e below (s₁.setTop (mkF m 12 A3 [])) _
      refine XS.aloadN X0.here hx rfl (hb hby d1_12) rfl rfl ?_
      show Steps p.tables e below (s₁.setTop (mkF m 13 A3 [(.ref a1)])) _
      refine XS.iloadN X0.here hx rfl (hb hby d1_13) rfl ?_
      show Steps p.tables e below (s₁.setTop (mkF m 14 A3 [(.int (0 : Int32)), (.ref a1)])) _
      refine X0.iaload hx (j := (0 : Int32)) (v := (.int x0)) (by rw [e0]; exact Ar4.1) (State.isArrayOf_alike hZ.alike Ar4.2.1) Ar4.2.2 hin5 hat5 (g := (mkF m 14 A3 [(.int (0 : Int32)), (.ref a1)])) rfl rfl (hb hby d1_14) _ ?_
      show Steps p.tables e below (s₁.setTop (mkF m 15 A3 [(.int x0)])) _
      let A4 : Array Slot := #[.val (.ref a1), .val (.ref a1), .val (.int (1 : Int32)), .val (.int (0 : Int32)), .val (.int x0)]
      refine XS.istore X0.here hx rfl (hb hby d1_15) rfl (l' := A4) rfl ?_
      show Steps p.tables e below (s₁.setTop (mkF m 17 A4 [])) _
      refine XS.iload X0.here hx rfl (hb hby d1_17) rfl ?_
      exact kt)
  by_cases hc19_7 : x0 = (0 : Int32)
  · have k8 : ∀ t, Steps p.tables e below (s₁.setTop (mkF m 31 #[.val (.ref a1), .val (.ref a1), .val (.int (1 : Int32)), .val (.int ((0 : Int32) + (1 : Int32))), .val (.int x0)] [(.int (1 : Int32))])) t → Steps p.tables e below (s₁.setTop (entryFrame m #[(.ref a1)] 5)) t := fun t kt => k6 t (by
        let A0 : Array Slot := #[.val (.ref a1), .val (.ref a1), .val (.int (1 : Int32)), .val (.int (0 : Int32)), .val (.int x0)]
        show Steps p.tables e below (s₁.setTop (mkF m 19 A0 [(.int x0)])) _
        refine XS.ifYes X0.here hx rfl (pc0 := 19) (pc' := 24) rfl (hb hby d1_19) rfl ((if0 _ _).trans (teq hc19_7).1) (by decide) (by decide) ?_
        show Steps p.tables e below (s₁.setTop (mkF m 24 A0 [])) _
        let A1 : Array Slot := #[.val (.ref a1), .val (.ref a1), .val (.int (1 : Int32)), .val (.int ((0 : Int32) + (1 : Int32))), .val (.int x0)]
        refine XS.iinc X0.here hx rfl (hb hby d1_24) rfl (l' := A1) rfl ?_
        show Steps p.tables e below (s₁.setTop (mkF m 27 A1 [])) _
        refine XS.goto X0.here hx rfl (pc0 := 27) (pc' := 7) rfl (hb hby d1_27) (by decide) (by decide) ?_
        show Steps p.tables e below (s₁.setTop (mkF m 7 A1 [])) _
        refine XS.iloadN X0.here hx rfl (hb hby d1_7) rfl ?_
        show Steps p.tables e below (s₁.setTop (mkF m 8 A1 [(.int ((0 : Int32) + (1 : Int32)))])) _
        refine XS.iloadN X0.here hx rfl (hb hby d1_8) rfl ?_
        show Steps p.tables e below (s₁.setTop (mkF m 9 A1 [(.int (1 : Int32)), (.int ((0 : Int32) + (1 : Int32)))])) _
        refine XS.icmpYes X0.here hx rfl (pc0 := 9) (pc' := 30) rfl (hb hby d1_9) rfl (flt (by decide : ¬ (((0 : Int32) + (1 : Int32)) < (1 : Int32)))).2.1 (by decide) (by decide) ?_
        show Steps p.tables e below (s₁.setTop (mkF m 30 A1 [])) _
        refine XS.iconst X0.here hx rfl (hb hby d1_30) ?_
        exact kt)
    obtain ⟨fs, hr, hrun, hended, hW, hsame⟩ := X0.leave (v := some (.int (1 : Int32))) (fun h => by rw [Bd.returns] at h; cases h)
    refine ⟨_, _, k8 _ ?_, hrun, hended, _, _, rfl, ?_, ⟨_, rfl⟩, hW, hsame.mono (by decide) (by decide)⟩
    · show Steps p.tables e below (s₁.setTop (mkF m 31 #[.val (.ref a1), .val (.ref a1), .val (.int (1 : Int32)), .val (.int ((0 : Int32) + (1 : Int32))), .val (.int x0)] [(.int (1 : Int32))])) _
      exact retN X0 hx (t := .boolean) Bd.returns (by simp) (hb hby d1_31) hr
    · show Q_rm1_1 Z x0 h0 n0 _ s₁.heap _
      rw [e0]
      exact ⟨by simp [own_emp, hc19_7], N0, rfl⟩
  · have k9 : ∀ t, Steps p.tables e below (s₁.setTop (mkF m 23 #[.val (.ref a1), .val (.ref a1), .val (.int (1 : Int32)), .val (.int (0 : Int32)), .val (.int x0)] [(.int (0 : Int32))])) t → Steps p.tables e below (s₁.setTop (entryFrame m #[(.ref a1)] 5)) t := fun t kt => k6 t (by
        let A0 : Array Slot := #[.val (.ref a1), .val (.ref a1), .val (.int (1 : Int32)), .val (.int (0 : Int32)), .val (.int x0)]
        show Steps p.tables e below (s₁.setTop (mkF m 19 A0 [(.int x0)])) _
        refine XS.ifNo X0.here hx rfl (hb hby d1_19) rfl ((if0 _ _).trans (feq hc19_7).1) ?_
        show Steps p.tables e below (s₁.setTop (mkF m 22 A0 [])) _
        refine XS.iconst X0.here hx rfl (hb hby d1_22) ?_
        exact kt)
    obtain ⟨fs, hr, hrun, hended, hW, hsame⟩ := X0.leave (v := some (.int (0 : Int32))) (fun h => by rw [Bd.returns] at h; cases h)
    refine ⟨_, _, k9 _ ?_, hrun, hended, _, _, rfl, ?_, ⟨_, rfl⟩, hW, hsame.mono (by decide) (by decide)⟩
    · show Steps p.tables e below (s₁.setTop (mkF m 23 #[.val (.ref a1), .val (.ref a1), .val (.int (1 : Int32)), .val (.int (0 : Int32)), .val (.int x0)] [(.int (0 : Int32))])) _
      exact retN X0 hx (t := .boolean) Bd.returns (by simp) (hb hby d1_23) hr
    · show Q_rm1_1 Z x0 h0 n0 _ s₁.heap _
      rw [e0]
      exact ⟨by simp [own_emp, hc19_7], N0, rfl⟩
theorem ef_rm1_2 (m : MethodId) (x0 : Addr) : entryFrame m #[(.ref x0)] 5 = mkF m 0 #[.val (.ref x0), .unset, .unset, .unset, .unset] [] := by first | (simp [entryFrame, mkF, argsToLocals, Value.category]; done) | rfl
def Q_rm1_2 (Z : State)  (x0 : Int32) (x1 : Int32) (h0 : Heap) (n0 : Nat) (v : Option Value) (h : Heap) (L : List Loc) : Prop := v = some (.int (own_emp [x0, x1])) ∧ Fr n0 L ∧ h = h0
set_option maxRecDepth 65536 in
set_option maxHeartbeats 40000000 in
theorem rm1_2 (l : Launch) (Z : State) (a0 : Array Value) (hw : ∀ d ∈ tables_1, d.before a0 Z = true) (ws : List Jvm.Cond) (a1 : Addr) (kc : ClassId) (x0 : Int32) (x1 : Int32) (h0 : Heap) (n0 : Nat) (Z0 : n0 ≤ h0.size) (V : Arv Z h0 a1 kc .int (2 : Int32) [(.int x0), (.int x1)] (.int (0 : Int32))) :
    MetFree l (⟨"com/example/evntual/evntual/engine/Bits", "isEmpty", "([I)Z"⟩ : MethodName) (head1 (Jvm.Cond.code (⟨"com/example/evntual/evntual/engine/Bits", "isEmpty", "([I)Z"⟩ : MethodName) prog_13_method_9_code 5 (some .boolean) :: ws) ({ frames := 0, cells := 0, slots := 0, locals := 0 } : Room)) (fun a U => a = #[(.ref a1)] ∧ Z.Warmed39 U.vm ∧ U.heap = h0) (fun _ _ _ _ _ => True) (fun _ U o U' => ∃ v L, o = .returned v ∧ Q_rm1_2 Z x0 x1 h0 n0 v U'.heap L ∧ FrameEnd U o U' L ({ frames := 0, cells := 0, slots := 0, locals := 0 } : Room).cells ({ frames := 0, cells := 0, slots := 0, locals := 0 } : Room).slots) := by
  refine MetFree.of_bodySF (plainFor_of_name pn_c0) hisR ?_
  intro p e s m args below meth c s₁ Bd hml0 hP hK
  obtain ⟨rfl, hZ, hh⟩ := hP
  have hx := Bd.exec
  have hby := Bd.bytes
  have hml : c.maxLocals = 5 := hml0
  have hown : s.vm.findClass "com/example/evntual/evntual/engine/Bits" = some m.cls := findClass_of_methodNamed Bd.named
  have hnm := (name_of_methodNamed Bd.named Bd.method).1
  have X0 : Stand p l e ({ frames := 0, cells := 0, slots := 0, locals := 0 } : Room) s m #[(.ref a1)] below meth c s₁ [] 0 0 := Stand.of_body Bd
  have e0 : s₁.heap = h0 := by rw [← hh, Bd.state]; rfl
  have N0 := Fr.nil n0
  have pre0 : ∀ t, Steps p.tables e below (s₁.setTop (mkF m 0 #[.val (.ref a1), .unset, .unset, .unset, .unset] [])) t → Steps p.tables e below (s₁.setTop (entryFrame m #[(.ref a1)] 5)) t := fun t k => castTop (ef_rm1_2 m a1) k
  obtain ⟨cl10, Ar10, q10, S10, M10, H10, G10⟩ := id V
  obtain ⟨cl11, Ar11, q11, S11, M11, H11, G11⟩ := id V
  have hin12 : ¬ ((0 : Int32) < 0 ∨ cl11.slots.size ≤ ((0 : Int32)).toNatClampNeg) := inb_of S11 ⟨by decide, by decide⟩
  have hat12 : cl11.slots[((0 : Int32)).toNatClampNeg]? = some (.int x0) := H11.at hin12 rfl
  have k13 : ∀ t, Steps p.tables e below (s₁.setTop (mkF m 19 #[.val (.ref a1), .val (.ref a1), .val (.int (2 : Int32)), .val (.int (0 : Int32)), .val (.int x0)] [(.int x0)])) t → Steps p.tables e below (s₁.setTop (entryFrame m #[(.ref a1)] 5)) t := fun t kt => pre0 t (by
      let A0 : Array Slot := #[.val (.ref a1), .unset, .unset, .unset, .unset]
      show Steps p.tables e below (s₁.setTop (mkF m 0 A0 [])) _
      refine XS.aloadN X0.here hx rfl (hb hby d1_0) rfl rfl ?_
      show Steps p.tables e below (s₁.setTop (mkF m 1 A0 [(.ref a1)])) _
      let A1 : Array Slot := #[.val (.ref a1), .val (.ref a1), .unset, .unset, .unset]
      refine XS.astoreN X0.here hx rfl (hb hby d1_1) rfl rfl (l' := A1) rfl ?_
      show Steps p.tables e below (s₁.setTop (mkF m 2 A1 [])) _
      refine XS.aloadN X0.here hx rfl (hb hby d1_2) rfl rfl ?_
      show Steps p.tables e below (s₁.setTop (mkF m 3 A1 [(.ref a1)])) _
      refine X0.arraylength hx (by rw [e0]; exact Ar10.1) (State.isArrayOf_alike hZ.alike Ar10.2.1) (g := (mkF m 3 A1 [(.ref a1)])) rfl rfl (hb hby d1_3) _ ?_
      rw [len_of S10 M10]
      show Steps p.tables e below (s₁.setTop (mkF m 4 A1 [(.int (2 : Int32))])) _
      let A2 : Array Slot := #[.val (.ref a1), .val (.ref a1), .val (.int (2 : Int32)), .unset, .unset]
      refine XS.istoreN X0.here hx rfl (hb hby d1_4) rfl (l' := A2) rfl ?_
      show Steps p.tables e below (s₁.setTop (mkF m 5 A2 [])) _
      refine XS.iconst X0.here hx rfl (hb hby d1_5) ?_
      show Steps p.tables e below (s₁.setTop (mkF m 6 A2 [(.int (0 : Int32))])) _
      let A3 : Array Slot := #[.val (.ref a1), .val (.ref a1), .val (.int (2 : Int32)), .val (.int (0 : Int32)), .unset]
      refine XS.istoreN X0.here hx rfl (hb hby d1_6) rfl (l' := A3) rfl ?_
      show Steps p.tables e below (s₁.setTop (mkF m 7 A3 [])) _
      refine XS.iloadN X0.here hx rfl (hb hby d1_7) rfl ?_
      show Steps p.tables e below (s₁.setTop (mkF m 8 A3 [(.int (0 : Int32))])) _
      refine XS.iloadN X0.here hx rfl (hb hby d1_8) rfl ?_
      show Steps p.tables e below (s₁.setTop (mkF m 9 A3 [(.int (2 : Int32)), (.int (0 : Int32))])) _
      refine XS.icmpNo X0.here hx rfl (hb hby d1_9) rfl (tlt (by decide : (0 : Int32) < (2 : Int32))).2.1 ?_
      show Steps p.tables e below (s₁.setTop (mkF m 12 A3 [])) _
      refine XS.aloadN X0.here hx rfl (hb hby d1_12) rfl rfl ?_
      show Steps p.tables e below (s₁.setTop (mkF m 13 A3 [(.ref a1)])) _
      refine XS.iloadN X0.here hx rfl (hb hby d1_13) rfl ?_
      show Steps p.tables e below (s₁.setTop (mkF m 14 A3 [(.int (0 : Int32)), (.ref a1)])) _
      refine X0.iaload hx (j := (0 : Int32)) (v := (.int x0)) (by rw [e0]; exact Ar11.1) (State.isArrayOf_alike hZ.alike Ar11.2.1) Ar11.2.2 hin12 hat12 (g := (mkF m 14 A3 [(.int (0 : Int32)), (.ref a1)])) rfl rfl (hb hby d1_14) _ ?_
      show Steps p.tables e below (s₁.setTop (mkF m 15 A3 [(.int x0)])) _
      let A4 : Array Slot := #[.val (.ref a1), .val (.ref a1), .val (.int (2 : Int32)), .val (.int (0 : Int32)), .val (.int x0)]
      refine XS.istore X0.here hx rfl (hb hby d1_15) rfl (l' := A4) rfl ?_
      show Steps p.tables e below (s₁.setTop (mkF m 17 A4 [])) _
      refine XS.iload X0.here hx rfl (hb hby d1_17) rfl ?_
      exact kt)
  by_cases hc19_14 : x0 = (0 : Int32)
  · obtain ⟨cl15, Ar15, q15, S15, M15, H15, G15⟩ := id V
    have hin16 : ¬ (((0 : Int32) + (1 : Int32)) < 0 ∨ cl15.slots.size ≤ (((0 : Int32) + (1 : Int32))).toNatClampNeg) := inb_of S15 ⟨by decide, by decide⟩
    have hat16 : cl15.slots[(((0 : Int32) + (1 : Int32))).toNatClampNeg]? = some (.int x1) := H15.at hin16 rfl
    have k17 : ∀ t, Steps p.tables e below (s₁.setTop (mkF m 19 #[.val (.ref a1), .val (.ref a1), .val (.int (2 : Int32)), .val (.int ((0 : Int32) + (1 : Int32))), .val (.int x1)] [(.int x1)])) t → Steps p.tables e below (s₁.setTop (entryFrame m #[(.ref a1)] 5)) t := fun t kt => k13 t (by
        let A0 : Array Slot := #[.val (.ref a1), .val (.ref a1), .val (.int (2 : Int32)), .val (.int (0 : Int32)), .val (.int x0)]
        show Steps p.tables e below (s₁.setTop (mkF m 19 A0 [(.int x0)])) _
        refine XS.ifYes X0.here hx rfl (pc0 := 19) (pc' := 24) rfl (hb hby d1_19) rfl ((if0 _ _).trans (teq hc19_14).1) (by decide) (by decide) ?_
        show Steps p.tables e below (s₁.setTop (mkF m 24 A0 [])) _
        let A1 : Array Slot := #[.val (.ref a1), .val (.ref a1), .val (.int (2 : Int32)), .val (.int ((0 : Int32) + (1 : Int32))), .val (.int x0)]
        refine XS.iinc X0.here hx rfl (hb hby d1_24) rfl (l' := A1) rfl ?_
        show Steps p.tables e below (s₁.setTop (mkF m 27 A1 [])) _
        refine XS.goto X0.here hx rfl (pc0 := 27) (pc' := 7) rfl (hb hby d1_27) (by decide) (by decide) ?_
        show Steps p.tables e below (s₁.setTop (mkF m 7 A1 [])) _
        refine XS.iloadN X0.here hx rfl (hb hby d1_7) rfl ?_
        show Steps p.tables e below (s₁.setTop (mkF m 8 A1 [(.int ((0 : Int32) + (1 : Int32)))])) _
        refine XS.iloadN X0.here hx rfl (hb hby d1_8) rfl ?_
        show Steps p.tables e below (s₁.setTop (mkF m 9 A1 [(.int (2 : Int32)), (.int ((0 : Int32) + (1 : Int32)))])) _
        refine XS.icmpNo X0.here hx rfl (hb hby d1_9) rfl (tlt (by decide : ((0 : Int32) + (1 : Int32)) < (2 : Int32))).2.1 ?_
        show Steps p.tables e below (s₁.setTop (mkF m 12 A1 [])) _
        refine XS.aloadN X0.here hx rfl (hb hby d1_12) rfl rfl ?_
        show Steps p.tables e below (s₁.setTop (mkF m 13 A1 [(.ref a1)])) _
        refine XS.iloadN X0.here hx rfl (hb hby d1_13) rfl ?_
        show Steps p.tables e below (s₁.setTop (mkF m 14 A1 [(.int ((0 : Int32) + (1 : Int32))), (.ref a1)])) _
        refine X0.iaload hx (j := ((0 : Int32) + (1 : Int32))) (v := (.int x1)) (by rw [e0]; exact Ar15.1) (State.isArrayOf_alike hZ.alike Ar15.2.1) Ar15.2.2 hin16 hat16 (g := (mkF m 14 A1 [(.int ((0 : Int32) + (1 : Int32))), (.ref a1)])) rfl rfl (hb hby d1_14) _ ?_
        show Steps p.tables e below (s₁.setTop (mkF m 15 A1 [(.int x1)])) _
        let A2 : Array Slot := #[.val (.ref a1), .val (.ref a1), .val (.int (2 : Int32)), .val (.int ((0 : Int32) + (1 : Int32))), .val (.int x1)]
        refine XS.istore X0.here hx rfl (hb hby d1_15) rfl (l' := A2) rfl ?_
        show Steps p.tables e below (s₁.setTop (mkF m 17 A2 [])) _
        refine XS.iload X0.here hx rfl (hb hby d1_17) rfl ?_
        exact kt)
    by_cases hc19_18 : x1 = (0 : Int32)
    · have k19 : ∀ t, Steps p.tables e below (s₁.setTop (mkF m 31 #[.val (.ref a1), .val (.ref a1), .val (.int (2 : Int32)), .val (.int (((0 : Int32) + (1 : Int32)) + (1 : Int32))), .val (.int x1)] [(.int (1 : Int32))])) t → Steps p.tables e below (s₁.setTop (entryFrame m #[(.ref a1)] 5)) t := fun t kt => k17 t (by
          let A0 : Array Slot := #[.val (.ref a1), .val (.ref a1), .val (.int (2 : Int32)), .val (.int ((0 : Int32) + (1 : Int32))), .val (.int x1)]
          show Steps p.tables e below (s₁.setTop (mkF m 19 A0 [(.int x1)])) _
          refine XS.ifYes X0.here hx rfl (pc0 := 19) (pc' := 24) rfl (hb hby d1_19) rfl ((if0 _ _).trans (teq hc19_18).1) (by decide) (by decide) ?_
          show Steps p.tables e below (s₁.setTop (mkF m 24 A0 [])) _
          let A1 : Array Slot := #[.val (.ref a1), .val (.ref a1), .val (.int (2 : Int32)), .val (.int (((0 : Int32) + (1 : Int32)) + (1 : Int32))), .val (.int x1)]
          refine XS.iinc X0.here hx rfl (hb hby d1_24) rfl (l' := A1) rfl ?_
          show Steps p.tables e below (s₁.setTop (mkF m 27 A1 [])) _
          refine XS.goto X0.here hx rfl (pc0 := 27) (pc' := 7) rfl (hb hby d1_27) (by decide) (by decide) ?_
          show Steps p.tables e below (s₁.setTop (mkF m 7 A1 [])) _
          refine XS.iloadN X0.here hx rfl (hb hby d1_7) rfl ?_
          show Steps p.tables e below (s₁.setTop (mkF m 8 A1 [(.int (((0 : Int32) + (1 : Int32)) + (1 : Int32)))])) _
          refine XS.iloadN X0.here hx rfl (hb hby d1_8) rfl ?_
          show Steps p.tables e below (s₁.setTop (mkF m 9 A1 [(.int (2 : Int32)), (.int (((0 : Int32) + (1 : Int32)) + (1 : Int32)))])) _
          refine XS.icmpYes X0.here hx rfl (pc0 := 9) (pc' := 30) rfl (hb hby d1_9) rfl (flt (by decide : ¬ ((((0 : Int32) + (1 : Int32)) + (1 : Int32)) < (2 : Int32)))).2.1 (by decide) (by decide) ?_
          show Steps p.tables e below (s₁.setTop (mkF m 30 A1 [])) _
          refine XS.iconst X0.here hx rfl (hb hby d1_30) ?_
          exact kt)
      obtain ⟨fs, hr, hrun, hended, hW, hsame⟩ := X0.leave (v := some (.int (1 : Int32))) (fun h => by rw [Bd.returns] at h; cases h)
      refine ⟨_, _, k19 _ ?_, hrun, hended, _, _, rfl, ?_, ⟨_, rfl⟩, hW, hsame.mono (by decide) (by decide)⟩
      · show Steps p.tables e below (s₁.setTop (mkF m 31 #[.val (.ref a1), .val (.ref a1), .val (.int (2 : Int32)), .val (.int (((0 : Int32) + (1 : Int32)) + (1 : Int32))), .val (.int x1)] [(.int (1 : Int32))])) _
        exact retN X0 hx (t := .boolean) Bd.returns (by simp) (hb hby d1_31) hr
      · show Q_rm1_2 Z x0 x1 h0 n0 _ s₁.heap _
        rw [e0]
        exact ⟨by simp [own_emp, hc19_14, hc19_18], N0, rfl⟩
    · have k20 : ∀ t, Steps p.tables e below (s₁.setTop (mkF m 23 #[.val (.ref a1), .val (.ref a1), .val (.int (2 : Int32)), .val (.int ((0 : Int32) + (1 : Int32))), .val (.int x1)] [(.int (0 : Int32))])) t → Steps p.tables e below (s₁.setTop (entryFrame m #[(.ref a1)] 5)) t := fun t kt => k17 t (by
          let A0 : Array Slot := #[.val (.ref a1), .val (.ref a1), .val (.int (2 : Int32)), .val (.int ((0 : Int32) + (1 : Int32))), .val (.int x1)]
          show Steps p.tables e below (s₁.setTop (mkF m 19 A0 [(.int x1)])) _
          refine XS.ifNo X0.here hx rfl (hb hby d1_19) rfl ((if0 _ _).trans (feq hc19_18).1) ?_
          show Steps p.tables e below (s₁.setTop (mkF m 22 A0 [])) _
          refine XS.iconst X0.here hx rfl (hb hby d1_22) ?_
          exact kt)
      obtain ⟨fs, hr, hrun, hended, hW, hsame⟩ := X0.leave (v := some (.int (0 : Int32))) (fun h => by rw [Bd.returns] at h; cases h)
      refine ⟨_, _, k20 _ ?_, hrun, hended, _, _, rfl, ?_, ⟨_, rfl⟩, hW, hsame.mono (by decide) (by decide)⟩
      · show Steps p.tables e below (s₁.setTop (mkF m 23 #[.val (.ref a1), .val (.ref a1), .val (.int (2 : Int32)), .val (.int ((0 : Int32) + (1 : Int32))), .val (.int x1)] [(.int (0 : Int32))])) _
        exact retN X0 hx (t := .boolean) Bd.returns (by simp) (hb hby d1_23) hr
      · show Q_rm1_2 Z x0 x1 h0 n0 _ s₁.heap _
        rw [e0]
        exact ⟨by simp [own_emp, hc19_14, hc19_18], N0, rfl⟩
  · have k21 : ∀ t, Steps p.tables e below (s₁.setTop (mkF m 23 #[.val (.ref a1), .val (.ref a1), .val (.int (2 : Int32)), .val (.int (0 : Int32)), .val (.int x0)] [(.int (0 : Int32))])) t → Steps p.tables e below (s₁.setTop (entryFrame m #[(.ref a1)] 5)) t := fun t kt => k13 t (by
        let A0 : Array Slot := #[.val (.ref a1), .val (.ref a1), .val (.int (2 : Int32)), .val (.int (0 : Int32)), .val (.int x0)]
        show Steps p.tables e below (s₁.setTop (mkF m 19 A0 [(.int x0)])) _
        refine XS.ifNo X0.here hx rfl (hb hby d1_19) rfl ((if0 _ _).trans (feq hc19_14).1) ?_
        show Steps p.tables e below (s₁.setTop (mkF m 22 A0 [])) _
        refine XS.iconst X0.here hx rfl (hb hby d1_22) ?_
        exact kt)
    obtain ⟨fs, hr, hrun, hended, hW, hsame⟩ := X0.leave (v := some (.int (0 : Int32))) (fun h => by rw [Bd.returns] at h; cases h)
    refine ⟨_, _, k21 _ ?_, hrun, hended, _, _, rfl, ?_, ⟨_, rfl⟩, hW, hsame.mono (by decide) (by decide)⟩
    · show Steps p.tables e below (s₁.setTop (mkF m 23 #[.val (.ref a1), .val (.ref a1), .val (.int (2 : Int32)), .val (.int (0 : Int32)), .val (.int x0)] [(.int (0 : Int32))])) _
      exact retN X0 hx (t := .boolean) Bd.returns (by simp) (hb hby d1_23) hr
    · show Q_rm1_2 Z x0 x1 h0 n0 _ s₁.heap _
      rw [e0]
      exact ⟨by simp [own_emp, hc19_14], N0, rfl⟩
theorem ef_rm1_3 (m : MethodId) (x0 : Addr) : entryFrame m #[(.ref x0)] 5 = mkF m 0 #[.val (.ref x0), .unset, .unset, .unset, .unset] [] := by first | (simp [entryFrame, mkF, argsToLocals, Value.category]; done) | rfl
def Q_rm1_3 (Z : State)  (x0 : Int32) (x1 : Int32) (x2 : Int32) (h0 : Heap) (n0 : Nat) (v : Option Value) (h : Heap) (L : List Loc) : Prop := v = some (.int (own_emp [x0, x1, x2])) ∧ Fr n0 L ∧ h = h0
set_option maxRecDepth 65536 in
set_option maxHeartbeats 40000000 in
theorem rm1_3 (l : Launch) (Z : State) (a0 : Array Value) (hw : ∀ d ∈ tables_1, d.before a0 Z = true) (ws : List Jvm.Cond) (a1 : Addr) (kc : ClassId) (x0 : Int32) (x1 : Int32) (x2 : Int32) (h0 : Heap) (n0 : Nat) (Z0 : n0 ≤ h0.size) (V : Arv Z h0 a1 kc .int (3 : Int32) [(.int x0), (.int x1), (.int x2)] (.int (0 : Int32))) :
    MetFree l (⟨"com/example/evntual/evntual/engine/Bits", "isEmpty", "([I)Z"⟩ : MethodName) (head1 (Jvm.Cond.code (⟨"com/example/evntual/evntual/engine/Bits", "isEmpty", "([I)Z"⟩ : MethodName) prog_13_method_9_code 5 (some .boolean) :: ws) ({ frames := 0, cells := 0, slots := 0, locals := 0 } : Room)) (fun a U => a = #[(.ref a1)] ∧ Z.Warmed39 U.vm ∧ U.heap = h0) (fun _ _ _ _ _ => True) (fun _ U o U' => ∃ v L, o = .returned v ∧ Q_rm1_3 Z x0 x1 x2 h0 n0 v U'.heap L ∧ FrameEnd U o U' L ({ frames := 0, cells := 0, slots := 0, locals := 0 } : Room).cells ({ frames := 0, cells := 0, slots := 0, locals := 0 } : Room).slots) := by
  refine MetFree.of_bodySF (plainFor_of_name pn_c0) hisR ?_
  intro p e s m args below meth c s₁ Bd hml0 hP hK
  obtain ⟨rfl, hZ, hh⟩ := hP
  have hx := Bd.exec
  have hby := Bd.bytes
  have hml : c.maxLocals = 5 := hml0
  have hown : s.vm.findClass "com/example/evntual/evntual/engine/Bits" = some m.cls := findClass_of_methodNamed Bd.named
  have hnm := (name_of_methodNamed Bd.named Bd.method).1
  have X0 : Stand p l e ({ frames := 0, cells := 0, slots := 0, locals := 0 } : Room) s m #[(.ref a1)] below meth c s₁ [] 0 0 := Stand.of_body Bd
  have e0 : s₁.heap = h0 := by rw [← hh, Bd.state]; rfl
  have N0 := Fr.nil n0
  have pre0 : ∀ t, Steps p.tables e below (s₁.setTop (mkF m 0 #[.val (.ref a1), .unset, .unset, .unset, .unset] [])) t → Steps p.tables e below (s₁.setTop (entryFrame m #[(.ref a1)] 5)) t := fun t k => castTop (ef_rm1_3 m a1) k
  obtain ⟨cl22, Ar22, q22, S22, M22, H22, G22⟩ := id V
  obtain ⟨cl23, Ar23, q23, S23, M23, H23, G23⟩ := id V
  have hin24 : ¬ ((0 : Int32) < 0 ∨ cl23.slots.size ≤ ((0 : Int32)).toNatClampNeg) := inb_of S23 ⟨by decide, by decide⟩
  have hat24 : cl23.slots[((0 : Int32)).toNatClampNeg]? = some (.int x0) := H23.at hin24 rfl
  have k25 : ∀ t, Steps p.tables e below (s₁.setTop (mkF m 19 #[.val (.ref a1), .val (.ref a1), .val (.int (3 : Int32)), .val (.int (0 : Int32)), .val (.int x0)] [(.int x0)])) t → Steps p.tables e below (s₁.setTop (entryFrame m #[(.ref a1)] 5)) t := fun t kt => pre0 t (by
      let A0 : Array Slot := #[.val (.ref a1), .unset, .unset, .unset, .unset]
      show Steps p.tables e below (s₁.setTop (mkF m 0 A0 [])) _
      refine XS.aloadN X0.here hx rfl (hb hby d1_0) rfl rfl ?_
      show Steps p.tables e below (s₁.setTop (mkF m 1 A0 [(.ref a1)])) _
      let A1 : Array Slot := #[.val (.ref a1), .val (.ref a1), .unset, .unset, .unset]
      refine XS.astoreN X0.here hx rfl (hb hby d1_1) rfl rfl (l' := A1) rfl ?_
      show Steps p.tables e below (s₁.setTop (mkF m 2 A1 [])) _
      refine XS.aloadN X0.here hx rfl (hb hby d1_2) rfl rfl ?_
      show Steps p.tables e below (s₁.setTop (mkF m 3 A1 [(.ref a1)])) _
      refine X0.arraylength hx (by rw [e0]; exact Ar22.1) (State.isArrayOf_alike hZ.alike Ar22.2.1) (g := (mkF m 3 A1 [(.ref a1)])) rfl rfl (hb hby d1_3) _ ?_
      rw [len_of S22 M22]
      show Steps p.tables e below (s₁.setTop (mkF m 4 A1 [(.int (3 : Int32))])) _
      let A2 : Array Slot := #[.val (.ref a1), .val (.ref a1), .val (.int (3 : Int32)), .unset, .unset]
      refine XS.istoreN X0.here hx rfl (hb hby d1_4) rfl (l' := A2) rfl ?_
      show Steps p.tables e below (s₁.setTop (mkF m 5 A2 [])) _
      refine XS.iconst X0.here hx rfl (hb hby d1_5) ?_
      show Steps p.tables e below (s₁.setTop (mkF m 6 A2 [(.int (0 : Int32))])) _
      let A3 : Array Slot := #[.val (.ref a1), .val (.ref a1), .val (.int (3 : Int32)), .val (.int (0 : Int32)), .unset]
      refine XS.istoreN X0.here hx rfl (hb hby d1_6) rfl (l' := A3) rfl ?_
      show Steps p.tables e below (s₁.setTop (mkF m 7 A3 [])) _
      refine XS.iloadN X0.here hx rfl (hb hby d1_7) rfl ?_
      show Steps p.tables e below (s₁.setTop (mkF m 8 A3 [(.int (0 : Int32))])) _
      refine XS.iloadN X0.here hx rfl (hb hby d1_8) rfl ?_
      show Steps p.tables e below (s₁.setTop (mkF m 9 A3 [(.int (3 : Int32)), (.int (0 : Int32))])) _
      refine XS.icmpNo X0.here hx rfl (hb hby d1_9) rfl (tlt (by decide : (0 : Int32) < (3 : Int32))).2.1 ?_
      show Steps p.tables e below (s₁.setTop (mkF m 12 A3 [])) _
      refine XS.aloadN X0.here hx rfl (hb hby d1_12) rfl rfl ?_
      show Steps p.tables e below (s₁.setTop (mkF m 13 A3 [(.ref a1)])) _
      refine XS.iloadN X0.here hx rfl (hb hby d1_13) rfl ?_
      show Steps p.tables e below (s₁.setTop (mkF m 14 A3 [(.int (0 : Int32)), (.ref a1)])) _
      refine X0.iaload hx (j := (0 : Int32)) (v := (.int x0)) (by rw [e0]; exact Ar23.1) (State.isArrayOf_alike hZ.alike Ar23.2.1) Ar23.2.2 hin24 hat24 (g := (mkF m 14 A3 [(.int (0 : Int32)), (.ref a1)])) rfl rfl (hb hby d1_14) _ ?_
      show Steps p.tables e below (s₁.setTop (mkF m 15 A3 [(.int x0)])) _
      let A4 : Array Slot := #[.val (.ref a1), .val (.ref a1), .val (.int (3 : Int32)), .val (.int (0 : Int32)), .val (.int x0)]
      refine XS.istore X0.here hx rfl (hb hby d1_15) rfl (l' := A4) rfl ?_
      show Steps p.tables e below (s₁.setTop (mkF m 17 A4 [])) _
      refine XS.iload X0.here hx rfl (hb hby d1_17) rfl ?_
      exact kt)
  by_cases hc19_26 : x0 = (0 : Int32)
  · obtain ⟨cl27, Ar27, q27, S27, M27, H27, G27⟩ := id V
    have hin28 : ¬ (((0 : Int32) + (1 : Int32)) < 0 ∨ cl27.slots.size ≤ (((0 : Int32) + (1 : Int32))).toNatClampNeg) := inb_of S27 ⟨by decide, by decide⟩
    have hat28 : cl27.slots[(((0 : Int32) + (1 : Int32))).toNatClampNeg]? = some (.int x1) := H27.at hin28 rfl
    have k29 : ∀ t, Steps p.tables e below (s₁.setTop (mkF m 19 #[.val (.ref a1), .val (.ref a1), .val (.int (3 : Int32)), .val (.int ((0 : Int32) + (1 : Int32))), .val (.int x1)] [(.int x1)])) t → Steps p.tables e below (s₁.setTop (entryFrame m #[(.ref a1)] 5)) t := fun t kt => k25 t (by
        let A0 : Array Slot := #[.val (.ref a1), .val (.ref a1), .val (.int (3 : Int32)), .val (.int (0 : Int32)), .val (.int x0)]
        show Steps p.tables e below (s₁.setTop (mkF m 19 A0 [(.int x0)])) _
        refine XS.ifYes X0.here hx rfl (pc0 := 19) (pc' := 24) rfl (hb hby d1_19) rfl ((if0 _ _).trans (teq hc19_26).1) (by decide) (by decide) ?_
        show Steps p.tables e below (s₁.setTop (mkF m 24 A0 [])) _
        let A1 : Array Slot := #[.val (.ref a1), .val (.ref a1), .val (.int (3 : Int32)), .val (.int ((0 : Int32) + (1 : Int32))), .val (.int x0)]
        refine XS.iinc X0.here hx rfl (hb hby d1_24) rfl (l' := A1) rfl ?_
        show Steps p.tables e below (s₁.setTop (mkF m 27 A1 [])) _
        refine XS.goto X0.here hx rfl (pc0 := 27) (pc' := 7) rfl (hb hby d1_27) (by decide) (by decide) ?_
        show Steps p.tables e below (s₁.setTop (mkF m 7 A1 [])) _
        refine XS.iloadN X0.here hx rfl (hb hby d1_7) rfl ?_
        show Steps p.tables e below (s₁.setTop (mkF m 8 A1 [(.int ((0 : Int32) + (1 : Int32)))])) _
        refine XS.iloadN X0.here hx rfl (hb hby d1_8) rfl ?_
        show Steps p.tables e below (s₁.setTop (mkF m 9 A1 [(.int (3 : Int32)), (.int ((0 : Int32) + (1 : Int32)))])) _
        refine XS.icmpNo X0.here hx rfl (hb hby d1_9) rfl (tlt (by decide : ((0 : Int32) + (1 : Int32)) < (3 : Int32))).2.1 ?_
        show Steps p.tables e below (s₁.setTop (mkF m 12 A1 [])) _
        refine XS.aloadN X0.here hx rfl (hb hby d1_12) rfl rfl ?_
        show Steps p.tables e below (s₁.setTop (mkF m 13 A1 [(.ref a1)])) _
        refine XS.iloadN X0.here hx rfl (hb hby d1_13) rfl ?_
        show Steps p.tables e below (s₁.setTop (mkF m 14 A1 [(.int ((0 : Int32) + (1 : Int32))), (.ref a1)])) _
        refine X0.iaload hx (j := ((0 : Int32) + (1 : Int32))) (v := (.int x1)) (by rw [e0]; exact Ar27.1) (State.isArrayOf_alike hZ.alike Ar27.2.1) Ar27.2.2 hin28 hat28 (g := (mkF m 14 A1 [(.int ((0 : Int32) + (1 : Int32))), (.ref a1)])) rfl rfl (hb hby d1_14) _ ?_
        show Steps p.tables e below (s₁.setTop (mkF m 15 A1 [(.int x1)])) _
        let A2 : Array Slot := #[.val (.ref a1), .val (.ref a1), .val (.int (3 : Int32)), .val (.int ((0 : Int32) + (1 : Int32))), .val (.int x1)]
        refine XS.istore X0.here hx rfl (hb hby d1_15) rfl (l' := A2) rfl ?_
        show Steps p.tables e below (s₁.setTop (mkF m 17 A2 [])) _
        refine XS.iload X0.here hx rfl (hb hby d1_17) rfl ?_
        exact kt)
    by_cases hc19_30 : x1 = (0 : Int32)
    · obtain ⟨cl31, Ar31, q31, S31, M31, H31, G31⟩ := id V
      have hin32 : ¬ ((((0 : Int32) + (1 : Int32)) + (1 : Int32)) < 0 ∨ cl31.slots.size ≤ ((((0 : Int32) + (1 : Int32)) + (1 : Int32))).toNatClampNeg) := inb_of S31 ⟨by decide, by decide⟩
      have hat32 : cl31.slots[((((0 : Int32) + (1 : Int32)) + (1 : Int32))).toNatClampNeg]? = some (.int x2) := H31.at hin32 rfl
      have k33 : ∀ t, Steps p.tables e below (s₁.setTop (mkF m 19 #[.val (.ref a1), .val (.ref a1), .val (.int (3 : Int32)), .val (.int (((0 : Int32) + (1 : Int32)) + (1 : Int32))), .val (.int x2)] [(.int x2)])) t → Steps p.tables e below (s₁.setTop (entryFrame m #[(.ref a1)] 5)) t := fun t kt => k29 t (by
          let A0 : Array Slot := #[.val (.ref a1), .val (.ref a1), .val (.int (3 : Int32)), .val (.int ((0 : Int32) + (1 : Int32))), .val (.int x1)]
          show Steps p.tables e below (s₁.setTop (mkF m 19 A0 [(.int x1)])) _
          refine XS.ifYes X0.here hx rfl (pc0 := 19) (pc' := 24) rfl (hb hby d1_19) rfl ((if0 _ _).trans (teq hc19_30).1) (by decide) (by decide) ?_
          show Steps p.tables e below (s₁.setTop (mkF m 24 A0 [])) _
          let A1 : Array Slot := #[.val (.ref a1), .val (.ref a1), .val (.int (3 : Int32)), .val (.int (((0 : Int32) + (1 : Int32)) + (1 : Int32))), .val (.int x1)]
          refine XS.iinc X0.here hx rfl (hb hby d1_24) rfl (l' := A1) rfl ?_
          show Steps p.tables e below (s₁.setTop (mkF m 27 A1 [])) _
          refine XS.goto X0.here hx rfl (pc0 := 27) (pc' := 7) rfl (hb hby d1_27) (by decide) (by decide) ?_
          show Steps p.tables e below (s₁.setTop (mkF m 7 A1 [])) _
          refine XS.iloadN X0.here hx rfl (hb hby d1_7) rfl ?_
          show Steps p.tables e below (s₁.setTop (mkF m 8 A1 [(.int (((0 : Int32) + (1 : Int32)) + (1 : Int32)))])) _
          refine XS.iloadN X0.here hx rfl (hb hby d1_8) rfl ?_
          show Steps p.tables e below (s₁.setTop (mkF m 9 A1 [(.int (3 : Int32)), (.int (((0 : Int32) + (1 : Int32)) + (1 : Int32)))])) _
          refine XS.icmpNo X0.here hx rfl (hb hby d1_9) rfl (tlt (by decide : (((0 : Int32) + (1 : Int32)) + (1 : Int32)) < (3 : Int32))).2.1 ?_
          show Steps p.tables e below (s₁.setTop (mkF m 12 A1 [])) _
          refine XS.aloadN X0.here hx rfl (hb hby d1_12) rfl rfl ?_
          show Steps p.tables e below (s₁.setTop (mkF m 13 A1 [(.ref a1)])) _
          refine XS.iloadN X0.here hx rfl (hb hby d1_13) rfl ?_
          show Steps p.tables e below (s₁.setTop (mkF m 14 A1 [(.int (((0 : Int32) + (1 : Int32)) + (1 : Int32))), (.ref a1)])) _
          refine X0.iaload hx (j := (((0 : Int32) + (1 : Int32)) + (1 : Int32))) (v := (.int x2)) (by rw [e0]; exact Ar31.1) (State.isArrayOf_alike hZ.alike Ar31.2.1) Ar31.2.2 hin32 hat32 (g := (mkF m 14 A1 [(.int (((0 : Int32) + (1 : Int32)) + (1 : Int32))), (.ref a1)])) rfl rfl (hb hby d1_14) _ ?_
          show Steps p.tables e below (s₁.setTop (mkF m 15 A1 [(.int x2)])) _
          let A2 : Array Slot := #[.val (.ref a1), .val (.ref a1), .val (.int (3 : Int32)), .val (.int (((0 : Int32) + (1 : Int32)) + (1 : Int32))), .val (.int x2)]
          refine XS.istore X0.here hx rfl (hb hby d1_15) rfl (l' := A2) rfl ?_
          show Steps p.tables e below (s₁.setTop (mkF m 17 A2 [])) _
          refine XS.iload X0.here hx rfl (hb hby d1_17) rfl ?_
          exact kt)
      by_cases hc19_34 : x2 = (0 : Int32)
      · have k35 : ∀ t, Steps p.tables e below (s₁.setTop (mkF m 31 #[.val (.ref a1), .val (.ref a1), .val (.int (3 : Int32)), .val (.int ((((0 : Int32) + (1 : Int32)) + (1 : Int32)) + (1 : Int32))), .val (.int x2)] [(.int (1 : Int32))])) t → Steps p.tables e below (s₁.setTop (entryFrame m #[(.ref a1)] 5)) t := fun t kt => k33 t (by
            let A0 : Array Slot := #[.val (.ref a1), .val (.ref a1), .val (.int (3 : Int32)), .val (.int (((0 : Int32) + (1 : Int32)) + (1 : Int32))), .val (.int x2)]
            show Steps p.tables e below (s₁.setTop (mkF m 19 A0 [(.int x2)])) _
            refine XS.ifYes X0.here hx rfl (pc0 := 19) (pc' := 24) rfl (hb hby d1_19) rfl ((if0 _ _).trans (teq hc19_34).1) (by decide) (by decide) ?_
            show Steps p.tables e below (s₁.setTop (mkF m 24 A0 [])) _
            let A1 : Array Slot := #[.val (.ref a1), .val (.ref a1), .val (.int (3 : Int32)), .val (.int ((((0 : Int32) + (1 : Int32)) + (1 : Int32)) + (1 : Int32))), .val (.int x2)]
            refine XS.iinc X0.here hx rfl (hb hby d1_24) rfl (l' := A1) rfl ?_
            show Steps p.tables e below (s₁.setTop (mkF m 27 A1 [])) _
            refine XS.goto X0.here hx rfl (pc0 := 27) (pc' := 7) rfl (hb hby d1_27) (by decide) (by decide) ?_
            show Steps p.tables e below (s₁.setTop (mkF m 7 A1 [])) _
            refine XS.iloadN X0.here hx rfl (hb hby d1_7) rfl ?_
            show Steps p.tables e below (s₁.setTop (mkF m 8 A1 [(.int ((((0 : Int32) + (1 : Int32)) + (1 : Int32)) + (1 : Int32)))])) _
            refine XS.iloadN X0.here hx rfl (hb hby d1_8) rfl ?_
            show Steps p.tables e below (s₁.setTop (mkF m 9 A1 [(.int (3 : Int32)), (.int ((((0 : Int32) + (1 : Int32)) + (1 : Int32)) + (1 : Int32)))])) _
            refine XS.icmpYes X0.here hx rfl (pc0 := 9) (pc' := 30) rfl (hb hby d1_9) rfl (flt (by decide : ¬ (((((0 : Int32) + (1 : Int32)) + (1 : Int32)) + (1 : Int32)) < (3 : Int32)))).2.1 (by decide) (by decide) ?_
            show Steps p.tables e below (s₁.setTop (mkF m 30 A1 [])) _
            refine XS.iconst X0.here hx rfl (hb hby d1_30) ?_
            exact kt)
        obtain ⟨fs, hr, hrun, hended, hW, hsame⟩ := X0.leave (v := some (.int (1 : Int32))) (fun h => by rw [Bd.returns] at h; cases h)
        refine ⟨_, _, k35 _ ?_, hrun, hended, _, _, rfl, ?_, ⟨_, rfl⟩, hW, hsame.mono (by decide) (by decide)⟩
        · show Steps p.tables e below (s₁.setTop (mkF m 31 #[.val (.ref a1), .val (.ref a1), .val (.int (3 : Int32)), .val (.int ((((0 : Int32) + (1 : Int32)) + (1 : Int32)) + (1 : Int32))), .val (.int x2)] [(.int (1 : Int32))])) _
          exact retN X0 hx (t := .boolean) Bd.returns (by simp) (hb hby d1_31) hr
        · show Q_rm1_3 Z x0 x1 x2 h0 n0 _ s₁.heap _
          rw [e0]
          exact ⟨by simp [own_emp, hc19_26, hc19_30, hc19_34], N0, rfl⟩
      · have k36 : ∀ t, Steps p.tables e below (s₁.setTop (mkF m 23 #[.val (.ref a1), .val (.ref a1), .val (.int (3 : Int32)), .val (.int (((0 : Int32) + (1 : Int32)) + (1 : Int32))), .val (.int x2)] [(.int (0 : Int32))])) t → Steps p.tables e below (s₁.setTop (entryFrame m #[(.ref a1)] 5)) t := fun t kt => k33 t (by
            let A0 : Array Slot := #[.val (.ref a1), .val (.ref a1), .val (.int (3 : Int32)), .val (.int (((0 : Int32) + (1 : Int32)) + (1 : Int32))), .val (.int x2)]
            show Steps p.tables e below (s₁.setTop (mkF m 19 A0 [(.int x2)])) _
            refine XS.ifNo X0.here hx rfl (hb hby d1_19) rfl ((if0 _ _).trans (feq hc19_34).1) ?_
            show Steps p.tables e below (s₁.setTop (mkF m 22 A0 [])) _
            refine XS.iconst X0.here hx rfl (hb hby d1_22) ?_
            exact kt)
        obtain ⟨fs, hr, hrun, hended, hW, hsame⟩ := X0.leave (v := some (.int (0 : Int32))) (fun h => by rw [Bd.returns] at h; cases h)
        refine ⟨_, _, k36 _ ?_, hrun, hended, _, _, rfl, ?_, ⟨_, rfl⟩, hW, hsame.mono (by decide) (by decide)⟩
        · show Steps p.tables e below (s₁.setTop (mkF m 23 #[.val (.ref a1), .val (.ref a1), .val (.int (3 : Int32)), .val (.int (((0 : Int32) + (1 : Int32)) + (1 : Int32))), .val (.int x2)] [(.int (0 : Int32))])) _
          exact retN X0 hx (t := .boolean) Bd.returns (by simp) (hb hby d1_23) hr
        · show Q_rm1_3 Z x0 x1 x2 h0 n0 _ s₁.heap _
          rw [e0]
          exact ⟨by simp [own_emp, hc19_26, hc19_30, hc19_34], N0, rfl⟩
    · have k37 : ∀ t, Steps p.tables e below (s₁.setTop (mkF m 23 #[.val (.ref a1), .val (.ref a1), .val (.int (3 : Int32)), .val (.int ((0 : Int32) + (1 : Int32))), .val (.int x1)] [(.int (0 : Int32))])) t → Steps p.tables e below (s₁.setTop (entryFrame m #[(.ref a1)] 5)) t := fun t kt => k29 t (by
          let A0 : Array Slot := #[.val (.ref a1), .val (.ref a1), .val (.int (3 : Int32)), .val (.int ((0 : Int32) + (1 : Int32))), .val (.int x1)]
          show Steps p.tables e below (s₁.setTop (mkF m 19 A0 [(.int x1)])) _
          refine XS.ifNo X0.here hx rfl (hb hby d1_19) rfl ((if0 _ _).trans (feq hc19_30).1) ?_
          show Steps p.tables e below (s₁.setTop (mkF m 22 A0 [])) _
          refine XS.iconst X0.here hx rfl (hb hby d1_22) ?_
          exact kt)
      obtain ⟨fs, hr, hrun, hended, hW, hsame⟩ := X0.leave (v := some (.int (0 : Int32))) (fun h => by rw [Bd.returns] at h; cases h)
      refine ⟨_, _, k37 _ ?_, hrun, hended, _, _, rfl, ?_, ⟨_, rfl⟩, hW, hsame.mono (by decide) (by decide)⟩
      · show Steps p.tables e below (s₁.setTop (mkF m 23 #[.val (.ref a1), .val (.ref a1), .val (.int (3 : Int32)), .val (.int ((0 : Int32) + (1 : Int32))), .val (.int x1)] [(.int (0 : Int32))])) _
        exact retN X0 hx (t := .boolean) Bd.returns (by simp) (hb hby d1_23) hr
      · show Q_rm1_3 Z x0 x1 x2 h0 n0 _ s₁.heap _
        rw [e0]
        exact ⟨by simp [own_emp, hc19_26, hc19_30], N0, rfl⟩
  · have k38 : ∀ t, Steps p.tables e below (s₁.setTop (mkF m 23 #[.val (.ref a1), .val (.ref a1), .val (.int (3 : Int32)), .val (.int (0 : Int32)), .val (.int x0)] [(.int (0 : Int32))])) t → Steps p.tables e below (s₁.setTop (entryFrame m #[(.ref a1)] 5)) t := fun t kt => k25 t (by
        let A0 : Array Slot := #[.val (.ref a1), .val (.ref a1), .val (.int (3 : Int32)), .val (.int (0 : Int32)), .val (.int x0)]
        show Steps p.tables e below (s₁.setTop (mkF m 19 A0 [(.int x0)])) _
        refine XS.ifNo X0.here hx rfl (hb hby d1_19) rfl ((if0 _ _).trans (feq hc19_26).1) ?_
        show Steps p.tables e below (s₁.setTop (mkF m 22 A0 [])) _
        refine XS.iconst X0.here hx rfl (hb hby d1_22) ?_
        exact kt)
    obtain ⟨fs, hr, hrun, hended, hW, hsame⟩ := X0.leave (v := some (.int (0 : Int32))) (fun h => by rw [Bd.returns] at h; cases h)
    refine ⟨_, _, k38 _ ?_, hrun, hended, _, _, rfl, ?_, ⟨_, rfl⟩, hW, hsame.mono (by decide) (by decide)⟩
    · show Steps p.tables e below (s₁.setTop (mkF m 23 #[.val (.ref a1), .val (.ref a1), .val (.int (3 : Int32)), .val (.int (0 : Int32)), .val (.int x0)] [(.int (0 : Int32))])) _
      exact retN X0 hx (t := .boolean) Bd.returns (by simp) (hb hby d1_23) hr
    · show Q_rm1_3 Z x0 x1 x2 h0 n0 _ s₁.heap _
      rw [e0]
      exact ⟨by simp [own_emp, hc19_26], N0, rfl⟩
theorem pd_0 : parseMethodDescriptor "([I)Z" = some ⟨[(.array .int)], some .boolean⟩ := by decide +kernel
theorem pn_c1 : plainName "com/example/evntual/evntual/engine/BitsIsEmptyPinLaw" = true := by first | (simp [plainName, overriddenIn]; done) | decide +kernel
theorem ef_rm0 (m : MethodId) (x0 : Int32) (x1 : Int32) (x2 : Int32) (x3 : Int32) (x4 : Int32) : entryFrame m #[(.int x0), (.int x1), (.int x2), (.int x3), (.int x4)] maxLocals = mkF m 0 #[.val (.int x0), .val (.int x1), .val (.int x2), .val (.int x3), .val (.int x4), .unset, .unset, .unset, .unset, .unset, .unset, .unset, .unset] [] := by first | (simp [entryFrame, mkF, argsToLocals, Value.category, maxLocals]; done) | rfl
def Q_rm0 (Z : State) (p1 p2 p3 p4 p5 : Int32) (h0 : Heap) (n0 : Nat) (v : Option Value) (h : Heap) (L : List Loc) : Prop := v = some (.int 1) ∧ Fr n0 L
set_option maxRecDepth 65536 in
set_option maxHeartbeats 40000000 in
theorem rm0 (l : Launch) (Z : State) (a0 : Array Value) (hw : ∀ d ∈ tables_1, d.before a0 Z = true) (ws : List Jvm.Cond) (p1 p2 p3 p4 p5 : Int32) (h0 : Heap) (n0 : Nat) (Z0 : n0 ≤ h0.size) :
    MetFree l x (head1 (Jvm.Cond.code x code maxLocals ret :: ws) room_1) (fun a U => a = #[(.int p1), (.int p2), (.int p3), (.int p4), (.int p5)] ∧ Z.Warmed39 U.vm ∧ U.heap = h0) (fun _ _ _ _ _ => True) (fun _ U o U' => ∃ v L, o = .returned v ∧ Q_rm0 Z p1 p2 p3 p4 p5 h0 n0 v U'.heap L ∧ FrameEnd U o U' L room_1.cells room_1.slots) := by
  refine MetFree.of_bodySF (plainFor_of_name pn_c1) hisR ?_
  intro p e s m args below meth c s₁ Bd hml0 hP hK
  obtain ⟨rfl, hZ, hh⟩ := hP
  have hx := Bd.exec
  have hby := Bd.bytes
  have hml : c.maxLocals = 13 := hml0
  have hown : s.vm.findClass "com/example/evntual/evntual/engine/BitsIsEmptyPinLaw" = some m.cls := findClass_of_methodNamed Bd.named
  have hnm := (name_of_methodNamed Bd.named Bd.method).1
  have X0 : Stand p l e room_1 s m #[(.int p1), (.int p2), (.int p3), (.int p4), (.int p5)] below meth c s₁ [] 0 0 := Stand.of_body Bd
  have e0 : s₁.heap = h0 := by rw [← hh, Bd.state]; rfl
  have N0 := Fr.nil n0
  have pre0 : ∀ t, Steps p.tables e below (s₁.setTop (mkF m 0 #[.val (.int p1), .val (.int p2), .val (.int p3), .val (.int p4), .val (.int p5), .unset, .unset, .unset, .unset, .unset, .unset, .unset, .unset] [])) t → Steps p.tables e below (s₁.setTop (entryFrame m #[(.int p1), (.int p2), (.int p3), (.int p4), (.int p5)] maxLocals)) t := fun t k => castTop (ef_rm0 m p1 p2 p3 p4 p5) k
  obtain ⟨k, hk, hk4⟩ := own_rem p1
  have k39 : ∀ t, Steps p.tables e below (s₁.setTop (mkF m 6 #[.val (.int p1), .val (.int p2), .val (.int p3), .val (.int p4), .val (.int p5), .unset, .unset, .unset, .unset, .unset, .unset, .unset, .unset] [(.int ((p1 &&& (2147483647 : Int32)) % (4 : Int32)))])) t → Steps p.tables e below (s₁.setTop (entryFrame m #[(.int p1), (.int p2), (.int p3), (.int p4), (.int p5)] maxLocals)) t := fun t kt => pre0 t (by
      let A0 : Array Slot := #[.val (.int p1), .val (.int p2), .val (.int p3), .val (.int p4), .val (.int p5), .unset, .unset, .unset, .unset, .unset, .unset, .unset, .unset]
      show Steps p.tables e below (s₁.setTop (mkF m 0 A0 [])) _
      refine XS.iloadN X0.here hx rfl (hb hby at_0) rfl ?_
      show Steps p.tables e below (s₁.setTop (mkF m 1 A0 [(.int p1)])) _
      refine X0.ldcInt hx hown (mvT hZ (hw _ (List.mem_of_getElem? (i := 0) rfl))) (g := (mkF m 1 A0 [(.int p1)])) rfl (hb hby at_1) _ ?_
      show Steps p.tables e below (s₁.setTop (mkF m 3 A0 [(.int (2147483647 : Int32)), (.int p1)])) _
      refine XS.iand X0.here hx rfl (hb hby at_3) rfl ?_
      show Steps p.tables e below (s₁.setTop (mkF m 4 A0 [(.int (p1 &&& (2147483647 : Int32)))])) _
      refine XS.iconst X0.here hx rfl (hb hby at_4) ?_
      show Steps p.tables e below (s₁.setTop (mkF m 5 A0 [(.int (4 : Int32)), (.int (p1 &&& (2147483647 : Int32)))])) _
      refine iremM (g := (mkF m 5 A0 [(.int (4 : Int32)), (.int (p1 &&& (2147483647 : Int32)))])) X0 hx rfl (hb hby at_5) rfl (by decide) ?_
      exact kt)
  rw [← hk] at k39
  have k40 : ∀ t, Steps p.tables e below (s₁.setTop (mkF m 12 #[.val (.int p1), .val (.int p2), .val (.int p3), .val (.int p4), .val (.int p5), .val (.int k), .unset, .unset, .unset, .unset, .unset, .unset, .unset] [(.int (p5 &&& (1 : Int32)))])) t → Steps p.tables e below (s₁.setTop (entryFrame m #[(.int p1), (.int p2), (.int p3), (.int p4), (.int p5)] maxLocals)) t := fun t kt => k39 t (by
      show Steps p.tables e below (s₁.setTop (mkF m 6 #[.val (.int p1), .val (.int p2), .val (.int p3), .val (.int p4), .val (.int p5), .unset, .unset, .unset, .unset, .unset, .unset, .unset, .unset] [(.int k)])) _
      let A0 : Array Slot := #[.val (.int p1), .val (.int p2), .val (.int p3), .val (.int p4), .val (.int p5), .val (.int k), .unset, .unset, .unset, .unset, .unset, .unset, .unset]
      refine XS.istore X0.here hx rfl (hb hby at_6) rfl (l' := A0) rfl ?_
      show Steps p.tables e below (s₁.setTop (mkF m 8 A0 [])) _
      refine XS.iload X0.here hx rfl (hb hby at_8) rfl ?_
      show Steps p.tables e below (s₁.setTop (mkF m 10 A0 [(.int p5)])) _
      refine XS.iconst X0.here hx rfl (hb hby at_10) ?_
      show Steps p.tables e below (s₁.setTop (mkF m 11 A0 [(.int (1 : Int32)), (.int p5)])) _
      refine XS.iand X0.here hx rfl (hb hby at_11) rfl ?_
      exact kt)
  obtain ⟨v42, hv42⟩ : ∃ v : Int32, v = (if (p5 &&& (1 : Int32)) = (0 : Int32) then p2 else (0 : Int32)) := ⟨_, rfl⟩
  have k43 : ∀ t, Steps p.tables e below (s₁.setTop (mkF m 20 #[.val (.int p1), .val (.int p2), .val (.int p3), .val (.int p4), .val (.int p5), .val (.int k), .unset, .unset, .unset, .unset, .unset, .unset, .unset] [(.int v42)])) t → Steps p.tables e below (s₁.setTop (entryFrame m #[(.int p1), (.int p2), (.int p3), (.int p4), (.int p5)] maxLocals)) t := by
    intro t kt
    by_cases hc12_41 : (p5 &&& (1 : Int32)) = (0 : Int32)
    · rw [show v42 = p2 from (hv42.trans (if_pos hc12_41))] at kt
      exact k40 t (by
          let A0 : Array Slot := #[.val (.int p1), .val (.int p2), .val (.int p3), .val (.int p4), .val (.int p5), .val (.int k), .unset, .unset, .unset, .unset, .unset, .unset, .unset]
          show Steps p.tables e below (s₁.setTop (mkF m 12 A0 [(.int (p5 &&& (1 : Int32)))])) _
          refine XS.ifYes X0.here hx rfl (pc0 := 12) (pc' := 19) rfl (hb hby at_12) rfl ((if0 _ _).trans (teq hc12_41).1) (by decide) (by decide) ?_
          show Steps p.tables e below (s₁.setTop (mkF m 19 A0 [])) _
          refine XS.iloadN X0.here hx rfl (hb hby at_19) rfl ?_
          exact kt)
    · rw [show v42 = (0 : Int32) from (hv42.trans (if_neg hc12_41))] at kt
      exact k40 t (by
          let A0 : Array Slot := #[.val (.int p1), .val (.int p2), .val (.int p3), .val (.int p4), .val (.int p5), .val (.int k), .unset, .unset, .unset, .unset, .unset, .unset, .unset]
          show Steps p.tables e below (s₁.setTop (mkF m 12 A0 [(.int (p5 &&& (1 : Int32)))])) _
          refine XS.ifNo X0.here hx rfl (hb hby at_12) rfl ((if0 _ _).trans (feq hc12_41).1) ?_
          show Steps p.tables e below (s₁.setTop (mkF m 15 A0 [])) _
          refine XS.iconst X0.here hx rfl (hb hby at_15) ?_
          show Steps p.tables e below (s₁.setTop (mkF m 16 A0 [(.int (0 : Int32))])) _
          refine XS.goto X0.here hx rfl (pc0 := 16) (pc' := 20) rfl (hb hby at_16) (by decide) (by decide) ?_
          exact kt)
  have k44 : ∀ t, Steps p.tables e below (s₁.setTop (mkF m 26 #[.val (.int p1), .val (.int p2), .val (.int p3), .val (.int p4), .val (.int p5), .val (.int k), .val (.int v42), .unset, .unset, .unset, .unset, .unset, .unset] [(.int (p5 &&& (2 : Int32)))])) t → Steps p.tables e below (s₁.setTop (entryFrame m #[(.int p1), (.int p2), (.int p3), (.int p4), (.int p5)] maxLocals)) t := fun t kt => k43 t (by
      show Steps p.tables e below (s₁.setTop (mkF m 20 #[.val (.int p1), .val (.int p2), .val (.int p3), .val (.int p4), .val (.int p5), .val (.int k), .unset, .unset, .unset, .unset, .unset, .unset, .unset] [(.int v42)])) _
      let A0 : Array Slot := #[.val (.int p1), .val (.int p2), .val (.int p3), .val (.int p4), .val (.int p5), .val (.int k), .val (.int v42), .unset, .unset, .unset, .unset, .unset, .unset]
      refine XS.istore X0.here hx rfl (hb hby at_20) rfl (l' := A0) rfl ?_
      show Steps p.tables e below (s₁.setTop (mkF m 22 A0 [])) _
      refine XS.iload X0.here hx rfl (hb hby at_22) rfl ?_
      show Steps p.tables e below (s₁.setTop (mkF m 24 A0 [(.int p5)])) _
      refine XS.iconst X0.here hx rfl (hb hby at_24) ?_
      show Steps p.tables e below (s₁.setTop (mkF m 25 A0 [(.int (2 : Int32)), (.int p5)])) _
      refine XS.iand X0.here hx rfl (hb hby at_25) rfl ?_
      exact kt)
  obtain ⟨v46, hv46⟩ : ∃ v : Int32, v = (if (p5 &&& (2 : Int32)) = (0 : Int32) then p3 else (0 : Int32)) := ⟨_, rfl⟩
  have k47 : ∀ t, Steps p.tables e below (s₁.setTop (mkF m 34 #[.val (.int p1), .val (.int p2), .val (.int p3), .val (.int p4), .val (.int p5), .val (.int k), .val (.int v42), .unset, .unset, .unset, .unset, .unset, .unset] [(.int v46)])) t → Steps p.tables e below (s₁.setTop (entryFrame m #[(.int p1), (.int p2), (.int p3), (.int p4), (.int p5)] maxLocals)) t := by
    intro t kt
    by_cases hc26_45 : (p5 &&& (2 : Int32)) = (0 : Int32)
    · rw [show v46 = p3 from (hv46.trans (if_pos hc26_45))] at kt
      exact k44 t (by
          let A0 : Array Slot := #[.val (.int p1), .val (.int p2), .val (.int p3), .val (.int p4), .val (.int p5), .val (.int k), .val (.int v42), .unset, .unset, .unset, .unset, .unset, .unset]
          show Steps p.tables e below (s₁.setTop (mkF m 26 A0 [(.int (p5 &&& (2 : Int32)))])) _
          refine XS.ifYes X0.here hx rfl (pc0 := 26) (pc' := 33) rfl (hb hby at_26) rfl ((if0 _ _).trans (teq hc26_45).1) (by decide) (by decide) ?_
          show Steps p.tables e below (s₁.setTop (mkF m 33 A0 [])) _
          refine XS.iloadN X0.here hx rfl (hb hby at_33) rfl ?_
          exact kt)
    · rw [show v46 = (0 : Int32) from (hv46.trans (if_neg hc26_45))] at kt
      exact k44 t (by
          let A0 : Array Slot := #[.val (.int p1), .val (.int p2), .val (.int p3), .val (.int p4), .val (.int p5), .val (.int k), .val (.int v42), .unset, .unset, .unset, .unset, .unset, .unset]
          show Steps p.tables e below (s₁.setTop (mkF m 26 A0 [(.int (p5 &&& (2 : Int32)))])) _
          refine XS.ifNo X0.here hx rfl (hb hby at_26) rfl ((if0 _ _).trans (feq hc26_45).1) ?_
          show Steps p.tables e below (s₁.setTop (mkF m 29 A0 [])) _
          refine XS.iconst X0.here hx rfl (hb hby at_29) ?_
          show Steps p.tables e below (s₁.setTop (mkF m 30 A0 [(.int (0 : Int32))])) _
          refine XS.goto X0.here hx rfl (pc0 := 30) (pc' := 34) rfl (hb hby at_30) (by decide) (by decide) ?_
          exact kt)
  have k48 : ∀ t, Steps p.tables e below (s₁.setTop (mkF m 40 #[.val (.int p1), .val (.int p2), .val (.int p3), .val (.int p4), .val (.int p5), .val (.int k), .val (.int v42), .val (.int v46), .unset, .unset, .unset, .unset, .unset] [(.int (p5 &&& (4 : Int32)))])) t → Steps p.tables e below (s₁.setTop (entryFrame m #[(.int p1), (.int p2), (.int p3), (.int p4), (.int p5)] maxLocals)) t := fun t kt => k47 t (by
      show Steps p.tables e below (s₁.setTop (mkF m 34 #[.val (.int p1), .val (.int p2), .val (.int p3), .val (.int p4), .val (.int p5), .val (.int k), .val (.int v42), .unset, .unset, .unset, .unset, .unset, .unset] [(.int v46)])) _
      let A0 : Array Slot := #[.val (.int p1), .val (.int p2), .val (.int p3), .val (.int p4), .val (.int p5), .val (.int k), .val (.int v42), .val (.int v46), .unset, .unset, .unset, .unset, .unset]
      refine XS.istore X0.here hx rfl (hb hby at_34) rfl (l' := A0) rfl ?_
      show Steps p.tables e below (s₁.setTop (mkF m 36 A0 [])) _
      refine XS.iload X0.here hx rfl (hb hby at_36) rfl ?_
      show Steps p.tables e below (s₁.setTop (mkF m 38 A0 [(.int p5)])) _
      refine XS.iconst X0.here hx rfl (hb hby at_38) ?_
      show Steps p.tables e below (s₁.setTop (mkF m 39 A0 [(.int (4 : Int32)), (.int p5)])) _
      refine XS.iand X0.here hx rfl (hb hby at_39) rfl ?_
      exact kt)
  obtain ⟨v50, hv50⟩ : ∃ v : Int32, v = (if (p5 &&& (4 : Int32)) = (0 : Int32) then p4 else (0 : Int32)) := ⟨_, rfl⟩
  have k51 : ∀ t, Steps p.tables e below (s₁.setTop (mkF m 48 #[.val (.int p1), .val (.int p2), .val (.int p3), .val (.int p4), .val (.int p5), .val (.int k), .val (.int v42), .val (.int v46), .unset, .unset, .unset, .unset, .unset] [(.int v50)])) t → Steps p.tables e below (s₁.setTop (entryFrame m #[(.int p1), (.int p2), (.int p3), (.int p4), (.int p5)] maxLocals)) t := by
    intro t kt
    by_cases hc40_49 : (p5 &&& (4 : Int32)) = (0 : Int32)
    · rw [show v50 = p4 from (hv50.trans (if_pos hc40_49))] at kt
      exact k48 t (by
          let A0 : Array Slot := #[.val (.int p1), .val (.int p2), .val (.int p3), .val (.int p4), .val (.int p5), .val (.int k), .val (.int v42), .val (.int v46), .unset, .unset, .unset, .unset, .unset]
          show Steps p.tables e below (s₁.setTop (mkF m 40 A0 [(.int (p5 &&& (4 : Int32)))])) _
          refine XS.ifYes X0.here hx rfl (pc0 := 40) (pc' := 47) rfl (hb hby at_40) rfl ((if0 _ _).trans (teq hc40_49).1) (by decide) (by decide) ?_
          show Steps p.tables e below (s₁.setTop (mkF m 47 A0 [])) _
          refine XS.iloadN X0.here hx rfl (hb hby at_47) rfl ?_
          exact kt)
    · rw [show v50 = (0 : Int32) from (hv50.trans (if_neg hc40_49))] at kt
      exact k48 t (by
          let A0 : Array Slot := #[.val (.int p1), .val (.int p2), .val (.int p3), .val (.int p4), .val (.int p5), .val (.int k), .val (.int v42), .val (.int v46), .unset, .unset, .unset, .unset, .unset]
          show Steps p.tables e below (s₁.setTop (mkF m 40 A0 [(.int (p5 &&& (4 : Int32)))])) _
          refine XS.ifNo X0.here hx rfl (hb hby at_40) rfl ((if0 _ _).trans (feq hc40_49).1) ?_
          show Steps p.tables e below (s₁.setTop (mkF m 43 A0 [])) _
          refine XS.iconst X0.here hx rfl (hb hby at_43) ?_
          show Steps p.tables e below (s₁.setTop (mkF m 44 A0 [(.int (0 : Int32))])) _
          refine XS.goto X0.here hx rfl (pc0 := 44) (pc' := 48) rfl (hb hby at_44) (by decide) (by decide) ?_
          exact kt)
  have k52 : ∀ t, Steps p.tables e below (s₁.setTop (mkF m 50 #[.val (.int p1), .val (.int p2), .val (.int p3), .val (.int p4), .val (.int p5), .val (.int k), .val (.int v42), .val (.int v46), .val (.int v50), .unset, .unset, .unset, .unset] [])) t → Steps p.tables e below (s₁.setTop (entryFrame m #[(.int p1), (.int p2), (.int p3), (.int p4), (.int p5)] maxLocals)) t := fun t kt => k51 t (by
      show Steps p.tables e below (s₁.setTop (mkF m 48 #[.val (.int p1), .val (.int p2), .val (.int p3), .val (.int p4), .val (.int p5), .val (.int k), .val (.int v42), .val (.int v46), .unset, .unset, .unset, .unset, .unset] [(.int v50)])) _
      refine XS.istore X0.here hx rfl (hb hby at_48) rfl (l' := #[.val (.int p1), .val (.int p2), .val (.int p3), .val (.int p4), .val (.int p5), .val (.int k), .val (.int v42), .val (.int v46), .val (.int v50), .unset, .unset, .unset, .unset]) rfl ?_
      exact kt)
  rcases hk4 with rfl | rfl | rfl | rfl
  · obtain ⟨T53, h53, kc53, X53, e53, E53, A53, st53⟩ := newP X0 hx hZ (hw _ (List.mem_of_getElem? (i := 1) rfl)) e0 (g := (mkF m 56 #[.val (.int p1), .val (.int p2), .val (.int p3), .val (.int p4), .val (.int p5), .val (.int (0 : Int32)), .val (.int v42), .val (.int v46), .val (.int v50), .unset, .unset, .unset, .unset] [(.int (0 : Int32))])) rfl (hb hby at_56) rfl (by decide) (cap := 0) (by decide) (by decide) (by decide) (by decide)
    obtain ⟨b53, g53⟩ : ∃ z, z = h0.size := ⟨_, rfl⟩
    rw [← g53] at A53 st53
    have g_b53 : n0 ≤ b53 := Nat.le_trans Z0 (Nat.le_of_eq g53.symm)
    have Z_54 : n0 ≤ h53.size := Nat.le_trans Z0 E53.1
    have V_b53 : Arv Z h53 b53 kc53 .int (0 : Int32) [] (.int (0 : Int32)) := Arv.new A53 (by decide)
    have k55 : ∀ t, Steps p.tables e below (T53.setTop (mkF m 126 #[.val (.int p1), .val (.int p2), .val (.int p3), .val (.int p4), .val (.int p5), .val (.int (0 : Int32)), .val (.int v42), .val (.int v46), .val (.int v50), .val (.ref b53), .unset, .unset, .unset] [])) t → Steps p.tables e below (s₁.setTop (entryFrame m #[(.int p1), (.int p2), (.int p3), (.int p4), (.int p5)] maxLocals)) t := fun t kt => k52 t (by
        let A0 : Array Slot := #[.val (.int p1), .val (.int p2), .val (.int p3), .val (.int p4), .val (.int p5), .val (.int (0 : Int32)), .val (.int v42), .val (.int v46), .val (.int v50), .unset, .unset, .unset, .unset]
        show Steps p.tables e below (s₁.setTop (mkF m 50 A0 [])) _
        refine XS.iload X0.here hx rfl (hb hby at_50) rfl ?_
        show Steps p.tables e below (s₁.setTop (mkF m 52 A0 [(.int (0 : Int32))])) _
        refine XS.ifNo X0.here hx rfl (hb hby at_52) rfl ((if0 _ _).trans (teq (by decide : (0 : Int32) = (0 : Int32))).2) ?_
        show Steps p.tables e below (s₁.setTop (mkF m 55 A0 [])) _
        refine XS.iconst X0.here hx rfl (hb hby at_55) ?_
        show Steps p.tables e below (s₁.setTop (mkF m 56 A0 [(.int (0 : Int32))])) _
        refine st53 _ ?_
        show Steps p.tables e below (T53.setTop (mkF m 58 A0 [(.ref b53)])) _
        let A1 : Array Slot := #[.val (.int p1), .val (.int p2), .val (.int p3), .val (.int p4), .val (.int p5), .val (.int (0 : Int32)), .val (.int v42), .val (.int v46), .val (.int v50), .val (.ref b53), .unset, .unset, .unset]
        refine XS.astore X53.here hx rfl (hb hby at_58) rfl rfl (l' := A1) rfl ?_
        show Steps p.tables e below (T53.setTop (mkF m 60 A1 [])) _
        refine XS.goto X53.here hx rfl (pc0 := 60) (pc' := 126) rfl (hb hby at_60) (by decide) (by decide) ?_
        exact kt)
    have k56 : ∀ t, Steps p.tables e below (T53.setTop (mkF m 164 #[.val (.int p1), .val (.int p2), .val (.int p3), .val (.int p4), .val (.int p5), .val (.int (0 : Int32)), .val (.int v42), .val (.int v46), .val (.int v50), .val (.ref b53), .unset, .unset, .unset] [(.int (1 : Int32))])) t → Steps p.tables e below (s₁.setTop (entryFrame m #[(.int p1), (.int p2), (.int p3), (.int p4), (.int p5)] maxLocals)) t := fun t kt => k55 t (by
        let A0 : Array Slot := #[.val (.int p1), .val (.int p2), .val (.int p3), .val (.int p4), .val (.int p5), .val (.int (0 : Int32)), .val (.int v42), .val (.int v46), .val (.int v50), .val (.ref b53), .unset, .unset, .unset]
        show Steps p.tables e below (T53.setTop (mkF m 126 A0 [])) _
        refine XS.iload X53.here hx rfl (hb hby at_126) rfl ?_
        show Steps p.tables e below (T53.setTop (mkF m 128 A0 [(.int (0 : Int32))])) _
        refine XS.iconst X53.here hx rfl (hb hby at_128) ?_
        show Steps p.tables e below (T53.setTop (mkF m 129 A0 [(.int (1 : Int32)), (.int (0 : Int32))])) _
        refine XS.icmpYes X53.here hx rfl (pc0 := 129) (pc' := 137) rfl (hb hby at_129) rfl (tlt (by decide : (0 : Int32) < (1 : Int32))).1 (by decide) (by decide) ?_
        show Steps p.tables e below (T53.setTop (mkF m 137 A0 [])) _
        refine XS.iload X53.here hx rfl (hb hby at_137) rfl ?_
        show Steps p.tables e below (T53.setTop (mkF m 139 A0 [(.int (0 : Int32))])) _
        refine XS.iconst X53.here hx rfl (hb hby at_139) ?_
        show Steps p.tables e below (T53.setTop (mkF m 140 A0 [(.int (2 : Int32)), (.int (0 : Int32))])) _
        refine XS.icmpYes X53.here hx rfl (pc0 := 140) (pc' := 148) rfl (hb hby at_140) rfl (tlt (by decide : (0 : Int32) < (2 : Int32))).1 (by decide) (by decide) ?_
        show Steps p.tables e below (T53.setTop (mkF m 148 A0 [])) _
        refine XS.iload X53.here hx rfl (hb hby at_148) rfl ?_
        show Steps p.tables e below (T53.setTop (mkF m 150 A0 [(.int (0 : Int32))])) _
        refine XS.iconst X53.here hx rfl (hb hby at_150) ?_
        show Steps p.tables e below (T53.setTop (mkF m 151 A0 [(.int (3 : Int32)), (.int (0 : Int32))])) _
        refine XS.icmpYes X53.here hx rfl (pc0 := 151) (pc' := 159) rfl (hb hby at_151) rfl (tlt (by decide : (0 : Int32) < (3 : Int32))).1 (by decide) (by decide) ?_
        show Steps p.tables e below (T53.setTop (mkF m 159 A0 [])) _
        refine XS.iconst X53.here hx rfl (hb hby at_159) ?_
        show Steps p.tables e below (T53.setTop (mkF m 160 A0 [(.int (1 : Int32))])) _
        refine XS.goto X53.here hx rfl (pc0 := 160) (pc' := 164) rfl (hb hby at_160) (by decide) (by decide) ?_
        exact kt)
    have hfin : own_emp [] = (1 : Int32) := rfl
    obtain ⟨_, _, ⟨T57, L57, k57, n57⟩, -, X57, ⟨Lc57, hQ57, l57, y57, z57⟩, st57⟩ := Jvm.LawKit.callS X53 hx (y := (⟨"com/example/evntual/evntual/engine/Bits", "isEmpty", "([I)Z"⟩ : MethodName)) hown (mvT hZ (hw _ (List.mem_of_getElem? (i := 2) rfl))) (mvT hZ (hw _ (List.mem_of_getElem? (i := 3) rfl))) (mvT hZ (hw _ (List.mem_of_getElem? (i := 4) rfl))) (mvT hZ (hw _ (List.mem_of_getElem? (i := 5) rfl))) (by decide) (backOf (W := 0) (rm1_0 l Z a0 hw [] b53 kc53  h53 n0 Z_54 V_b53) hZ (hw _ (List.mem_of_getElem? (i := 5) rfl)) (hw _ (List.mem_of_getElem? (i := 4) rfl)) (by decide) (by decide)) (g := (mkF m 168 #[.val (.int p1), .val (.int p2), .val (.int p3), .val (.int p4), .val (.int p5), .val (.int (0 : Int32)), .val (.int v42), .val (.int v46), .val (.int v50), .val (.ref b53), .val (.int (1 : Int32)), .unset, .unset] [(.ref b53)])) rfl (by rw [hml]; rfl) (argsL := [(.ref b53)]) (rest := []) (lenOf pd_0 rfl) rfl (by show 2 * 0 + _ ≤ _; exact Nat.le_of_eq rfl) (hb hby at_168) (fun _ _ => ⟨rfl, e53, (by decide : 1 + 0 ≤ _), (by decide : 0 + 0 ≤ _)⟩)
    dsimp only [Pt.U, Pt.locs, Pt.cells, Pt.slots] at X57 l57 y57 z57 st57 hQ57
    subst l57 y57 z57
    obtain ⟨rfl, N57q, e57⟩ := hQ57
    have N57 := Fr.app N0 N57q
    obtain ⟨cl58, Ar58, q58, S58, M58, H58, G58⟩ := id V_b53
    have k59 : ∀ t, Steps p.tables e below (T57.setTop (mkF m 250 #[.val (.int p1), .val (.int p2), .val (.int p3), .val (.int p4), .val (.int p5), .val (.int (0 : Int32)), .val (.int v42), .val (.int v46), .val (.int v50), .val (.ref b53), .val (.int (1 : Int32)), .val (.int (own_emp [])), .val (.int (1 : Int32))] [(.int (1 : Int32))])) t → Steps p.tables e below (s₁.setTop (entryFrame m #[(.int p1), (.int p2), (.int p3), (.int p4), (.int p5)] maxLocals)) t := fun t kt => k56 t (by
        show Steps p.tables e below (T53.setTop (mkF m 164 #[.val (.int p1), .val (.int p2), .val (.int p3), .val (.int p4), .val (.int p5), .val (.int (0 : Int32)), .val (.int v42), .val (.int v46), .val (.int v50), .val (.ref b53), .unset, .unset, .unset] [(.int (1 : Int32))])) _
        let A0 : Array Slot := #[.val (.int p1), .val (.int p2), .val (.int p3), .val (.int p4), .val (.int p5), .val (.int (0 : Int32)), .val (.int v42), .val (.int v46), .val (.int v50), .val (.ref b53), .val (.int (1 : Int32)), .unset, .unset]
        refine XS.istore X53.here hx rfl (hb hby at_164) rfl (l' := A0) rfl ?_
        show Steps p.tables e below (T53.setTop (mkF m 166 A0 [])) _
        refine XS.aload X53.here hx rfl (hb hby at_166) rfl rfl ?_
        show Steps p.tables e below (T53.setTop (mkF m 168 A0 [(.ref b53)])) _
        refine st57 _ ?_
        show Steps p.tables e below (T57.setTop (mkF m 171 A0 [(.int (own_emp []))])) _
        let A1 : Array Slot := #[.val (.int p1), .val (.int p2), .val (.int p3), .val (.int p4), .val (.int p5), .val (.int (0 : Int32)), .val (.int v42), .val (.int v46), .val (.int v50), .val (.ref b53), .val (.int (1 : Int32)), .val (.int (own_emp [])), .unset]
        refine XS.istore X57.here hx rfl (hb hby at_171) rfl (l' := A1) rfl ?_
        show Steps p.tables e below (T57.setTop (mkF m 173 A1 [])) _
        refine XS.aload X57.here hx rfl (hb hby at_173) rfl rfl ?_
        show Steps p.tables e below (T57.setTop (mkF m 175 A1 [(.ref b53)])) _
        refine X57.arraylength hx (by rw [e57]; exact Ar58.1) (State.isArrayOf_alike hZ.alike Ar58.2.1) (g := (mkF m 175 A1 [(.ref b53)])) rfl rfl (hb hby at_175) _ ?_
        rw [len_of S58 M58]
        show Steps p.tables e below (T57.setTop (mkF m 176 A1 [(.int (0 : Int32))])) _
        refine XS.iload X57.here hx rfl (hb hby at_176) rfl ?_
        show Steps p.tables e below (T57.setTop (mkF m 178 A1 [(.int (0 : Int32)), (.int (0 : Int32))])) _
        refine XS.icmpNo X57.here hx rfl (hb hby at_178) rfl (teq (by decide : (0 : Int32) = (0 : Int32))).2 ?_
        show Steps p.tables e below (T57.setTop (mkF m 181 A1 [])) _
        refine XS.iload X57.here hx rfl (hb hby at_181) rfl ?_
        show Steps p.tables e below (T57.setTop (mkF m 183 A1 [(.int (0 : Int32))])) _
        refine XS.iconst X57.here hx rfl (hb hby at_183) ?_
        show Steps p.tables e below (T57.setTop (mkF m 184 A1 [(.int (1 : Int32)), (.int (0 : Int32))])) _
        refine XS.icmpYes X57.here hx rfl (pc0 := 184) (pc' := 196) rfl (hb hby at_184) rfl (tlt (by decide : (0 : Int32) < (1 : Int32))).1 (by decide) (by decide) ?_
        show Steps p.tables e below (T57.setTop (mkF m 196 A1 [])) _
        refine XS.iload X57.here hx rfl (hb hby at_196) rfl ?_
        show Steps p.tables e below (T57.setTop (mkF m 198 A1 [(.int (0 : Int32))])) _
        refine XS.iconst X57.here hx rfl (hb hby at_198) ?_
        show Steps p.tables e below (T57.setTop (mkF m 199 A1 [(.int (2 : Int32)), (.int (0 : Int32))])) _
        refine XS.icmpYes X57.here hx rfl (pc0 := 199) (pc' := 211) rfl (hb hby at_199) rfl (tlt (by decide : (0 : Int32) < (2 : Int32))).1 (by decide) (by decide) ?_
        show Steps p.tables e below (T57.setTop (mkF m 211 A1 [])) _
        refine XS.iload X57.here hx rfl (hb hby at_211) rfl ?_
        show Steps p.tables e below (T57.setTop (mkF m 213 A1 [(.int (0 : Int32))])) _
        refine XS.iconst X57.here hx rfl (hb hby at_213) ?_
        show Steps p.tables e below (T57.setTop (mkF m 214 A1 [(.int (3 : Int32)), (.int (0 : Int32))])) _
        refine XS.icmpYes X57.here hx rfl (pc0 := 214) (pc' := 226) rfl (hb hby at_214) rfl (tlt (by decide : (0 : Int32) < (3 : Int32))).1 (by decide) (by decide) ?_
        show Steps p.tables e below (T57.setTop (mkF m 226 A1 [])) _
        refine XS.iconst X57.here hx rfl (hb hby at_226) ?_
        show Steps p.tables e below (T57.setTop (mkF m 227 A1 [(.int (1 : Int32))])) _
        refine XS.goto X57.here hx rfl (pc0 := 227) (pc' := 231) rfl (hb hby at_227) (by decide) (by decide) ?_
        show Steps p.tables e below (T57.setTop (mkF m 231 A1 [(.int (1 : Int32))])) _
        let A2 : Array Slot := #[.val (.int p1), .val (.int p2), .val (.int p3), .val (.int p4), .val (.int p5), .val (.int (0 : Int32)), .val (.int v42), .val (.int v46), .val (.int v50), .val (.ref b53), .val (.int (1 : Int32)), .val (.int (own_emp [])), .val (.int (1 : Int32))]
        refine XS.istore X57.here hx rfl (hb hby at_231) rfl (l' := A2) rfl ?_
        show Steps p.tables e below (T57.setTop (mkF m 233 A2 [])) _
        refine XS.iload X57.here hx rfl (hb hby at_233) rfl ?_
        show Steps p.tables e below (T57.setTop (mkF m 235 A2 [(.int (own_emp []))])) _
        refine XS.iload X57.here hx rfl (hb hby at_235) rfl ?_
        show Steps p.tables e below (T57.setTop (mkF m 237 A2 [(.int (1 : Int32)), (.int (own_emp []))])) _
        refine XS.icmpNo X57.here hx rfl (hb hby at_237) rfl (teq hfin).2 ?_
        show Steps p.tables e below (T57.setTop (mkF m 240 A2 [])) _
        refine XS.iload X57.here hx rfl (hb hby at_240) rfl ?_
        show Steps p.tables e below (T57.setTop (mkF m 242 A2 [(.int (1 : Int32))])) _
        refine XS.ifNo X57.here hx rfl (hb hby at_242) rfl ((if0 _ _).trans (feq (by decide : ¬ ((1 : Int32) = (0 : Int32)))).1) ?_
        show Steps p.tables e below (T57.setTop (mkF m 245 A2 [])) _
        refine XS.iconst X57.here hx rfl (hb hby at_245) ?_
        show Steps p.tables e below (T57.setTop (mkF m 246 A2 [(.int (1 : Int32))])) _
        refine XS.goto X57.here hx rfl (pc0 := 246) (pc' := 250) rfl (hb hby at_246) (by decide) (by decide) ?_
        exact kt)
    obtain ⟨fs, hr, hrun, hended, hW, hsame⟩ := X57.leave (v := some (.int (1 : Int32))) (fun h => by rw [Bd.returns] at h; cases h)
    refine ⟨_, _, k59 _ ?_, hrun, hended, _, _, rfl, ?_, ⟨_, rfl⟩, hW, hsame.mono (by decide) (by decide)⟩
    · show Steps p.tables e below (T57.setTop (mkF m 250 #[.val (.int p1), .val (.int p2), .val (.int p3), .val (.int p4), .val (.int p5), .val (.int (0 : Int32)), .val (.int v42), .val (.int v46), .val (.int v50), .val (.ref b53), .val (.int (1 : Int32)), .val (.int (own_emp [])), .val (.int (1 : Int32))] [(.int (1 : Int32))])) _
      exact retN X57 hx (t := .boolean) Bd.returns (by simp) (hb hby at_250) hr
    · show Q_rm0 Z p1 p2 p3 p4 p5 h0 n0 _ T57.heap _
      rw [e57]
      exact ⟨rfl, N57⟩
  · obtain ⟨T60, h60, kc60, X60, e60, E60, A60, st60⟩ := newP X0 hx hZ (hw _ (List.mem_of_getElem? (i := 1) rfl)) e0 (g := (mkF m 70 #[.val (.int p1), .val (.int p2), .val (.int p3), .val (.int p4), .val (.int p5), .val (.int (1 : Int32)), .val (.int v42), .val (.int v46), .val (.int v50), .unset, .unset, .unset, .unset] [(.int (1 : Int32))])) rfl (hb hby at_70) rfl (by decide) (cap := 1) (by decide) (by decide) (by decide) (by decide)
    obtain ⟨b60, g60⟩ : ∃ z, z = h0.size := ⟨_, rfl⟩
    rw [← g60] at A60 st60
    have g_b60 : n0 ≤ b60 := Nat.le_trans Z0 (Nat.le_of_eq g60.symm)
    have Z_61 : n0 ≤ h60.size := Nat.le_trans Z0 E60.1
    have V_b60 : Arv Z h60 b60 kc60 .int (1 : Int32) [(.int (0 : Int32))] (.int (0 : Int32)) := (Arv.new A60 (by decide)).pad (pad_rep [] (.int (0 : Int32)) 1)
    obtain ⟨cl62, Ar62, q62, S62, M62, H62, G62⟩ := id V_b60
    have hin63 : ¬ ((0 : Int32) < 0 ∨ cl62.slots.size ≤ ((0 : Int32)).toNatClampNeg) := inb_of S62 ⟨by decide, by decide⟩
    obtain ⟨T63, h63, X63, e63, W63, st63⟩ := stI X60 hx hZ e60 Ar62 (j := (0 : Int32)) hin63 (g := (mkF m 76 #[.val (.int p1), .val (.int p2), .val (.int p3), .val (.int p4), .val (.int p5), .val (.int (1 : Int32)), .val (.int v42), .val (.int v46), .val (.int v50), .unset, .unset, .unset, .unset] [(.int v42), (.int (0 : Int32)), (.ref b60), (.ref b60)])) rfl rfl (hb hby at_76)
    have V_b60_63 : Arv Z h63 b60 kc60 .int (1 : Int32) [(.int v42)] (.int (0 : Int32)) := Arv.set Ar62 q62 S62 M62 H62 G62 rfl W63 0 rfl (Nat.le_of_ble_eq_true rfl)
    have Z_64 : n0 ≤ h63.size := Nat.le_trans Z_61 (Nat.le_of_eq (Wr.size W63).symm)
    have N63 := Fr.snoc X63 N0 g_b60
    have k65 : ∀ t, Steps p.tables e below (T63.setTop (mkF m 126 #[.val (.int p1), .val (.int p2), .val (.int p3), .val (.int p4), .val (.int p5), .val (.int (1 : Int32)), .val (.int v42), .val (.int v46), .val (.int v50), .val (.ref b60), .unset, .unset, .unset] [])) t → Steps p.tables e below (s₁.setTop (entryFrame m #[(.int p1), (.int p2), (.int p3), (.int p4), (.int p5)] maxLocals)) t := fun t kt => k52 t (by
        let A0 : Array Slot := #[.val (.int p1), .val (.int p2), .val (.int p3), .val (.int p4), .val (.int p5), .val (.int (1 : Int32)), .val (.int v42), .val (.int v46), .val (.int v50), .unset, .unset, .unset, .unset]
        show Steps p.tables e below (s₁.setTop (mkF m 50 A0 [])) _
        refine XS.iload X0.here hx rfl (hb hby at_50) rfl ?_
        show Steps p.tables e below (s₁.setTop (mkF m 52 A0 [(.int (1 : Int32))])) _
        refine XS.ifYes X0.here hx rfl (pc0 := 52) (pc' := 63) rfl (hb hby at_52) rfl ((if0 _ _).trans (feq (by decide : ¬ ((1 : Int32) = (0 : Int32)))).2) (by decide) (by decide) ?_
        show Steps p.tables e below (s₁.setTop (mkF m 63 A0 [])) _
        refine XS.iload X0.here hx rfl (hb hby at_63) rfl ?_
        show Steps p.tables e below (s₁.setTop (mkF m 65 A0 [(.int (1 : Int32))])) _
        refine XS.iconst X0.here hx rfl (hb hby at_65) ?_
        show Steps p.tables e below (s₁.setTop (mkF m 66 A0 [(.int (1 : Int32)), (.int (1 : Int32))])) _
        refine XS.icmpNo X0.here hx rfl (hb hby at_66) rfl (teq (by decide : (1 : Int32) = (1 : Int32))).2 ?_
        show Steps p.tables e below (s₁.setTop (mkF m 69 A0 [])) _
        refine XS.iconst X0.here hx rfl (hb hby at_69) ?_
        show Steps p.tables e below (s₁.setTop (mkF m 70 A0 [(.int (1 : Int32))])) _
        refine st60 _ ?_
        show Steps p.tables e below (T60.setTop (mkF m 72 A0 [(.ref b60)])) _
        refine XS.dup X60.here hx rfl (hb hby at_72) rfl rfl ?_
        show Steps p.tables e below (T60.setTop (mkF m 73 A0 [(.ref b60), (.ref b60)])) _
        refine XS.iconst X60.here hx rfl (hb hby at_73) ?_
        show Steps p.tables e below (T60.setTop (mkF m 74 A0 [(.int (0 : Int32)), (.ref b60), (.ref b60)])) _
        refine XS.iload X60.here hx rfl (hb hby at_74) rfl ?_
        show Steps p.tables e below (T60.setTop (mkF m 76 A0 [(.int v42), (.int (0 : Int32)), (.ref b60), (.ref b60)])) _
        refine st63 _ ?_
        show Steps p.tables e below (T63.setTop (mkF m 77 A0 [(.ref b60)])) _
        let A1 : Array Slot := #[.val (.int p1), .val (.int p2), .val (.int p3), .val (.int p4), .val (.int p5), .val (.int (1 : Int32)), .val (.int v42), .val (.int v46), .val (.int v50), .val (.ref b60), .unset, .unset, .unset]
        refine XS.astore X63.here hx rfl (hb hby at_77) rfl rfl (l' := A1) rfl ?_
        show Steps p.tables e below (T63.setTop (mkF m 79 A1 [])) _
        refine XS.goto X63.here hx rfl (pc0 := 79) (pc' := 126) rfl (hb hby at_79) (by decide) (by decide) ?_
        exact kt)
    obtain ⟨v67, hv67⟩ : ∃ v : Int32, v = (if v42 = (0 : Int32) then (1 : Int32) else (0 : Int32)) := ⟨_, rfl⟩
    have k68 : ∀ t, Steps p.tables e below (T63.setTop (mkF m 164 #[.val (.int p1), .val (.int p2), .val (.int p3), .val (.int p4), .val (.int p5), .val (.int (1 : Int32)), .val (.int v42), .val (.int v46), .val (.int v50), .val (.ref b60), .unset, .unset, .unset] [(.int v67)])) t → Steps p.tables e below (s₁.setTop (entryFrame m #[(.int p1), (.int p2), (.int p3), (.int p4), (.int p5)] maxLocals)) t := by
      intro t kt
      by_cases hc134_66 : v42 = (0 : Int32)
      · rw [show v67 = (1 : Int32) from (hv67.trans (if_pos hc134_66))] at kt
        exact k65 t (by
            let A0 : Array Slot := #[.val (.int p1), .val (.int p2), .val (.int p3), .val (.int p4), .val (.int p5), .val (.int (1 : Int32)), .val (.int v42), .val (.int v46), .val (.int v50), .val (.ref b60), .unset, .unset, .unset]
            show Steps p.tables e below (T63.setTop (mkF m 126 A0 [])) _
            refine XS.iload X63.here hx rfl (hb hby at_126) rfl ?_
            show Steps p.tables e below (T63.setTop (mkF m 128 A0 [(.int (1 : Int32))])) _
            refine XS.iconst X63.here hx rfl (hb hby at_128) ?_
            show Steps p.tables e below (T63.setTop (mkF m 129 A0 [(.int (1 : Int32)), (.int (1 : Int32))])) _
            refine XS.icmpNo X63.here hx rfl (hb hby at_129) rfl (flt (by decide : ¬ ((1 : Int32) < (1 : Int32)))).1 ?_
            show Steps p.tables e below (T63.setTop (mkF m 132 A0 [])) _
            refine XS.iload X63.here hx rfl (hb hby at_132) rfl ?_
            show Steps p.tables e below (T63.setTop (mkF m 134 A0 [(.int v42)])) _
            refine XS.ifNo X63.here hx rfl (hb hby at_134) rfl ((if0 _ _).trans (teq hc134_66).2) ?_
            show Steps p.tables e below (T63.setTop (mkF m 137 A0 [])) _
            refine XS.iload X63.here hx rfl (hb hby at_137) rfl ?_
            show Steps p.tables e below (T63.setTop (mkF m 139 A0 [(.int (1 : Int32))])) _
            refine XS.iconst X63.here hx rfl (hb hby at_139) ?_
            show Steps p.tables e below (T63.setTop (mkF m 140 A0 [(.int (2 : Int32)), (.int (1 : Int32))])) _
            refine XS.icmpYes X63.here hx rfl (pc0 := 140) (pc' := 148) rfl (hb hby at_140) rfl (tlt (by decide : (1 : Int32) < (2 : Int32))).1 (by decide) (by decide) ?_
            show Steps p.tables e below (T63.setTop (mkF m 148 A0 [])) _
            refine XS.iload X63.here hx rfl (hb hby at_148) rfl ?_
            show Steps p.tables e below (T63.setTop (mkF m 150 A0 [(.int (1 : Int32))])) _
            refine XS.iconst X63.here hx rfl (hb hby at_150) ?_
            show Steps p.tables e below (T63.setTop (mkF m 151 A0 [(.int (3 : Int32)), (.int (1 : Int32))])) _
            refine XS.icmpYes X63.here hx rfl (pc0 := 151) (pc' := 159) rfl (hb hby at_151) rfl (tlt (by decide : (1 : Int32) < (3 : Int32))).1 (by decide) (by decide) ?_
            show Steps p.tables e below (T63.setTop (mkF m 159 A0 [])) _
            refine XS.iconst X63.here hx rfl (hb hby at_159) ?_
            show Steps p.tables e below (T63.setTop (mkF m 160 A0 [(.int (1 : Int32))])) _
            refine XS.goto X63.here hx rfl (pc0 := 160) (pc' := 164) rfl (hb hby at_160) (by decide) (by decide) ?_
            exact kt)
      · rw [show v67 = (0 : Int32) from (hv67.trans (if_neg hc134_66))] at kt
        exact k65 t (by
            let A0 : Array Slot := #[.val (.int p1), .val (.int p2), .val (.int p3), .val (.int p4), .val (.int p5), .val (.int (1 : Int32)), .val (.int v42), .val (.int v46), .val (.int v50), .val (.ref b60), .unset, .unset, .unset]
            show Steps p.tables e below (T63.setTop (mkF m 126 A0 [])) _
            refine XS.iload X63.here hx rfl (hb hby at_126) rfl ?_
            show Steps p.tables e below (T63.setTop (mkF m 128 A0 [(.int (1 : Int32))])) _
            refine XS.iconst X63.here hx rfl (hb hby at_128) ?_
            show Steps p.tables e below (T63.setTop (mkF m 129 A0 [(.int (1 : Int32)), (.int (1 : Int32))])) _
            refine XS.icmpNo X63.here hx rfl (hb hby at_129) rfl (flt (by decide : ¬ ((1 : Int32) < (1 : Int32)))).1 ?_
            show Steps p.tables e below (T63.setTop (mkF m 132 A0 [])) _
            refine XS.iload X63.here hx rfl (hb hby at_132) rfl ?_
            show Steps p.tables e below (T63.setTop (mkF m 134 A0 [(.int v42)])) _
            refine XS.ifYes X63.here hx rfl (pc0 := 134) (pc' := 163) rfl (hb hby at_134) rfl ((if0 _ _).trans (feq hc134_66).2) (by decide) (by decide) ?_
            show Steps p.tables e below (T63.setTop (mkF m 163 A0 [])) _
            refine XS.iconst X63.here hx rfl (hb hby at_163) ?_
            exact kt)
    have hfin : own_emp [v42] = v67 := by rw [hv67]; rfl
    obtain ⟨_, _, ⟨T69, L69, k69, n69⟩, -, X69, ⟨Lc69, hQ69, l69, y69, z69⟩, st69⟩ := Jvm.LawKit.callS X63 hx (y := (⟨"com/example/evntual/evntual/engine/Bits", "isEmpty", "([I)Z"⟩ : MethodName)) hown (mvT hZ (hw _ (List.mem_of_getElem? (i := 2) rfl))) (mvT hZ (hw _ (List.mem_of_getElem? (i := 3) rfl))) (mvT hZ (hw _ (List.mem_of_getElem? (i := 4) rfl))) (mvT hZ (hw _ (List.mem_of_getElem? (i := 5) rfl))) (by decide) (backOf (W := 0) (rm1_1 l Z a0 hw [] b60 kc60 v42 h63 n0 Z_64 V_b60_63) hZ (hw _ (List.mem_of_getElem? (i := 5) rfl)) (hw _ (List.mem_of_getElem? (i := 4) rfl)) (by decide) (by decide)) (g := (mkF m 168 #[.val (.int p1), .val (.int p2), .val (.int p3), .val (.int p4), .val (.int p5), .val (.int (1 : Int32)), .val (.int v42), .val (.int v46), .val (.int v50), .val (.ref b60), .val (.int v67), .unset, .unset] [(.ref b60)])) rfl (by rw [hml]; rfl) (argsL := [(.ref b60)]) (rest := []) (lenOf pd_0 rfl) rfl (by show 2 * 0 + _ ≤ _; exact Nat.le_of_eq rfl) (hb hby at_168) (fun _ _ => ⟨rfl, e63, (by decide : 1 + 0 ≤ _), (by decide : 1 + 0 ≤ _)⟩)
    dsimp only [Pt.U, Pt.locs, Pt.cells, Pt.slots] at X69 l69 y69 z69 st69 hQ69
    subst l69 y69 z69
    obtain ⟨rfl, N69q, e69⟩ := hQ69
    have N69 := Fr.app N63 N69q
    obtain ⟨cl70, Ar70, q70, S70, M70, H70, G70⟩ := id V_b60_63
    obtain ⟨cl71, Ar71, q71, S71, M71, H71, G71⟩ := id V_b60_63
    have hin72 : ¬ ((0 : Int32) < 0 ∨ cl71.slots.size ≤ ((0 : Int32)).toNatClampNeg) := inb_of S71 ⟨by decide, by decide⟩
    have hat72 : cl71.slots[((0 : Int32)).toNatClampNeg]? = some (.int v42) := H71.at hin72 rfl
    have k73 : ∀ t, Steps p.tables e below (T69.setTop (mkF m 250 #[.val (.int p1), .val (.int p2), .val (.int p3), .val (.int p4), .val (.int p5), .val (.int (1 : Int32)), .val (.int v42), .val (.int v46), .val (.int v50), .val (.ref b60), .val (.int v67), .val (.int (own_emp [v42])), .val (.int (1 : Int32))] [(.int (1 : Int32))])) t → Steps p.tables e below (s₁.setTop (entryFrame m #[(.int p1), (.int p2), (.int p3), (.int p4), (.int p5)] maxLocals)) t := fun t kt => k68 t (by
        show Steps p.tables e below (T63.setTop (mkF m 164 #[.val (.int p1), .val (.int p2), .val (.int p3), .val (.int p4), .val (.int p5), .val (.int (1 : Int32)), .val (.int v42), .val (.int v46), .val (.int v50), .val (.ref b60), .unset, .unset, .unset] [(.int v67)])) _
        let A0 : Array Slot := #[.val (.int p1), .val (.int p2), .val (.int p3), .val (.int p4), .val (.int p5), .val (.int (1 : Int32)), .val (.int v42), .val (.int v46), .val (.int v50), .val (.ref b60), .val (.int v67), .unset, .unset]
        refine XS.istore X63.here hx rfl (hb hby at_164) rfl (l' := A0) rfl ?_
        show Steps p.tables e below (T63.setTop (mkF m 166 A0 [])) _
        refine XS.aload X63.here hx rfl (hb hby at_166) rfl rfl ?_
        show Steps p.tables e below (T63.setTop (mkF m 168 A0 [(.ref b60)])) _
        refine st69 _ ?_
        show Steps p.tables e below (T69.setTop (mkF m 171 A0 [(.int (own_emp [v42]))])) _
        let A1 : Array Slot := #[.val (.int p1), .val (.int p2), .val (.int p3), .val (.int p4), .val (.int p5), .val (.int (1 : Int32)), .val (.int v42), .val (.int v46), .val (.int v50), .val (.ref b60), .val (.int v67), .val (.int (own_emp [v42])), .unset]
        refine XS.istore X69.here hx rfl (hb hby at_171) rfl (l' := A1) rfl ?_
        show Steps p.tables e below (T69.setTop (mkF m 173 A1 [])) _
        refine XS.aload X69.here hx rfl (hb hby at_173) rfl rfl ?_
        show Steps p.tables e below (T69.setTop (mkF m 175 A1 [(.ref b60)])) _
        refine X69.arraylength hx (by rw [e69]; exact Ar70.1) (State.isArrayOf_alike hZ.alike Ar70.2.1) (g := (mkF m 175 A1 [(.ref b60)])) rfl rfl (hb hby at_175) _ ?_
        rw [len_of S70 M70]
        show Steps p.tables e below (T69.setTop (mkF m 176 A1 [(.int (1 : Int32))])) _
        refine XS.iload X69.here hx rfl (hb hby at_176) rfl ?_
        show Steps p.tables e below (T69.setTop (mkF m 178 A1 [(.int (1 : Int32)), (.int (1 : Int32))])) _
        refine XS.icmpNo X69.here hx rfl (hb hby at_178) rfl (teq (by decide : (1 : Int32) = (1 : Int32))).2 ?_
        show Steps p.tables e below (T69.setTop (mkF m 181 A1 [])) _
        refine XS.iload X69.here hx rfl (hb hby at_181) rfl ?_
        show Steps p.tables e below (T69.setTop (mkF m 183 A1 [(.int (1 : Int32))])) _
        refine XS.iconst X69.here hx rfl (hb hby at_183) ?_
        show Steps p.tables e below (T69.setTop (mkF m 184 A1 [(.int (1 : Int32)), (.int (1 : Int32))])) _
        refine XS.icmpNo X69.here hx rfl (hb hby at_184) rfl (flt (by decide : ¬ ((1 : Int32) < (1 : Int32)))).1 ?_
        show Steps p.tables e below (T69.setTop (mkF m 187 A1 [])) _
        refine XS.aload X69.here hx rfl (hb hby at_187) rfl rfl ?_
        show Steps p.tables e below (T69.setTop (mkF m 189 A1 [(.ref b60)])) _
        refine XS.iconst X69.here hx rfl (hb hby at_189) ?_
        show Steps p.tables e below (T69.setTop (mkF m 190 A1 [(.int (0 : Int32)), (.ref b60)])) _
        refine X69.iaload hx (j := (0 : Int32)) (v := (.int v42)) (by rw [e69]; exact Ar71.1) (State.isArrayOf_alike hZ.alike Ar71.2.1) Ar71.2.2 hin72 hat72 (g := (mkF m 190 A1 [(.int (0 : Int32)), (.ref b60)])) rfl rfl (hb hby at_190) _ ?_
        show Steps p.tables e below (T69.setTop (mkF m 191 A1 [(.int v42)])) _
        refine XS.iload X69.here hx rfl (hb hby at_191) rfl ?_
        show Steps p.tables e below (T69.setTop (mkF m 193 A1 [(.int v42), (.int v42)])) _
        refine XS.icmpNo X69.here hx rfl (hb hby at_193) rfl (teq (rfl : v42 = v42)).2 ?_
        show Steps p.tables e below (T69.setTop (mkF m 196 A1 [])) _
        refine XS.iload X69.here hx rfl (hb hby at_196) rfl ?_
        show Steps p.tables e below (T69.setTop (mkF m 198 A1 [(.int (1 : Int32))])) _
        refine XS.iconst X69.here hx rfl (hb hby at_198) ?_
        show Steps p.tables e below (T69.setTop (mkF m 199 A1 [(.int (2 : Int32)), (.int (1 : Int32))])) _
        refine XS.icmpYes X69.here hx rfl (pc0 := 199) (pc' := 211) rfl (hb hby at_199) rfl (tlt (by decide : (1 : Int32) < (2 : Int32))).1 (by decide) (by decide) ?_
        show Steps p.tables e below (T69.setTop (mkF m 211 A1 [])) _
        refine XS.iload X69.here hx rfl (hb hby at_211) rfl ?_
        show Steps p.tables e below (T69.setTop (mkF m 213 A1 [(.int (1 : Int32))])) _
        refine XS.iconst X69.here hx rfl (hb hby at_213) ?_
        show Steps p.tables e below (T69.setTop (mkF m 214 A1 [(.int (3 : Int32)), (.int (1 : Int32))])) _
        refine XS.icmpYes X69.here hx rfl (pc0 := 214) (pc' := 226) rfl (hb hby at_214) rfl (tlt (by decide : (1 : Int32) < (3 : Int32))).1 (by decide) (by decide) ?_
        show Steps p.tables e below (T69.setTop (mkF m 226 A1 [])) _
        refine XS.iconst X69.here hx rfl (hb hby at_226) ?_
        show Steps p.tables e below (T69.setTop (mkF m 227 A1 [(.int (1 : Int32))])) _
        refine XS.goto X69.here hx rfl (pc0 := 227) (pc' := 231) rfl (hb hby at_227) (by decide) (by decide) ?_
        show Steps p.tables e below (T69.setTop (mkF m 231 A1 [(.int (1 : Int32))])) _
        let A2 : Array Slot := #[.val (.int p1), .val (.int p2), .val (.int p3), .val (.int p4), .val (.int p5), .val (.int (1 : Int32)), .val (.int v42), .val (.int v46), .val (.int v50), .val (.ref b60), .val (.int v67), .val (.int (own_emp [v42])), .val (.int (1 : Int32))]
        refine XS.istore X69.here hx rfl (hb hby at_231) rfl (l' := A2) rfl ?_
        show Steps p.tables e below (T69.setTop (mkF m 233 A2 [])) _
        refine XS.iload X69.here hx rfl (hb hby at_233) rfl ?_
        show Steps p.tables e below (T69.setTop (mkF m 235 A2 [(.int (own_emp [v42]))])) _
        refine XS.iload X69.here hx rfl (hb hby at_235) rfl ?_
        show Steps p.tables e below (T69.setTop (mkF m 237 A2 [(.int v67), (.int (own_emp [v42]))])) _
        refine XS.icmpNo X69.here hx rfl (hb hby at_237) rfl (teq hfin).2 ?_
        show Steps p.tables e below (T69.setTop (mkF m 240 A2 [])) _
        refine XS.iload X69.here hx rfl (hb hby at_240) rfl ?_
        show Steps p.tables e below (T69.setTop (mkF m 242 A2 [(.int (1 : Int32))])) _
        refine XS.ifNo X69.here hx rfl (hb hby at_242) rfl ((if0 _ _).trans (feq (by decide : ¬ ((1 : Int32) = (0 : Int32)))).1) ?_
        show Steps p.tables e below (T69.setTop (mkF m 245 A2 [])) _
        refine XS.iconst X69.here hx rfl (hb hby at_245) ?_
        show Steps p.tables e below (T69.setTop (mkF m 246 A2 [(.int (1 : Int32))])) _
        refine XS.goto X69.here hx rfl (pc0 := 246) (pc' := 250) rfl (hb hby at_246) (by decide) (by decide) ?_
        exact kt)
    obtain ⟨fs, hr, hrun, hended, hW, hsame⟩ := X69.leave (v := some (.int (1 : Int32))) (fun h => by rw [Bd.returns] at h; cases h)
    refine ⟨_, _, k73 _ ?_, hrun, hended, _, _, rfl, ?_, ⟨_, rfl⟩, hW, hsame.mono (by decide) (by decide)⟩
    · show Steps p.tables e below (T69.setTop (mkF m 250 #[.val (.int p1), .val (.int p2), .val (.int p3), .val (.int p4), .val (.int p5), .val (.int (1 : Int32)), .val (.int v42), .val (.int v46), .val (.int v50), .val (.ref b60), .val (.int v67), .val (.int (own_emp [v42])), .val (.int (1 : Int32))] [(.int (1 : Int32))])) _
      exact retN X69 hx (t := .boolean) Bd.returns (by simp) (hb hby at_250) hr
    · show Q_rm0 Z p1 p2 p3 p4 p5 h0 n0 _ T69.heap _
      rw [e69]
      exact ⟨rfl, N69⟩
  · obtain ⟨T74, h74, kc74, X74, e74, E74, A74, st74⟩ := newP X0 hx hZ (hw _ (List.mem_of_getElem? (i := 1) rfl)) e0 (g := (mkF m 89 #[.val (.int p1), .val (.int p2), .val (.int p3), .val (.int p4), .val (.int p5), .val (.int (2 : Int32)), .val (.int v42), .val (.int v46), .val (.int v50), .unset, .unset, .unset, .unset] [(.int (2 : Int32))])) rfl (hb hby at_89) rfl (by decide) (cap := 2) (by decide) (by decide) (by decide) (by decide)
    obtain ⟨b74, g74⟩ : ∃ z, z = h0.size := ⟨_, rfl⟩
    rw [← g74] at A74 st74
    have g_b74 : n0 ≤ b74 := Nat.le_trans Z0 (Nat.le_of_eq g74.symm)
    have Z_75 : n0 ≤ h74.size := Nat.le_trans Z0 E74.1
    have V_b74 : Arv Z h74 b74 kc74 .int (2 : Int32) [(.int (0 : Int32)), (.int (0 : Int32))] (.int (0 : Int32)) := (Arv.new A74 (by decide)).pad (pad_rep [] (.int (0 : Int32)) 2)
    obtain ⟨cl76, Ar76, q76, S76, M76, H76, G76⟩ := id V_b74
    have hin77 : ¬ ((0 : Int32) < 0 ∨ cl76.slots.size ≤ ((0 : Int32)).toNatClampNeg) := inb_of S76 ⟨by decide, by decide⟩
    obtain ⟨T77, h77, X77, e77, W77, st77⟩ := stI X74 hx hZ e74 Ar76 (j := (0 : Int32)) hin77 (g := (mkF m 95 #[.val (.int p1), .val (.int p2), .val (.int p3), .val (.int p4), .val (.int p5), .val (.int (2 : Int32)), .val (.int v42), .val (.int v46), .val (.int v50), .unset, .unset, .unset, .unset] [(.int v42), (.int (0 : Int32)), (.ref b74), (.ref b74)])) rfl rfl (hb hby at_95)
    have V_b74_77 : Arv Z h77 b74 kc74 .int (2 : Int32) [(.int v42), (.int (0 : Int32))] (.int (0 : Int32)) := Arv.set Ar76 q76 S76 M76 H76 G76 rfl W77 0 rfl (Nat.le_of_ble_eq_true rfl)
    have Z_78 : n0 ≤ h77.size := Nat.le_trans Z_75 (Nat.le_of_eq (Wr.size W77).symm)
    have N77 := Fr.snoc X77 N0 g_b74
    obtain ⟨cl79, Ar79, q79, S79, M79, H79, G79⟩ := id V_b74_77
    have hin80 : ¬ ((1 : Int32) < 0 ∨ cl79.slots.size ≤ ((1 : Int32)).toNatClampNeg) := inb_of S79 ⟨by decide, by decide⟩
    obtain ⟨T80, h80, X80, e80, W80, st80⟩ := stI X77 hx hZ e77 Ar79 (j := (1 : Int32)) hin80 (g := (mkF m 100 #[.val (.int p1), .val (.int p2), .val (.int p3), .val (.int p4), .val (.int p5), .val (.int (2 : Int32)), .val (.int v42), .val (.int v46), .val (.int v50), .unset, .unset, .unset, .unset] [(.int v46), (.int (1 : Int32)), (.ref b74), (.ref b74)])) rfl rfl (hb hby at_100)
    have V_b74_80 : Arv Z h80 b74 kc74 .int (2 : Int32) [(.int v42), (.int v46)] (.int (0 : Int32)) := Arv.set Ar79 q79 S79 M79 H79 G79 rfl W80 1 rfl (Nat.le_of_ble_eq_true rfl)
    have Z_81 : n0 ≤ h80.size := Nat.le_trans Z_78 (Nat.le_of_eq (Wr.size W80).symm)
    have N80 := Fr.snoc X80 N77 g_b74
    have k82 : ∀ t, Steps p.tables e below (T80.setTop (mkF m 126 #[.val (.int p1), .val (.int p2), .val (.int p3), .val (.int p4), .val (.int p5), .val (.int (2 : Int32)), .val (.int v42), .val (.int v46), .val (.int v50), .val (.ref b74), .unset, .unset, .unset] [])) t → Steps p.tables e below (s₁.setTop (entryFrame m #[(.int p1), (.int p2), (.int p3), (.int p4), (.int p5)] maxLocals)) t := fun t kt => k52 t (by
        let A0 : Array Slot := #[.val (.int p1), .val (.int p2), .val (.int p3), .val (.int p4), .val (.int p5), .val (.int (2 : Int32)), .val (.int v42), .val (.int v46), .val (.int v50), .unset, .unset, .unset, .unset]
        show Steps p.tables e below (s₁.setTop (mkF m 50 A0 [])) _
        refine XS.iload X0.here hx rfl (hb hby at_50) rfl ?_
        show Steps p.tables e below (s₁.setTop (mkF m 52 A0 [(.int (2 : Int32))])) _
        refine XS.ifYes X0.here hx rfl (pc0 := 52) (pc' := 63) rfl (hb hby at_52) rfl ((if0 _ _).trans (feq (by decide : ¬ ((2 : Int32) = (0 : Int32)))).2) (by decide) (by decide) ?_
        show Steps p.tables e below (s₁.setTop (mkF m 63 A0 [])) _
        refine XS.iload X0.here hx rfl (hb hby at_63) rfl ?_
        show Steps p.tables e below (s₁.setTop (mkF m 65 A0 [(.int (2 : Int32))])) _
        refine XS.iconst X0.here hx rfl (hb hby at_65) ?_
        show Steps p.tables e below (s₁.setTop (mkF m 66 A0 [(.int (1 : Int32)), (.int (2 : Int32))])) _
        refine XS.icmpYes X0.here hx rfl (pc0 := 66) (pc' := 82) rfl (hb hby at_66) rfl (feq (by decide : ¬ ((2 : Int32) = (1 : Int32)))).2 (by decide) (by decide) ?_
        show Steps p.tables e below (s₁.setTop (mkF m 82 A0 [])) _
        refine XS.iload X0.here hx rfl (hb hby at_82) rfl ?_
        show Steps p.tables e below (s₁.setTop (mkF m 84 A0 [(.int (2 : Int32))])) _
        refine XS.iconst X0.here hx rfl (hb hby at_84) ?_
        show Steps p.tables e below (s₁.setTop (mkF m 85 A0 [(.int (2 : Int32)), (.int (2 : Int32))])) _
        refine XS.icmpNo X0.here hx rfl (hb hby at_85) rfl (teq (by decide : (2 : Int32) = (2 : Int32))).2 ?_
        show Steps p.tables e below (s₁.setTop (mkF m 88 A0 [])) _
        refine XS.iconst X0.here hx rfl (hb hby at_88) ?_
        show Steps p.tables e below (s₁.setTop (mkF m 89 A0 [(.int (2 : Int32))])) _
        refine st74 _ ?_
        show Steps p.tables e below (T74.setTop (mkF m 91 A0 [(.ref b74)])) _
        refine XS.dup X74.here hx rfl (hb hby at_91) rfl rfl ?_
        show Steps p.tables e below (T74.setTop (mkF m 92 A0 [(.ref b74), (.ref b74)])) _
        refine XS.iconst X74.here hx rfl (hb hby at_92) ?_
        show Steps p.tables e below (T74.setTop (mkF m 93 A0 [(.int (0 : Int32)), (.ref b74), (.ref b74)])) _
        refine XS.iload X74.here hx rfl (hb hby at_93) rfl ?_
        show Steps p.tables e below (T74.setTop (mkF m 95 A0 [(.int v42), (.int (0 : Int32)), (.ref b74), (.ref b74)])) _
        refine st77 _ ?_
        show Steps p.tables e below (T77.setTop (mkF m 96 A0 [(.ref b74)])) _
        refine XS.dup X77.here hx rfl (hb hby at_96) rfl rfl ?_
        show Steps p.tables e below (T77.setTop (mkF m 97 A0 [(.ref b74), (.ref b74)])) _
        refine XS.iconst X77.here hx rfl (hb hby at_97) ?_
        show Steps p.tables e below (T77.setTop (mkF m 98 A0 [(.int (1 : Int32)), (.ref b74), (.ref b74)])) _
        refine XS.iload X77.here hx rfl (hb hby at_98) rfl ?_
        show Steps p.tables e below (T77.setTop (mkF m 100 A0 [(.int v46), (.int (1 : Int32)), (.ref b74), (.ref b74)])) _
        refine st80 _ ?_
        show Steps p.tables e below (T80.setTop (mkF m 101 A0 [(.ref b74)])) _
        let A1 : Array Slot := #[.val (.int p1), .val (.int p2), .val (.int p3), .val (.int p4), .val (.int p5), .val (.int (2 : Int32)), .val (.int v42), .val (.int v46), .val (.int v50), .val (.ref b74), .unset, .unset, .unset]
        refine XS.astore X80.here hx rfl (hb hby at_101) rfl rfl (l' := A1) rfl ?_
        show Steps p.tables e below (T80.setTop (mkF m 103 A1 [])) _
        refine XS.goto X80.here hx rfl (pc0 := 103) (pc' := 126) rfl (hb hby at_103) (by decide) (by decide) ?_
        exact kt)
    obtain ⟨v85, hv85⟩ : ∃ v : Int32, v = (if v42 = (0 : Int32) then (if v46 = (0 : Int32) then (1 : Int32) else (0 : Int32)) else (0 : Int32)) := ⟨_, rfl⟩
    have k86 : ∀ t, Steps p.tables e below (T80.setTop (mkF m 164 #[.val (.int p1), .val (.int p2), .val (.int p3), .val (.int p4), .val (.int p5), .val (.int (2 : Int32)), .val (.int v42), .val (.int v46), .val (.int v50), .val (.ref b74), .unset, .unset, .unset] [(.int v85)])) t → Steps p.tables e below (s₁.setTop (entryFrame m #[(.int p1), (.int p2), (.int p3), (.int p4), (.int p5)] maxLocals)) t := by
      intro t kt
      by_cases hc134_83 : v42 = (0 : Int32)
      · by_cases hc145_84 : v46 = (0 : Int32)
        · rw [show v85 = (1 : Int32) from ((hv85.trans (if_pos hc134_83)).trans (if_pos hc145_84))] at kt
          exact k82 t (by
              let A0 : Array Slot := #[.val (.int p1), .val (.int p2), .val (.int p3), .val (.int p4), .val (.int p5), .val (.int (2 : Int32)), .val (.int v42), .val (.int v46), .val (.int v50), .val (.ref b74), .unset, .unset, .unset]
              show Steps p.tables e below (T80.setTop (mkF m 126 A0 [])) _
              refine XS.iload X80.here hx rfl (hb hby at_126) rfl ?_
              show Steps p.tables e below (T80.setTop (mkF m 128 A0 [(.int (2 : Int32))])) _
              refine XS.iconst X80.here hx rfl (hb hby at_128) ?_
              show Steps p.tables e below (T80.setTop (mkF m 129 A0 [(.int (1 : Int32)), (.int (2 : Int32))])) _
              refine XS.icmpNo X80.here hx rfl (hb hby at_129) rfl (flt (by decide : ¬ ((2 : Int32) < (1 : Int32)))).1 ?_
              show Steps p.tables e below (T80.setTop (mkF m 132 A0 [])) _
              refine XS.iload X80.here hx rfl (hb hby at_132) rfl ?_
              show Steps p.tables e below (T80.setTop (mkF m 134 A0 [(.int v42)])) _
              refine XS.ifNo X80.here hx rfl (hb hby at_134) rfl ((if0 _ _).trans (teq hc134_83).2) ?_
              show Steps p.tables e below (T80.setTop (mkF m 137 A0 [])) _
              refine XS.iload X80.here hx rfl (hb hby at_137) rfl ?_
              show Steps p.tables e below (T80.setTop (mkF m 139 A0 [(.int (2 : Int32))])) _
              refine XS.iconst X80.here hx rfl (hb hby at_139) ?_
              show Steps p.tables e below (T80.setTop (mkF m 140 A0 [(.int (2 : Int32)), (.int (2 : Int32))])) _
              refine XS.icmpNo X80.here hx rfl (hb hby at_140) rfl (flt (by decide : ¬ ((2 : Int32) < (2 : Int32)))).1 ?_
              show Steps p.tables e below (T80.setTop (mkF m 143 A0 [])) _
              refine XS.iload X80.here hx rfl (hb hby at_143) rfl ?_
              show Steps p.tables e below (T80.setTop (mkF m 145 A0 [(.int v46)])) _
              refine XS.ifNo X80.here hx rfl (hb hby at_145) rfl ((if0 _ _).trans (teq hc145_84).2) ?_
              show Steps p.tables e below (T80.setTop (mkF m 148 A0 [])) _
              refine XS.iload X80.here hx rfl (hb hby at_148) rfl ?_
              show Steps p.tables e below (T80.setTop (mkF m 150 A0 [(.int (2 : Int32))])) _
              refine XS.iconst X80.here hx rfl (hb hby at_150) ?_
              show Steps p.tables e below (T80.setTop (mkF m 151 A0 [(.int (3 : Int32)), (.int (2 : Int32))])) _
              refine XS.icmpYes X80.here hx rfl (pc0 := 151) (pc' := 159) rfl (hb hby at_151) rfl (tlt (by decide : (2 : Int32) < (3 : Int32))).1 (by decide) (by decide) ?_
              show Steps p.tables e below (T80.setTop (mkF m 159 A0 [])) _
              refine XS.iconst X80.here hx rfl (hb hby at_159) ?_
              show Steps p.tables e below (T80.setTop (mkF m 160 A0 [(.int (1 : Int32))])) _
              refine XS.goto X80.here hx rfl (pc0 := 160) (pc' := 164) rfl (hb hby at_160) (by decide) (by decide) ?_
              exact kt)
        · rw [show v85 = (0 : Int32) from ((hv85.trans (if_pos hc134_83)).trans (if_neg hc145_84))] at kt
          exact k82 t (by
              let A0 : Array Slot := #[.val (.int p1), .val (.int p2), .val (.int p3), .val (.int p4), .val (.int p5), .val (.int (2 : Int32)), .val (.int v42), .val (.int v46), .val (.int v50), .val (.ref b74), .unset, .unset, .unset]
              show Steps p.tables e below (T80.setTop (mkF m 126 A0 [])) _
              refine XS.iload X80.here hx rfl (hb hby at_126) rfl ?_
              show Steps p.tables e below (T80.setTop (mkF m 128 A0 [(.int (2 : Int32))])) _
              refine XS.iconst X80.here hx rfl (hb hby at_128) ?_
              show Steps p.tables e below (T80.setTop (mkF m 129 A0 [(.int (1 : Int32)), (.int (2 : Int32))])) _
              refine XS.icmpNo X80.here hx rfl (hb hby at_129) rfl (flt (by decide : ¬ ((2 : Int32) < (1 : Int32)))).1 ?_
              show Steps p.tables e below (T80.setTop (mkF m 132 A0 [])) _
              refine XS.iload X80.here hx rfl (hb hby at_132) rfl ?_
              show Steps p.tables e below (T80.setTop (mkF m 134 A0 [(.int v42)])) _
              refine XS.ifNo X80.here hx rfl (hb hby at_134) rfl ((if0 _ _).trans (teq hc134_83).2) ?_
              show Steps p.tables e below (T80.setTop (mkF m 137 A0 [])) _
              refine XS.iload X80.here hx rfl (hb hby at_137) rfl ?_
              show Steps p.tables e below (T80.setTop (mkF m 139 A0 [(.int (2 : Int32))])) _
              refine XS.iconst X80.here hx rfl (hb hby at_139) ?_
              show Steps p.tables e below (T80.setTop (mkF m 140 A0 [(.int (2 : Int32)), (.int (2 : Int32))])) _
              refine XS.icmpNo X80.here hx rfl (hb hby at_140) rfl (flt (by decide : ¬ ((2 : Int32) < (2 : Int32)))).1 ?_
              show Steps p.tables e below (T80.setTop (mkF m 143 A0 [])) _
              refine XS.iload X80.here hx rfl (hb hby at_143) rfl ?_
              show Steps p.tables e below (T80.setTop (mkF m 145 A0 [(.int v46)])) _
              refine XS.ifYes X80.here hx rfl (pc0 := 145) (pc' := 163) rfl (hb hby at_145) rfl ((if0 _ _).trans (feq hc145_84).2) (by decide) (by decide) ?_
              show Steps p.tables e below (T80.setTop (mkF m 163 A0 [])) _
              refine XS.iconst X80.here hx rfl (hb hby at_163) ?_
              exact kt)
      · rw [show v85 = (0 : Int32) from (hv85.trans (if_neg hc134_83))] at kt
        exact k82 t (by
            let A0 : Array Slot := #[.val (.int p1), .val (.int p2), .val (.int p3), .val (.int p4), .val (.int p5), .val (.int (2 : Int32)), .val (.int v42), .val (.int v46), .val (.int v50), .val (.ref b74), .unset, .unset, .unset]
            show Steps p.tables e below (T80.setTop (mkF m 126 A0 [])) _
            refine XS.iload X80.here hx rfl (hb hby at_126) rfl ?_
            show Steps p.tables e below (T80.setTop (mkF m 128 A0 [(.int (2 : Int32))])) _
            refine XS.iconst X80.here hx rfl (hb hby at_128) ?_
            show Steps p.tables e below (T80.setTop (mkF m 129 A0 [(.int (1 : Int32)), (.int (2 : Int32))])) _
            refine XS.icmpNo X80.here hx rfl (hb hby at_129) rfl (flt (by decide : ¬ ((2 : Int32) < (1 : Int32)))).1 ?_
            show Steps p.tables e below (T80.setTop (mkF m 132 A0 [])) _
            refine XS.iload X80.here hx rfl (hb hby at_132) rfl ?_
            show Steps p.tables e below (T80.setTop (mkF m 134 A0 [(.int v42)])) _
            refine XS.ifYes X80.here hx rfl (pc0 := 134) (pc' := 163) rfl (hb hby at_134) rfl ((if0 _ _).trans (feq hc134_83).2) (by decide) (by decide) ?_
            show Steps p.tables e below (T80.setTop (mkF m 163 A0 [])) _
            refine XS.iconst X80.here hx rfl (hb hby at_163) ?_
            exact kt)
    have hfin : own_emp [v42, v46] = v85 := by rw [hv85]; rfl
    obtain ⟨_, _, ⟨T87, L87, k87, n87⟩, -, X87, ⟨Lc87, hQ87, l87, y87, z87⟩, st87⟩ := Jvm.LawKit.callS X80 hx (y := (⟨"com/example/evntual/evntual/engine/Bits", "isEmpty", "([I)Z"⟩ : MethodName)) hown (mvT hZ (hw _ (List.mem_of_getElem? (i := 2) rfl))) (mvT hZ (hw _ (List.mem_of_getElem? (i := 3) rfl))) (mvT hZ (hw _ (List.mem_of_getElem? (i := 4) rfl))) (mvT hZ (hw _ (List.mem_of_getElem? (i := 5) rfl))) (by decide) (backOf (W := 0) (rm1_2 l Z a0 hw [] b74 kc74 v42 v46 h80 n0 Z_81 V_b74_80) hZ (hw _ (List.mem_of_getElem? (i := 5) rfl)) (hw _ (List.mem_of_getElem? (i := 4) rfl)) (by decide) (by decide)) (g := (mkF m 168 #[.val (.int p1), .val (.int p2), .val (.int p3), .val (.int p4), .val (.int p5), .val (.int (2 : Int32)), .val (.int v42), .val (.int v46), .val (.int v50), .val (.ref b74), .val (.int v85), .unset, .unset] [(.ref b74)])) rfl (by rw [hml]; rfl) (argsL := [(.ref b74)]) (rest := []) (lenOf pd_0 rfl) rfl (by show 2 * 0 + _ ≤ _; exact Nat.le_of_eq rfl) (hb hby at_168) (fun _ _ => ⟨rfl, e80, (by decide : 1 + 0 ≤ _), (by decide : 2 + 0 ≤ _)⟩)
    dsimp only [Pt.U, Pt.locs, Pt.cells, Pt.slots] at X87 l87 y87 z87 st87 hQ87
    subst l87 y87 z87
    obtain ⟨rfl, N87q, e87⟩ := hQ87
    have N87 := Fr.app N80 N87q
    obtain ⟨cl88, Ar88, q88, S88, M88, H88, G88⟩ := id V_b74_80
    obtain ⟨cl89, Ar89, q89, S89, M89, H89, G89⟩ := id V_b74_80
    have hin90 : ¬ ((0 : Int32) < 0 ∨ cl89.slots.size ≤ ((0 : Int32)).toNatClampNeg) := inb_of S89 ⟨by decide, by decide⟩
    have hat90 : cl89.slots[((0 : Int32)).toNatClampNeg]? = some (.int v42) := H89.at hin90 rfl
    obtain ⟨cl91, Ar91, q91, S91, M91, H91, G91⟩ := id V_b74_80
    have hin92 : ¬ ((1 : Int32) < 0 ∨ cl91.slots.size ≤ ((1 : Int32)).toNatClampNeg) := inb_of S91 ⟨by decide, by decide⟩
    have hat92 : cl91.slots[((1 : Int32)).toNatClampNeg]? = some (.int v46) := H91.at hin92 rfl
    have k93 : ∀ t, Steps p.tables e below (T87.setTop (mkF m 250 #[.val (.int p1), .val (.int p2), .val (.int p3), .val (.int p4), .val (.int p5), .val (.int (2 : Int32)), .val (.int v42), .val (.int v46), .val (.int v50), .val (.ref b74), .val (.int v85), .val (.int (own_emp [v42, v46])), .val (.int (1 : Int32))] [(.int (1 : Int32))])) t → Steps p.tables e below (s₁.setTop (entryFrame m #[(.int p1), (.int p2), (.int p3), (.int p4), (.int p5)] maxLocals)) t := fun t kt => k86 t (by
        show Steps p.tables e below (T80.setTop (mkF m 164 #[.val (.int p1), .val (.int p2), .val (.int p3), .val (.int p4), .val (.int p5), .val (.int (2 : Int32)), .val (.int v42), .val (.int v46), .val (.int v50), .val (.ref b74), .unset, .unset, .unset] [(.int v85)])) _
        let A0 : Array Slot := #[.val (.int p1), .val (.int p2), .val (.int p3), .val (.int p4), .val (.int p5), .val (.int (2 : Int32)), .val (.int v42), .val (.int v46), .val (.int v50), .val (.ref b74), .val (.int v85), .unset, .unset]
        refine XS.istore X80.here hx rfl (hb hby at_164) rfl (l' := A0) rfl ?_
        show Steps p.tables e below (T80.setTop (mkF m 166 A0 [])) _
        refine XS.aload X80.here hx rfl (hb hby at_166) rfl rfl ?_
        show Steps p.tables e below (T80.setTop (mkF m 168 A0 [(.ref b74)])) _
        refine st87 _ ?_
        show Steps p.tables e below (T87.setTop (mkF m 171 A0 [(.int (own_emp [v42, v46]))])) _
        let A1 : Array Slot := #[.val (.int p1), .val (.int p2), .val (.int p3), .val (.int p4), .val (.int p5), .val (.int (2 : Int32)), .val (.int v42), .val (.int v46), .val (.int v50), .val (.ref b74), .val (.int v85), .val (.int (own_emp [v42, v46])), .unset]
        refine XS.istore X87.here hx rfl (hb hby at_171) rfl (l' := A1) rfl ?_
        show Steps p.tables e below (T87.setTop (mkF m 173 A1 [])) _
        refine XS.aload X87.here hx rfl (hb hby at_173) rfl rfl ?_
        show Steps p.tables e below (T87.setTop (mkF m 175 A1 [(.ref b74)])) _
        refine X87.arraylength hx (by rw [e87]; exact Ar88.1) (State.isArrayOf_alike hZ.alike Ar88.2.1) (g := (mkF m 175 A1 [(.ref b74)])) rfl rfl (hb hby at_175) _ ?_
        rw [len_of S88 M88]
        show Steps p.tables e below (T87.setTop (mkF m 176 A1 [(.int (2 : Int32))])) _
        refine XS.iload X87.here hx rfl (hb hby at_176) rfl ?_
        show Steps p.tables e below (T87.setTop (mkF m 178 A1 [(.int (2 : Int32)), (.int (2 : Int32))])) _
        refine XS.icmpNo X87.here hx rfl (hb hby at_178) rfl (teq (by decide : (2 : Int32) = (2 : Int32))).2 ?_
        show Steps p.tables e below (T87.setTop (mkF m 181 A1 [])) _
        refine XS.iload X87.here hx rfl (hb hby at_181) rfl ?_
        show Steps p.tables e below (T87.setTop (mkF m 183 A1 [(.int (2 : Int32))])) _
        refine XS.iconst X87.here hx rfl (hb hby at_183) ?_
        show Steps p.tables e below (T87.setTop (mkF m 184 A1 [(.int (1 : Int32)), (.int (2 : Int32))])) _
        refine XS.icmpNo X87.here hx rfl (hb hby at_184) rfl (flt (by decide : ¬ ((2 : Int32) < (1 : Int32)))).1 ?_
        show Steps p.tables e below (T87.setTop (mkF m 187 A1 [])) _
        refine XS.aload X87.here hx rfl (hb hby at_187) rfl rfl ?_
        show Steps p.tables e below (T87.setTop (mkF m 189 A1 [(.ref b74)])) _
        refine XS.iconst X87.here hx rfl (hb hby at_189) ?_
        show Steps p.tables e below (T87.setTop (mkF m 190 A1 [(.int (0 : Int32)), (.ref b74)])) _
        refine X87.iaload hx (j := (0 : Int32)) (v := (.int v42)) (by rw [e87]; exact Ar89.1) (State.isArrayOf_alike hZ.alike Ar89.2.1) Ar89.2.2 hin90 hat90 (g := (mkF m 190 A1 [(.int (0 : Int32)), (.ref b74)])) rfl rfl (hb hby at_190) _ ?_
        show Steps p.tables e below (T87.setTop (mkF m 191 A1 [(.int v42)])) _
        refine XS.iload X87.here hx rfl (hb hby at_191) rfl ?_
        show Steps p.tables e below (T87.setTop (mkF m 193 A1 [(.int v42), (.int v42)])) _
        refine XS.icmpNo X87.here hx rfl (hb hby at_193) rfl (teq (rfl : v42 = v42)).2 ?_
        show Steps p.tables e below (T87.setTop (mkF m 196 A1 [])) _
        refine XS.iload X87.here hx rfl (hb hby at_196) rfl ?_
        show Steps p.tables e below (T87.setTop (mkF m 198 A1 [(.int (2 : Int32))])) _
        refine XS.iconst X87.here hx rfl (hb hby at_198) ?_
        show Steps p.tables e below (T87.setTop (mkF m 199 A1 [(.int (2 : Int32)), (.int (2 : Int32))])) _
        refine XS.icmpNo X87.here hx rfl (hb hby at_199) rfl (flt (by decide : ¬ ((2 : Int32) < (2 : Int32)))).1 ?_
        show Steps p.tables e below (T87.setTop (mkF m 202 A1 [])) _
        refine XS.aload X87.here hx rfl (hb hby at_202) rfl rfl ?_
        show Steps p.tables e below (T87.setTop (mkF m 204 A1 [(.ref b74)])) _
        refine XS.iconst X87.here hx rfl (hb hby at_204) ?_
        show Steps p.tables e below (T87.setTop (mkF m 205 A1 [(.int (1 : Int32)), (.ref b74)])) _
        refine X87.iaload hx (j := (1 : Int32)) (v := (.int v46)) (by rw [e87]; exact Ar91.1) (State.isArrayOf_alike hZ.alike Ar91.2.1) Ar91.2.2 hin92 hat92 (g := (mkF m 205 A1 [(.int (1 : Int32)), (.ref b74)])) rfl rfl (hb hby at_205) _ ?_
        show Steps p.tables e below (T87.setTop (mkF m 206 A1 [(.int v46)])) _
        refine XS.iload X87.here hx rfl (hb hby at_206) rfl ?_
        show Steps p.tables e below (T87.setTop (mkF m 208 A1 [(.int v46), (.int v46)])) _
        refine XS.icmpNo X87.here hx rfl (hb hby at_208) rfl (teq (rfl : v46 = v46)).2 ?_
        show Steps p.tables e below (T87.setTop (mkF m 211 A1 [])) _
        refine XS.iload X87.here hx rfl (hb hby at_211) rfl ?_
        show Steps p.tables e below (T87.setTop (mkF m 213 A1 [(.int (2 : Int32))])) _
        refine XS.iconst X87.here hx rfl (hb hby at_213) ?_
        show Steps p.tables e below (T87.setTop (mkF m 214 A1 [(.int (3 : Int32)), (.int (2 : Int32))])) _
        refine XS.icmpYes X87.here hx rfl (pc0 := 214) (pc' := 226) rfl (hb hby at_214) rfl (tlt (by decide : (2 : Int32) < (3 : Int32))).1 (by decide) (by decide) ?_
        show Steps p.tables e below (T87.setTop (mkF m 226 A1 [])) _
        refine XS.iconst X87.here hx rfl (hb hby at_226) ?_
        show Steps p.tables e below (T87.setTop (mkF m 227 A1 [(.int (1 : Int32))])) _
        refine XS.goto X87.here hx rfl (pc0 := 227) (pc' := 231) rfl (hb hby at_227) (by decide) (by decide) ?_
        show Steps p.tables e below (T87.setTop (mkF m 231 A1 [(.int (1 : Int32))])) _
        let A2 : Array Slot := #[.val (.int p1), .val (.int p2), .val (.int p3), .val (.int p4), .val (.int p5), .val (.int (2 : Int32)), .val (.int v42), .val (.int v46), .val (.int v50), .val (.ref b74), .val (.int v85), .val (.int (own_emp [v42, v46])), .val (.int (1 : Int32))]
        refine XS.istore X87.here hx rfl (hb hby at_231) rfl (l' := A2) rfl ?_
        show Steps p.tables e below (T87.setTop (mkF m 233 A2 [])) _
        refine XS.iload X87.here hx rfl (hb hby at_233) rfl ?_
        show Steps p.tables e below (T87.setTop (mkF m 235 A2 [(.int (own_emp [v42, v46]))])) _
        refine XS.iload X87.here hx rfl (hb hby at_235) rfl ?_
        show Steps p.tables e below (T87.setTop (mkF m 237 A2 [(.int v85), (.int (own_emp [v42, v46]))])) _
        refine XS.icmpNo X87.here hx rfl (hb hby at_237) rfl (teq hfin).2 ?_
        show Steps p.tables e below (T87.setTop (mkF m 240 A2 [])) _
        refine XS.iload X87.here hx rfl (hb hby at_240) rfl ?_
        show Steps p.tables e below (T87.setTop (mkF m 242 A2 [(.int (1 : Int32))])) _
        refine XS.ifNo X87.here hx rfl (hb hby at_242) rfl ((if0 _ _).trans (feq (by decide : ¬ ((1 : Int32) = (0 : Int32)))).1) ?_
        show Steps p.tables e below (T87.setTop (mkF m 245 A2 [])) _
        refine XS.iconst X87.here hx rfl (hb hby at_245) ?_
        show Steps p.tables e below (T87.setTop (mkF m 246 A2 [(.int (1 : Int32))])) _
        refine XS.goto X87.here hx rfl (pc0 := 246) (pc' := 250) rfl (hb hby at_246) (by decide) (by decide) ?_
        exact kt)
    obtain ⟨fs, hr, hrun, hended, hW, hsame⟩ := X87.leave (v := some (.int (1 : Int32))) (fun h => by rw [Bd.returns] at h; cases h)
    refine ⟨_, _, k93 _ ?_, hrun, hended, _, _, rfl, ?_, ⟨_, rfl⟩, hW, hsame.mono (by decide) (by decide)⟩
    · show Steps p.tables e below (T87.setTop (mkF m 250 #[.val (.int p1), .val (.int p2), .val (.int p3), .val (.int p4), .val (.int p5), .val (.int (2 : Int32)), .val (.int v42), .val (.int v46), .val (.int v50), .val (.ref b74), .val (.int v85), .val (.int (own_emp [v42, v46])), .val (.int (1 : Int32))] [(.int (1 : Int32))])) _
      exact retN X87 hx (t := .boolean) Bd.returns (by simp) (hb hby at_250) hr
    · show Q_rm0 Z p1 p2 p3 p4 p5 h0 n0 _ T87.heap _
      rw [e87]
      exact ⟨rfl, N87⟩
  · obtain ⟨T94, h94, kc94, X94, e94, E94, A94, st94⟩ := newP X0 hx hZ (hw _ (List.mem_of_getElem? (i := 1) rfl)) e0 (g := (mkF m 107 #[.val (.int p1), .val (.int p2), .val (.int p3), .val (.int p4), .val (.int p5), .val (.int (3 : Int32)), .val (.int v42), .val (.int v46), .val (.int v50), .unset, .unset, .unset, .unset] [(.int (3 : Int32))])) rfl (hb hby at_107) rfl (by decide) (cap := 3) (by decide) (by decide) (by decide) (by decide)
    obtain ⟨b94, g94⟩ : ∃ z, z = h0.size := ⟨_, rfl⟩
    rw [← g94] at A94 st94
    have g_b94 : n0 ≤ b94 := Nat.le_trans Z0 (Nat.le_of_eq g94.symm)
    have Z_95 : n0 ≤ h94.size := Nat.le_trans Z0 E94.1
    have V_b94 : Arv Z h94 b94 kc94 .int (3 : Int32) [(.int (0 : Int32)), (.int (0 : Int32)), (.int (0 : Int32))] (.int (0 : Int32)) := (Arv.new A94 (by decide)).pad (pad_rep [] (.int (0 : Int32)) 3)
    obtain ⟨cl96, Ar96, q96, S96, M96, H96, G96⟩ := id V_b94
    have hin97 : ¬ ((0 : Int32) < 0 ∨ cl96.slots.size ≤ ((0 : Int32)).toNatClampNeg) := inb_of S96 ⟨by decide, by decide⟩
    obtain ⟨T97, h97, X97, e97, W97, st97⟩ := stI X94 hx hZ e94 Ar96 (j := (0 : Int32)) hin97 (g := (mkF m 113 #[.val (.int p1), .val (.int p2), .val (.int p3), .val (.int p4), .val (.int p5), .val (.int (3 : Int32)), .val (.int v42), .val (.int v46), .val (.int v50), .unset, .unset, .unset, .unset] [(.int v42), (.int (0 : Int32)), (.ref b94), (.ref b94)])) rfl rfl (hb hby at_113)
    have V_b94_97 : Arv Z h97 b94 kc94 .int (3 : Int32) [(.int v42), (.int (0 : Int32)), (.int (0 : Int32))] (.int (0 : Int32)) := Arv.set Ar96 q96 S96 M96 H96 G96 rfl W97 0 rfl (Nat.le_of_ble_eq_true rfl)
    have Z_98 : n0 ≤ h97.size := Nat.le_trans Z_95 (Nat.le_of_eq (Wr.size W97).symm)
    have N97 := Fr.snoc X97 N0 g_b94
    obtain ⟨cl99, Ar99, q99, S99, M99, H99, G99⟩ := id V_b94_97
    have hin100 : ¬ ((1 : Int32) < 0 ∨ cl99.slots.size ≤ ((1 : Int32)).toNatClampNeg) := inb_of S99 ⟨by decide, by decide⟩
    obtain ⟨T100, h100, X100, e100, W100, st100⟩ := stI X97 hx hZ e97 Ar99 (j := (1 : Int32)) hin100 (g := (mkF m 118 #[.val (.int p1), .val (.int p2), .val (.int p3), .val (.int p4), .val (.int p5), .val (.int (3 : Int32)), .val (.int v42), .val (.int v46), .val (.int v50), .unset, .unset, .unset, .unset] [(.int v46), (.int (1 : Int32)), (.ref b94), (.ref b94)])) rfl rfl (hb hby at_118)
    have V_b94_100 : Arv Z h100 b94 kc94 .int (3 : Int32) [(.int v42), (.int v46), (.int (0 : Int32))] (.int (0 : Int32)) := Arv.set Ar99 q99 S99 M99 H99 G99 rfl W100 1 rfl (Nat.le_of_ble_eq_true rfl)
    have Z_101 : n0 ≤ h100.size := Nat.le_trans Z_98 (Nat.le_of_eq (Wr.size W100).symm)
    have N100 := Fr.snoc X100 N97 g_b94
    obtain ⟨cl102, Ar102, q102, S102, M102, H102, G102⟩ := id V_b94_100
    have hin103 : ¬ ((2 : Int32) < 0 ∨ cl102.slots.size ≤ ((2 : Int32)).toNatClampNeg) := inb_of S102 ⟨by decide, by decide⟩
    obtain ⟨T103, h103, X103, e103, W103, st103⟩ := stI X100 hx hZ e100 Ar102 (j := (2 : Int32)) hin103 (g := (mkF m 123 #[.val (.int p1), .val (.int p2), .val (.int p3), .val (.int p4), .val (.int p5), .val (.int (3 : Int32)), .val (.int v42), .val (.int v46), .val (.int v50), .unset, .unset, .unset, .unset] [(.int v50), (.int (2 : Int32)), (.ref b94), (.ref b94)])) rfl rfl (hb hby at_123)
    have V_b94_103 : Arv Z h103 b94 kc94 .int (3 : Int32) [(.int v42), (.int v46), (.int v50)] (.int (0 : Int32)) := Arv.set Ar102 q102 S102 M102 H102 G102 rfl W103 2 rfl (Nat.le_of_ble_eq_true rfl)
    have Z_104 : n0 ≤ h103.size := Nat.le_trans Z_101 (Nat.le_of_eq (Wr.size W103).symm)
    have N103 := Fr.snoc X103 N100 g_b94
    have k105 : ∀ t, Steps p.tables e below (T103.setTop (mkF m 126 #[.val (.int p1), .val (.int p2), .val (.int p3), .val (.int p4), .val (.int p5), .val (.int (3 : Int32)), .val (.int v42), .val (.int v46), .val (.int v50), .val (.ref b94), .unset, .unset, .unset] [])) t → Steps p.tables e below (s₁.setTop (entryFrame m #[(.int p1), (.int p2), (.int p3), (.int p4), (.int p5)] maxLocals)) t := fun t kt => k52 t (by
        let A0 : Array Slot := #[.val (.int p1), .val (.int p2), .val (.int p3), .val (.int p4), .val (.int p5), .val (.int (3 : Int32)), .val (.int v42), .val (.int v46), .val (.int v50), .unset, .unset, .unset, .unset]
        show Steps p.tables e below (s₁.setTop (mkF m 50 A0 [])) _
        refine XS.iload X0.here hx rfl (hb hby at_50) rfl ?_
        show Steps p.tables e below (s₁.setTop (mkF m 52 A0 [(.int (3 : Int32))])) _
        refine XS.ifYes X0.here hx rfl (pc0 := 52) (pc' := 63) rfl (hb hby at_52) rfl ((if0 _ _).trans (feq (by decide : ¬ ((3 : Int32) = (0 : Int32)))).2) (by decide) (by decide) ?_
        show Steps p.tables e below (s₁.setTop (mkF m 63 A0 [])) _
        refine XS.iload X0.here hx rfl (hb hby at_63) rfl ?_
        show Steps p.tables e below (s₁.setTop (mkF m 65 A0 [(.int (3 : Int32))])) _
        refine XS.iconst X0.here hx rfl (hb hby at_65) ?_
        show Steps p.tables e below (s₁.setTop (mkF m 66 A0 [(.int (1 : Int32)), (.int (3 : Int32))])) _
        refine XS.icmpYes X0.here hx rfl (pc0 := 66) (pc' := 82) rfl (hb hby at_66) rfl (feq (by decide : ¬ ((3 : Int32) = (1 : Int32)))).2 (by decide) (by decide) ?_
        show Steps p.tables e below (s₁.setTop (mkF m 82 A0 [])) _
        refine XS.iload X0.here hx rfl (hb hby at_82) rfl ?_
        show Steps p.tables e below (s₁.setTop (mkF m 84 A0 [(.int (3 : Int32))])) _
        refine XS.iconst X0.here hx rfl (hb hby at_84) ?_
        show Steps p.tables e below (s₁.setTop (mkF m 85 A0 [(.int (2 : Int32)), (.int (3 : Int32))])) _
        refine XS.icmpYes X0.here hx rfl (pc0 := 85) (pc' := 106) rfl (hb hby at_85) rfl (feq (by decide : ¬ ((3 : Int32) = (2 : Int32)))).2 (by decide) (by decide) ?_
        show Steps p.tables e below (s₁.setTop (mkF m 106 A0 [])) _
        refine XS.iconst X0.here hx rfl (hb hby at_106) ?_
        show Steps p.tables e below (s₁.setTop (mkF m 107 A0 [(.int (3 : Int32))])) _
        refine st94 _ ?_
        show Steps p.tables e below (T94.setTop (mkF m 109 A0 [(.ref b94)])) _
        refine XS.dup X94.here hx rfl (hb hby at_109) rfl rfl ?_
        show Steps p.tables e below (T94.setTop (mkF m 110 A0 [(.ref b94), (.ref b94)])) _
        refine XS.iconst X94.here hx rfl (hb hby at_110) ?_
        show Steps p.tables e below (T94.setTop (mkF m 111 A0 [(.int (0 : Int32)), (.ref b94), (.ref b94)])) _
        refine XS.iload X94.here hx rfl (hb hby at_111) rfl ?_
        show Steps p.tables e below (T94.setTop (mkF m 113 A0 [(.int v42), (.int (0 : Int32)), (.ref b94), (.ref b94)])) _
        refine st97 _ ?_
        show Steps p.tables e below (T97.setTop (mkF m 114 A0 [(.ref b94)])) _
        refine XS.dup X97.here hx rfl (hb hby at_114) rfl rfl ?_
        show Steps p.tables e below (T97.setTop (mkF m 115 A0 [(.ref b94), (.ref b94)])) _
        refine XS.iconst X97.here hx rfl (hb hby at_115) ?_
        show Steps p.tables e below (T97.setTop (mkF m 116 A0 [(.int (1 : Int32)), (.ref b94), (.ref b94)])) _
        refine XS.iload X97.here hx rfl (hb hby at_116) rfl ?_
        show Steps p.tables e below (T97.setTop (mkF m 118 A0 [(.int v46), (.int (1 : Int32)), (.ref b94), (.ref b94)])) _
        refine st100 _ ?_
        show Steps p.tables e below (T100.setTop (mkF m 119 A0 [(.ref b94)])) _
        refine XS.dup X100.here hx rfl (hb hby at_119) rfl rfl ?_
        show Steps p.tables e below (T100.setTop (mkF m 120 A0 [(.ref b94), (.ref b94)])) _
        refine XS.iconst X100.here hx rfl (hb hby at_120) ?_
        show Steps p.tables e below (T100.setTop (mkF m 121 A0 [(.int (2 : Int32)), (.ref b94), (.ref b94)])) _
        refine XS.iload X100.here hx rfl (hb hby at_121) rfl ?_
        show Steps p.tables e below (T100.setTop (mkF m 123 A0 [(.int v50), (.int (2 : Int32)), (.ref b94), (.ref b94)])) _
        refine st103 _ ?_
        show Steps p.tables e below (T103.setTop (mkF m 124 A0 [(.ref b94)])) _
        refine XS.astore X103.here hx rfl (hb hby at_124) rfl rfl (l' := #[.val (.int p1), .val (.int p2), .val (.int p3), .val (.int p4), .val (.int p5), .val (.int (3 : Int32)), .val (.int v42), .val (.int v46), .val (.int v50), .val (.ref b94), .unset, .unset, .unset]) rfl ?_
        exact kt)
    obtain ⟨v109, hv109⟩ : ∃ v : Int32, v = (if v42 = (0 : Int32) then (if v46 = (0 : Int32) then (if v50 = (0 : Int32) then (1 : Int32) else (0 : Int32)) else (0 : Int32)) else (0 : Int32)) := ⟨_, rfl⟩
    have k110 : ∀ t, Steps p.tables e below (T103.setTop (mkF m 164 #[.val (.int p1), .val (.int p2), .val (.int p3), .val (.int p4), .val (.int p5), .val (.int (3 : Int32)), .val (.int v42), .val (.int v46), .val (.int v50), .val (.ref b94), .unset, .unset, .unset] [(.int v109)])) t → Steps p.tables e below (s₁.setTop (entryFrame m #[(.int p1), (.int p2), (.int p3), (.int p4), (.int p5)] maxLocals)) t := by
      intro t kt
      by_cases hc134_106 : v42 = (0 : Int32)
      · by_cases hc145_107 : v46 = (0 : Int32)
        · by_cases hc156_108 : v50 = (0 : Int32)
          · rw [show v109 = (1 : Int32) from (((hv109.trans (if_pos hc134_106)).trans (if_pos hc145_107)).trans (if_pos hc156_108))] at kt
            exact k105 t (by
                let A0 : Array Slot := #[.val (.int p1), .val (.int p2), .val (.int p3), .val (.int p4), .val (.int p5), .val (.int (3 : Int32)), .val (.int v42), .val (.int v46), .val (.int v50), .val (.ref b94), .unset, .unset, .unset]
                show Steps p.tables e below (T103.setTop (mkF m 126 A0 [])) _
                refine XS.iload X103.here hx rfl (hb hby at_126) rfl ?_
                show Steps p.tables e below (T103.setTop (mkF m 128 A0 [(.int (3 : Int32))])) _
                refine XS.iconst X103.here hx rfl (hb hby at_128) ?_
                show Steps p.tables e below (T103.setTop (mkF m 129 A0 [(.int (1 : Int32)), (.int (3 : Int32))])) _
                refine XS.icmpNo X103.here hx rfl (hb hby at_129) rfl (flt (by decide : ¬ ((3 : Int32) < (1 : Int32)))).1 ?_
                show Steps p.tables e below (T103.setTop (mkF m 132 A0 [])) _
                refine XS.iload X103.here hx rfl (hb hby at_132) rfl ?_
                show Steps p.tables e below (T103.setTop (mkF m 134 A0 [(.int v42)])) _
                refine XS.ifNo X103.here hx rfl (hb hby at_134) rfl ((if0 _ _).trans (teq hc134_106).2) ?_
                show Steps p.tables e below (T103.setTop (mkF m 137 A0 [])) _
                refine XS.iload X103.here hx rfl (hb hby at_137) rfl ?_
                show Steps p.tables e below (T103.setTop (mkF m 139 A0 [(.int (3 : Int32))])) _
                refine XS.iconst X103.here hx rfl (hb hby at_139) ?_
                show Steps p.tables e below (T103.setTop (mkF m 140 A0 [(.int (2 : Int32)), (.int (3 : Int32))])) _
                refine XS.icmpNo X103.here hx rfl (hb hby at_140) rfl (flt (by decide : ¬ ((3 : Int32) < (2 : Int32)))).1 ?_
                show Steps p.tables e below (T103.setTop (mkF m 143 A0 [])) _
                refine XS.iload X103.here hx rfl (hb hby at_143) rfl ?_
                show Steps p.tables e below (T103.setTop (mkF m 145 A0 [(.int v46)])) _
                refine XS.ifNo X103.here hx rfl (hb hby at_145) rfl ((if0 _ _).trans (teq hc145_107).2) ?_
                show Steps p.tables e below (T103.setTop (mkF m 148 A0 [])) _
                refine XS.iload X103.here hx rfl (hb hby at_148) rfl ?_
                show Steps p.tables e below (T103.setTop (mkF m 150 A0 [(.int (3 : Int32))])) _
                refine XS.iconst X103.here hx rfl (hb hby at_150) ?_
                show Steps p.tables e below (T103.setTop (mkF m 151 A0 [(.int (3 : Int32)), (.int (3 : Int32))])) _
                refine XS.icmpNo X103.here hx rfl (hb hby at_151) rfl (flt (by decide : ¬ ((3 : Int32) < (3 : Int32)))).1 ?_
                show Steps p.tables e below (T103.setTop (mkF m 154 A0 [])) _
                refine XS.iload X103.here hx rfl (hb hby at_154) rfl ?_
                show Steps p.tables e below (T103.setTop (mkF m 156 A0 [(.int v50)])) _
                refine XS.ifNo X103.here hx rfl (hb hby at_156) rfl ((if0 _ _).trans (teq hc156_108).2) ?_
                show Steps p.tables e below (T103.setTop (mkF m 159 A0 [])) _
                refine XS.iconst X103.here hx rfl (hb hby at_159) ?_
                show Steps p.tables e below (T103.setTop (mkF m 160 A0 [(.int (1 : Int32))])) _
                refine XS.goto X103.here hx rfl (pc0 := 160) (pc' := 164) rfl (hb hby at_160) (by decide) (by decide) ?_
                exact kt)
          · rw [show v109 = (0 : Int32) from (((hv109.trans (if_pos hc134_106)).trans (if_pos hc145_107)).trans (if_neg hc156_108))] at kt
            exact k105 t (by
                let A0 : Array Slot := #[.val (.int p1), .val (.int p2), .val (.int p3), .val (.int p4), .val (.int p5), .val (.int (3 : Int32)), .val (.int v42), .val (.int v46), .val (.int v50), .val (.ref b94), .unset, .unset, .unset]
                show Steps p.tables e below (T103.setTop (mkF m 126 A0 [])) _
                refine XS.iload X103.here hx rfl (hb hby at_126) rfl ?_
                show Steps p.tables e below (T103.setTop (mkF m 128 A0 [(.int (3 : Int32))])) _
                refine XS.iconst X103.here hx rfl (hb hby at_128) ?_
                show Steps p.tables e below (T103.setTop (mkF m 129 A0 [(.int (1 : Int32)), (.int (3 : Int32))])) _
                refine XS.icmpNo X103.here hx rfl (hb hby at_129) rfl (flt (by decide : ¬ ((3 : Int32) < (1 : Int32)))).1 ?_
                show Steps p.tables e below (T103.setTop (mkF m 132 A0 [])) _
                refine XS.iload X103.here hx rfl (hb hby at_132) rfl ?_
                show Steps p.tables e below (T103.setTop (mkF m 134 A0 [(.int v42)])) _
                refine XS.ifNo X103.here hx rfl (hb hby at_134) rfl ((if0 _ _).trans (teq hc134_106).2) ?_
                show Steps p.tables e below (T103.setTop (mkF m 137 A0 [])) _
                refine XS.iload X103.here hx rfl (hb hby at_137) rfl ?_
                show Steps p.tables e below (T103.setTop (mkF m 139 A0 [(.int (3 : Int32))])) _
                refine XS.iconst X103.here hx rfl (hb hby at_139) ?_
                show Steps p.tables e below (T103.setTop (mkF m 140 A0 [(.int (2 : Int32)), (.int (3 : Int32))])) _
                refine XS.icmpNo X103.here hx rfl (hb hby at_140) rfl (flt (by decide : ¬ ((3 : Int32) < (2 : Int32)))).1 ?_
                show Steps p.tables e below (T103.setTop (mkF m 143 A0 [])) _
                refine XS.iload X103.here hx rfl (hb hby at_143) rfl ?_
                show Steps p.tables e below (T103.setTop (mkF m 145 A0 [(.int v46)])) _
                refine XS.ifNo X103.here hx rfl (hb hby at_145) rfl ((if0 _ _).trans (teq hc145_107).2) ?_
                show Steps p.tables e below (T103.setTop (mkF m 148 A0 [])) _
                refine XS.iload X103.here hx rfl (hb hby at_148) rfl ?_
                show Steps p.tables e below (T103.setTop (mkF m 150 A0 [(.int (3 : Int32))])) _
                refine XS.iconst X103.here hx rfl (hb hby at_150) ?_
                show Steps p.tables e below (T103.setTop (mkF m 151 A0 [(.int (3 : Int32)), (.int (3 : Int32))])) _
                refine XS.icmpNo X103.here hx rfl (hb hby at_151) rfl (flt (by decide : ¬ ((3 : Int32) < (3 : Int32)))).1 ?_
                show Steps p.tables e below (T103.setTop (mkF m 154 A0 [])) _
                refine XS.iload X103.here hx rfl (hb hby at_154) rfl ?_
                show Steps p.tables e below (T103.setTop (mkF m 156 A0 [(.int v50)])) _
                refine XS.ifYes X103.here hx rfl (pc0 := 156) (pc' := 163) rfl (hb hby at_156) rfl ((if0 _ _).trans (feq hc156_108).2) (by decide) (by decide) ?_
                show Steps p.tables e below (T103.setTop (mkF m 163 A0 [])) _
                refine XS.iconst X103.here hx rfl (hb hby at_163) ?_
                exact kt)
        · rw [show v109 = (0 : Int32) from ((hv109.trans (if_pos hc134_106)).trans (if_neg hc145_107))] at kt
          exact k105 t (by
              let A0 : Array Slot := #[.val (.int p1), .val (.int p2), .val (.int p3), .val (.int p4), .val (.int p5), .val (.int (3 : Int32)), .val (.int v42), .val (.int v46), .val (.int v50), .val (.ref b94), .unset, .unset, .unset]
              show Steps p.tables e below (T103.setTop (mkF m 126 A0 [])) _
              refine XS.iload X103.here hx rfl (hb hby at_126) rfl ?_
              show Steps p.tables e below (T103.setTop (mkF m 128 A0 [(.int (3 : Int32))])) _
              refine XS.iconst X103.here hx rfl (hb hby at_128) ?_
              show Steps p.tables e below (T103.setTop (mkF m 129 A0 [(.int (1 : Int32)), (.int (3 : Int32))])) _
              refine XS.icmpNo X103.here hx rfl (hb hby at_129) rfl (flt (by decide : ¬ ((3 : Int32) < (1 : Int32)))).1 ?_
              show Steps p.tables e below (T103.setTop (mkF m 132 A0 [])) _
              refine XS.iload X103.here hx rfl (hb hby at_132) rfl ?_
              show Steps p.tables e below (T103.setTop (mkF m 134 A0 [(.int v42)])) _
              refine XS.ifNo X103.here hx rfl (hb hby at_134) rfl ((if0 _ _).trans (teq hc134_106).2) ?_
              show Steps p.tables e below (T103.setTop (mkF m 137 A0 [])) _
              refine XS.iload X103.here hx rfl (hb hby at_137) rfl ?_
              show Steps p.tables e below (T103.setTop (mkF m 139 A0 [(.int (3 : Int32))])) _
              refine XS.iconst X103.here hx rfl (hb hby at_139) ?_
              show Steps p.tables e below (T103.setTop (mkF m 140 A0 [(.int (2 : Int32)), (.int (3 : Int32))])) _
              refine XS.icmpNo X103.here hx rfl (hb hby at_140) rfl (flt (by decide : ¬ ((3 : Int32) < (2 : Int32)))).1 ?_
              show Steps p.tables e below (T103.setTop (mkF m 143 A0 [])) _
              refine XS.iload X103.here hx rfl (hb hby at_143) rfl ?_
              show Steps p.tables e below (T103.setTop (mkF m 145 A0 [(.int v46)])) _
              refine XS.ifYes X103.here hx rfl (pc0 := 145) (pc' := 163) rfl (hb hby at_145) rfl ((if0 _ _).trans (feq hc145_107).2) (by decide) (by decide) ?_
              show Steps p.tables e below (T103.setTop (mkF m 163 A0 [])) _
              refine XS.iconst X103.here hx rfl (hb hby at_163) ?_
              exact kt)
      · rw [show v109 = (0 : Int32) from (hv109.trans (if_neg hc134_106))] at kt
        exact k105 t (by
            let A0 : Array Slot := #[.val (.int p1), .val (.int p2), .val (.int p3), .val (.int p4), .val (.int p5), .val (.int (3 : Int32)), .val (.int v42), .val (.int v46), .val (.int v50), .val (.ref b94), .unset, .unset, .unset]
            show Steps p.tables e below (T103.setTop (mkF m 126 A0 [])) _
            refine XS.iload X103.here hx rfl (hb hby at_126) rfl ?_
            show Steps p.tables e below (T103.setTop (mkF m 128 A0 [(.int (3 : Int32))])) _
            refine XS.iconst X103.here hx rfl (hb hby at_128) ?_
            show Steps p.tables e below (T103.setTop (mkF m 129 A0 [(.int (1 : Int32)), (.int (3 : Int32))])) _
            refine XS.icmpNo X103.here hx rfl (hb hby at_129) rfl (flt (by decide : ¬ ((3 : Int32) < (1 : Int32)))).1 ?_
            show Steps p.tables e below (T103.setTop (mkF m 132 A0 [])) _
            refine XS.iload X103.here hx rfl (hb hby at_132) rfl ?_
            show Steps p.tables e below (T103.setTop (mkF m 134 A0 [(.int v42)])) _
            refine XS.ifYes X103.here hx rfl (pc0 := 134) (pc' := 163) rfl (hb hby at_134) rfl ((if0 _ _).trans (feq hc134_106).2) (by decide) (by decide) ?_
            show Steps p.tables e below (T103.setTop (mkF m 163 A0 [])) _
            refine XS.iconst X103.here hx rfl (hb hby at_163) ?_
            exact kt)
    have hfin : own_emp [v42, v46, v50] = v109 := by rw [hv109]; rfl
    obtain ⟨_, _, ⟨T111, L111, k111, n111⟩, -, X111, ⟨Lc111, hQ111, l111, y111, z111⟩, st111⟩ := Jvm.LawKit.callS X103 hx (y := (⟨"com/example/evntual/evntual/engine/Bits", "isEmpty", "([I)Z"⟩ : MethodName)) hown (mvT hZ (hw _ (List.mem_of_getElem? (i := 2) rfl))) (mvT hZ (hw _ (List.mem_of_getElem? (i := 3) rfl))) (mvT hZ (hw _ (List.mem_of_getElem? (i := 4) rfl))) (mvT hZ (hw _ (List.mem_of_getElem? (i := 5) rfl))) (by decide) (backOf (W := 0) (rm1_3 l Z a0 hw [] b94 kc94 v42 v46 v50 h103 n0 Z_104 V_b94_103) hZ (hw _ (List.mem_of_getElem? (i := 5) rfl)) (hw _ (List.mem_of_getElem? (i := 4) rfl)) (by decide) (by decide)) (g := (mkF m 168 #[.val (.int p1), .val (.int p2), .val (.int p3), .val (.int p4), .val (.int p5), .val (.int (3 : Int32)), .val (.int v42), .val (.int v46), .val (.int v50), .val (.ref b94), .val (.int v109), .unset, .unset] [(.ref b94)])) rfl (by rw [hml]; rfl) (argsL := [(.ref b94)]) (rest := []) (lenOf pd_0 rfl) rfl (by show 2 * 0 + _ ≤ _; exact Nat.le_of_eq rfl) (hb hby at_168) (fun _ _ => ⟨rfl, e103, (by decide : 1 + 0 ≤ _), (by decide : 3 + 0 ≤ _)⟩)
    dsimp only [Pt.U, Pt.locs, Pt.cells, Pt.slots] at X111 l111 y111 z111 st111 hQ111
    subst l111 y111 z111
    obtain ⟨rfl, N111q, e111⟩ := hQ111
    have N111 := Fr.app N103 N111q
    obtain ⟨cl112, Ar112, q112, S112, M112, H112, G112⟩ := id V_b94_103
    obtain ⟨cl113, Ar113, q113, S113, M113, H113, G113⟩ := id V_b94_103
    have hin114 : ¬ ((0 : Int32) < 0 ∨ cl113.slots.size ≤ ((0 : Int32)).toNatClampNeg) := inb_of S113 ⟨by decide, by decide⟩
    have hat114 : cl113.slots[((0 : Int32)).toNatClampNeg]? = some (.int v42) := H113.at hin114 rfl
    obtain ⟨cl115, Ar115, q115, S115, M115, H115, G115⟩ := id V_b94_103
    have hin116 : ¬ ((1 : Int32) < 0 ∨ cl115.slots.size ≤ ((1 : Int32)).toNatClampNeg) := inb_of S115 ⟨by decide, by decide⟩
    have hat116 : cl115.slots[((1 : Int32)).toNatClampNeg]? = some (.int v46) := H115.at hin116 rfl
    obtain ⟨cl117, Ar117, q117, S117, M117, H117, G117⟩ := id V_b94_103
    have hin118 : ¬ ((2 : Int32) < 0 ∨ cl117.slots.size ≤ ((2 : Int32)).toNatClampNeg) := inb_of S117 ⟨by decide, by decide⟩
    have hat118 : cl117.slots[((2 : Int32)).toNatClampNeg]? = some (.int v50) := H117.at hin118 rfl
    have k119 : ∀ t, Steps p.tables e below (T111.setTop (mkF m 250 #[.val (.int p1), .val (.int p2), .val (.int p3), .val (.int p4), .val (.int p5), .val (.int (3 : Int32)), .val (.int v42), .val (.int v46), .val (.int v50), .val (.ref b94), .val (.int v109), .val (.int (own_emp [v42, v46, v50])), .val (.int (1 : Int32))] [(.int (1 : Int32))])) t → Steps p.tables e below (s₁.setTop (entryFrame m #[(.int p1), (.int p2), (.int p3), (.int p4), (.int p5)] maxLocals)) t := fun t kt => k110 t (by
        show Steps p.tables e below (T103.setTop (mkF m 164 #[.val (.int p1), .val (.int p2), .val (.int p3), .val (.int p4), .val (.int p5), .val (.int (3 : Int32)), .val (.int v42), .val (.int v46), .val (.int v50), .val (.ref b94), .unset, .unset, .unset] [(.int v109)])) _
        let A0 : Array Slot := #[.val (.int p1), .val (.int p2), .val (.int p3), .val (.int p4), .val (.int p5), .val (.int (3 : Int32)), .val (.int v42), .val (.int v46), .val (.int v50), .val (.ref b94), .val (.int v109), .unset, .unset]
        refine XS.istore X103.here hx rfl (hb hby at_164) rfl (l' := A0) rfl ?_
        show Steps p.tables e below (T103.setTop (mkF m 166 A0 [])) _
        refine XS.aload X103.here hx rfl (hb hby at_166) rfl rfl ?_
        show Steps p.tables e below (T103.setTop (mkF m 168 A0 [(.ref b94)])) _
        refine st111 _ ?_
        show Steps p.tables e below (T111.setTop (mkF m 171 A0 [(.int (own_emp [v42, v46, v50]))])) _
        let A1 : Array Slot := #[.val (.int p1), .val (.int p2), .val (.int p3), .val (.int p4), .val (.int p5), .val (.int (3 : Int32)), .val (.int v42), .val (.int v46), .val (.int v50), .val (.ref b94), .val (.int v109), .val (.int (own_emp [v42, v46, v50])), .unset]
        refine XS.istore X111.here hx rfl (hb hby at_171) rfl (l' := A1) rfl ?_
        show Steps p.tables e below (T111.setTop (mkF m 173 A1 [])) _
        refine XS.aload X111.here hx rfl (hb hby at_173) rfl rfl ?_
        show Steps p.tables e below (T111.setTop (mkF m 175 A1 [(.ref b94)])) _
        refine X111.arraylength hx (by rw [e111]; exact Ar112.1) (State.isArrayOf_alike hZ.alike Ar112.2.1) (g := (mkF m 175 A1 [(.ref b94)])) rfl rfl (hb hby at_175) _ ?_
        rw [len_of S112 M112]
        show Steps p.tables e below (T111.setTop (mkF m 176 A1 [(.int (3 : Int32))])) _
        refine XS.iload X111.here hx rfl (hb hby at_176) rfl ?_
        show Steps p.tables e below (T111.setTop (mkF m 178 A1 [(.int (3 : Int32)), (.int (3 : Int32))])) _
        refine XS.icmpNo X111.here hx rfl (hb hby at_178) rfl (teq (by decide : (3 : Int32) = (3 : Int32))).2 ?_
        show Steps p.tables e below (T111.setTop (mkF m 181 A1 [])) _
        refine XS.iload X111.here hx rfl (hb hby at_181) rfl ?_
        show Steps p.tables e below (T111.setTop (mkF m 183 A1 [(.int (3 : Int32))])) _
        refine XS.iconst X111.here hx rfl (hb hby at_183) ?_
        show Steps p.tables e below (T111.setTop (mkF m 184 A1 [(.int (1 : Int32)), (.int (3 : Int32))])) _
        refine XS.icmpNo X111.here hx rfl (hb hby at_184) rfl (flt (by decide : ¬ ((3 : Int32) < (1 : Int32)))).1 ?_
        show Steps p.tables e below (T111.setTop (mkF m 187 A1 [])) _
        refine XS.aload X111.here hx rfl (hb hby at_187) rfl rfl ?_
        show Steps p.tables e below (T111.setTop (mkF m 189 A1 [(.ref b94)])) _
        refine XS.iconst X111.here hx rfl (hb hby at_189) ?_
        show Steps p.tables e below (T111.setTop (mkF m 190 A1 [(.int (0 : Int32)), (.ref b94)])) _
        refine X111.iaload hx (j := (0 : Int32)) (v := (.int v42)) (by rw [e111]; exact Ar113.1) (State.isArrayOf_alike hZ.alike Ar113.2.1) Ar113.2.2 hin114 hat114 (g := (mkF m 190 A1 [(.int (0 : Int32)), (.ref b94)])) rfl rfl (hb hby at_190) _ ?_
        show Steps p.tables e below (T111.setTop (mkF m 191 A1 [(.int v42)])) _
        refine XS.iload X111.here hx rfl (hb hby at_191) rfl ?_
        show Steps p.tables e below (T111.setTop (mkF m 193 A1 [(.int v42), (.int v42)])) _
        refine XS.icmpNo X111.here hx rfl (hb hby at_193) rfl (teq (rfl : v42 = v42)).2 ?_
        show Steps p.tables e below (T111.setTop (mkF m 196 A1 [])) _
        refine XS.iload X111.here hx rfl (hb hby at_196) rfl ?_
        show Steps p.tables e below (T111.setTop (mkF m 198 A1 [(.int (3 : Int32))])) _
        refine XS.iconst X111.here hx rfl (hb hby at_198) ?_
        show Steps p.tables e below (T111.setTop (mkF m 199 A1 [(.int (2 : Int32)), (.int (3 : Int32))])) _
        refine XS.icmpNo X111.here hx rfl (hb hby at_199) rfl (flt (by decide : ¬ ((3 : Int32) < (2 : Int32)))).1 ?_
        show Steps p.tables e below (T111.setTop (mkF m 202 A1 [])) _
        refine XS.aload X111.here hx rfl (hb hby at_202) rfl rfl ?_
        show Steps p.tables e below (T111.setTop (mkF m 204 A1 [(.ref b94)])) _
        refine XS.iconst X111.here hx rfl (hb hby at_204) ?_
        show Steps p.tables e below (T111.setTop (mkF m 205 A1 [(.int (1 : Int32)), (.ref b94)])) _
        refine X111.iaload hx (j := (1 : Int32)) (v := (.int v46)) (by rw [e111]; exact Ar115.1) (State.isArrayOf_alike hZ.alike Ar115.2.1) Ar115.2.2 hin116 hat116 (g := (mkF m 205 A1 [(.int (1 : Int32)), (.ref b94)])) rfl rfl (hb hby at_205) _ ?_
        show Steps p.tables e below (T111.setTop (mkF m 206 A1 [(.int v46)])) _
        refine XS.iload X111.here hx rfl (hb hby at_206) rfl ?_
        show Steps p.tables e below (T111.setTop (mkF m 208 A1 [(.int v46), (.int v46)])) _
        refine XS.icmpNo X111.here hx rfl (hb hby at_208) rfl (teq (rfl : v46 = v46)).2 ?_
        show Steps p.tables e below (T111.setTop (mkF m 211 A1 [])) _
        refine XS.iload X111.here hx rfl (hb hby at_211) rfl ?_
        show Steps p.tables e below (T111.setTop (mkF m 213 A1 [(.int (3 : Int32))])) _
        refine XS.iconst X111.here hx rfl (hb hby at_213) ?_
        show Steps p.tables e below (T111.setTop (mkF m 214 A1 [(.int (3 : Int32)), (.int (3 : Int32))])) _
        refine XS.icmpNo X111.here hx rfl (hb hby at_214) rfl (flt (by decide : ¬ ((3 : Int32) < (3 : Int32)))).1 ?_
        show Steps p.tables e below (T111.setTop (mkF m 217 A1 [])) _
        refine XS.aload X111.here hx rfl (hb hby at_217) rfl rfl ?_
        show Steps p.tables e below (T111.setTop (mkF m 219 A1 [(.ref b94)])) _
        refine XS.iconst X111.here hx rfl (hb hby at_219) ?_
        show Steps p.tables e below (T111.setTop (mkF m 220 A1 [(.int (2 : Int32)), (.ref b94)])) _
        refine X111.iaload hx (j := (2 : Int32)) (v := (.int v50)) (by rw [e111]; exact Ar117.1) (State.isArrayOf_alike hZ.alike Ar117.2.1) Ar117.2.2 hin118 hat118 (g := (mkF m 220 A1 [(.int (2 : Int32)), (.ref b94)])) rfl rfl (hb hby at_220) _ ?_
        show Steps p.tables e below (T111.setTop (mkF m 221 A1 [(.int v50)])) _
        refine XS.iload X111.here hx rfl (hb hby at_221) rfl ?_
        show Steps p.tables e below (T111.setTop (mkF m 223 A1 [(.int v50), (.int v50)])) _
        refine XS.icmpNo X111.here hx rfl (hb hby at_223) rfl (teq (rfl : v50 = v50)).2 ?_
        show Steps p.tables e below (T111.setTop (mkF m 226 A1 [])) _
        refine XS.iconst X111.here hx rfl (hb hby at_226) ?_
        show Steps p.tables e below (T111.setTop (mkF m 227 A1 [(.int (1 : Int32))])) _
        refine XS.goto X111.here hx rfl (pc0 := 227) (pc' := 231) rfl (hb hby at_227) (by decide) (by decide) ?_
        show Steps p.tables e below (T111.setTop (mkF m 231 A1 [(.int (1 : Int32))])) _
        let A2 : Array Slot := #[.val (.int p1), .val (.int p2), .val (.int p3), .val (.int p4), .val (.int p5), .val (.int (3 : Int32)), .val (.int v42), .val (.int v46), .val (.int v50), .val (.ref b94), .val (.int v109), .val (.int (own_emp [v42, v46, v50])), .val (.int (1 : Int32))]
        refine XS.istore X111.here hx rfl (hb hby at_231) rfl (l' := A2) rfl ?_
        show Steps p.tables e below (T111.setTop (mkF m 233 A2 [])) _
        refine XS.iload X111.here hx rfl (hb hby at_233) rfl ?_
        show Steps p.tables e below (T111.setTop (mkF m 235 A2 [(.int (own_emp [v42, v46, v50]))])) _
        refine XS.iload X111.here hx rfl (hb hby at_235) rfl ?_
        show Steps p.tables e below (T111.setTop (mkF m 237 A2 [(.int v109), (.int (own_emp [v42, v46, v50]))])) _
        refine XS.icmpNo X111.here hx rfl (hb hby at_237) rfl (teq hfin).2 ?_
        show Steps p.tables e below (T111.setTop (mkF m 240 A2 [])) _
        refine XS.iload X111.here hx rfl (hb hby at_240) rfl ?_
        show Steps p.tables e below (T111.setTop (mkF m 242 A2 [(.int (1 : Int32))])) _
        refine XS.ifNo X111.here hx rfl (hb hby at_242) rfl ((if0 _ _).trans (feq (by decide : ¬ ((1 : Int32) = (0 : Int32)))).1) ?_
        show Steps p.tables e below (T111.setTop (mkF m 245 A2 [])) _
        refine XS.iconst X111.here hx rfl (hb hby at_245) ?_
        show Steps p.tables e below (T111.setTop (mkF m 246 A2 [(.int (1 : Int32))])) _
        refine XS.goto X111.here hx rfl (pc0 := 246) (pc' := 250) rfl (hb hby at_246) (by decide) (by decide) ?_
        exact kt)
    obtain ⟨fs, hr, hrun, hended, hW, hsame⟩ := X111.leave (v := some (.int (1 : Int32))) (fun h => by rw [Bd.returns] at h; cases h)
    refine ⟨_, _, k119 _ ?_, hrun, hended, _, _, rfl, ?_, ⟨_, rfl⟩, hW, hsame.mono (by decide) (by decide)⟩
    · show Steps p.tables e below (T111.setTop (mkF m 250 #[.val (.int p1), .val (.int p2), .val (.int p3), .val (.int p4), .val (.int p5), .val (.int (3 : Int32)), .val (.int v42), .val (.int v46), .val (.int v50), .val (.ref b94), .val (.int v109), .val (.int (own_emp [v42, v46, v50])), .val (.int (1 : Int32))] [(.int (1 : Int32))])) _
      exact retN X111 hx (t := .boolean) Bd.returns (by simp) (hb hby at_250) hr
    · show Q_rm0 Z p1 p2 p3 p4 p5 h0 n0 _ T111.heap _
      rw [e111]
      exact ⟨rfl, N111⟩
set_option maxRecDepth 65536 in
set_option maxHeartbeats 40000000 in
theorem comes_1 {Post : Tables → Env → Array Value → State → Outcome → State → Prop} (hpost : ∀ tb e args s v u, (limb_1_1.after args s (.returned v) u = true ∧ limb_1_2.after args s (.returned v) u = true ∧ True) → FrameEnd s (.returned v) u (Jvm.fieldLocs frame_1_writes args s ++ Jvm.arrayLocs frame_1_arrays args s ++ Jvm.staticLocs frame_1_statics s) 16 128 → Post tb e args s (.returned v) u) :
    ArmFor flags0 classFile x code maxLocals ret World_1 tables_1 room_1 Calls_1 rest_1 Pre_1 Post := by
  intro l hfl _ _ p e ha hc hk s m args below hf hA hF happ hP
  obtain ⟨hcalls, hrest, hpre⟩ := hP
  obtain ⟨-, -, -, hnamed, -, -, -, hat⟩ := (Spec.applies_iff hf).mp happ
  obtain ⟨hg, hn⟩ := and_e (Cond.before_iff.mp (show (Jvm.Cond.and given_1 narrow_1).before args s = true from hpre))
  obtain ⟨hcnt, hg0⟩ := and_e hg
  obtain ⟨ha0, hg1⟩ := and_e hg0
  obtain ⟨ha1, hg2⟩ := and_e hg1
  obtain ⟨ha2, hg3⟩ := and_e hg2
  obtain ⟨ha3, hg4⟩ := and_e hg3
  obtain ⟨w0, w1, w2, w3, w4, rfl⟩ : ∃ w0 w1 w2 w3 w4 : Value, args = #[w0, w1, w2, w3, w4] := by
    have hs : args.size = 5 := by simpa [Cond.value, given_1] using hcnt
    obtain ⟨L⟩ := args
    match L, hs with
    | [w0, w1, w2, w3, w4], _ => exact ⟨w0, w1, w2, w3, w4, rfl⟩
  have hw := fun d (hd : d ∈ tables_1) => atoms_spec (ws := Jvm.Cond.code x code maxLocals ret :: tables_1) hat d (List.mem_cons_of_mem _ hd)
  have hfit : Fit s := fun {y c} hc i hi => by
    obtain ⟨ha, rfl⟩ := Array.getElem?_eq_some_iff.mp hc
    have q := List.all_eq_true.mp ((Array.all_eq_true_iff_forall_mem.mp hF) _ (Array.getElem_mem ha)) i (List.mem_range.mpr hi)
    simpa [Array.getElem?_eq_getElem hi] using q
  obtain ⟨i0, ei0⟩ := is_v ha0
  obtain rfl : w0 = (.int i0) := Option.some.inj ei0
  obtain ⟨i1, ei1⟩ := is_v ha1
  obtain rfl : w1 = (.int i1) := Option.some.inj ei1
  obtain ⟨i2, ei2⟩ := is_v ha2
  obtain rfl : w2 = (.int i2) := Option.some.inj ei2
  obtain ⟨i3, ei3⟩ := is_v ha3
  obtain rfl : w3 = (.int i3) := Option.some.inj ei3
  obtain ⟨i4, ei4⟩ := is_v hg4
  obtain rfl : w4 = (.int i4) := Option.some.inj ei4
  obtain ⟨n, o, h1, h2, h3, _, L, rfl, ⟨rfl, N⟩, hq⟩ := rm0 l s _ hw tables_1 i0 i1 i2 i3 i4 s.heap s.heap.size (Nat.le_refl _)  p e ha hc hk s m _ below hf ((Spec.applies_iff_loose hf).mp happ).1 ⟨rfl, State.Warmed39.refl s, rfl⟩ trivial
  refine ⟨n, _, h1, h2, h3, hpost _ _ _ _ _ _ ⟨Cond.after_iff.mpr rfl, Cond.after_iff.mpr (eq_i res_at (Term.int_eval (1)) rfl), trivial⟩ ⟨hq.1, hq.2.1, (hq.2.2.sift fun y hy => Or.inr (N y hy)).mono (by decide) (by decide)⟩⟩
theorem main_1_1 : Claimed_1_1 := comes_1 fun _ _ _ _ _ _ h hF => ⟨h.1, hF⟩
theorem main_1_2 : Claimed_1_2 := comes_1 fun _ _ _ _ _ _ h hF => ⟨h.2.1, hF⟩
end Jvm.Pilot.@@N@@
namespace Jvm.Pilot.@@N@@
open Jvm Jvm.ClassFile Sem Op Lib Jvm.Free Jvm.Stand Jvm.Pilot.@@N@@.Jvm.D
/-! MADE BY PROGRAM (witnessworld.py) out of the Statement's table words and the real class files: 9 classes; the members and pool entries that the words name. The judged class is class 1, her method 1. -/
namespace start1
open Jvm.ClassFile
def u (s : String) : CpInfo := .utf8 (stringToUtf16 s)
/-- a pool by its gaps: so many unusable entries, then the entry; so many at the end -/
def gap : Nat → List CpInfo → List CpInfo
  | 0, r => r
  | n + 1, r => .unusable :: gap n r
def poolList (es : List (Nat × CpInfo)) (last : Nat) : List CpInfo := es.foldr (fun e r => gap e.1 (e.2 :: r)) (gap last [])
def pool (es : List (Nat × CpInfo)) (last : Nat) : Array CpInfo := ⟨poolList es last⟩
def fileOf (pool : Array CpInfo) (this : Nat) (attrs : Array Attribute := #[]) (ms : Array MethodInfo := #[]) (fl : Nat := 33) (sup : Nat := 0) (ifs : Array Nat := #[]) (fds : Array FieldInfo := #[]) : ClassFile where
  minorVersion := 0
  majorVersion := 65
  constantPool := pool
  accessFlags := fl
  thisClass := this
  superClass := sup
  interfaces := ifs
  fields := fds
  methods := ms
  attributes := attrs
def plain (name : String) (sup : Option ClassId) : Class where
  name := name
  kind := .ordinary
  loader := none
  accessFlags := 33
  super := sup
  interfaces := #[]
  cf := none
  fields := #[]
  methods := #[]
  instanceTypes := #[]
  staticTypes := #[]
  resolved := #[]
  callSites := []
  init := .initialized
  statics := none
  mirror := none

def pool0 : Array CpInfo := pool [(5, u "<init>"), (0, u "()V"), (1, .class_ 10), (1, u "java/lang/Object")] 113

def k0m0 : Method := { name := "<init>", desc := "()V", sig := { parameters := [], returnType := none }, accessFlags := 1, code := none }
/-- java/lang/Object -/
def k0 : Class := { plain "java/lang/Object" none with
  accessFlags := 33
  interfaces := #[]
  cf := some (fileOf pool0 8 #[] #[{ accessFlags := 1, nameIndex := 5, descriptorIndex := 6, attributes := #[] }] 33 0 #[] #[])
  fields := #[]
  methods := #[k0m0]
  instanceTypes := #[]
  staticTypes := #[]
  resolved := Array.replicate 124 none
  statics := none }

def pool1 : Array CpInfo := pool [(2, .class_ 4), (1, u "java/lang/Object"), (0, u "<init>"), (0, u "()V"), (0, .integer 2147483647), (0, .methodref 9 10), (0, .class_ 11), (0, .nameAndType 12 13), (0, u "com/example/evntual/evntual/engine/Bits"), (0, u "isEmpty"), (0, u "([I)Z"), (0, .class_ 15), (0, u "com/example/evntual/evntual/engine/BitsIsEmptyPinLaw"), (2, u "law"), (0, u "(IIIII)Z")] 5

def k1m0 : Method := { name := "<init>", desc := "()V", sig := { parameters := [], returnType := none }, accessFlags := 2, code := none }
def k1c1 : Code := { maxStack := 4, maxLocals := 13, code := code, exceptionTable := #[], attributes := #[] }
def k1m1 : Method := { name := "law", desc := "(IIIII)Z", sig := { parameters := [.int, .int, .int, .int, .int], returnType := some .boolean }, accessFlags := 9, code := some k1c1 }
/-- com/example/evntual/evntual/engine/BitsIsEmptyPinLaw -/
def k1 : Class := { plain "com/example/evntual/evntual/engine/BitsIsEmptyPinLaw" (some 0) with
  accessFlags := 49
  interfaces := #[]
  cf := some (fileOf pool1 14 #[] #[{ accessFlags := 2, nameIndex := 5, descriptorIndex := 6, attributes := #[] }, { accessFlags := 9, nameIndex := 18, descriptorIndex := 19, attributes := #[] }] 49 2 #[] #[])
  fields := #[]
  methods := #[k1m0, k1m1]
  instanceTypes := #[]
  staticTypes := #[]
  resolved := Array.replicate 25 none
  statics := none }

def pool2 : Array CpInfo := pool [(2, .class_ 4), (1, u "java/lang/Object"), (0, u "<init>"), (0, u "()V"), (1, .class_ 10), (1, u "com/example/evntual/evntual/engine/Bits"), (13, u "isEmpty"), (0, u "([I)Z")] 10

def k2m0 : Method := { name := "<init>", desc := "()V", sig := { parameters := [], returnType := none }, accessFlags := 2, code := none }
def k2c1 : Code := { maxStack := 2, maxLocals := 5, code := prog_13_method_9_code, exceptionTable := #[], attributes := #[] }
def k2m1 : Method := { name := "isEmpty", desc := "([I)Z", sig := { parameters := [(.array .int)], returnType := some .boolean }, accessFlags := 8, code := some k2c1 }
/-- com/example/evntual/evntual/engine/Bits -/
def k2 : Class := { plain "com/example/evntual/evntual/engine/Bits" (some 0) with
  accessFlags := 32
  interfaces := #[]
  cf := some (fileOf pool2 8 #[] #[{ accessFlags := 2, nameIndex := 5, descriptorIndex := 6, attributes := #[] }, { accessFlags := 8, nameIndex := 24, descriptorIndex := 25, attributes := #[] }] 32 2 #[] #[])
  fields := #[]
  methods := #[k2m0, k2m1]
  instanceTypes := #[]
  staticTypes := #[]
  resolved := Array.replicate 36 none
  statics := none }

def pool3 : Array CpInfo := pool [(1, u "java/lang/Cloneable"), (0, .class_ 1), (0, u "java/lang/Object"), (0, .class_ 3)] 3

/-- java/lang/Cloneable -/
def k3 : Class := { plain "java/lang/Cloneable" (some 0) with
  accessFlags := 1537
  interfaces := #[]
  cf := some (fileOf pool3 2 #[] #[] 1537 4 #[] #[])
  fields := #[]
  methods := #[]
  instanceTypes := #[]
  staticTypes := #[]
  resolved := Array.replicate 8 none
  statics := none }

def pool4 : Array CpInfo := pool [(1, u "java/io/Serializable"), (0, .class_ 1), (0, u "java/lang/Object"), (0, .class_ 3)] 3

/-- java/io/Serializable -/
def k4 : Class := { plain "java/io/Serializable" (some 0) with
  accessFlags := 1537
  interfaces := #[]
  cf := some (fileOf pool4 2 #[] #[] 1537 4 #[] #[])
  fields := #[]
  methods := #[]
  instanceTypes := #[]
  staticTypes := #[]
  resolved := Array.replicate 8 none
  statics := none }

/-- the primitive byte -/
def k5 : Class := { plain "byte" none with kind := .primitive 'B', accessFlags := 0x411 }
/-- [B -/
def k6 : Class := { plain "[B" (some 0) with kind := .array 5 .byte, interfaces := #[3, 4], accessFlags := 1041 }

/-- the primitive int -/
def k7 : Class := { plain "int" none with kind := .primitive 'I', accessFlags := 0x411 }
/-- [I -/
def k8 : Class := { plain "[I" (some 0) with kind := .array 7 .int, interfaces := #[3, 4], accessFlags := 1041 }

def heap : Heap := #[]
def classes : Array Class := #[k0, k1, k2, k3, k4, k5, k6, k7, k8]
def interned : List (Array UInt16 × Addr) := []
def slotsUsed : Nat := 0
def theMethod : MethodId := ⟨1, 1⟩
def args0 : Array Value := #[.int 5, .int 7, .int 1, .int 2, .int 3]
def aboutOver (below : List Frame) : State where
  vm := { classes := classes, interned := interned.toArray }
  heap := heap
  slotsUsed := slotsUsed
  threads := #[{ frames := .invoking theMethod args0 :: below }]
def below0 : List Frame := [.native { method := ⟨0, 0⟩, args := #[] }]
def about1 : State := aboutOver below0
def p0 : Program := .bare "" "" ""
def e0 : Env := launch0.env 0 0 0
theorem w_frames : about1.frames = Frame.invoking theMethod args0 :: below0 := rfl
set_option maxRecDepth 65536 in
theorem w_args : argsFit about1.vm theMethod args0 = true := by decide +kernel
set_option maxRecDepth 65536 in
theorem w_heap : heapFits about1 = true := by decide +kernel
set_option maxRecDepth 65536 in
theorem w_runnable : about1.curStatus? = some .runnable := by decide +kernel
set_option maxRecDepth 65536 in
theorem w_alone : about1.alone = true := by decide +kernel
set_option maxRecDepth 65536 in
theorem w_named : about1.methodNamed? x = some theMethod := by decide +kernel
set_option maxRecDepth 65536 in
theorem w_hears : about1.hears theMethod below0 = true := by decide +kernel
set_option maxRecDepth 65536 in
theorem w_ripe : about1.ripe theMethod args0 below0 = true := by decide +kernel
theorem w_running : about1.status = .running := rfl
set_option maxRecDepth 65536 in
theorem w_room : about1.hasRoom e0.platform room_1 = true :=
  launch0.hasRoom_least _ room_1 (by decide +kernel) (by decide +kernel) (by decide +kernel) (by decide +kernel) (by decide +kernel) (by decide +kernel)
theorem allAtoms_all (ts : List Jvm.Cond) (a : Array Jvm.Value) (st : Jvm.State) : (allAtoms ts).before a st = ts.all (fun c => c.before a st) := by
  induction ts with
  | nil => rfl
  | cons c t ih =>
    show (Jvm.Cond.and c (allAtoms t)).before a st = _
    rw [Jvm.Cond.before_and, ih, List.all_cons]
def words1 : List Jvm.Cond := Jvm.Cond.code x code maxLocals ret :: tables_1
/-- a 'code' word, met by the world's own term for the bytes: nothing is compared byte by byte -/
theorem code_word {y : MethodName} {bytes : ByteArray} {mx : Nat} {rt : Option FieldType} {a : Array Value} {s : State} {m : MethodId} {meth : Method} {c : Code} (h1 : s.methodNamed? y = some m) (h2 : s.vm.method? m = some meth) (h3 : meth.code = some c) (h4 : c.code = bytes)
    (h5 : (c.maxLocals == mx && c.exceptionTable.isEmpty && decide (c.maxStack ≤ mostOperands) && decide (meth.sig.returnType = rt) && !meth.locks && decide (parseMethodDescriptor y.desc = some meth.sig)) = true) : (Jvm.Cond.code y bytes mx rt).before a s = true := by
  simp only [Bool.and_eq_true, beq_iff_eq, Bool.not_eq_true', decide_eq_true_eq] at h5
  obtain ⟨⟨⟨⟨⟨g1, g2⟩, g3⟩, g4⟩, g5⟩, g6⟩ := h5
  simp [Cond.before, Cond.holds, Cond.value, h1, h2, h3, h4, g1, g2, g3, g4, g5, g6]
def isCode : Jvm.Cond → Bool
  | .code _ _ _ _ => true
  | _ => false
theorem all_split {L : List Jvm.Cond} {P : Jvm.Cond → Bool} (h1 : L.all (fun c => isCode c || P c) = true) (h2 : ∀ c ∈ L.filter isCode, P c = true) : L.all P = true := by
  refine List.all_eq_true.mpr fun c hc => ?_
  have h := List.all_eq_true.mp h1 c hc
  rcases Bool.eq_false_or_eq_true (isCode c) with hi | hi
  · exact h2 c (List.mem_filter.mpr ⟨hc, hi⟩)
  · simpa [hi] using h
set_option maxRecDepth 65536 in
theorem w_c0 : (Jvm.Cond.code x code maxLocals ret).before args0 about1 = true := code_word (m := ⟨1, 1⟩) (meth := k1m1) (c := k1c1) (by decide +kernel) rfl rfl rfl (by decide +kernel)
set_option maxRecDepth 65536 in
theorem w_c1 : (Jvm.Cond.code ({ cls := "com/example/evntual/evntual/engine/Bits", name := "isEmpty", desc := "([I)Z" } : Jvm.MethodName) prog_13_method_9_code (5 : Nat) (Option.some Jvm.ClassFile.FieldType.boolean)).before args0 about1 = true := code_word (m := ⟨2, 1⟩) (meth := k2m1) (c := k2c1) (by decide +kernel) rfl rfl rfl (by decide +kernel)
def codes1 : List Jvm.Cond := [Jvm.Cond.code x code maxLocals ret, Jvm.Cond.code ({ cls := "com/example/evntual/evntual/engine/Bits", name := "isEmpty", desc := "([I)Z" } : Jvm.MethodName) prog_13_method_9_code (5 : Nat) (Option.some Jvm.ClassFile.FieldType.boolean)]
set_option maxRecDepth 65536 in
theorem codes_eq : words1.filter isCode = codes1 := rfl
theorem w_codes : ∀ c ∈ words1.filter isCode, c.before args0 about1 = true := by
  rw [codes_eq]
  intro c hc
  simp only [codes1, List.mem_cons, List.not_mem_nil, or_false] at hc
  rcases hc with rfl | rfl
  · exact w_c0
  · exact w_c1
set_option maxRecDepth 65536 in
theorem w_t1 : words1.all (fun c => isCode c || c.before args0 about1) = true := by decide +kernel
theorem w_tables : (allAtoms (Jvm.Cond.code x code maxLocals ret :: tables_1)).before args0 about1 = true := by
  rw [allAtoms_all]
  show words1.all (fun c => c.before args0 about1) = true
  refine all_split ?_ w_codes
  rw [w_t1]
set_option maxRecDepth 65536 in
theorem w_case : (Jvm.Cond.and given_1 narrow_1).before args0 about1 = true := by decide +kernel
theorem w_applies : (headSpec (Jvm.Cond.code x code maxLocals ret :: tables_1) room_1).applies x e0.platform about1 = true :=
  (Spec.applies_iff w_frames).mpr ⟨w_running, w_runnable, w_alone, w_named, w_hears, w_ripe, w_room, w_tables⟩
theorem atStart : AtStart classFile x code maxLocals ret World_1 tables_1 room_1 Calls_1 rest_1 Pre_1 launch0 p0 e0 about1 theMethod args0 below0 :=
  ⟨lists_1, trivial, launch0.admits_env _ _ _, launch0.least_env, fairChoices_fair.cas, fairChoices_fair.clock, w_frames, w_args, w_heap, w_applies, trivial, trivial, w_case⟩
end start1
theorem witness_1 : WitnessClaimed_1 := ⟨start1.p0, start1.e0, start1.about1, start1.theMethod, start1.args0, start1.below0, start1.atStart⟩
end Jvm.Pilot.@@N@@
