import JvmDerived
import JvmDerived.Pilot.@@N@@Statement
import JvmDerived.Pilot.@@N@@Code
set_option linter.unusedVariables false
set_option linter.unusedSimpArgs false
namespace Jvm.RoadKit
open Sem ClassFile Op Lib Jvm.Stand Jvm.Free Jvm.LawKit
section New
variable {p : Program} {l : Launch} {e : Env} {R : Room} {s : State} {m : MethodId} {args : Array Value} {below : List Frame} {meth : Method} {c : Code} {T : State} {locs : List Loc} {cells slots : Nat}
theorem retI (X : Stand p l e R s m args below meth c T locs cells slots) (hx : p.tables.exec = Jvm.exec) {pc : Nat} {Ls : Array Slot} {z : Int32} {rest : List Value} (hret : meth.sig.returnType = some .int) (hd : decode c.code pc = .ok (.ireturn, 1)) {fs : List Frame}
    (hl : ∀ (f : JFrame) (acts : List Action), f.method = m → f.locked = none → f.entered = [] → (doReturn e (T.setTop f) acts (some (.int z))).1 = T.setFrames fs) : Steps p.tables e below (T.setTop (mkF m pc Ls (.int z :: rest))) (T.setFrames fs) := by
  have hm' : T.vm.method? m = some meth := X.method'
  have hn : narrow .int (.int z) = .int z := rfl
  show Steps p.tables e below (T.setTop { method := m, pc := pc, locals := Ls, stack := _ :: rest, locked := none }) _
  jvm_step X.here [X.here.top, hx, hd, hm', hret, hn]
  first | (intro acts; rw [hl _ acts rfl rfl rfl]) | rw [hl _ _ rfl rfl rfl]
  exact Steps.refl _
end New
end Jvm.RoadKit
namespace Jvm.Pilot.@@N@@
open Jvm Jvm.ClassFile Sem Op Lib Jvm.Free Jvm.Stand Jvm.LawKit Jvm.RoadKit Bundle Jvm.Pilot.@@N@@.Jvm.D
theorem own_root {Z : State} {a0 : Array Value} {O K : String} {n : Nat} (w : (Jvm.Cond.noSuperclass O).before a0 Z = true) (wk : (Jvm.Cond.instantiable K n).before a0 Z = true) (hn : O ≠ K) : NS Z O K := by
  obtain ⟨c, k, h1, h2, h3, -, -⟩ := Cond.noSuperclass_spec w
  obtain ⟨t, kt, g1, -⟩ := Cond.instantiable_spec wk
  have ne := ids_ne h1 g1 hn
  refine ⟨c, t, h1, g1, fun fuel => ?_⟩
  cases fuel with
  | zero => rfl
  | succ f => simp [Vm.isSubclassAux, ne, h2, h3]
theorem own_no {Z : State} {a0 : Array Value} {C S K : String} {n : Nat} (w : (Jvm.Cond.superclass C S).before a0 Z = true) (wk : (Jvm.Cond.instantiable K n).before a0 Z = true) (ns : NS Z C K) (hn : C ≠ K) : ∃ c t, Z.vm.findClass C = some c ∧ Z.vm.findClass K = some t ∧ Z.vm.assignable c t = false := by
  obtain ⟨c, t, h0, g0, n3⟩ := ns
  obtain ⟨p, k, kp, h1, h2, h3, h4, h5, -, h7⟩ := Cond.superclass_spec h0 w
  obtain ⟨t', kt, g1, g2, g3, g4, -, -⟩ := Cond.instantiable_spec wk
  cases g0.symm.trans g1
  have g5 : kt.isInterface = false := by
    cases q : kt.isInterface
    · rfl
    · rw [q] at g4; simp at g4
  have ne := ids_ne h0 g0 hn
  refine ⟨c, t, h0, g0, ?_⟩
  show Z.vm.assignableAux (255 + 1) c t = false
  simp [Vm.assignableAux, ne, h2, g2, h5, g3, g5, Vm.isSubclass, n3]
def own_min (a b : Int32) : Int32 := if b < a then b else a
def own_max (a b : Int32) : Int32 := if a < b then b else a
theorem own_le (a b : Int32) : ¬ (own_max a b < own_min a b) := by
  unfold own_max own_min
  simp only [Int32.lt_iff_toInt_lt]
  split <;> split <;> omega
def own_req (l1 h1 l2 h2 : Int32) : Int32 := if l2 = l1 then (if h2 = h1 then 1 else 0) else 0
theorem own_sym (l1 h1 l2 h2 : Int32) : own_req l1 h1 l2 h2 = if l1 = l2 then (if h1 = h2 then (1 : Int32) else (0 : Int32)) else (0 : Int32) := by
  unfold own_req
  by_cases a : l1 = l2
  · by_cases b : h1 = h2
    · simp [a, b]
    · simp [a, b, Ne.symm b]
  · simp [a, Ne.symm a]
theorem d1_0 : decode jdk_29_method_69_code 0 = .ok (.iload_n 0, 1) := by decide +kernel
theorem d1_1 : decode jdk_29_method_69_code 1 = .ok (.iload_n 1, 1) := by decide +kernel
theorem d1_2 : decode jdk_29_method_69_code 2 = .ok (.if_icmp .gt 7, 3) := by decide +kernel
theorem d1_9 : decode jdk_29_method_69_code 9 = .ok (.iload_n 1, 1) := by decide +kernel
theorem d1_5 : decode jdk_29_method_69_code 5 = .ok (.iload_n 0, 1) := by decide +kernel
theorem d1_6 : decode jdk_29_method_69_code 6 = .ok (.goto 4, 3) := by decide +kernel
theorem d1_10 : decode jdk_29_method_69_code 10 = .ok (.ireturn, 1) := by decide +kernel
theorem ef_rm1 (m : MethodId) (x0 : Int32) (x1 : Int32) : entryFrame m #[(.int x0), (.int x1)] 2 = mkF m 0 #[.val (.int x0), .val (.int x1)] [] := by first | (simp [entryFrame, mkF, argsToLocals, Value.category]; done) | rfl
def Q_rm1 (Z : State) (p1 p2 : Int32) (h0 : Heap) (n0 : Nat) (v : Option Value) (h : Heap) (L : List Loc) : Prop := v = some (.int (own_min p1 p2)) ∧ Fr n0 L ∧ h = h0
set_option maxRecDepth 65536 in
set_option maxHeartbeats 40000000 in
theorem rm1 (l : Launch) (Z : State) (a0 : Array Value) (hw : ∀ d ∈ tables_1, d.before a0 Z = true) (ws : List Jvm.Cond) (p1 p2 : Int32) (h0 : Heap) (n0 : Nat) (Z0 : n0 ≤ h0.size) :
    MetFree l (⟨"java/lang/Math", "min", "(II)I"⟩ : MethodName) (head1 (Jvm.Cond.code (⟨"java/lang/Math", "min", "(II)I"⟩ : MethodName) jdk_29_method_69_code 2 (some .int) :: ws) ({ frames := 0, cells := 0, slots := 0, locals := 0 } : Room)) (fun a U => a = #[(.int p1), (.int p2)] ∧ Z.Warmed39 U.vm ∧ U.heap = h0) (fun _ _ _ _ _ => True) (fun _ U o U' => ∃ v L, o = .returned v ∧ Q_rm1 Z p1 p2 h0 n0 v U'.heap L ∧ FrameEnd U o U' L ({ frames := 0, cells := 0, slots := 0, locals := 0 } : Room).cells ({ frames := 0, cells := 0, slots := 0, locals := 0 } : Room).slots) := by
  refine MetFree.of_bodySF (Jvm.Free.JP.mathPlain rfl (by decide +kernel)) hisR ?_
  intro p e s m args below meth c s₁ Bd hml0 hP hK
  obtain ⟨rfl, hZ, hh⟩ := hP
  have hx := Bd.exec
  have hby := Bd.bytes
  have hml : c.maxLocals = 2 := hml0
  have hown : s.vm.findClass "java/lang/Math" = some m.cls := findClass_of_methodNamed Bd.named
  have hnm := (name_of_methodNamed Bd.named Bd.method).1
  have X0 : Stand p l e ({ frames := 0, cells := 0, slots := 0, locals := 0 } : Room) s m #[(.int p1), (.int p2)] below meth c s₁ [] 0 0 := Stand.of_body Bd
  have e0 : s₁.heap = h0 := by rw [← hh, Bd.state]; rfl
  have N0 := Fr.nil n0
  have pre0 : ∀ t, Steps p.tables e below (s₁.setTop (mkF m 0 #[.val (.int p1), .val (.int p2)] [])) t → Steps p.tables e below (s₁.setTop (entryFrame m #[(.int p1), (.int p2)] 2)) t := fun t k => castTop (ef_rm1 m p1 p2) k
  have k1 : ∀ t, Steps p.tables e below (s₁.setTop (mkF m 2 #[.val (.int p1), .val (.int p2)] [(.int p2), (.int p1)])) t → Steps p.tables e below (s₁.setTop (entryFrame m #[(.int p1), (.int p2)] 2)) t := fun t kt => pre0 t (by
      show Steps p.tables e below (s₁.setTop (mkF m 0 #[.val (.int p1), .val (.int p2)] [])) _
      refine XS.iloadN X0.here hx rfl (hb hby d1_0) rfl ?_
      show Steps p.tables e below (s₁.setTop (mkF m 1 #[.val (.int p1), .val (.int p2)] [(.int p1)])) _
      refine XS.iloadN X0.here hx rfl (hb hby d1_1) rfl ?_
      exact kt)
  obtain ⟨v3, hv3⟩ : ∃ v : Int32, v = (if p2 < p1 then p2 else p1) := ⟨_, rfl⟩
  have k4 : ∀ t, Steps p.tables e below (s₁.setTop (mkF m 10 #[.val (.int p1), .val (.int p2)] [(.int v3)])) t → Steps p.tables e below (s₁.setTop (entryFrame m #[(.int p1), (.int p2)] 2)) t := by
    intro t kt
    by_cases hc2_2 : p2 < p1
    · rw [show v3 = p2 from (hv3.trans (if_pos hc2_2))] at kt
      exact k1 t (by
          show Steps p.tables e below (s₁.setTop (mkF m 2 #[.val (.int p1), .val (.int p2)] [(.int p2), (.int p1)])) _
          refine XS.icmpYes X0.here hx rfl (pc0 := 2) (pc' := 9) rfl (hb hby d1_2) rfl (tlt hc2_2).2.2.1 (by decide) (by decide) ?_
          show Steps p.tables e below (s₁.setTop (mkF m 9 #[.val (.int p1), .val (.int p2)] [])) _
          refine XS.iloadN X0.here hx rfl (hb hby d1_9) rfl ?_
          exact kt)
    · rw [show v3 = p1 from (hv3.trans (if_neg hc2_2))] at kt
      exact k1 t (by
          show Steps p.tables e below (s₁.setTop (mkF m 2 #[.val (.int p1), .val (.int p2)] [(.int p2), (.int p1)])) _
          refine XS.icmpNo X0.here hx rfl (hb hby d1_2) rfl (flt hc2_2).2.2.1 ?_
          show Steps p.tables e below (s₁.setTop (mkF m 5 #[.val (.int p1), .val (.int p2)] [])) _
          refine XS.iloadN X0.here hx rfl (hb hby d1_5) rfl ?_
          show Steps p.tables e below (s₁.setTop (mkF m 6 #[.val (.int p1), .val (.int p2)] [(.int p1)])) _
          refine XS.goto X0.here hx rfl (pc0 := 6) (pc' := 10) rfl (hb hby d1_6) (by decide) (by decide) ?_
          exact kt)
  obtain ⟨fs, hr, hrun, hended, hW, hsame⟩ := X0.leave (v := some (.int v3)) (fun h => by rw [Bd.returns] at h; cases h)
  refine ⟨_, _, k4 _ ?_, hrun, hended, _, _, rfl, ?_, ⟨_, rfl⟩, hW, hsame.mono (by decide) (by decide)⟩
  · show Steps p.tables e below (s₁.setTop (mkF m 10 #[.val (.int p1), .val (.int p2)] [(.int v3)])) _
    exact retI X0 hx Bd.returns (hb hby d1_10) hr
  · show Q_rm1 Z p1 p2 h0 n0 _ s₁.heap _
    rw [e0]
    exact ⟨by rw [hv3]; rfl, N0, rfl⟩
theorem d2_0 : decode jdk_29_method_65_code 0 = .ok (.iload_n 0, 1) := by decide +kernel
theorem d2_1 : decode jdk_29_method_65_code 1 = .ok (.iload_n 1, 1) := by decide +kernel
theorem d2_2 : decode jdk_29_method_65_code 2 = .ok (.if_icmp .lt 7, 3) := by decide +kernel
theorem d2_9 : decode jdk_29_method_65_code 9 = .ok (.iload_n 1, 1) := by decide +kernel
theorem d2_5 : decode jdk_29_method_65_code 5 = .ok (.iload_n 0, 1) := by decide +kernel
theorem d2_6 : decode jdk_29_method_65_code 6 = .ok (.goto 4, 3) := by decide +kernel
theorem d2_10 : decode jdk_29_method_65_code 10 = .ok (.ireturn, 1) := by decide +kernel
theorem ef_rm2 (m : MethodId) (x0 : Int32) (x1 : Int32) : entryFrame m #[(.int x0), (.int x1)] 2 = mkF m 0 #[.val (.int x0), .val (.int x1)] [] := by first | (simp [entryFrame, mkF, argsToLocals, Value.category]; done) | rfl
def Q_rm2 (Z : State) (p1 p2 : Int32) (h0 : Heap) (n0 : Nat) (v : Option Value) (h : Heap) (L : List Loc) : Prop := v = some (.int (own_max p1 p2)) ∧ Fr n0 L ∧ h = h0
set_option maxRecDepth 65536 in
set_option maxHeartbeats 40000000 in
theorem rm2 (l : Launch) (Z : State) (a0 : Array Value) (hw : ∀ d ∈ tables_1, d.before a0 Z = true) (ws : List Jvm.Cond) (p1 p2 : Int32) (h0 : Heap) (n0 : Nat) (Z0 : n0 ≤ h0.size) :
    MetFree l (⟨"java/lang/Math", "max", "(II)I"⟩ : MethodName) (head1 (Jvm.Cond.code (⟨"java/lang/Math", "max", "(II)I"⟩ : MethodName) jdk_29_method_65_code 2 (some .int) :: ws) ({ frames := 0, cells := 0, slots := 0, locals := 0 } : Room)) (fun a U => a = #[(.int p1), (.int p2)] ∧ Z.Warmed39 U.vm ∧ U.heap = h0) (fun _ _ _ _ _ => True) (fun _ U o U' => ∃ v L, o = .returned v ∧ Q_rm2 Z p1 p2 h0 n0 v U'.heap L ∧ FrameEnd U o U' L ({ frames := 0, cells := 0, slots := 0, locals := 0 } : Room).cells ({ frames := 0, cells := 0, slots := 0, locals := 0 } : Room).slots) := by
  refine MetFree.of_bodySF (Jvm.Free.JP.mathPlain rfl (by decide +kernel)) hisR ?_
  intro p e s m args below meth c s₁ Bd hml0 hP hK
  obtain ⟨rfl, hZ, hh⟩ := hP
  have hx := Bd.exec
  have hby := Bd.bytes
  have hml : c.maxLocals = 2 := hml0
  have hown : s.vm.findClass "java/lang/Math" = some m.cls := findClass_of_methodNamed Bd.named
  have hnm := (name_of_methodNamed Bd.named Bd.method).1
  have X0 : Stand p l e ({ frames := 0, cells := 0, slots := 0, locals := 0 } : Room) s m #[(.int p1), (.int p2)] below meth c s₁ [] 0 0 := Stand.of_body Bd
  have e0 : s₁.heap = h0 := by rw [← hh, Bd.state]; rfl
  have N0 := Fr.nil n0
  have pre0 : ∀ t, Steps p.tables e below (s₁.setTop (mkF m 0 #[.val (.int p1), .val (.int p2)] [])) t → Steps p.tables e below (s₁.setTop (entryFrame m #[(.int p1), (.int p2)] 2)) t := fun t k => castTop (ef_rm2 m p1 p2) k
  have k5 : ∀ t, Steps p.tables e below (s₁.setTop (mkF m 2 #[.val (.int p1), .val (.int p2)] [(.int p2), (.int p1)])) t → Steps p.tables e below (s₁.setTop (entryFrame m #[(.int p1), (.int p2)] 2)) t := fun t kt => pre0 t (by
      show Steps p.tables e below (s₁.setTop (mkF m 0 #[.val (.int p1), .val (.int p2)] [])) _
      refine XS.iloadN X0.here hx rfl (hb hby d2_0) rfl ?_
      show Steps p.tables e below (s₁.setTop (mkF m 1 #[.val (.int p1), .val (.int p2)] [(.int p1)])) _
      refine XS.iloadN X0.here hx rfl (hb hby d2_1) rfl ?_
      exact kt)
  obtain ⟨v7, hv7⟩ : ∃ v : Int32, v = (if p1 < p2 then p2 else p1) := ⟨_, rfl⟩
  have k8 : ∀ t, Steps p.tables e below (s₁.setTop (mkF m 10 #[.val (.int p1), .val (.int p2)] [(.int v7)])) t → Steps p.tables e below (s₁.setTop (entryFrame m #[(.int p1), (.int p2)] 2)) t := by
    intro t kt
    by_cases hc2_6 : p1 < p2
    · rw [show v7 = p2 from (hv7.trans (if_pos hc2_6))] at kt
      exact k5 t (by
          show Steps p.tables e below (s₁.setTop (mkF m 2 #[.val (.int p1), .val (.int p2)] [(.int p2), (.int p1)])) _
          refine XS.icmpYes X0.here hx rfl (pc0 := 2) (pc' := 9) rfl (hb hby d2_2) rfl (tlt hc2_6).1 (by decide) (by decide) ?_
          show Steps p.tables e below (s₁.setTop (mkF m 9 #[.val (.int p1), .val (.int p2)] [])) _
          refine XS.iloadN X0.here hx rfl (hb hby d2_9) rfl ?_
          exact kt)
    · rw [show v7 = p1 from (hv7.trans (if_neg hc2_6))] at kt
      exact k5 t (by
          show Steps p.tables e below (s₁.setTop (mkF m 2 #[.val (.int p1), .val (.int p2)] [(.int p2), (.int p1)])) _
          refine XS.icmpNo X0.here hx rfl (hb hby d2_2) rfl (flt hc2_6).1 ?_
          show Steps p.tables e below (s₁.setTop (mkF m 5 #[.val (.int p1), .val (.int p2)] [])) _
          refine XS.iloadN X0.here hx rfl (hb hby d2_5) rfl ?_
          show Steps p.tables e below (s₁.setTop (mkF m 6 #[.val (.int p1), .val (.int p2)] [(.int p1)])) _
          refine XS.goto X0.here hx rfl (pc0 := 6) (pc' := 10) rfl (hb hby d2_6) (by decide) (by decide) ?_
          exact kt)
  obtain ⟨fs, hr, hrun, hended, hW, hsame⟩ := X0.leave (v := some (.int v7)) (fun h => by rw [Bd.returns] at h; cases h)
  refine ⟨_, _, k8 _ ?_, hrun, hended, _, _, rfl, ?_, ⟨_, rfl⟩, hW, hsame.mono (by decide) (by decide)⟩
  · show Steps p.tables e below (s₁.setTop (mkF m 10 #[.val (.int p1), .val (.int p2)] [(.int v7)])) _
    exact retI X0 hx Bd.returns (hb hby d2_10) hr
  · show Q_rm2 Z p1 p2 h0 n0 _ s₁.heap _
    rw [e0]
    exact ⟨by rw [hv7]; rfl, N0, rfl⟩
theorem d3_0 : decode prog_70_method_1_code 0 = .ok (.aload_n 0, 1) := by decide +kernel
theorem d3_1 : decode prog_70_method_1_code 1 = .ok (.invokespecial 1, 3) := by decide +kernel
theorem d3_4 : decode prog_70_method_1_code 4 = .ok (.iload_n 1, 1) := by decide +kernel
theorem d3_5 : decode prog_70_method_1_code 5 = .ok (.iload_n 2, 1) := by decide +kernel
theorem d3_6 : decode prog_70_method_1_code 6 = .ok (.if_icmp .le 18, 3) := by decide +kernel
theorem d3_24 : decode prog_70_method_1_code 24 = .ok (.aload_n 0, 1) := by decide +kernel
theorem d3_25 : decode prog_70_method_1_code 25 = .ok (.iload_n 1, 1) := by decide +kernel
theorem d3_26 : decode prog_70_method_1_code 26 = .ok (.putfield 16, 3) := by decide +kernel
theorem d3_29 : decode prog_70_method_1_code 29 = .ok (.aload_n 0, 1) := by decide +kernel
theorem d3_30 : decode prog_70_method_1_code 30 = .ok (.iload_n 2, 1) := by decide +kernel
theorem d3_31 : decode prog_70_method_1_code 31 = .ok (.putfield 22, 3) := by decide +kernel
theorem d3_34 : decode prog_70_method_1_code 34 = .ok (.return_, 1) := by decide +kernel
theorem pn_c0 : plainName "com/example/evntual/evntual/engine/RangeType" = true := by first | (simp [plainName, overriddenIn]; done) | decide +kernel
theorem ef_rm3 (m : MethodId) (x0 : Addr) (x1 : Int32) (x2 : Int32) : entryFrame m #[(.ref x0), (.int x1), (.int x2)] 3 = mkF m 0 #[.val (.ref x0), .val (.int x1), .val (.int x2)] [] := by first | (simp [entryFrame, mkF, argsToLocals, Value.category]; done) | rfl
def Q_rm3 (Z : State) (a0x : Addr) (p1 : Int32) (p2 : Int32) (h0 : Heap) (n0 : Nat) (v : Option Value) (h : Heap) (L : List Loc) : Prop := v = none ∧ Fr n0 L ∧ Keep h0 h [a0x] ∧ Exa Z h a0x "com/example/evntual/evntual/engine/RangeType" ∧ Fld Z h a0x "com/example/evntual/evntual/engine/RangeType" "low" "I" (.int p1) ∧ Fld Z h a0x "com/example/evntual/evntual/engine/RangeType" "high" "I" (.int p2)
set_option maxRecDepth 65536 in
set_option maxHeartbeats 40000000 in
theorem rm3 (l : Launch) (Z : State) (a0 : Array Value) (hw : ∀ d ∈ tables_1, d.before a0 Z = true) (ws : List Jvm.Cond) (a0x : Addr) (p1 : Int32) (p2 : Int32) (h0 : Heap) (n0 : Nat) (Z0 : n0 ≤ h0.size) (E_a : Exa Z h0 a0x "com/example/evntual/evntual/engine/RangeType") (g_a : n0 ≤ a0x) (F_low : Fld Z h0 a0x "com/example/evntual/evntual/engine/RangeType" "low" "I" (.int (0 : Int32))) (F_high : Fld Z h0 a0x "com/example/evntual/evntual/engine/RangeType" "high" "I" (.int (0 : Int32))) (hle : ¬ (p2 < p1)) :
    MetFree l (⟨"com/example/evntual/evntual/engine/RangeType", "<init>", "(II)V"⟩ : MethodName) (head1 (Jvm.Cond.code (⟨"com/example/evntual/evntual/engine/RangeType", "<init>", "(II)V"⟩ : MethodName) prog_70_method_1_code 3 none :: ws) ({ frames := 1, cells := 0, slots := 0, locals := 12 } : Room)) (fun a U => a = #[(.ref a0x), (.int p1), (.int p2)] ∧ Z.Warmed39 U.vm ∧ U.heap = h0) (fun _ _ _ _ _ => True) (fun _ U o U' => ∃ v L, o = .returned v ∧ Q_rm3 Z a0x p1 p2 h0 n0 v U'.heap L ∧ FrameEnd U o U' L ({ frames := 1, cells := 0, slots := 0, locals := 12 } : Room).cells ({ frames := 1, cells := 0, slots := 0, locals := 12 } : Room).slots) := by
  refine MetFree.of_bodySF (plainFor_of_name pn_c0) hisR ?_
  intro p e s m args below meth c s₁ Bd hml0 hP hK
  obtain ⟨rfl, hZ, hh⟩ := hP
  have hx := Bd.exec
  have hby := Bd.bytes
  have hml : c.maxLocals = 3 := hml0
  have hown : s.vm.findClass "com/example/evntual/evntual/engine/RangeType" = some m.cls := findClass_of_methodNamed Bd.named
  have hnm := (name_of_methodNamed Bd.named Bd.method).1
  have X0 : Stand p l e ({ frames := 1, cells := 0, slots := 0, locals := 12 } : Room) s m #[(.ref a0x), (.int p1), (.int p2)] below meth c s₁ [] 0 0 := Stand.of_body Bd
  have e0 : s₁.heap = h0 := by rw [← hh, Bd.state]; rfl
  have N0 := Fr.nil n0
  have pre0 : ∀ t, Steps p.tables e below (s₁.setTop (mkF m 0 #[.val (.ref a0x), .val (.int p1), .val (.int p2)] [])) t → Steps p.tables e below (s₁.setTop (entryFrame m #[(.ref a0x), (.int p1), (.int p2)] 3)) t := fun t k => castTop (ef_rm3 m a0x p1 p2) k
  obtain ⟨T9, X9, e9, st9⟩ := initO X0 hx hZ hown (hw _ (List.mem_of_getElem? (i := 13) rfl)) (hw _ (List.mem_of_getElem? (i := 14) rfl)) (hw _ (List.mem_of_getElem? (i := 15) rfl)) e0 (g := (mkF m 1 #[.val (.ref a0x), .val (.int p1), .val (.int p2)] [(.ref a0x)])) rfl (by rw [hml]; rfl) rfl (hb hby d3_1) (by decide) (W := 0) (by show 2 * 0 + _ ≤ _; exact Nat.le_of_eq rfl) (by decide)
  obtain ⟨T10, h10, X10, e10, W10, st10⟩ := putF X9 hx hZ hown (host := "") (Or.inl (hw _ (List.mem_of_getElem? (i := 16) rfl))) Via.refl e9 F_low E_a (Or.inr ⟨(hw _ (List.mem_of_getElem? (i := 17) rfl)), rfl, hnm⟩) (hw _ (List.mem_of_getElem? (i := 8) rfl)) (ty := .int) (by decide) rfl rfl (g := (mkF m 26 #[.val (.ref a0x), .val (.int p1), .val (.int p2)] [(.int p1), (.ref a0x)])) rfl rfl (hb hby d3_26)
  have Fw10 := F_low.same W10
  have E_a'11 := E_a.wr W10
  have F_high'12 := F_high.other W10 (Or.inr (slot_ne (Or.inr (hw _ (List.mem_of_getElem? (i := 19) rfl))) (Or.inr (hw _ (List.mem_of_getElem? (i := 17) rfl))) (by decide) (t := .int) (t' := .int) (by decide) (by decide)))
  have Z_13 : n0 ≤ h10.size := Nat.le_trans Z0 (Nat.le_of_eq (Wr.size W10).symm)
  have N10 := Fr.snoc X10 N0 g_a
  have K10 : Keep h0 h10 [a0x] := (Keep.refl h0 [a0x]).wr W10 (Or.inl (List.mem_of_getElem? (i := 0) rfl))
  obtain ⟨T14, h14, X14, e14, W14, st14⟩ := putF X10 hx hZ hown (host := "") (Or.inl (hw _ (List.mem_of_getElem? (i := 18) rfl))) Via.refl e10 F_high'12 E_a'11 (Or.inr ⟨(hw _ (List.mem_of_getElem? (i := 19) rfl)), rfl, hnm⟩) (hw _ (List.mem_of_getElem? (i := 8) rfl)) (ty := .int) (by decide) rfl rfl (g := (mkF m 31 #[.val (.ref a0x), .val (.int p1), .val (.int p2)] [(.int p2), (.ref a0x)])) rfl rfl (hb hby d3_31)
  have Fw14 := F_high'12.same W14
  have E_a'15 := E_a'11.wr W14
  have Fw10'16 := Fw10.other W14 (Or.inr (slot_ne (Or.inr (hw _ (List.mem_of_getElem? (i := 17) rfl))) (Or.inr (hw _ (List.mem_of_getElem? (i := 19) rfl))) (by decide) (t := .int) (t' := .int) (by decide) (by decide)))
  have Z_17 : n0 ≤ h14.size := Nat.le_trans Z_13 (Nat.le_of_eq (Wr.size W14).symm)
  have N14 := Fr.snoc X14 N10 g_a
  have K14 : Keep h0 h14 [a0x] := K10.wr W14 (Or.inl (List.mem_of_getElem? (i := 0) rfl))
  have k18 : ∀ t, Steps p.tables e below (T14.setTop (mkF m 34 #[.val (.ref a0x), .val (.int p1), .val (.int p2)] [])) t → Steps p.tables e below (s₁.setTop (entryFrame m #[(.ref a0x), (.int p1), (.int p2)] 3)) t := fun t kt => pre0 t (by
      let A0 : Array Slot := #[.val (.ref a0x), .val (.int p1), .val (.int p2)]
      show Steps p.tables e below (s₁.setTop (mkF m 0 A0 [])) _
      refine XS.aloadN X0.here hx rfl (hb hby d3_0) rfl rfl ?_
      show Steps p.tables e below (s₁.setTop (mkF m 1 A0 [(.ref a0x)])) _
      refine st9 _ ?_
      show Steps p.tables e below (T9.setTop (mkF m 4 A0 [])) _
      refine XS.iloadN X9.here hx rfl (hb hby d3_4) rfl ?_
      show Steps p.tables e below (T9.setTop (mkF m 5 A0 [(.int p1)])) _
      refine XS.iloadN X9.here hx rfl (hb hby d3_5) rfl ?_
      show Steps p.tables e below (T9.setTop (mkF m 6 A0 [(.int p2), (.int p1)])) _
      refine XS.icmpYes X9.here hx rfl (pc0 := 6) (pc' := 24) rfl (hb hby d3_6) rfl (flt hle).2.2.2 (by decide) (by decide) ?_
      show Steps p.tables e below (T9.setTop (mkF m 24 A0 [])) _
      refine XS.aloadN X9.here hx rfl (hb hby d3_24) rfl rfl ?_
      show Steps p.tables e below (T9.setTop (mkF m 25 A0 [(.ref a0x)])) _
      refine XS.iloadN X9.here hx rfl (hb hby d3_25) rfl ?_
      show Steps p.tables e below (T9.setTop (mkF m 26 A0 [(.int p1), (.ref a0x)])) _
      refine st10 _ ?_
      show Steps p.tables e below (T10.setTop (mkF m 29 A0 [])) _
      refine XS.aloadN X10.here hx rfl (hb hby d3_29) rfl rfl ?_
      show Steps p.tables e below (T10.setTop (mkF m 30 A0 [(.ref a0x)])) _
      refine XS.iloadN X10.here hx rfl (hb hby d3_30) rfl ?_
      show Steps p.tables e below (T10.setTop (mkF m 31 A0 [(.int p2), (.ref a0x)])) _
      refine st14 _ ?_
      exact kt)
  obtain ⟨fs, hr, hrun, hended, hW, hsame⟩ := X14.leave (v := none) (fun _ => rfl)
  refine ⟨_, _, k18 _ ?_, hrun, hended, _, _, rfl, ?_, ⟨_, rfl⟩, hW, hsame.mono (by decide) (by decide)⟩
  · show Steps p.tables e below (T14.setTop (mkF m 34 #[.val (.ref a0x), .val (.int p1), .val (.int p2)] [])) _
    exact X14.returnOut hx Bd.returns (hb hby d3_34) hr
  · show Q_rm3 Z a0x p1 p2 h0 n0 _ T14.heap _
    rw [e14]
    exact ⟨rfl, N14, K14, E_a'15, Fw10'16, Fw14⟩
theorem d5_0 : decode prog_70_method_6_code 0 = .ok (.aload_n 1, 1) := by decide +kernel
theorem d5_1 : decode prog_70_method_6_code 1 = .ok (.instanceof 17, 3) := by decide +kernel
theorem d5_4 : decode prog_70_method_6_code 4 = .ok (.ifCond .eq 34, 3) := by decide +kernel
theorem d5_7 : decode prog_70_method_6_code 7 = .ok (.aload_n 1, 1) := by decide +kernel
theorem d5_8 : decode prog_70_method_6_code 8 = .ok (.checkcast 17, 3) := by decide +kernel
theorem d5_11 : decode prog_70_method_6_code 11 = .ok (.astore_n 2, 1) := by decide +kernel
theorem d5_12 : decode prog_70_method_6_code 12 = .ok (.aload_n 2, 1) := by decide +kernel
theorem d5_13 : decode prog_70_method_6_code 13 = .ok (.getfield 16, 3) := by decide +kernel
theorem d5_16 : decode prog_70_method_6_code 16 = .ok (.aload_n 0, 1) := by decide +kernel
theorem d5_17 : decode prog_70_method_6_code 17 = .ok (.getfield 16, 3) := by decide +kernel
theorem d5_20 : decode prog_70_method_6_code 20 = .ok (.if_icmp .ne 18, 3) := by decide +kernel
theorem d5_23 : decode prog_70_method_6_code 23 = .ok (.aload_n 2, 1) := by decide +kernel
theorem d5_24 : decode prog_70_method_6_code 24 = .ok (.getfield 22, 3) := by decide +kernel
theorem d5_27 : decode prog_70_method_6_code 27 = .ok (.aload_n 0, 1) := by decide +kernel
theorem d5_28 : decode prog_70_method_6_code 28 = .ok (.getfield 22, 3) := by decide +kernel
theorem d5_31 : decode prog_70_method_6_code 31 = .ok (.if_icmp .ne 7, 3) := by decide +kernel
theorem d5_34 : decode prog_70_method_6_code 34 = .ok (.iconst 1, 1) := by decide +kernel
theorem d5_35 : decode prog_70_method_6_code 35 = .ok (.goto 4, 3) := by decide +kernel
theorem d5_39 : decode prog_70_method_6_code 39 = .ok (.ireturn, 1) := by decide +kernel
theorem d5_38 : decode prog_70_method_6_code 38 = .ok (.iconst 0, 1) := by decide +kernel
theorem ef_rm5_r (m : MethodId) (x0 : Addr) (x1 : Addr) : entryFrame m #[(.ref x0), (.ref x1)] 3 = mkF m 0 #[.val (.ref x0), .val (.ref x1), .unset] [] := by first | (simp [entryFrame, mkF, argsToLocals, Value.category]; done) | rfl
def Q_rm5_r (Z : State) (l1 h1 l2 h2 : Int32) (h0 : Heap) (n0 : Nat) (v : Option Value) (h : Heap) (L : List Loc) : Prop := v = some (.int (own_req l1 h1 l2 h2)) ∧ Fr n0 L ∧ h = h0
set_option maxRecDepth 65536 in
set_option maxHeartbeats 40000000 in
theorem rm5_r (l : Launch) (Z : State) (a0 : Array Value) (hw : ∀ d ∈ tables_1, d.before a0 Z = true) (ws : List Jvm.Cond) (a1 a2 : Addr) (l1 h1 l2 h2 : Int32) (h0 : Heap) (n0 : Nat) (Z0 : n0 ≤ h0.size) (F1_low : Fld Z h0 a1 "com/example/evntual/evntual/engine/RangeType" "low" "I" (.int l1)) (F1_high : Fld Z h0 a1 "com/example/evntual/evntual/engine/RangeType" "high" "I" (.int h1)) (F2_low : Fld Z h0 a2 "com/example/evntual/evntual/engine/RangeType" "low" "I" (.int l2)) (F2_high : Fld Z h0 a2 "com/example/evntual/evntual/engine/RangeType" "high" "I" (.int h2)) (E2 : Exa Z h0 a2 "com/example/evntual/evntual/engine/RangeType") :
    MetFree l (⟨"com/example/evntual/evntual/engine/RangeType", "equals", "(Ljava/lang/Object;)Z"⟩ : MethodName) (head1 (Jvm.Cond.code (⟨"com/example/evntual/evntual/engine/RangeType", "equals", "(Ljava/lang/Object;)Z"⟩ : MethodName) prog_70_method_6_code 3 (some .boolean) :: ws) ({ frames := 0, cells := 0, slots := 0, locals := 0 } : Room)) (fun a U => a = #[(.ref a1), (.ref a2)] ∧ Z.Warmed39 U.vm ∧ U.heap = h0) (fun _ _ _ _ _ => True) (fun _ U o U' => ∃ v L, o = .returned v ∧ Q_rm5_r Z l1 h1 l2 h2 h0 n0 v U'.heap L ∧ FrameEnd U o U' L ({ frames := 0, cells := 0, slots := 0, locals := 0 } : Room).cells ({ frames := 0, cells := 0, slots := 0, locals := 0 } : Room).slots) := by
  refine MetFree.of_bodySF (plainFor_of_name pn_c0) hisR ?_
  intro p e s m args below meth c s₁ Bd hml0 hP hK
  obtain ⟨rfl, hZ, hh⟩ := hP
  have hx := Bd.exec
  have hby := Bd.bytes
  have hml : c.maxLocals = 3 := hml0
  have hown : s.vm.findClass "com/example/evntual/evntual/engine/RangeType" = some m.cls := findClass_of_methodNamed Bd.named
  have hnm := (name_of_methodNamed Bd.named Bd.method).1
  have X0 : Stand p l e ({ frames := 0, cells := 0, slots := 0, locals := 0 } : Room) s m #[(.ref a1), (.ref a2)] below meth c s₁ [] 0 0 := Stand.of_body Bd
  have e0 : s₁.heap = h0 := by rw [← hh, Bd.state]; rfl
  have N0 := Fr.nil n0
  have pre0 : ∀ t, Steps p.tables e below (s₁.setTop (mkF m 0 #[.val (.ref a1), .val (.ref a2), .unset] [])) t → Steps p.tables e below (s₁.setTop (entryFrame m #[(.ref a1), (.ref a2)] 3)) t := fun t k => castTop (ef_rm5_r m a1 a2) k
  obtain ⟨T19, X19, e19, st19⟩ := instY X0 hx hZ hown (hw _ (List.mem_of_getElem? (i := 25) rfl)) e0 (Ins.self E2) (g := (mkF m 1 #[.val (.ref a1), .val (.ref a2), .unset] [(.ref a2)])) rfl rfl (hb hby d5_1)
  obtain ⟨T20, X20, e20, st20⟩ := castY X19 hx hZ hown (hw _ (List.mem_of_getElem? (i := 25) rfl)) e19 (Ins.self E2) (g := (mkF m 8 #[.val (.ref a1), .val (.ref a2), .unset] [(.ref a2)])) rfl rfl (hb hby d5_8)
  obtain ⟨T21, X21, e21, st21⟩ := getF X20 hx hZ hown (host := "") (Or.inl (hw _ (List.mem_of_getElem? (i := 16) rfl))) Via.refl e20 F2_low (g := (mkF m 13 #[.val (.ref a1), .val (.ref a2), .val (.ref a2)] [(.ref a2)])) rfl rfl (hb hby d5_13)
  obtain ⟨T22, X22, e22, st22⟩ := getF X21 hx hZ hown (host := "") (Or.inl (hw _ (List.mem_of_getElem? (i := 16) rfl))) Via.refl e21 F1_low (g := (mkF m 17 #[.val (.ref a1), .val (.ref a2), .val (.ref a2)] [(.ref a1), (.int l2)])) rfl rfl (hb hby d5_17)
  have k23 : ∀ t, Steps p.tables e below (T22.setTop (mkF m 20 #[.val (.ref a1), .val (.ref a2), .val (.ref a2)] [(.int l1), (.int l2)])) t → Steps p.tables e below (s₁.setTop (entryFrame m #[(.ref a1), (.ref a2)] 3)) t := fun t kt => pre0 t (by
      let A0 : Array Slot := #[.val (.ref a1), .val (.ref a2), .unset]
      show Steps p.tables e below (s₁.setTop (mkF m 0 A0 [])) _
      refine XS.aloadN X0.here hx rfl (hb hby d5_0) rfl rfl ?_
      show Steps p.tables e below (s₁.setTop (mkF m 1 A0 [(.ref a2)])) _
      refine st19 _ ?_
      show Steps p.tables e below (T19.setTop (mkF m 4 A0 [(.int (1 : Int32))])) _
      refine XS.ifNo X19.here hx rfl (hb hby d5_4) rfl ((if0 _ _).trans (feq (by decide : ¬ ((1 : Int32) = (0 : Int32)))).1) ?_
      show Steps p.tables e below (T19.setTop (mkF m 7 A0 [])) _
      refine XS.aloadN X19.here hx rfl (hb hby d5_7) rfl rfl ?_
      show Steps p.tables e below (T19.setTop (mkF m 8 A0 [(.ref a2)])) _
      refine st20 _ ?_
      show Steps p.tables e below (T20.setTop (mkF m 11 A0 [(.ref a2)])) _
      let A1 : Array Slot := #[.val (.ref a1), .val (.ref a2), .val (.ref a2)]
      refine XS.astoreN X20.here hx rfl (hb hby d5_11) rfl rfl (l' := A1) rfl ?_
      show Steps p.tables e below (T20.setTop (mkF m 12 A1 [])) _
      refine XS.aloadN X20.here hx rfl (hb hby d5_12) rfl rfl ?_
      show Steps p.tables e below (T20.setTop (mkF m 13 A1 [(.ref a2)])) _
      refine st21 _ ?_
      show Steps p.tables e below (T21.setTop (mkF m 16 A1 [(.int l2)])) _
      refine XS.aloadN X21.here hx rfl (hb hby d5_16) rfl rfl ?_
      show Steps p.tables e below (T21.setTop (mkF m 17 A1 [(.ref a1), (.int l2)])) _
      refine st22 _ ?_
      exact kt)
  by_cases hc20_24 : l2 = l1
  · obtain ⟨T25, X25, e25, st25⟩ := getF X22 hx hZ hown (host := "") (Or.inl (hw _ (List.mem_of_getElem? (i := 18) rfl))) Via.refl e22 F2_high (g := (mkF m 24 #[.val (.ref a1), .val (.ref a2), .val (.ref a2)] [(.ref a2)])) rfl rfl (hb hby d5_24)
    obtain ⟨T26, X26, e26, st26⟩ := getF X25 hx hZ hown (host := "") (Or.inl (hw _ (List.mem_of_getElem? (i := 18) rfl))) Via.refl e25 F1_high (g := (mkF m 28 #[.val (.ref a1), .val (.ref a2), .val (.ref a2)] [(.ref a1), (.int h2)])) rfl rfl (hb hby d5_28)
    have k27 : ∀ t, Steps p.tables e below (T26.setTop (mkF m 31 #[.val (.ref a1), .val (.ref a2), .val (.ref a2)] [(.int h1), (.int h2)])) t → Steps p.tables e below (s₁.setTop (entryFrame m #[(.ref a1), (.ref a2)] 3)) t := fun t kt => k23 t (by
        let A0 : Array Slot := #[.val (.ref a1), .val (.ref a2), .val (.ref a2)]
        show Steps p.tables e below (T22.setTop (mkF m 20 A0 [(.int l1), (.int l2)])) _
        refine XS.icmpNo X22.here hx rfl (hb hby d5_20) rfl (teq hc20_24).2 ?_
        show Steps p.tables e below (T22.setTop (mkF m 23 A0 [])) _
        refine XS.aloadN X22.here hx rfl (hb hby d5_23) rfl rfl ?_
        show Steps p.tables e below (T22.setTop (mkF m 24 A0 [(.ref a2)])) _
        refine st25 _ ?_
        show Steps p.tables e below (T25.setTop (mkF m 27 A0 [(.int h2)])) _
        refine XS.aloadN X25.here hx rfl (hb hby d5_27) rfl rfl ?_
        show Steps p.tables e below (T25.setTop (mkF m 28 A0 [(.ref a1), (.int h2)])) _
        refine st26 _ ?_
        exact kt)
    by_cases hc31_28 : h2 = h1
    · have k29 : ∀ t, Steps p.tables e below (T26.setTop (mkF m 39 #[.val (.ref a1), .val (.ref a2), .val (.ref a2)] [(.int (1 : Int32))])) t → Steps p.tables e below (s₁.setTop (entryFrame m #[(.ref a1), (.ref a2)] 3)) t := fun t kt => k27 t (by
          let A0 : Array Slot := #[.val (.ref a1), .val (.ref a2), .val (.ref a2)]
          show Steps p.tables e below (T26.setTop (mkF m 31 A0 [(.int h1), (.int h2)])) _
          refine XS.icmpNo X26.here hx rfl (hb hby d5_31) rfl (teq hc31_28).2 ?_
          show Steps p.tables e below (T26.setTop (mkF m 34 A0 [])) _
          refine XS.iconst X26.here hx rfl (hb hby d5_34) ?_
          show Steps p.tables e below (T26.setTop (mkF m 35 A0 [(.int (1 : Int32))])) _
          refine XS.goto X26.here hx rfl (pc0 := 35) (pc' := 39) rfl (hb hby d5_35) (by decide) (by decide) ?_
          exact kt)
      obtain ⟨fs, hr, hrun, hended, hW, hsame⟩ := X26.leave (v := some (.int (1 : Int32))) (fun h => by rw [Bd.returns] at h; cases h)
      refine ⟨_, _, k29 _ ?_, hrun, hended, _, _, rfl, ?_, ⟨_, rfl⟩, hW, hsame.mono (by decide) (by decide)⟩
      · show Steps p.tables e below (T26.setTop (mkF m 39 #[.val (.ref a1), .val (.ref a2), .val (.ref a2)] [(.int (1 : Int32))])) _
        exact retN X26 hx (t := .boolean) Bd.returns (by simp) (hb hby d5_39) hr
      · show Q_rm5_r Z l1 h1 l2 h2 h0 n0 _ T26.heap _
        rw [e26]
        exact ⟨by simp [own_req, hc20_24, hc31_28], N0, rfl⟩
    · have k30 : ∀ t, Steps p.tables e below (T26.setTop (mkF m 39 #[.val (.ref a1), .val (.ref a2), .val (.ref a2)] [(.int (0 : Int32))])) t → Steps p.tables e below (s₁.setTop (entryFrame m #[(.ref a1), (.ref a2)] 3)) t := fun t kt => k27 t (by
          let A0 : Array Slot := #[.val (.ref a1), .val (.ref a2), .val (.ref a2)]
          show Steps p.tables e below (T26.setTop (mkF m 31 A0 [(.int h1), (.int h2)])) _
          refine XS.icmpYes X26.here hx rfl (pc0 := 31) (pc' := 38) rfl (hb hby d5_31) rfl (feq hc31_28).2 (by decide) (by decide) ?_
          show Steps p.tables e below (T26.setTop (mkF m 38 A0 [])) _
          refine XS.iconst X26.here hx rfl (hb hby d5_38) ?_
          exact kt)
      obtain ⟨fs, hr, hrun, hended, hW, hsame⟩ := X26.leave (v := some (.int (0 : Int32))) (fun h => by rw [Bd.returns] at h; cases h)
      refine ⟨_, _, k30 _ ?_, hrun, hended, _, _, rfl, ?_, ⟨_, rfl⟩, hW, hsame.mono (by decide) (by decide)⟩
      · show Steps p.tables e below (T26.setTop (mkF m 39 #[.val (.ref a1), .val (.ref a2), .val (.ref a2)] [(.int (0 : Int32))])) _
        exact retN X26 hx (t := .boolean) Bd.returns (by simp) (hb hby d5_39) hr
      · show Q_rm5_r Z l1 h1 l2 h2 h0 n0 _ T26.heap _
        rw [e26]
        exact ⟨by simp [own_req, hc20_24, hc31_28], N0, rfl⟩
  · have k31 : ∀ t, Steps p.tables e below (T22.setTop (mkF m 39 #[.val (.ref a1), .val (.ref a2), .val (.ref a2)] [(.int (0 : Int32))])) t → Steps p.tables e below (s₁.setTop (entryFrame m #[(.ref a1), (.ref a2)] 3)) t := fun t kt => k23 t (by
        let A0 : Array Slot := #[.val (.ref a1), .val (.ref a2), .val (.ref a2)]
        show Steps p.tables e below (T22.setTop (mkF m 20 A0 [(.int l1), (.int l2)])) _
        refine XS.icmpYes X22.here hx rfl (pc0 := 20) (pc' := 38) rfl (hb hby d5_20) rfl (feq hc20_24).2 (by decide) (by decide) ?_
        show Steps p.tables e below (T22.setTop (mkF m 38 A0 [])) _
        refine XS.iconst X22.here hx rfl (hb hby d5_38) ?_
        exact kt)
    obtain ⟨fs, hr, hrun, hended, hW, hsame⟩ := X22.leave (v := some (.int (0 : Int32))) (fun h => by rw [Bd.returns] at h; cases h)
    refine ⟨_, _, k31 _ ?_, hrun, hended, _, _, rfl, ?_, ⟨_, rfl⟩, hW, hsame.mono (by decide) (by decide)⟩
    · show Steps p.tables e below (T22.setTop (mkF m 39 #[.val (.ref a1), .val (.ref a2), .val (.ref a2)] [(.int (0 : Int32))])) _
      exact retN X22 hx (t := .boolean) Bd.returns (by simp) (hb hby d5_39) hr
    · show Q_rm5_r Z l1 h1 l2 h2 h0 n0 _ T22.heap _
      rw [e22]
      exact ⟨by simp [own_req, hc20_24], N0, rfl⟩
theorem ef_rm5_n (m : MethodId) (x0 : Addr) : entryFrame m #[(.ref x0), .null] 3 = mkF m 0 #[.val (.ref x0), .val .null, .unset] [] := by first | (simp [entryFrame, mkF, argsToLocals, Value.category]; done) | rfl
def Q_rm5_n (Z : State)  (h0 : Heap) (n0 : Nat) (v : Option Value) (h : Heap) (L : List Loc) : Prop := v = some (.int 0) ∧ Fr n0 L ∧ h = h0
set_option maxRecDepth 65536 in
set_option maxHeartbeats 40000000 in
theorem rm5_n (l : Launch) (Z : State) (a0 : Array Value) (hw : ∀ d ∈ tables_1, d.before a0 Z = true) (ws : List Jvm.Cond) (a1 : Addr) (h0 : Heap) (n0 : Nat) (Z0 : n0 ≤ h0.size) :
    MetFree l (⟨"com/example/evntual/evntual/engine/RangeType", "equals", "(Ljava/lang/Object;)Z"⟩ : MethodName) (head1 (Jvm.Cond.code (⟨"com/example/evntual/evntual/engine/RangeType", "equals", "(Ljava/lang/Object;)Z"⟩ : MethodName) prog_70_method_6_code 3 (some .boolean) :: ws) ({ frames := 0, cells := 0, slots := 0, locals := 0 } : Room)) (fun a U => a = #[(.ref a1), .null] ∧ Z.Warmed39 U.vm ∧ U.heap = h0) (fun _ _ _ _ _ => True) (fun _ U o U' => ∃ v L, o = .returned v ∧ Q_rm5_n Z  h0 n0 v U'.heap L ∧ FrameEnd U o U' L ({ frames := 0, cells := 0, slots := 0, locals := 0 } : Room).cells ({ frames := 0, cells := 0, slots := 0, locals := 0 } : Room).slots) := by
  refine MetFree.of_bodySF (plainFor_of_name pn_c0) hisR ?_
  intro p e s m args below meth c s₁ Bd hml0 hP hK
  obtain ⟨rfl, hZ, hh⟩ := hP
  have hx := Bd.exec
  have hby := Bd.bytes
  have hml : c.maxLocals = 3 := hml0
  have hown : s.vm.findClass "com/example/evntual/evntual/engine/RangeType" = some m.cls := findClass_of_methodNamed Bd.named
  have hnm := (name_of_methodNamed Bd.named Bd.method).1
  have X0 : Stand p l e ({ frames := 0, cells := 0, slots := 0, locals := 0 } : Room) s m #[(.ref a1), .null] below meth c s₁ [] 0 0 := Stand.of_body Bd
  have e0 : s₁.heap = h0 := by rw [← hh, Bd.state]; rfl
  have N0 := Fr.nil n0
  have pre0 : ∀ t, Steps p.tables e below (s₁.setTop (mkF m 0 #[.val (.ref a1), .val .null, .unset] [])) t → Steps p.tables e below (s₁.setTop (entryFrame m #[(.ref a1), .null] 3)) t := fun t k => castTop (ef_rm5_n m a1) k
  have k32 : ∀ t, Steps p.tables e below (s₁.setTop (mkF m 39 #[.val (.ref a1), .val .null, .unset] [(.int (0 : Int32))])) t → Steps p.tables e below (s₁.setTop (entryFrame m #[(.ref a1), .null] 3)) t := fun t kt => pre0 t (by
      show Steps p.tables e below (s₁.setTop (mkF m 0 #[.val (.ref a1), .val .null, .unset] [])) _
      refine XS.aloadN X0.here hx rfl (hb hby d5_0) rfl rfl ?_
      show Steps p.tables e below (s₁.setTop (mkF m 1 #[.val (.ref a1), .val .null, .unset] [.null])) _
      refine X0.instanceofNull hx (g := (mkF m 1 #[.val (.ref a1), .val .null, .unset] [.null])) rfl rfl (hb hby d5_1) _ ?_
      show Steps p.tables e below (s₁.setTop (mkF m 4 #[.val (.ref a1), .val .null, .unset] [(.int (0 : Int32))])) _
      refine XS.ifYes X0.here hx rfl (pc0 := 4) (pc' := 38) rfl (hb hby d5_4) rfl ((if0 _ _).trans (teq (by decide : (0 : Int32) = (0 : Int32))).1) (by decide) (by decide) ?_
      show Steps p.tables e below (s₁.setTop (mkF m 38 #[.val (.ref a1), .val .null, .unset] [])) _
      refine XS.iconst X0.here hx rfl (hb hby d5_38) ?_
      exact kt)
  obtain ⟨fs, hr, hrun, hended, hW, hsame⟩ := X0.leave (v := some (.int (0 : Int32))) (fun h => by rw [Bd.returns] at h; cases h)
  refine ⟨_, _, k32 _ ?_, hrun, hended, _, _, rfl, ?_, ⟨_, rfl⟩, hW, hsame.mono (by decide) (by decide)⟩
  · show Steps p.tables e below (s₁.setTop (mkF m 39 #[.val (.ref a1), .val .null, .unset] [(.int (0 : Int32))])) _
    exact retN X0 hx (t := .boolean) Bd.returns (by simp) (hb hby d5_39) hr
  · show Q_rm5_n Z  h0 n0 _ s₁.heap _
    rw [e0]
    exact ⟨rfl, N0, rfl⟩
theorem ef_rm5_b (m : MethodId) (x0 : Addr) (x1 : Addr) : entryFrame m #[(.ref x0), (.ref x1)] 3 = mkF m 0 #[.val (.ref x0), .val (.ref x1), .unset] [] := by first | (simp [entryFrame, mkF, argsToLocals, Value.category]; done) | rfl
def Q_rm5_b (Z : State)  (h0 : Heap) (n0 : Nat) (v : Option Value) (h : Heap) (L : List Loc) : Prop := v = some (.int 0) ∧ Fr n0 L ∧ h = h0
set_option maxRecDepth 65536 in
set_option maxHeartbeats 40000000 in
theorem rm5_b (l : Launch) (Z : State) (a0 : Array Value) (hw : ∀ d ∈ tables_1, d.before a0 Z = true) (ws : List Jvm.Cond) (a1 a2 : Addr) (h0 : Heap) (n0 : Nat) (Z0 : n0 ≤ h0.size) (E2 : Exa Z h0 a2 "com/example/evntual/evntual/engine/BoolType") :
    MetFree l (⟨"com/example/evntual/evntual/engine/RangeType", "equals", "(Ljava/lang/Object;)Z"⟩ : MethodName) (head1 (Jvm.Cond.code (⟨"com/example/evntual/evntual/engine/RangeType", "equals", "(Ljava/lang/Object;)Z"⟩ : MethodName) prog_70_method_6_code 3 (some .boolean) :: ws) ({ frames := 0, cells := 0, slots := 0, locals := 0 } : Room)) (fun a U => a = #[(.ref a1), (.ref a2)] ∧ Z.Warmed39 U.vm ∧ U.heap = h0) (fun _ _ _ _ _ => True) (fun _ U o U' => ∃ v L, o = .returned v ∧ Q_rm5_b Z  h0 n0 v U'.heap L ∧ FrameEnd U o U' L ({ frames := 0, cells := 0, slots := 0, locals := 0 } : Room).cells ({ frames := 0, cells := 0, slots := 0, locals := 0 } : Room).slots) := by
  refine MetFree.of_bodySF (plainFor_of_name pn_c0) hisR ?_
  intro p e s m args below meth c s₁ Bd hml0 hP hK
  obtain ⟨rfl, hZ, hh⟩ := hP
  have hx := Bd.exec
  have hby := Bd.bytes
  have hml : c.maxLocals = 3 := hml0
  have hown : s.vm.findClass "com/example/evntual/evntual/engine/RangeType" = some m.cls := findClass_of_methodNamed Bd.named
  have hnm := (name_of_methodNamed Bd.named Bd.method).1
  have X0 : Stand p l e ({ frames := 0, cells := 0, slots := 0, locals := 0 } : Room) s m #[(.ref a1), (.ref a2)] below meth c s₁ [] 0 0 := Stand.of_body Bd
  have e0 : s₁.heap = h0 := by rw [← hh, Bd.state]; rfl
  have N0 := Fr.nil n0
  have pre0 : ∀ t, Steps p.tables e below (s₁.setTop (mkF m 0 #[.val (.ref a1), .val (.ref a2), .unset] [])) t → Steps p.tables e below (s₁.setTop (entryFrame m #[(.ref a1), (.ref a2)] 3)) t := fun t k => castTop (ef_rm5_b m a1 a2) k
  obtain ⟨T33, X33, e33, st33⟩ := instNo X0 hx hZ hown (hw _ (List.mem_of_getElem? (i := 25) rfl)) e0 E2 (own_no (hw _ (List.mem_of_getElem? (i := 30) rfl)) (hw _ (List.mem_of_getElem? (i := 8) rfl)) (NS.step (hw _ (List.mem_of_getElem? (i := 30) rfl)) (own_root (hw _ (List.mem_of_getElem? (i := 31) rfl)) (hw _ (List.mem_of_getElem? (i := 8) rfl)) (by decide)) (by decide)) (by decide)) (g := (mkF m 1 #[.val (.ref a1), .val (.ref a2), .unset] [(.ref a2)])) rfl rfl (hb hby d5_1)
  have k34 : ∀ t, Steps p.tables e below (T33.setTop (mkF m 39 #[.val (.ref a1), .val (.ref a2), .unset] [(.int (0 : Int32))])) t → Steps p.tables e below (s₁.setTop (entryFrame m #[(.ref a1), (.ref a2)] 3)) t := fun t kt => pre0 t (by
      let A0 : Array Slot := #[.val (.ref a1), .val (.ref a2), .unset]
      show Steps p.tables e below (s₁.setTop (mkF m 0 A0 [])) _
      refine XS.aloadN X0.here hx rfl (hb hby d5_0) rfl rfl ?_
      show Steps p.tables e below (s₁.setTop (mkF m 1 A0 [(.ref a2)])) _
      refine st33 _ ?_
      show Steps p.tables e below (T33.setTop (mkF m 4 A0 [(.int (0 : Int32))])) _
      refine XS.ifYes X33.here hx rfl (pc0 := 4) (pc' := 38) rfl (hb hby d5_4) rfl ((if0 _ _).trans (teq (by decide : (0 : Int32) = (0 : Int32))).1) (by decide) (by decide) ?_
      show Steps p.tables e below (T33.setTop (mkF m 38 A0 [])) _
      refine XS.iconst X33.here hx rfl (hb hby d5_38) ?_
      exact kt)
  obtain ⟨fs, hr, hrun, hended, hW, hsame⟩ := X33.leave (v := some (.int (0 : Int32))) (fun h => by rw [Bd.returns] at h; cases h)
  refine ⟨_, _, k34 _ ?_, hrun, hended, _, _, rfl, ?_, ⟨_, rfl⟩, hW, hsame.mono (by decide) (by decide)⟩
  · show Steps p.tables e below (T33.setTop (mkF m 39 #[.val (.ref a1), .val (.ref a2), .unset] [(.int (0 : Int32))])) _
    exact retN X33 hx (t := .boolean) Bd.returns (by simp) (hb hby d5_39) hr
  · show Q_rm5_b Z  h0 n0 _ T33.heap _
    rw [e33]
    exact ⟨rfl, N0, rfl⟩
theorem pd_0 : parseMethodDescriptor "(II)I" = some ⟨[.int, .int], some .int⟩ := by decide +kernel
theorem pd_1 : parseMethodDescriptor "(II)V" = some ⟨[.int, .int], none⟩ := by decide +kernel
theorem pd_2 : parseMethodDescriptor "(Ljava/lang/Object;)Z" = some ⟨[(.object "java/lang/Object")], some .boolean⟩ := by decide +kernel
theorem pn_c1 : plainName "com/example/evntual/evntual/engine/RangeTypeEqualsPinLaw" = true := by first | (simp [plainName, overriddenIn]; done) | decide +kernel
theorem ef_rm0 (m : MethodId) (x0 : Int32) (x1 : Int32) (x2 : Int32) (x3 : Int32) (x4 : Int32) : entryFrame m #[(.int x0), (.int x1), (.int x2), (.int x3), (.int x4)] maxLocals = mkF m 0 #[.val (.int x0), .val (.int x1), .val (.int x2), .val (.int x3), .val (.int x4), .unset, .unset, .unset, .unset, .unset, .unset, .unset, .unset, .unset, .unset, .unset] [] := by first | (simp [entryFrame, mkF, argsToLocals, Value.category, maxLocals]; done) | rfl
def Q_rm0 (Z : State) (p1 p2 p3 p4 p5 : Int32) (h0 : Heap) (n0 : Nat) (v : Option Value) (h : Heap) (L : List Loc) : Prop := v = some (.int 1) ∧ Fr n0 L
set_option maxRecDepth 65536 in
set_option maxHeartbeats 40000000 in
theorem rm0 (l : Launch) (Z : State) (a0 : Array Value) (hw : ∀ d ∈ tables_1, d.before a0 Z = true) (ws : List Jvm.Cond) (p1 p2 p3 p4 p5 : Int32) (aB : Addr) (h0 : Heap) (n0 : Nat) (Z0 : n0 ≤ h0.size) (O0 : Old Z n0 h0) (SB : Sta Z Z.heap "com/example/evntual/evntual/engine/BoolType" "INSTANCE" "Lcom/example/evntual/evntual/engine/BoolType;" (.ref aB)) (EB : Exa Z h0 aB "com/example/evntual/evntual/engine/BoolType") :
    MetFree l x (head1 (Jvm.Cond.code x code maxLocals ret :: ws) room_1) (fun a U => a = #[(.int p1), (.int p2), (.int p3), (.int p4), (.int p5)] ∧ Z.Warmed39 U.vm ∧ U.heap = h0) (fun _ _ _ _ _ => True) (fun _ U o U' => ∃ v L, o = .returned v ∧ Q_rm0 Z p1 p2 p3 p4 p5 h0 n0 v U'.heap L ∧ FrameEnd U o U' L room_1.cells room_1.slots) := by
  refine MetFree.of_bodySF (plainFor_of_name pn_c1) hisR ?_
  intro p e s m args below meth c s₁ Bd hml0 hP hK
  obtain ⟨rfl, hZ, hh⟩ := hP
  have hx := Bd.exec
  have hby := Bd.bytes
  have hml : c.maxLocals = 16 := hml0
  have hown : s.vm.findClass "com/example/evntual/evntual/engine/RangeTypeEqualsPinLaw" = some m.cls := findClass_of_methodNamed Bd.named
  have hnm := (name_of_methodNamed Bd.named Bd.method).1
  have X0 : Stand p l e room_1 s m #[(.int p1), (.int p2), (.int p3), (.int p4), (.int p5)] below meth c s₁ [] 0 0 := Stand.of_body Bd
  have e0 : s₁.heap = h0 := by rw [← hh, Bd.state]; rfl
  have N0 := Fr.nil n0
  have pre0 : ∀ t, Steps p.tables e below (s₁.setTop (mkF m 0 #[.val (.int p1), .val (.int p2), .val (.int p3), .val (.int p4), .val (.int p5), .unset, .unset, .unset, .unset, .unset, .unset, .unset, .unset, .unset, .unset, .unset] [])) t → Steps p.tables e below (s₁.setTop (entryFrame m #[(.int p1), (.int p2), (.int p3), (.int p4), (.int p5)] maxLocals)) t := fun t k => castTop (ef_rm0 m p1 p2 p3 p4 p5) k
  obtain ⟨_, _, ⟨T35, L35, k35, n35⟩, -, X35, ⟨Lc35, hQ35, l35, y35, z35⟩, st35⟩ := Jvm.LawKit.callS X0 hx (y := (⟨"java/lang/Math", "min", "(II)I"⟩ : MethodName)) hown (mvT hZ (hw _ (List.mem_of_getElem? (i := 0) rfl))) (mvT hZ (hw _ (List.mem_of_getElem? (i := 1) rfl))) (mvT hZ (hw _ (List.mem_of_getElem? (i := 2) rfl))) (mvT hZ (hw _ (List.mem_of_getElem? (i := 3) rfl))) (by decide) (backOf (W := 0) (rm1 l Z a0 hw [] p1 p2 h0 n0 Z0) hZ (hw _ (List.mem_of_getElem? (i := 3) rfl)) (hw _ (List.mem_of_getElem? (i := 2) rfl)) (by decide) (by decide)) (g := (mkF m 2 #[.val (.int p1), .val (.int p2), .val (.int p3), .val (.int p4), .val (.int p5), .unset, .unset, .unset, .unset, .unset, .unset, .unset, .unset, .unset, .unset, .unset] [(.int p2), (.int p1)])) rfl (by rw [hml]; rfl) (argsL := [(.int p1), (.int p2)]) (rest := []) (lenOf pd_0 rfl) rfl (by show 2 * 0 + _ ≤ _; exact Nat.le_of_eq rfl) (hb hby at_2) (fun _ _ => ⟨rfl, e0, (by decide : 0 + 0 ≤ _), (by decide : 0 + 0 ≤ _)⟩)
  dsimp only [Pt.U, Pt.locs, Pt.cells, Pt.slots] at X35 l35 y35 z35 st35 hQ35
  subst l35 y35 z35
  obtain ⟨rfl, N35q, e35⟩ := hQ35
  have N35 := Fr.app N0 N35q
  obtain ⟨_, _, ⟨T36, L36, k36, n36⟩, -, X36, ⟨Lc36, hQ36, l36, y36, z36⟩, st36⟩ := Jvm.LawKit.callS X35 hx (y := (⟨"java/lang/Math", "max", "(II)I"⟩ : MethodName)) hown (mvT hZ (hw _ (List.mem_of_getElem? (i := 4) rfl))) (mvT hZ (hw _ (List.mem_of_getElem? (i := 5) rfl))) (mvT hZ (hw _ (List.mem_of_getElem? (i := 2) rfl))) (mvT hZ (hw _ (List.mem_of_getElem? (i := 6) rfl))) (by decide) (backOf (W := 0) (rm2 l Z a0 hw [] p1 p2 h0 n0 Z0) hZ (hw _ (List.mem_of_getElem? (i := 6) rfl)) (hw _ (List.mem_of_getElem? (i := 2) rfl)) (by decide) (by decide)) (g := (mkF m 9 #[.val (.int p1), .val (.int p2), .val (.int p3), .val (.int p4), .val (.int p5), .val (.int (own_min p1 p2)), .unset, .unset, .unset, .unset, .unset, .unset, .unset, .unset, .unset, .unset] [(.int p2), (.int p1)])) rfl (by rw [hml]; rfl) (argsL := [(.int p1), (.int p2)]) (rest := []) (lenOf pd_0 rfl) rfl (by show 2 * 0 + _ ≤ _; exact Nat.le_of_eq rfl) (hb hby at_9) (fun _ _ => ⟨rfl, e35, (by decide : 0 + 0 ≤ _), (by decide : 0 + 0 ≤ _)⟩)
  dsimp only [Pt.U, Pt.locs, Pt.cells, Pt.slots] at X36 l36 y36 z36 st36 hQ36
  subst l36 y36 z36
  obtain ⟨rfl, N36q, e36⟩ := hQ36
  have N36 := Fr.app N35 N36q
  have k37 : ∀ t, Steps p.tables e below (T36.setTop (mkF m 18 #[.val (.int p1), .val (.int p2), .val (.int p3), .val (.int p4), .val (.int p5), .val (.int (own_min p1 p2)), .val (.int (own_max p1 p2)), .unset, .unset, .unset, .unset, .unset, .unset, .unset, .unset, .unset] [(.int (p5 &&& (1 : Int32)))])) t → Steps p.tables e below (s₁.setTop (entryFrame m #[(.int p1), (.int p2), (.int p3), (.int p4), (.int p5)] maxLocals)) t := fun t kt => pre0 t (by
      let A0 : Array Slot := #[.val (.int p1), .val (.int p2), .val (.int p3), .val (.int p4), .val (.int p5), .unset, .unset, .unset, .unset, .unset, .unset, .unset, .unset, .unset, .unset, .unset]
      show Steps p.tables e below (s₁.setTop (mkF m 0 A0 [])) _
      refine XS.iloadN X0.here hx rfl (hb hby at_0) rfl ?_
      show Steps p.tables e below (s₁.setTop (mkF m 1 A0 [(.int p1)])) _
      refine XS.iloadN X0.here hx rfl (hb hby at_1) rfl ?_
      show Steps p.tables e below (s₁.setTop (mkF m 2 A0 [(.int p2), (.int p1)])) _
      refine st35 _ ?_
      show Steps p.tables e below (T35.setTop (mkF m 5 A0 [(.int (own_min p1 p2))])) _
      let A1 : Array Slot := #[.val (.int p1), .val (.int p2), .val (.int p3), .val (.int p4), .val (.int p5), .val (.int (own_min p1 p2)), .unset, .unset, .unset, .unset, .unset, .unset, .unset, .unset, .unset, .unset]
      refine XS.istore X35.here hx rfl (hb hby at_5) rfl (l' := A1) rfl ?_
      show Steps p.tables e below (T35.setTop (mkF m 7 A1 [])) _
      refine XS.iloadN X35.here hx rfl (hb hby at_7) rfl ?_
      show Steps p.tables e below (T35.setTop (mkF m 8 A1 [(.int p1)])) _
      refine XS.iloadN X35.here hx rfl (hb hby at_8) rfl ?_
      show Steps p.tables e below (T35.setTop (mkF m 9 A1 [(.int p2), (.int p1)])) _
      refine st36 _ ?_
      show Steps p.tables e below (T36.setTop (mkF m 12 A1 [(.int (own_max p1 p2))])) _
      let A2 : Array Slot := #[.val (.int p1), .val (.int p2), .val (.int p3), .val (.int p4), .val (.int p5), .val (.int (own_min p1 p2)), .val (.int (own_max p1 p2)), .unset, .unset, .unset, .unset, .unset, .unset, .unset, .unset, .unset]
      refine XS.istore X36.here hx rfl (hb hby at_12) rfl (l' := A2) rfl ?_
      show Steps p.tables e below (T36.setTop (mkF m 14 A2 [])) _
      refine XS.iload X36.here hx rfl (hb hby at_14) rfl ?_
      show Steps p.tables e below (T36.setTop (mkF m 16 A2 [(.int p5)])) _
      refine XS.iconst X36.here hx rfl (hb hby at_16) ?_
      show Steps p.tables e below (T36.setTop (mkF m 17 A2 [(.int (1 : Int32)), (.int p5)])) _
      refine XS.iand X36.here hx rfl (hb hby at_17) rfl ?_
      exact kt)
  obtain ⟨v39, hv39⟩ : ∃ v : Int32, v = (if (p5 &&& (1 : Int32)) = (0 : Int32) then p3 else (own_min p1 p2)) := ⟨_, rfl⟩
  have k40 : ∀ t, Steps p.tables e below (T36.setTop (mkF m 27 #[.val (.int p1), .val (.int p2), .val (.int p3), .val (.int p4), .val (.int p5), .val (.int (own_min p1 p2)), .val (.int (own_max p1 p2)), .unset, .unset, .unset, .unset, .unset, .unset, .unset, .unset, .unset] [(.int v39)])) t → Steps p.tables e below (s₁.setTop (entryFrame m #[(.int p1), (.int p2), (.int p3), (.int p4), (.int p5)] maxLocals)) t := by
    intro t kt
    by_cases hc18_38 : (p5 &&& (1 : Int32)) = (0 : Int32)
    · rw [show v39 = p3 from (hv39.trans (if_pos hc18_38))] at kt
      exact k37 t (by
          let A0 : Array Slot := #[.val (.int p1), .val (.int p2), .val (.int p3), .val (.int p4), .val (.int p5), .val (.int (own_min p1 p2)), .val (.int (own_max p1 p2)), .unset, .unset, .unset, .unset, .unset, .unset, .unset, .unset, .unset]
          show Steps p.tables e below (T36.setTop (mkF m 18 A0 [(.int (p5 &&& (1 : Int32)))])) _
          refine XS.ifYes X36.here hx rfl (pc0 := 18) (pc' := 26) rfl (hb hby at_18) rfl ((if0 _ _).trans (teq hc18_38).1) (by decide) (by decide) ?_
          show Steps p.tables e below (T36.setTop (mkF m 26 A0 [])) _
          refine XS.iloadN X36.here hx rfl (hb hby at_26) rfl ?_
          exact kt)
    · rw [show v39 = (own_min p1 p2) from (hv39.trans (if_neg hc18_38))] at kt
      exact k37 t (by
          let A0 : Array Slot := #[.val (.int p1), .val (.int p2), .val (.int p3), .val (.int p4), .val (.int p5), .val (.int (own_min p1 p2)), .val (.int (own_max p1 p2)), .unset, .unset, .unset, .unset, .unset, .unset, .unset, .unset, .unset]
          show Steps p.tables e below (T36.setTop (mkF m 18 A0 [(.int (p5 &&& (1 : Int32)))])) _
          refine XS.ifNo X36.here hx rfl (hb hby at_18) rfl ((if0 _ _).trans (feq hc18_38).1) ?_
          show Steps p.tables e below (T36.setTop (mkF m 21 A0 [])) _
          refine XS.iload X36.here hx rfl (hb hby at_21) rfl ?_
          show Steps p.tables e below (T36.setTop (mkF m 23 A0 [(.int (own_min p1 p2))])) _
          refine XS.goto X36.here hx rfl (pc0 := 23) (pc' := 27) rfl (hb hby at_23) (by decide) (by decide) ?_
          exact kt)
  have k41 : ∀ t, Steps p.tables e below (T36.setTop (mkF m 33 #[.val (.int p1), .val (.int p2), .val (.int p3), .val (.int p4), .val (.int p5), .val (.int (own_min p1 p2)), .val (.int (own_max p1 p2)), .val (.int v39), .unset, .unset, .unset, .unset, .unset, .unset, .unset, .unset] [(.int (p5 &&& (2 : Int32)))])) t → Steps p.tables e below (s₁.setTop (entryFrame m #[(.int p1), (.int p2), (.int p3), (.int p4), (.int p5)] maxLocals)) t := fun t kt => k40 t (by
      show Steps p.tables e below (T36.setTop (mkF m 27 #[.val (.int p1), .val (.int p2), .val (.int p3), .val (.int p4), .val (.int p5), .val (.int (own_min p1 p2)), .val (.int (own_max p1 p2)), .unset, .unset, .unset, .unset, .unset, .unset, .unset, .unset, .unset] [(.int v39)])) _
      let A0 : Array Slot := #[.val (.int p1), .val (.int p2), .val (.int p3), .val (.int p4), .val (.int p5), .val (.int (own_min p1 p2)), .val (.int (own_max p1 p2)), .val (.int v39), .unset, .unset, .unset, .unset, .unset, .unset, .unset, .unset]
      refine XS.istore X36.here hx rfl (hb hby at_27) rfl (l' := A0) rfl ?_
      show Steps p.tables e below (T36.setTop (mkF m 29 A0 [])) _
      refine XS.iload X36.here hx rfl (hb hby at_29) rfl ?_
      show Steps p.tables e below (T36.setTop (mkF m 31 A0 [(.int p5)])) _
      refine XS.iconst X36.here hx rfl (hb hby at_31) ?_
      show Steps p.tables e below (T36.setTop (mkF m 32 A0 [(.int (2 : Int32)), (.int p5)])) _
      refine XS.iand X36.here hx rfl (hb hby at_32) rfl ?_
      exact kt)
  obtain ⟨v43, hv43⟩ : ∃ v : Int32, v = (if (p5 &&& (2 : Int32)) = (0 : Int32) then p4 else (own_max p1 p2)) := ⟨_, rfl⟩
  have k44 : ∀ t, Steps p.tables e below (T36.setTop (mkF m 42 #[.val (.int p1), .val (.int p2), .val (.int p3), .val (.int p4), .val (.int p5), .val (.int (own_min p1 p2)), .val (.int (own_max p1 p2)), .val (.int v39), .unset, .unset, .unset, .unset, .unset, .unset, .unset, .unset] [(.int v43)])) t → Steps p.tables e below (s₁.setTop (entryFrame m #[(.int p1), (.int p2), (.int p3), (.int p4), (.int p5)] maxLocals)) t := by
    intro t kt
    by_cases hc33_42 : (p5 &&& (2 : Int32)) = (0 : Int32)
    · rw [show v43 = p4 from (hv43.trans (if_pos hc33_42))] at kt
      exact k41 t (by
          let A0 : Array Slot := #[.val (.int p1), .val (.int p2), .val (.int p3), .val (.int p4), .val (.int p5), .val (.int (own_min p1 p2)), .val (.int (own_max p1 p2)), .val (.int v39), .unset, .unset, .unset, .unset, .unset, .unset, .unset, .unset]
          show Steps p.tables e below (T36.setTop (mkF m 33 A0 [(.int (p5 &&& (2 : Int32)))])) _
          refine XS.ifYes X36.here hx rfl (pc0 := 33) (pc' := 41) rfl (hb hby at_33) rfl ((if0 _ _).trans (teq hc33_42).1) (by decide) (by decide) ?_
          show Steps p.tables e below (T36.setTop (mkF m 41 A0 [])) _
          refine XS.iloadN X36.here hx rfl (hb hby at_41) rfl ?_
          exact kt)
    · rw [show v43 = (own_max p1 p2) from (hv43.trans (if_neg hc33_42))] at kt
      exact k41 t (by
          let A0 : Array Slot := #[.val (.int p1), .val (.int p2), .val (.int p3), .val (.int p4), .val (.int p5), .val (.int (own_min p1 p2)), .val (.int (own_max p1 p2)), .val (.int v39), .unset, .unset, .unset, .unset, .unset, .unset, .unset, .unset]
          show Steps p.tables e below (T36.setTop (mkF m 33 A0 [(.int (p5 &&& (2 : Int32)))])) _
          refine XS.ifNo X36.here hx rfl (hb hby at_33) rfl ((if0 _ _).trans (feq hc33_42).1) ?_
          show Steps p.tables e below (T36.setTop (mkF m 36 A0 [])) _
          refine XS.iload X36.here hx rfl (hb hby at_36) rfl ?_
          show Steps p.tables e below (T36.setTop (mkF m 38 A0 [(.int (own_max p1 p2))])) _
          refine XS.goto X36.here hx rfl (pc0 := 38) (pc' := 42) rfl (hb hby at_38) (by decide) (by decide) ?_
          exact kt)
  obtain ⟨_, _, ⟨T45, L45, k45, n45⟩, -, X45, ⟨Lc45, hQ45, l45, y45, z45⟩, st45⟩ := Jvm.LawKit.callS X36 hx (y := (⟨"java/lang/Math", "min", "(II)I"⟩ : MethodName)) hown (mvT hZ (hw _ (List.mem_of_getElem? (i := 0) rfl))) (mvT hZ (hw _ (List.mem_of_getElem? (i := 1) rfl))) (mvT hZ (hw _ (List.mem_of_getElem? (i := 2) rfl))) (mvT hZ (hw _ (List.mem_of_getElem? (i := 3) rfl))) (by decide) (backOf (W := 0) (rm1 l Z a0 hw [] v39 v43 h0 n0 Z0) hZ (hw _ (List.mem_of_getElem? (i := 3) rfl)) (hw _ (List.mem_of_getElem? (i := 2) rfl)) (by decide) (by decide)) (g := (mkF m 48 #[.val (.int p1), .val (.int p2), .val (.int p3), .val (.int p4), .val (.int p5), .val (.int (own_min p1 p2)), .val (.int (own_max p1 p2)), .val (.int v39), .val (.int v43), .unset, .unset, .unset, .unset, .unset, .unset, .unset] [(.int v43), (.int v39)])) rfl (by rw [hml]; rfl) (argsL := [(.int v39), (.int v43)]) (rest := []) (lenOf pd_0 rfl) rfl (by show 2 * 0 + _ ≤ _; exact Nat.le_of_eq rfl) (hb hby at_48) (fun _ _ => ⟨rfl, e36, (by decide : 0 + 0 ≤ _), (by decide : 0 + 0 ≤ _)⟩)
  dsimp only [Pt.U, Pt.locs, Pt.cells, Pt.slots] at X45 l45 y45 z45 st45 hQ45
  subst l45 y45 z45
  obtain ⟨rfl, N45q, e45⟩ := hQ45
  have N45 := Fr.app N36 N45q
  obtain ⟨_, _, ⟨T46, L46, k46, n46⟩, -, X46, ⟨Lc46, hQ46, l46, y46, z46⟩, st46⟩ := Jvm.LawKit.callS X45 hx (y := (⟨"java/lang/Math", "max", "(II)I"⟩ : MethodName)) hown (mvT hZ (hw _ (List.mem_of_getElem? (i := 4) rfl))) (mvT hZ (hw _ (List.mem_of_getElem? (i := 5) rfl))) (mvT hZ (hw _ (List.mem_of_getElem? (i := 2) rfl))) (mvT hZ (hw _ (List.mem_of_getElem? (i := 6) rfl))) (by decide) (backOf (W := 0) (rm2 l Z a0 hw [] v39 v43 h0 n0 Z0) hZ (hw _ (List.mem_of_getElem? (i := 6) rfl)) (hw _ (List.mem_of_getElem? (i := 2) rfl)) (by decide) (by decide)) (g := (mkF m 57 #[.val (.int p1), .val (.int p2), .val (.int p3), .val (.int p4), .val (.int p5), .val (.int (own_min p1 p2)), .val (.int (own_max p1 p2)), .val (.int v39), .val (.int v43), .val (.int (own_min v39 v43)), .unset, .unset, .unset, .unset, .unset, .unset] [(.int v43), (.int v39)])) rfl (by rw [hml]; rfl) (argsL := [(.int v39), (.int v43)]) (rest := []) (lenOf pd_0 rfl) rfl (by show 2 * 0 + _ ≤ _; exact Nat.le_of_eq rfl) (hb hby at_57) (fun _ _ => ⟨rfl, e45, (by decide : 0 + 0 ≤ _), (by decide : 0 + 0 ≤ _)⟩)
  dsimp only [Pt.U, Pt.locs, Pt.cells, Pt.slots] at X46 l46 y46 z46 st46 hQ46
  subst l46 y46 z46
  obtain ⟨rfl, N46q, e46⟩ := hQ46
  have N46 := Fr.app N45 N46q
  obtain ⟨T47, h47, X47, e47, E47, A47, D47, -, st47⟩ := newO X46 hx hZ hown (hw _ (List.mem_of_getElem? (i := 7) rfl)) (hw _ (List.mem_of_getElem? (i := 8) rfl)) (hw _ (List.mem_of_getElem? (i := 9) rfl)) e46 (g := (mkF m 62 #[.val (.int p1), .val (.int p2), .val (.int p3), .val (.int p4), .val (.int p5), .val (.int (own_min p1 p2)), .val (.int (own_max p1 p2)), .val (.int v39), .val (.int v43), .val (.int (own_min v39 v43)), .val (.int (own_max v39 v43)), .unset, .unset, .unset, .unset, .unset] [])) rfl (hb hby at_62) (by decide) (by decide)
  obtain ⟨b47, g47⟩ : ∃ z, z = h0.size := ⟨_, rfl⟩
  rw [← g47] at A47 D47 st47
  have ne_aB_b47 : aB ≠ b47 := Nat.ne_of_lt (Nat.lt_of_lt_of_le EB.lt (Nat.le_of_eq g47.symm))
  have g_b47 : n0 ≤ b47 := Nat.le_trans Z0 (Nat.le_of_eq g47.symm)
  have O0'48 := O0.ext E47
  have EB'49 := EB.ext E47
  have Z_50 : n0 ≤ h47.size := Nat.le_trans Z0 E47.1
  have F_low_b47 : Fld Z h47 b47 "com/example/evntual/evntual/engine/RangeType" "low" "I" (.int (0 : Int32)) := D47 (Or.inr (hw _ (List.mem_of_getElem? (i := 17) rfl))) (ty := .int) (by decide)
  have F_high_b47 : Fld Z h47 b47 "com/example/evntual/evntual/engine/RangeType" "high" "I" (.int (0 : Int32)) := D47 (Or.inr (hw _ (List.mem_of_getElem? (i := 19) rfl))) (ty := .int) (by decide)
  obtain ⟨_, _, ⟨T51, L51, k51, n51⟩, -, X51, ⟨Lc51, hQ51, l51, y51, z51⟩, st51⟩ := X47.specialBack hx (y := (⟨"com/example/evntual/evntual/engine/RangeType", "<init>", "(II)V"⟩ : MethodName)) rfl hown (mvT hZ (hw _ (List.mem_of_getElem? (i := 10) rfl))) (mvT hZ (hw _ (List.mem_of_getElem? (i := 11) rfl))) (mvT hZ (hw _ (List.mem_of_getElem? (i := 12) rfl))) (by decide) (backOf (W := 1) (rm3 l Z a0 hw [] b47 (own_min p1 p2) (own_max p1 p2) h47 n0 Z_50 A47 g_b47 F_low_b47 F_high_b47 (own_le _ _)) hZ (hw _ (List.mem_of_getElem? (i := 12) rfl)) (hw _ (List.mem_of_getElem? (i := 9) rfl)) (by decide) (by decide)) (g := (mkF m 70 #[.val (.int p1), .val (.int p2), .val (.int p3), .val (.int p4), .val (.int p5), .val (.int (own_min p1 p2)), .val (.int (own_max p1 p2)), .val (.int v39), .val (.int v43), .val (.int (own_min v39 v43)), .val (.int (own_max v39 v43)), .unset, .unset, .unset, .unset, .unset] [(.int (own_max p1 p2)), (.int (own_min p1 p2)), (.ref b47), (.ref b47)])) rfl (by rw [hml]; rfl) (Steps.refl _) (a := b47) (argsL := [(.int (own_min p1 p2)), (.int (own_max p1 p2))]) (rest := [(.ref b47)]) (lenOf pd_1 rfl) rfl (by show 2 * 0 + _ ≤ _; exact Nat.le_of_eq rfl) (hb hby at_70) (fun _ _ => ⟨rfl, e47, (by decide : 1 + 0 ≤ _), (by decide : 2 + 0 ≤ _)⟩)
  dsimp only [Pt.U, Pt.locs, Pt.cells, Pt.slots] at X51 l51 y51 z51 st51 hQ51
  subst l51 y51 z51
  obtain ⟨rfl, N51q, Kq51, Eq51, Fq51_low, Fq51_high⟩ := hQ51
  have N51 := Fr.app N46 N51q
  have Z_52 : n0 ≤ T51.heap.size := Nat.le_trans Z_50 Kq51.1
  have O0'53 := O0'48.keep Kq51 (allS g_b47 all0)
  have EB'54 := EB'49.keep Kq51
  have A47'55 := A47.keep Kq51
  obtain ⟨T56, h56, X56, e56, E56, A56, D56, -, st56⟩ := newO X51 hx hZ hown (hw _ (List.mem_of_getElem? (i := 7) rfl)) (hw _ (List.mem_of_getElem? (i := 8) rfl)) (hw _ (List.mem_of_getElem? (i := 9) rfl)) rfl (g := (mkF m 75 #[.val (.int p1), .val (.int p2), .val (.int p3), .val (.int p4), .val (.int p5), .val (.int (own_min p1 p2)), .val (.int (own_max p1 p2)), .val (.int v39), .val (.int v43), .val (.int (own_min v39 v43)), .val (.int (own_max v39 v43)), .val (.ref b47), .unset, .unset, .unset, .unset] [])) rfl (hb hby at_75) (by decide) (by decide)
  obtain ⟨b56, g56⟩ : ∃ z, z = T51.heap.size := ⟨_, rfl⟩
  rw [← g56] at A56 D56 st56
  have ne_aB_b56 : aB ≠ b56 := Nat.ne_of_lt (Nat.lt_of_lt_of_le EB'54.lt (Nat.le_of_eq g56.symm))
  have ne_b47_b56 : b47 ≠ b56 := Nat.ne_of_lt (Nat.lt_of_lt_of_le Eq51.lt (Nat.le_of_eq g56.symm))
  have g_b56 : n0 ≤ b56 := Nat.le_trans Z_52 (Nat.le_of_eq g56.symm)
  have O0'57 := O0'53.ext E56
  have EB'58 := EB'54.ext E56
  have Eq51'59 := Eq51.ext E56
  have Fq51_low'60 := Fq51_low.ext E56
  have Fq51_high'61 := Fq51_high.ext E56
  have Z_62 : n0 ≤ h56.size := Nat.le_trans Z_52 E56.1
  have F_low_b56 : Fld Z h56 b56 "com/example/evntual/evntual/engine/RangeType" "low" "I" (.int (0 : Int32)) := D56 (Or.inr (hw _ (List.mem_of_getElem? (i := 17) rfl))) (ty := .int) (by decide)
  have F_high_b56 : Fld Z h56 b56 "com/example/evntual/evntual/engine/RangeType" "high" "I" (.int (0 : Int32)) := D56 (Or.inr (hw _ (List.mem_of_getElem? (i := 19) rfl))) (ty := .int) (by decide)
  obtain ⟨_, _, ⟨T63, L63, k63, n63⟩, -, X63, ⟨Lc63, hQ63, l63, y63, z63⟩, st63⟩ := X56.specialBack hx (y := (⟨"com/example/evntual/evntual/engine/RangeType", "<init>", "(II)V"⟩ : MethodName)) rfl hown (mvT hZ (hw _ (List.mem_of_getElem? (i := 10) rfl))) (mvT hZ (hw _ (List.mem_of_getElem? (i := 11) rfl))) (mvT hZ (hw _ (List.mem_of_getElem? (i := 12) rfl))) (by decide) (backOf (W := 1) (rm3 l Z a0 hw [] b56 (own_min v39 v43) (own_max v39 v43) h56 n0 Z_62 A56 g_b56 F_low_b56 F_high_b56 (own_le _ _)) hZ (hw _ (List.mem_of_getElem? (i := 12) rfl)) (hw _ (List.mem_of_getElem? (i := 9) rfl)) (by decide) (by decide)) (g := (mkF m 83 #[.val (.int p1), .val (.int p2), .val (.int p3), .val (.int p4), .val (.int p5), .val (.int (own_min p1 p2)), .val (.int (own_max p1 p2)), .val (.int v39), .val (.int v43), .val (.int (own_min v39 v43)), .val (.int (own_max v39 v43)), .val (.ref b47), .unset, .unset, .unset, .unset] [(.int (own_max v39 v43)), (.int (own_min v39 v43)), (.ref b56), (.ref b56)])) rfl (by rw [hml]; rfl) (Steps.refl _) (a := b56) (argsL := [(.int (own_min v39 v43)), (.int (own_max v39 v43))]) (rest := [(.ref b56)]) (lenOf pd_1 rfl) rfl (by show 2 * 0 + _ ≤ _; exact Nat.le_of_eq rfl) (hb hby at_83) (fun _ _ => ⟨rfl, e56, (by decide : 2 + 0 ≤ _), (by decide : 4 + 0 ≤ _)⟩)
  dsimp only [Pt.U, Pt.locs, Pt.cells, Pt.slots] at X63 l63 y63 z63 st63 hQ63
  subst l63 y63 z63
  obtain ⟨rfl, N63q, Kq63, Eq63, Fq63_low, Fq63_high⟩ := hQ63
  have N63 := Fr.app N51 N63q
  have Z_64 : n0 ≤ T63.heap.size := Nat.le_trans Z_62 Kq63.1
  have O0'65 := O0'57.keep Kq63 (allS g_b56 all0)
  have EB'66 := EB'58.keep Kq63
  have Eq51'67 := Eq51'59.keep Kq63
  have Fq51_low'68 := Fq51_low'60.keep Kq63 (ninS ne_b47_b56 nin0)
  have Fq51_high'69 := Fq51_high'61.keep Kq63 (ninS ne_b47_b56 nin0)
  have A56'70 := A56.keep Kq63
  have k71 : ∀ t, Steps p.tables e below (T63.setTop (mkF m 99 #[.val (.int p1), .val (.int p2), .val (.int p3), .val (.int p4), .val (.int p5), .val (.int (own_min p1 p2)), .val (.int (own_max p1 p2)), .val (.int v39), .val (.int v43), .val (.int (own_min v39 v43)), .val (.int (own_max v39 v43)), .val (.ref b47), .val (.ref b56), .val (.int (((p5.toUInt32 >>> ((2 : Int32) &&& 31).toUInt32).toInt32) &&& (3 : Int32))), .unset, .unset] [(.int (2 : Int32)), (.int (((p5.toUInt32 >>> ((2 : Int32) &&& 31).toUInt32).toInt32) &&& (3 : Int32)))])) t → Steps p.tables e below (s₁.setTop (entryFrame m #[(.int p1), (.int p2), (.int p3), (.int p4), (.int p5)] maxLocals)) t := fun t kt => k44 t (by
      show Steps p.tables e below (T36.setTop (mkF m 42 #[.val (.int p1), .val (.int p2), .val (.int p3), .val (.int p4), .val (.int p5), .val (.int (own_min p1 p2)), .val (.int (own_max p1 p2)), .val (.int v39), .unset, .unset, .unset, .unset, .unset, .unset, .unset, .unset] [(.int v43)])) _
      let A0 : Array Slot := #[.val (.int p1), .val (.int p2), .val (.int p3), .val (.int p4), .val (.int p5), .val (.int (own_min p1 p2)), .val (.int (own_max p1 p2)), .val (.int v39), .val (.int v43), .unset, .unset, .unset, .unset, .unset, .unset, .unset]
      refine XS.istore X36.here hx rfl (hb hby at_42) rfl (l' := A0) rfl ?_
      show Steps p.tables e below (T36.setTop (mkF m 44 A0 [])) _
      refine XS.iload X36.here hx rfl (hb hby at_44) rfl ?_
      show Steps p.tables e below (T36.setTop (mkF m 46 A0 [(.int v39)])) _
      refine XS.iload X36.here hx rfl (hb hby at_46) rfl ?_
      show Steps p.tables e below (T36.setTop (mkF m 48 A0 [(.int v43), (.int v39)])) _
      refine st45 _ ?_
      show Steps p.tables e below (T45.setTop (mkF m 51 A0 [(.int (own_min v39 v43))])) _
      let A1 : Array Slot := #[.val (.int p1), .val (.int p2), .val (.int p3), .val (.int p4), .val (.int p5), .val (.int (own_min p1 p2)), .val (.int (own_max p1 p2)), .val (.int v39), .val (.int v43), .val (.int (own_min v39 v43)), .unset, .unset, .unset, .unset, .unset, .unset]
      refine XS.istore X45.here hx rfl (hb hby at_51) rfl (l' := A1) rfl ?_
      show Steps p.tables e below (T45.setTop (mkF m 53 A1 [])) _
      refine XS.iload X45.here hx rfl (hb hby at_53) rfl ?_
      show Steps p.tables e below (T45.setTop (mkF m 55 A1 [(.int v39)])) _
      refine XS.iload X45.here hx rfl (hb hby at_55) rfl ?_
      show Steps p.tables e below (T45.setTop (mkF m 57 A1 [(.int v43), (.int v39)])) _
      refine st46 _ ?_
      show Steps p.tables e below (T46.setTop (mkF m 60 A1 [(.int (own_max v39 v43))])) _
      let A2 : Array Slot := #[.val (.int p1), .val (.int p2), .val (.int p3), .val (.int p4), .val (.int p5), .val (.int (own_min p1 p2)), .val (.int (own_max p1 p2)), .val (.int v39), .val (.int v43), .val (.int (own_min v39 v43)), .val (.int (own_max v39 v43)), .unset, .unset, .unset, .unset, .unset]
      refine XS.istore X46.here hx rfl (hb hby at_60) rfl (l' := A2) rfl ?_
      show Steps p.tables e below (T46.setTop (mkF m 62 A2 [])) _
      refine st47 _ ?_
      show Steps p.tables e below (T47.setTop (mkF m 65 A2 [(.ref b47)])) _
      refine XS.dup X47.here hx rfl (hb hby at_65) rfl rfl ?_
      show Steps p.tables e below (T47.setTop (mkF m 66 A2 [(.ref b47), (.ref b47)])) _
      refine XS.iload X47.here hx rfl (hb hby at_66) rfl ?_
      show Steps p.tables e below (T47.setTop (mkF m 68 A2 [(.int (own_min p1 p2)), (.ref b47), (.ref b47)])) _
      refine XS.iload X47.here hx rfl (hb hby at_68) rfl ?_
      show Steps p.tables e below (T47.setTop (mkF m 70 A2 [(.int (own_max p1 p2)), (.int (own_min p1 p2)), (.ref b47), (.ref b47)])) _
      refine st51.trans ?_
      show Steps p.tables e below (T51.setTop (mkF m 73 A2 [(.ref b47)])) _
      let A3 : Array Slot := #[.val (.int p1), .val (.int p2), .val (.int p3), .val (.int p4), .val (.int p5), .val (.int (own_min p1 p2)), .val (.int (own_max p1 p2)), .val (.int v39), .val (.int v43), .val (.int (own_min v39 v43)), .val (.int (own_max v39 v43)), .val (.ref b47), .unset, .unset, .unset, .unset]
      refine XS.astore X51.here hx rfl (hb hby at_73) rfl rfl (l' := A3) rfl ?_
      show Steps p.tables e below (T51.setTop (mkF m 75 A3 [])) _
      refine st56 _ ?_
      show Steps p.tables e below (T56.setTop (mkF m 78 A3 [(.ref b56)])) _
      refine XS.dup X56.here hx rfl (hb hby at_78) rfl rfl ?_
      show Steps p.tables e below (T56.setTop (mkF m 79 A3 [(.ref b56), (.ref b56)])) _
      refine XS.iload X56.here hx rfl (hb hby at_79) rfl ?_
      show Steps p.tables e below (T56.setTop (mkF m 81 A3 [(.int (own_min v39 v43)), (.ref b56), (.ref b56)])) _
      refine XS.iload X56.here hx rfl (hb hby at_81) rfl ?_
      show Steps p.tables e below (T56.setTop (mkF m 83 A3 [(.int (own_max v39 v43)), (.int (own_min v39 v43)), (.ref b56), (.ref b56)])) _
      refine st63.trans ?_
      show Steps p.tables e below (T63.setTop (mkF m 86 A3 [(.ref b56)])) _
      let A4 : Array Slot := #[.val (.int p1), .val (.int p2), .val (.int p3), .val (.int p4), .val (.int p5), .val (.int (own_min p1 p2)), .val (.int (own_max p1 p2)), .val (.int v39), .val (.int v43), .val (.int (own_min v39 v43)), .val (.int (own_max v39 v43)), .val (.ref b47), .val (.ref b56), .unset, .unset, .unset]
      refine XS.astore X63.here hx rfl (hb hby at_86) rfl rfl (l' := A4) rfl ?_
      show Steps p.tables e below (T63.setTop (mkF m 88 A4 [])) _
      refine XS.iload X63.here hx rfl (hb hby at_88) rfl ?_
      show Steps p.tables e below (T63.setTop (mkF m 90 A4 [(.int p5)])) _
      refine XS.iconst X63.here hx rfl (hb hby at_90) ?_
      show Steps p.tables e below (T63.setTop (mkF m 91 A4 [(.int (2 : Int32)), (.int p5)])) _
      refine XS.iushr X63.here hx rfl (hb hby at_91) rfl ?_
      show Steps p.tables e below (T63.setTop (mkF m 92 A4 [(.int ((p5.toUInt32 >>> ((2 : Int32) &&& 31).toUInt32).toInt32))])) _
      refine XS.iconst X63.here hx rfl (hb hby at_92) ?_
      show Steps p.tables e below (T63.setTop (mkF m 93 A4 [(.int (3 : Int32)), (.int ((p5.toUInt32 >>> ((2 : Int32) &&& 31).toUInt32).toInt32))])) _
      refine XS.iand X63.here hx rfl (hb hby at_93) rfl ?_
      show Steps p.tables e below (T63.setTop (mkF m 94 A4 [(.int (((p5.toUInt32 >>> ((2 : Int32) &&& 31).toUInt32).toInt32) &&& (3 : Int32)))])) _
      let A5 : Array Slot := #[.val (.int p1), .val (.int p2), .val (.int p3), .val (.int p4), .val (.int p5), .val (.int (own_min p1 p2)), .val (.int (own_max p1 p2)), .val (.int v39), .val (.int v43), .val (.int (own_min v39 v43)), .val (.int (own_max v39 v43)), .val (.ref b47), .val (.ref b56), .val (.int (((p5.toUInt32 >>> ((2 : Int32) &&& 31).toUInt32).toInt32) &&& (3 : Int32))), .unset, .unset]
      refine XS.istore X63.here hx rfl (hb hby at_94) rfl (l' := A5) rfl ?_
      show Steps p.tables e below (T63.setTop (mkF m 96 A5 [])) _
      refine XS.iload X63.here hx rfl (hb hby at_96) rfl ?_
      show Steps p.tables e below (T63.setTop (mkF m 98 A5 [(.int (((p5.toUInt32 >>> ((2 : Int32) &&& 31).toUInt32).toInt32) &&& (3 : Int32)))])) _
      refine XS.iconst X63.here hx rfl (hb hby at_98) ?_
      exact kt)
  by_cases hc99_72 : (((p5.toUInt32 >>> ((2 : Int32) &&& 31).toUInt32).toInt32) &&& (3 : Int32)) = (2 : Int32)
  · obtain ⟨cq73, kq73, q73a, q73b, q73c⟩ := isOf hZ rfl Eq51'67
    obtain ⟨_, _, ⟨T73, L73, k73, n73⟩, -, X73, ⟨Lc73, hQ73, l73, y73, z73⟩, st73⟩ := X63.virtualBack hx (y := (⟨"com/example/evntual/evntual/engine/RangeType", "equals", "(Ljava/lang/Object;)Z"⟩ : MethodName)) (z := (⟨"com/example/evntual/evntual/engine/RangeType", "equals", "(Ljava/lang/Object;)Z"⟩ : MethodName)) hown (mvT hZ (hw _ (List.mem_of_getElem? (i := 20) rfl))) (mvT hZ (hw _ (List.mem_of_getElem? (i := 21) rfl))) (notFace_of_selects (args := #[]) (mvT hZ (hw _ (List.mem_of_getElem? (i := 23) rfl)))) (mvT hZ (hw _ (List.mem_of_getElem? (i := 23) rfl))) (mvT hZ (hw _ (List.mem_of_getElem? (i := 22) rfl))) (by decide) (backOf (W := 0) (rm5_n l Z a0 hw [] b47 T63.heap n0 Z_64) hZ (hw _ (List.mem_of_getElem? (i := 24) rfl)) (hw _ (List.mem_of_getElem? (i := 9) rfl)) (by decide) (by decide)) q73a q73c (g := (mkF m 157 #[.val (.int p1), .val (.int p2), .val (.int p3), .val (.int p4), .val (.int p5), .val (.int (own_min p1 p2)), .val (.int (own_max p1 p2)), .val (.int v39), .val (.int v43), .val (.int (own_min v39 v43)), .val (.int (own_max v39 v43)), .val (.ref b47), .val (.ref b56), .val (.int (((p5.toUInt32 >>> ((2 : Int32) &&& 31).toUInt32).toInt32) &&& (3 : Int32))), .val .null, .val (.int (0 : Int32))] [.null, (.ref b47)])) rfl (by rw [hml]; rfl) (Steps.refl _) (argsL := [.null]) (rest := []) (lenOf pd_2 rfl) rfl (by show 2 * 0 + _ ≤ _; exact Nat.le_of_eq rfl) (hb hby at_157) (fun _ _ => ⟨rfl, rfl, (by decide : 2 + 0 ≤ _), (by decide : 4 + 0 ≤ _)⟩)
    dsimp only [Pt.U, Pt.locs, Pt.cells, Pt.slots] at X73 l73 y73 z73 st73 hQ73
    subst l73 y73 z73
    obtain ⟨rfl, N73q, e73⟩ := hQ73
    have N73 := Fr.app N63 N73q
    have k74 : ∀ t, Steps p.tables e below (T73.setTop (mkF m 170 #[.val (.int p1), .val (.int p2), .val (.int p3), .val (.int p4), .val (.int p5), .val (.int (own_min p1 p2)), .val (.int (own_max p1 p2)), .val (.int v39), .val (.int v43), .val (.int (own_min v39 v43)), .val (.int (own_max v39 v43)), .val (.ref b47), .val (.ref b56), .val (.int (((p5.toUInt32 >>> ((2 : Int32) &&& 31).toUInt32).toInt32) &&& (3 : Int32))), .val .null, .val (.int (0 : Int32))] [(.int (1 : Int32))])) t → Steps p.tables e below (s₁.setTop (entryFrame m #[(.int p1), (.int p2), (.int p3), (.int p4), (.int p5)] maxLocals)) t := fun t kt => k71 t (by
        let A0 : Array Slot := #[.val (.int p1), .val (.int p2), .val (.int p3), .val (.int p4), .val (.int p5), .val (.int (own_min p1 p2)), .val (.int (own_max p1 p2)), .val (.int v39), .val (.int v43), .val (.int (own_min v39 v43)), .val (.int (own_max v39 v43)), .val (.ref b47), .val (.ref b56), .val (.int (((p5.toUInt32 >>> ((2 : Int32) &&& 31).toUInt32).toInt32) &&& (3 : Int32))), .unset, .unset]
        show Steps p.tables e below (T63.setTop (mkF m 99 A0 [(.int (2 : Int32)), (.int (((p5.toUInt32 >>> ((2 : Int32) &&& 31).toUInt32).toInt32) &&& (3 : Int32)))])) _
        refine XS.icmpNo X63.here hx rfl (hb hby at_99) rfl (teq hc99_72).2 ?_
        show Steps p.tables e below (T63.setTop (mkF m 102 A0 [])) _
        refine XS.aconstNull X63.here hx rfl (hb hby at_102) ?_
        show Steps p.tables e below (T63.setTop (mkF m 103 A0 [.null])) _
        let A1 : Array Slot := #[.val (.int p1), .val (.int p2), .val (.int p3), .val (.int p4), .val (.int p5), .val (.int (own_min p1 p2)), .val (.int (own_max p1 p2)), .val (.int v39), .val (.int v43), .val (.int (own_min v39 v43)), .val (.int (own_max v39 v43)), .val (.ref b47), .val (.ref b56), .val (.int (((p5.toUInt32 >>> ((2 : Int32) &&& 31).toUInt32).toInt32) &&& (3 : Int32))), .val .null, .unset]
        refine XS.astore X63.here hx rfl (hb hby at_103) rfl rfl (l' := A1) rfl ?_
        show Steps p.tables e below (T63.setTop (mkF m 105 A1 [])) _
        refine XS.iconst X63.here hx rfl (hb hby at_105) ?_
        show Steps p.tables e below (T63.setTop (mkF m 106 A1 [(.int (0 : Int32))])) _
        let A2 : Array Slot := #[.val (.int p1), .val (.int p2), .val (.int p3), .val (.int p4), .val (.int p5), .val (.int (own_min p1 p2)), .val (.int (own_max p1 p2)), .val (.int v39), .val (.int v43), .val (.int (own_min v39 v43)), .val (.int (own_max v39 v43)), .val (.ref b47), .val (.ref b56), .val (.int (((p5.toUInt32 >>> ((2 : Int32) &&& 31).toUInt32).toInt32) &&& (3 : Int32))), .val .null, .val (.int (0 : Int32))]
        refine XS.istore X63.here hx rfl (hb hby at_106) rfl (l' := A2) rfl ?_
        show Steps p.tables e below (T63.setTop (mkF m 108 A2 [])) _
        refine XS.goto X63.here hx rfl (pc0 := 108) (pc' := 153) rfl (hb hby at_108) (by decide) (by decide) ?_
        show Steps p.tables e below (T63.setTop (mkF m 153 A2 [])) _
        refine XS.aload X63.here hx rfl (hb hby at_153) rfl rfl ?_
        show Steps p.tables e below (T63.setTop (mkF m 155 A2 [(.ref b47)])) _
        refine XS.aload X63.here hx rfl (hb hby at_155) rfl rfl ?_
        show Steps p.tables e below (T63.setTop (mkF m 157 A2 [.null, (.ref b47)])) _
        refine st73.trans ?_
        show Steps p.tables e below (T73.setTop (mkF m 160 A2 [(.int (0 : Int32))])) _
        refine XS.iload X73.here hx rfl (hb hby at_160) rfl ?_
        show Steps p.tables e below (T73.setTop (mkF m 162 A2 [(.int (0 : Int32)), (.int (0 : Int32))])) _
        refine XS.icmpNo X73.here hx rfl (hb hby at_162) rfl (teq (by decide : (0 : Int32) = (0 : Int32))).2 ?_
        show Steps p.tables e below (T73.setTop (mkF m 165 A2 [])) _
        refine XS.iconst X73.here hx rfl (hb hby at_165) ?_
        show Steps p.tables e below (T73.setTop (mkF m 166 A2 [(.int (1 : Int32))])) _
        refine XS.goto X73.here hx rfl (pc0 := 166) (pc' := 170) rfl (hb hby at_166) (by decide) (by decide) ?_
        exact kt)
    obtain ⟨fs, hr, hrun, hended, hW, hsame⟩ := X73.leave (v := some (.int (1 : Int32))) (fun h => by rw [Bd.returns] at h; cases h)
    refine ⟨_, _, k74 _ ?_, hrun, hended, _, _, rfl, ?_, ⟨_, rfl⟩, hW, hsame.mono (by decide) (by decide)⟩
    · show Steps p.tables e below (T73.setTop (mkF m 170 #[.val (.int p1), .val (.int p2), .val (.int p3), .val (.int p4), .val (.int p5), .val (.int (own_min p1 p2)), .val (.int (own_max p1 p2)), .val (.int v39), .val (.int v43), .val (.int (own_min v39 v43)), .val (.int (own_max v39 v43)), .val (.ref b47), .val (.ref b56), .val (.int (((p5.toUInt32 >>> ((2 : Int32) &&& 31).toUInt32).toInt32) &&& (3 : Int32))), .val .null, .val (.int (0 : Int32))] [(.int (1 : Int32))])) _
      exact retN X73 hx (t := .boolean) Bd.returns (by simp) (hb hby at_170) hr
    · show Q_rm0 Z p1 p2 p3 p4 p5 h0 n0 _ T73.heap _
      rw [e73]
      exact ⟨rfl, N73⟩
  · have k75 : ∀ t, Steps p.tables e below (T63.setTop (mkF m 114 #[.val (.int p1), .val (.int p2), .val (.int p3), .val (.int p4), .val (.int p5), .val (.int (own_min p1 p2)), .val (.int (own_max p1 p2)), .val (.int v39), .val (.int v43), .val (.int (own_min v39 v43)), .val (.int (own_max v39 v43)), .val (.ref b47), .val (.ref b56), .val (.int (((p5.toUInt32 >>> ((2 : Int32) &&& 31).toUInt32).toInt32) &&& (3 : Int32))), .unset, .unset] [(.int (3 : Int32)), (.int (((p5.toUInt32 >>> ((2 : Int32) &&& 31).toUInt32).toInt32) &&& (3 : Int32)))])) t → Steps p.tables e below (s₁.setTop (entryFrame m #[(.int p1), (.int p2), (.int p3), (.int p4), (.int p5)] maxLocals)) t := fun t kt => k71 t (by
        let A0 : Array Slot := #[.val (.int p1), .val (.int p2), .val (.int p3), .val (.int p4), .val (.int p5), .val (.int (own_min p1 p2)), .val (.int (own_max p1 p2)), .val (.int v39), .val (.int v43), .val (.int (own_min v39 v43)), .val (.int (own_max v39 v43)), .val (.ref b47), .val (.ref b56), .val (.int (((p5.toUInt32 >>> ((2 : Int32) &&& 31).toUInt32).toInt32) &&& (3 : Int32))), .unset, .unset]
        show Steps p.tables e below (T63.setTop (mkF m 99 A0 [(.int (2 : Int32)), (.int (((p5.toUInt32 >>> ((2 : Int32) &&& 31).toUInt32).toInt32) &&& (3 : Int32)))])) _
        refine XS.icmpYes X63.here hx rfl (pc0 := 99) (pc' := 111) rfl (hb hby at_99) rfl (feq hc99_72).2 (by decide) (by decide) ?_
        show Steps p.tables e below (T63.setTop (mkF m 111 A0 [])) _
        refine XS.iload X63.here hx rfl (hb hby at_111) rfl ?_
        show Steps p.tables e below (T63.setTop (mkF m 113 A0 [(.int (((p5.toUInt32 >>> ((2 : Int32) &&& 31).toUInt32).toInt32) &&& (3 : Int32)))])) _
        refine XS.iconst X63.here hx rfl (hb hby at_113) ?_
        exact kt)
    by_cases hc114_76 : (((p5.toUInt32 >>> ((2 : Int32) &&& 31).toUInt32).toInt32) &&& (3 : Int32)) = (3 : Int32)
    · obtain ⟨T77, X77, e77, st77⟩ := getS2 X63 hx hZ hown (host := "") (Or.inl (hw _ (List.mem_of_getElem? (i := 27) rfl))) Via.refl rfl (Sta.ext O0'65.2 SB) (g := (mkF m 117 #[.val (.int p1), .val (.int p2), .val (.int p3), .val (.int p4), .val (.int p5), .val (.int (own_min p1 p2)), .val (.int (own_max p1 p2)), .val (.int v39), .val (.int v43), .val (.int (own_min v39 v43)), .val (.int (own_max v39 v43)), .val (.ref b47), .val (.ref b56), .val (.int (((p5.toUInt32 >>> ((2 : Int32) &&& 31).toUInt32).toInt32) &&& (3 : Int32))), .unset, .unset] [])) rfl (hb hby at_117)
      obtain ⟨cq78, kq78, q78a, q78b, q78c⟩ := isOf hZ e77 Eq51'67
      obtain ⟨_, _, ⟨T78, L78, k78, n78⟩, -, X78, ⟨Lc78, hQ78, l78, y78, z78⟩, st78⟩ := X77.virtualBack hx (y := (⟨"com/example/evntual/evntual/engine/RangeType", "equals", "(Ljava/lang/Object;)Z"⟩ : MethodName)) (z := (⟨"com/example/evntual/evntual/engine/RangeType", "equals", "(Ljava/lang/Object;)Z"⟩ : MethodName)) hown (mvT hZ (hw _ (List.mem_of_getElem? (i := 20) rfl))) (mvT hZ (hw _ (List.mem_of_getElem? (i := 21) rfl))) (notFace_of_selects (args := #[]) (mvT hZ (hw _ (List.mem_of_getElem? (i := 23) rfl)))) (mvT hZ (hw _ (List.mem_of_getElem? (i := 23) rfl))) (mvT hZ (hw _ (List.mem_of_getElem? (i := 22) rfl))) (by decide) (backOf (W := 0) (rm5_b l Z a0 hw [] b47 aB T63.heap n0 Z_64 EB'66) hZ (hw _ (List.mem_of_getElem? (i := 24) rfl)) (hw _ (List.mem_of_getElem? (i := 9) rfl)) (by decide) (by decide)) q78a q78c (g := (mkF m 157 #[.val (.int p1), .val (.int p2), .val (.int p3), .val (.int p4), .val (.int p5), .val (.int (own_min p1 p2)), .val (.int (own_max p1 p2)), .val (.int v39), .val (.int v43), .val (.int (own_min v39 v43)), .val (.int (own_max v39 v43)), .val (.ref b47), .val (.ref b56), .val (.int (((p5.toUInt32 >>> ((2 : Int32) &&& 31).toUInt32).toInt32) &&& (3 : Int32))), .val (.ref aB), .val (.int (0 : Int32))] [(.ref aB), (.ref b47)])) rfl (by rw [hml]; rfl) (Steps.refl _) (argsL := [(.ref aB)]) (rest := []) (lenOf pd_2 rfl) rfl (by show 2 * 0 + _ ≤ _; exact Nat.le_of_eq rfl) (hb hby at_157) (fun _ _ => ⟨rfl, e77, (by decide : 2 + 0 ≤ _), (by decide : 4 + 0 ≤ _)⟩)
      dsimp only [Pt.U, Pt.locs, Pt.cells, Pt.slots] at X78 l78 y78 z78 st78 hQ78
      subst l78 y78 z78
      obtain ⟨rfl, N78q, e78⟩ := hQ78
      have N78 := Fr.app N63 N78q
      have k79 : ∀ t, Steps p.tables e below (T78.setTop (mkF m 170 #[.val (.int p1), .val (.int p2), .val (.int p3), .val (.int p4), .val (.int p5), .val (.int (own_min p1 p2)), .val (.int (own_max p1 p2)), .val (.int v39), .val (.int v43), .val (.int (own_min v39 v43)), .val (.int (own_max v39 v43)), .val (.ref b47), .val (.ref b56), .val (.int (((p5.toUInt32 >>> ((2 : Int32) &&& 31).toUInt32).toInt32) &&& (3 : Int32))), .val (.ref aB), .val (.int (0 : Int32))] [(.int (1 : Int32))])) t → Steps p.tables e below (s₁.setTop (entryFrame m #[(.int p1), (.int p2), (.int p3), (.int p4), (.int p5)] maxLocals)) t := fun t kt => k75 t (by
          let A0 : Array Slot := #[.val (.int p1), .val (.int p2), .val (.int p3), .val (.int p4), .val (.int p5), .val (.int (own_min p1 p2)), .val (.int (own_max p1 p2)), .val (.int v39), .val (.int v43), .val (.int (own_min v39 v43)), .val (.int (own_max v39 v43)), .val (.ref b47), .val (.ref b56), .val (.int (((p5.toUInt32 >>> ((2 : Int32) &&& 31).toUInt32).toInt32) &&& (3 : Int32))), .unset, .unset]
          show Steps p.tables e below (T63.setTop (mkF m 114 A0 [(.int (3 : Int32)), (.int (((p5.toUInt32 >>> ((2 : Int32) &&& 31).toUInt32).toInt32) &&& (3 : Int32)))])) _
          refine XS.icmpNo X63.here hx rfl (hb hby at_114) rfl (teq hc114_76).2 ?_
          show Steps p.tables e below (T63.setTop (mkF m 117 A0 [])) _
          refine st77 _ ?_
          show Steps p.tables e below (T77.setTop (mkF m 120 A0 [(.ref aB)])) _
          let A1 : Array Slot := #[.val (.int p1), .val (.int p2), .val (.int p3), .val (.int p4), .val (.int p5), .val (.int (own_min p1 p2)), .val (.int (own_max p1 p2)), .val (.int v39), .val (.int v43), .val (.int (own_min v39 v43)), .val (.int (own_max v39 v43)), .val (.ref b47), .val (.ref b56), .val (.int (((p5.toUInt32 >>> ((2 : Int32) &&& 31).toUInt32).toInt32) &&& (3 : Int32))), .val (.ref aB), .unset]
          refine XS.astore X77.here hx rfl (hb hby at_120) rfl rfl (l' := A1) rfl ?_
          show Steps p.tables e below (T77.setTop (mkF m 122 A1 [])) _
          refine XS.iconst X77.here hx rfl (hb hby at_122) ?_
          show Steps p.tables e below (T77.setTop (mkF m 123 A1 [(.int (0 : Int32))])) _
          let A2 : Array Slot := #[.val (.int p1), .val (.int p2), .val (.int p3), .val (.int p4), .val (.int p5), .val (.int (own_min p1 p2)), .val (.int (own_max p1 p2)), .val (.int v39), .val (.int v43), .val (.int (own_min v39 v43)), .val (.int (own_max v39 v43)), .val (.ref b47), .val (.ref b56), .val (.int (((p5.toUInt32 >>> ((2 : Int32) &&& 31).toUInt32).toInt32) &&& (3 : Int32))), .val (.ref aB), .val (.int (0 : Int32))]
          refine XS.istore X77.here hx rfl (hb hby at_123) rfl (l' := A2) rfl ?_
          show Steps p.tables e below (T77.setTop (mkF m 125 A2 [])) _
          refine XS.goto X77.here hx rfl (pc0 := 125) (pc' := 153) rfl (hb hby at_125) (by decide) (by decide) ?_
          show Steps p.tables e below (T77.setTop (mkF m 153 A2 [])) _
          refine XS.aload X77.here hx rfl (hb hby at_153) rfl rfl ?_
          show Steps p.tables e below (T77.setTop (mkF m 155 A2 [(.ref b47)])) _
          refine XS.aload X77.here hx rfl (hb hby at_155) rfl rfl ?_
          show Steps p.tables e below (T77.setTop (mkF m 157 A2 [(.ref aB), (.ref b47)])) _
          refine st78.trans ?_
          show Steps p.tables e below (T78.setTop (mkF m 160 A2 [(.int (0 : Int32))])) _
          refine XS.iload X78.here hx rfl (hb hby at_160) rfl ?_
          show Steps p.tables e below (T78.setTop (mkF m 162 A2 [(.int (0 : Int32)), (.int (0 : Int32))])) _
          refine XS.icmpNo X78.here hx rfl (hb hby at_162) rfl (teq (by decide : (0 : Int32) = (0 : Int32))).2 ?_
          show Steps p.tables e below (T78.setTop (mkF m 165 A2 [])) _
          refine XS.iconst X78.here hx rfl (hb hby at_165) ?_
          show Steps p.tables e below (T78.setTop (mkF m 166 A2 [(.int (1 : Int32))])) _
          refine XS.goto X78.here hx rfl (pc0 := 166) (pc' := 170) rfl (hb hby at_166) (by decide) (by decide) ?_
          exact kt)
      obtain ⟨fs, hr, hrun, hended, hW, hsame⟩ := X78.leave (v := some (.int (1 : Int32))) (fun h => by rw [Bd.returns] at h; cases h)
      refine ⟨_, _, k79 _ ?_, hrun, hended, _, _, rfl, ?_, ⟨_, rfl⟩, hW, hsame.mono (by decide) (by decide)⟩
      · show Steps p.tables e below (T78.setTop (mkF m 170 #[.val (.int p1), .val (.int p2), .val (.int p3), .val (.int p4), .val (.int p5), .val (.int (own_min p1 p2)), .val (.int (own_max p1 p2)), .val (.int v39), .val (.int v43), .val (.int (own_min v39 v43)), .val (.int (own_max v39 v43)), .val (.ref b47), .val (.ref b56), .val (.int (((p5.toUInt32 >>> ((2 : Int32) &&& 31).toUInt32).toInt32) &&& (3 : Int32))), .val (.ref aB), .val (.int (0 : Int32))] [(.int (1 : Int32))])) _
        exact retN X78 hx (t := .boolean) Bd.returns (by simp) (hb hby at_170) hr
      · show Q_rm0 Z p1 p2 p3 p4 p5 h0 n0 _ T78.heap _
        rw [e78]
        exact ⟨rfl, N78⟩
    · have k80 : ∀ t, Steps p.tables e below (T63.setTop (mkF m 136 #[.val (.int p1), .val (.int p2), .val (.int p3), .val (.int p4), .val (.int p5), .val (.int (own_min p1 p2)), .val (.int (own_max p1 p2)), .val (.int v39), .val (.int v43), .val (.int (own_min v39 v43)), .val (.int (own_max v39 v43)), .val (.ref b47), .val (.ref b56), .val (.int (((p5.toUInt32 >>> ((2 : Int32) &&& 31).toUInt32).toInt32) &&& (3 : Int32))), .val (.ref b56), .unset] [(.int (own_min v39 v43)), (.int (own_min p1 p2))])) t → Steps p.tables e below (s₁.setTop (entryFrame m #[(.int p1), (.int p2), (.int p3), (.int p4), (.int p5)] maxLocals)) t := fun t kt => k75 t (by
          let A0 : Array Slot := #[.val (.int p1), .val (.int p2), .val (.int p3), .val (.int p4), .val (.int p5), .val (.int (own_min p1 p2)), .val (.int (own_max p1 p2)), .val (.int v39), .val (.int v43), .val (.int (own_min v39 v43)), .val (.int (own_max v39 v43)), .val (.ref b47), .val (.ref b56), .val (.int (((p5.toUInt32 >>> ((2 : Int32) &&& 31).toUInt32).toInt32) &&& (3 : Int32))), .unset, .unset]
          show Steps p.tables e below (T63.setTop (mkF m 114 A0 [(.int (3 : Int32)), (.int (((p5.toUInt32 >>> ((2 : Int32) &&& 31).toUInt32).toInt32) &&& (3 : Int32)))])) _
          refine XS.icmpYes X63.here hx rfl (pc0 := 114) (pc' := 128) rfl (hb hby at_114) rfl (feq hc114_76).2 (by decide) (by decide) ?_
          show Steps p.tables e below (T63.setTop (mkF m 128 A0 [])) _
          refine XS.aload X63.here hx rfl (hb hby at_128) rfl rfl ?_
          show Steps p.tables e below (T63.setTop (mkF m 130 A0 [(.ref b56)])) _
          let A1 : Array Slot := #[.val (.int p1), .val (.int p2), .val (.int p3), .val (.int p4), .val (.int p5), .val (.int (own_min p1 p2)), .val (.int (own_max p1 p2)), .val (.int v39), .val (.int v43), .val (.int (own_min v39 v43)), .val (.int (own_max v39 v43)), .val (.ref b47), .val (.ref b56), .val (.int (((p5.toUInt32 >>> ((2 : Int32) &&& 31).toUInt32).toInt32) &&& (3 : Int32))), .val (.ref b56), .unset]
          refine XS.astore X63.here hx rfl (hb hby at_130) rfl rfl (l' := A1) rfl ?_
          show Steps p.tables e below (T63.setTop (mkF m 132 A1 [])) _
          refine XS.iload X63.here hx rfl (hb hby at_132) rfl ?_
          show Steps p.tables e below (T63.setTop (mkF m 134 A1 [(.int (own_min p1 p2))])) _
          refine XS.iload X63.here hx rfl (hb hby at_134) rfl ?_
          exact kt)
      obtain ⟨v83, hv83⟩ : ∃ v : Int32, v = (if (own_min p1 p2) = (own_min v39 v43) then (if (own_max p1 p2) = (own_max v39 v43) then (1 : Int32) else (0 : Int32)) else (0 : Int32)) := ⟨_, rfl⟩
      have k84 : ∀ t, Steps p.tables e below (T63.setTop (mkF m 151 #[.val (.int p1), .val (.int p2), .val (.int p3), .val (.int p4), .val (.int p5), .val (.int (own_min p1 p2)), .val (.int (own_max p1 p2)), .val (.int v39), .val (.int v43), .val (.int (own_min v39 v43)), .val (.int (own_max v39 v43)), .val (.ref b47), .val (.ref b56), .val (.int (((p5.toUInt32 >>> ((2 : Int32) &&& 31).toUInt32).toInt32) &&& (3 : Int32))), .val (.ref b56), .unset] [(.int v83)])) t → Steps p.tables e below (s₁.setTop (entryFrame m #[(.int p1), (.int p2), (.int p3), (.int p4), (.int p5)] maxLocals)) t := by
        intro t kt
        by_cases hc136_81 : (own_min p1 p2) = (own_min v39 v43)
        · by_cases hc143_82 : (own_max p1 p2) = (own_max v39 v43)
          · rw [show v83 = (1 : Int32) from ((hv83.trans (if_pos hc136_81)).trans (if_pos hc143_82))] at kt
            exact k80 t (by
                let A0 : Array Slot := #[.val (.int p1), .val (.int p2), .val (.int p3), .val (.int p4), .val (.int p5), .val (.int (own_min p1 p2)), .val (.int (own_max p1 p2)), .val (.int v39), .val (.int v43), .val (.int (own_min v39 v43)), .val (.int (own_max v39 v43)), .val (.ref b47), .val (.ref b56), .val (.int (((p5.toUInt32 >>> ((2 : Int32) &&& 31).toUInt32).toInt32) &&& (3 : Int32))), .val (.ref b56), .unset]
                show Steps p.tables e below (T63.setTop (mkF m 136 A0 [(.int (own_min v39 v43)), (.int (own_min p1 p2))])) _
                refine XS.icmpNo X63.here hx rfl (hb hby at_136) rfl (teq hc136_81).2 ?_
                show Steps p.tables e below (T63.setTop (mkF m 139 A0 [])) _
                refine XS.iload X63.here hx rfl (hb hby at_139) rfl ?_
                show Steps p.tables e below (T63.setTop (mkF m 141 A0 [(.int (own_max p1 p2))])) _
                refine XS.iload X63.here hx rfl (hb hby at_141) rfl ?_
                show Steps p.tables e below (T63.setTop (mkF m 143 A0 [(.int (own_max v39 v43)), (.int (own_max p1 p2))])) _
                refine XS.icmpNo X63.here hx rfl (hb hby at_143) rfl (teq hc143_82).2 ?_
                show Steps p.tables e below (T63.setTop (mkF m 146 A0 [])) _
                refine XS.iconst X63.here hx rfl (hb hby at_146) ?_
                show Steps p.tables e below (T63.setTop (mkF m 147 A0 [(.int (1 : Int32))])) _
                refine XS.goto X63.here hx rfl (pc0 := 147) (pc' := 151) rfl (hb hby at_147) (by decide) (by decide) ?_
                exact kt)
          · rw [show v83 = (0 : Int32) from ((hv83.trans (if_pos hc136_81)).trans (if_neg hc143_82))] at kt
            exact k80 t (by
                let A0 : Array Slot := #[.val (.int p1), .val (.int p2), .val (.int p3), .val (.int p4), .val (.int p5), .val (.int (own_min p1 p2)), .val (.int (own_max p1 p2)), .val (.int v39), .val (.int v43), .val (.int (own_min v39 v43)), .val (.int (own_max v39 v43)), .val (.ref b47), .val (.ref b56), .val (.int (((p5.toUInt32 >>> ((2 : Int32) &&& 31).toUInt32).toInt32) &&& (3 : Int32))), .val (.ref b56), .unset]
                show Steps p.tables e below (T63.setTop (mkF m 136 A0 [(.int (own_min v39 v43)), (.int (own_min p1 p2))])) _
                refine XS.icmpNo X63.here hx rfl (hb hby at_136) rfl (teq hc136_81).2 ?_
                show Steps p.tables e below (T63.setTop (mkF m 139 A0 [])) _
                refine XS.iload X63.here hx rfl (hb hby at_139) rfl ?_
                show Steps p.tables e below (T63.setTop (mkF m 141 A0 [(.int (own_max p1 p2))])) _
                refine XS.iload X63.here hx rfl (hb hby at_141) rfl ?_
                show Steps p.tables e below (T63.setTop (mkF m 143 A0 [(.int (own_max v39 v43)), (.int (own_max p1 p2))])) _
                refine XS.icmpYes X63.here hx rfl (pc0 := 143) (pc' := 150) rfl (hb hby at_143) rfl (feq hc143_82).2 (by decide) (by decide) ?_
                show Steps p.tables e below (T63.setTop (mkF m 150 A0 [])) _
                refine XS.iconst X63.here hx rfl (hb hby at_150) ?_
                exact kt)
        · rw [show v83 = (0 : Int32) from (hv83.trans (if_neg hc136_81))] at kt
          exact k80 t (by
              let A0 : Array Slot := #[.val (.int p1), .val (.int p2), .val (.int p3), .val (.int p4), .val (.int p5), .val (.int (own_min p1 p2)), .val (.int (own_max p1 p2)), .val (.int v39), .val (.int v43), .val (.int (own_min v39 v43)), .val (.int (own_max v39 v43)), .val (.ref b47), .val (.ref b56), .val (.int (((p5.toUInt32 >>> ((2 : Int32) &&& 31).toUInt32).toInt32) &&& (3 : Int32))), .val (.ref b56), .unset]
              show Steps p.tables e below (T63.setTop (mkF m 136 A0 [(.int (own_min v39 v43)), (.int (own_min p1 p2))])) _
              refine XS.icmpYes X63.here hx rfl (pc0 := 136) (pc' := 150) rfl (hb hby at_136) rfl (feq hc136_81).2 (by decide) (by decide) ?_
              show Steps p.tables e below (T63.setTop (mkF m 150 A0 [])) _
              refine XS.iconst X63.here hx rfl (hb hby at_150) ?_
              exact kt)
      obtain ⟨cq85, kq85, q85a, q85b, q85c⟩ := isOf hZ rfl Eq51'67
      obtain ⟨_, _, ⟨T85, L85, k85, n85⟩, -, X85, ⟨Lc85, hQ85, l85, y85, z85⟩, st85⟩ := X63.virtualBack hx (y := (⟨"com/example/evntual/evntual/engine/RangeType", "equals", "(Ljava/lang/Object;)Z"⟩ : MethodName)) (z := (⟨"com/example/evntual/evntual/engine/RangeType", "equals", "(Ljava/lang/Object;)Z"⟩ : MethodName)) hown (mvT hZ (hw _ (List.mem_of_getElem? (i := 20) rfl))) (mvT hZ (hw _ (List.mem_of_getElem? (i := 21) rfl))) (notFace_of_selects (args := #[]) (mvT hZ (hw _ (List.mem_of_getElem? (i := 23) rfl)))) (mvT hZ (hw _ (List.mem_of_getElem? (i := 23) rfl))) (mvT hZ (hw _ (List.mem_of_getElem? (i := 22) rfl))) (by decide) (backOf (W := 0) (rm5_r l Z a0 hw [] b47 b56 (own_min p1 p2) (own_max p1 p2) (own_min v39 v43) (own_max v39 v43) T63.heap n0 Z_64 Fq51_low'68 Fq51_high'69 Fq63_low Fq63_high Eq63) hZ (hw _ (List.mem_of_getElem? (i := 24) rfl)) (hw _ (List.mem_of_getElem? (i := 9) rfl)) (by decide) (by decide)) q85a q85c (g := (mkF m 157 #[.val (.int p1), .val (.int p2), .val (.int p3), .val (.int p4), .val (.int p5), .val (.int (own_min p1 p2)), .val (.int (own_max p1 p2)), .val (.int v39), .val (.int v43), .val (.int (own_min v39 v43)), .val (.int (own_max v39 v43)), .val (.ref b47), .val (.ref b56), .val (.int (((p5.toUInt32 >>> ((2 : Int32) &&& 31).toUInt32).toInt32) &&& (3 : Int32))), .val (.ref b56), .val (.int v83)] [(.ref b56), (.ref b47)])) rfl (by rw [hml]; rfl) (Steps.refl _) (argsL := [(.ref b56)]) (rest := []) (lenOf pd_2 rfl) rfl (by show 2 * 0 + _ ≤ _; exact Nat.le_of_eq rfl) (hb hby at_157) (fun _ _ => ⟨rfl, rfl, (by decide : 2 + 0 ≤ _), (by decide : 4 + 0 ≤ _)⟩)
      dsimp only [Pt.U, Pt.locs, Pt.cells, Pt.slots] at X85 l85 y85 z85 st85 hQ85
      subst l85 y85 z85
      obtain ⟨rfl, N85q, e85⟩ := hQ85
      have N85 := Fr.app N63 N85q
      have k86 : ∀ t, Steps p.tables e below (T85.setTop (mkF m 170 #[.val (.int p1), .val (.int p2), .val (.int p3), .val (.int p4), .val (.int p5), .val (.int (own_min p1 p2)), .val (.int (own_max p1 p2)), .val (.int v39), .val (.int v43), .val (.int (own_min v39 v43)), .val (.int (own_max v39 v43)), .val (.ref b47), .val (.ref b56), .val (.int (((p5.toUInt32 >>> ((2 : Int32) &&& 31).toUInt32).toInt32) &&& (3 : Int32))), .val (.ref b56), .val (.int v83)] [(.int (1 : Int32))])) t → Steps p.tables e below (s₁.setTop (entryFrame m #[(.int p1), (.int p2), (.int p3), (.int p4), (.int p5)] maxLocals)) t := fun t kt => k84 t (by
          show Steps p.tables e below (T63.setTop (mkF m 151 #[.val (.int p1), .val (.int p2), .val (.int p3), .val (.int p4), .val (.int p5), .val (.int (own_min p1 p2)), .val (.int (own_max p1 p2)), .val (.int v39), .val (.int v43), .val (.int (own_min v39 v43)), .val (.int (own_max v39 v43)), .val (.ref b47), .val (.ref b56), .val (.int (((p5.toUInt32 >>> ((2 : Int32) &&& 31).toUInt32).toInt32) &&& (3 : Int32))), .val (.ref b56), .unset] [(.int v83)])) _
          let A0 : Array Slot := #[.val (.int p1), .val (.int p2), .val (.int p3), .val (.int p4), .val (.int p5), .val (.int (own_min p1 p2)), .val (.int (own_max p1 p2)), .val (.int v39), .val (.int v43), .val (.int (own_min v39 v43)), .val (.int (own_max v39 v43)), .val (.ref b47), .val (.ref b56), .val (.int (((p5.toUInt32 >>> ((2 : Int32) &&& 31).toUInt32).toInt32) &&& (3 : Int32))), .val (.ref b56), .val (.int v83)]
          refine XS.istore X63.here hx rfl (hb hby at_151) rfl (l' := A0) rfl ?_
          show Steps p.tables e below (T63.setTop (mkF m 153 A0 [])) _
          refine XS.aload X63.here hx rfl (hb hby at_153) rfl rfl ?_
          show Steps p.tables e below (T63.setTop (mkF m 155 A0 [(.ref b47)])) _
          refine XS.aload X63.here hx rfl (hb hby at_155) rfl rfl ?_
          show Steps p.tables e below (T63.setTop (mkF m 157 A0 [(.ref b56), (.ref b47)])) _
          refine st85.trans ?_
          show Steps p.tables e below (T85.setTop (mkF m 160 A0 [(.int (own_req (own_min p1 p2) (own_max p1 p2) (own_min v39 v43) (own_max v39 v43)))])) _
          refine XS.iload X85.here hx rfl (hb hby at_160) rfl ?_
          show Steps p.tables e below (T85.setTop (mkF m 162 A0 [(.int v83), (.int (own_req (own_min p1 p2) (own_max p1 p2) (own_min v39 v43) (own_max v39 v43)))])) _
          refine XS.icmpNo X85.here hx rfl (hb hby at_162) rfl (teq ((own_sym (own_min p1 p2) (own_max p1 p2) (own_min v39 v43) (own_max v39 v43)).trans hv83.symm)).2 ?_
          show Steps p.tables e below (T85.setTop (mkF m 165 A0 [])) _
          refine XS.iconst X85.here hx rfl (hb hby at_165) ?_
          show Steps p.tables e below (T85.setTop (mkF m 166 A0 [(.int (1 : Int32))])) _
          refine XS.goto X85.here hx rfl (pc0 := 166) (pc' := 170) rfl (hb hby at_166) (by decide) (by decide) ?_
          exact kt)
      obtain ⟨fs, hr, hrun, hended, hW, hsame⟩ := X85.leave (v := some (.int (1 : Int32))) (fun h => by rw [Bd.returns] at h; cases h)
      refine ⟨_, _, k86 _ ?_, hrun, hended, _, _, rfl, ?_, ⟨_, rfl⟩, hW, hsame.mono (by decide) (by decide)⟩
      · show Steps p.tables e below (T85.setTop (mkF m 170 #[.val (.int p1), .val (.int p2), .val (.int p3), .val (.int p4), .val (.int p5), .val (.int (own_min p1 p2)), .val (.int (own_max p1 p2)), .val (.int v39), .val (.int v43), .val (.int (own_min v39 v43)), .val (.int (own_max v39 v43)), .val (.ref b47), .val (.ref b56), .val (.int (((p5.toUInt32 >>> ((2 : Int32) &&& 31).toUInt32).toInt32) &&& (3 : Int32))), .val (.ref b56), .val (.int v83)] [(.int (1 : Int32))])) _
        exact retN X85 hx (t := .boolean) Bd.returns (by simp) (hb hby at_170) hr
      · show Q_rm0 Z p1 p2 p3 p4 p5 h0 n0 _ T85.heap _
        rw [e85]
        exact ⟨rfl, N85⟩
set_option maxRecDepth 65536 in
set_option maxHeartbeats 40000000 in
theorem comes_1 {Post : Tables → Env → Array Value → State → Outcome → State → Prop} (hpost : ∀ tb e args s v u, (limb_1_1.after args s (.returned v) u = true ∧ limb_1_2.after args s (.returned v) u = true ∧ True) → FrameEnd s (.returned v) u (Jvm.fieldLocs frame_1_writes args s ++ Jvm.arrayLocs frame_1_arrays args s ++ Jvm.staticLocs frame_1_statics s) 16 128 → Post tb e args s (.returned v) u) :
    ArmFor flags0 classFile x code maxLocals ret World_1 tables_1 room_1 Calls_1 rest_1 Pre_1 Post := by
  intro l hfl _ _ p e ha hc hk s m args below hf hA hF happ hP
  obtain ⟨hcalls, hrest, hpre⟩ := hP
  obtain ⟨-, -, -, hnamed, -, -, -, hat⟩ := (Spec.applies_iff hf).mp happ
  obtain ⟨hg, hn⟩ := and_e (Cond.before_iff.mp (show (Jvm.Cond.and given_1 narrow_1).before args s = true from hpre))
  obtain ⟨hcnt, hg0⟩ := and_e hg
  obtain ⟨ha0, hg1⟩ := and_e hg0
  obtain ⟨ha1, hg2⟩ := and_e hg1
  obtain ⟨ha2, hg3⟩ := and_e hg2
  obtain ⟨ha3, hg4⟩ := and_e hg3
  obtain ⟨w0, w1, w2, w3, w4, rfl⟩ : ∃ w0 w1 w2 w3 w4 : Value, args = #[w0, w1, w2, w3, w4] := by
    have hs : args.size = 5 := by simpa [Cond.value, given_1] using hcnt
    obtain ⟨L⟩ := args
    match L, hs with
    | [w0, w1, w2, w3, w4], _ => exact ⟨w0, w1, w2, w3, w4, rfl⟩
  have hw := fun d (hd : d ∈ tables_1) => atoms_spec (ws := Jvm.Cond.code x code maxLocals ret :: tables_1) hat d (List.mem_cons_of_mem _ hd)
  have hfit : Fit s := fun {y c} hc i hi => by
    obtain ⟨ha, rfl⟩ := Array.getElem?_eq_some_iff.mp hc
    have q := List.all_eq_true.mp ((Array.all_eq_true_iff_forall_mem.mp hF) _ (Array.getElem_mem ha)) i (List.mem_range.mpr hi)
    simpa [Array.getElem?_eq_getElem hi] using q
  obtain ⟨i0, ei0⟩ := is_v ha0
  obtain rfl : w0 = (.int i0) := Option.some.inj ei0
  obtain ⟨i1, ei1⟩ := is_v ha1
  obtain rfl : w1 = (.int i1) := Option.some.inj ei1
  obtain ⟨i2, ei2⟩ := is_v ha2
  obtain rfl : w2 = (.int i2) := Option.some.inj ei2
  obtain ⟨i3, ei3⟩ := is_v ha3
  obtain rfl : w3 = (.int i3) := Option.some.inj ei3
  obtain ⟨i4, ei4⟩ := is_v hg4
  obtain rfl : w4 = (.int i4) := Option.some.inj ei4
  obtain ⟨aB, eB⟩ := exa_v hn
  have SB := Sta.start eB (Or.inr ⟨(hw _ (List.mem_of_getElem? (i := 28) rfl)), (hw _ (List.mem_of_getElem? (i := 29) rfl))⟩)
  have EB := Exa.start eB hn
  obtain ⟨n, o, h1, h2, h3, _, L, rfl, ⟨rfl, N⟩, hq⟩ := rm0 l s _ hw tables_1 i0 i1 i2 i3 i4 aB s.heap s.heap.size (Nat.le_refl _) (Old.start s) SB EB p e ha hc hk s m _ below hf ((Spec.applies_iff_loose hf).mp happ).1 ⟨rfl, State.Warmed39.refl s, rfl⟩ trivial
  refine ⟨n, _, h1, h2, h3, hpost _ _ _ _ _ _ ⟨Cond.after_iff.mpr rfl, Cond.after_iff.mpr (eq_i res_at (Term.int_eval (1)) rfl), trivial⟩ ⟨hq.1, hq.2.1, (hq.2.2.sift fun y hy => Or.inr (N y hy)).mono (by decide) (by decide)⟩⟩
theorem main_1_1 : Claimed_1_1 := comes_1 fun _ _ _ _ _ _ h hF => ⟨h.1, hF⟩
theorem main_1_2 : Claimed_1_2 := comes_1 fun _ _ _ _ _ _ h hF => ⟨h.2.1, hF⟩
end Jvm.Pilot.@@N@@
namespace Jvm.Pilot.@@N@@
open Jvm Jvm.ClassFile Sem Op Lib Jvm.Free Jvm.Stand Jvm.Pilot.@@N@@.Jvm.D
/-! MADE BY PROGRAM (witnessworld.py) out of the Statement's table words and the real class files: 12 classes; the members and pool entries that the words name. The judged class is class 1, her method 1. -/
namespace start1
open Jvm.ClassFile
def u (s : String) : CpInfo := .utf8 (stringToUtf16 s)
/-- a pool by its gaps: so many unusable entries, then the entry; so many at the end -/
def gap : Nat → List CpInfo → List CpInfo
  | 0, r => r
  | n + 1, r => .unusable :: gap n r
def poolList (es : List (Nat × CpInfo)) (last : Nat) : List CpInfo := es.foldr (fun e r => gap e.1 (e.2 :: r)) (gap last [])
def pool (es : List (Nat × CpInfo)) (last : Nat) : Array CpInfo := ⟨poolList es last⟩
def fileOf (pool : Array CpInfo) (this : Nat) (attrs : Array Attribute := #[]) (ms : Array MethodInfo := #[]) (fl : Nat := 33) (sup : Nat := 0) (ifs : Array Nat := #[]) (fds : Array FieldInfo := #[]) : ClassFile where
  minorVersion := 0
  majorVersion := 65
  constantPool := pool
  accessFlags := fl
  thisClass := this
  superClass := sup
  interfaces := ifs
  fields := fds
  methods := ms
  attributes := attrs
def plain (name : String) (sup : Option ClassId) : Class where
  name := name
  kind := .ordinary
  loader := none
  accessFlags := 33
  super := sup
  interfaces := #[]
  cf := none
  fields := #[]
  methods := #[]
  instanceTypes := #[]
  staticTypes := #[]
  resolved := #[]
  callSites := []
  init := .initialized
  statics := none
  mirror := none

def pool0 : Array CpInfo := pool [(5, u "<init>"), (0, u "()V"), (1, .class_ 10), (1, u "java/lang/Object")] 113

def k0c0 : Code := { maxStack := 0, maxLocals := 1, code := object_method_1_code, exceptionTable := #[], attributes := #[] }
def k0m0 : Method := { name := "<init>", desc := "()V", sig := { parameters := [], returnType := none }, accessFlags := 1, code := some k0c0 }
/-- java/lang/Object -/
def k0 : Class := { plain "java/lang/Object" none with
  accessFlags := 33
  interfaces := #[]
  cf := some (fileOf pool0 8 #[] #[{ accessFlags := 1, nameIndex := 5, descriptorIndex := 6, attributes := #[] }] 33 0 #[] #[])
  fields := #[]
  methods := #[k0m0]
  instanceTypes := #[]
  staticTypes := #[]
  resolved := Array.replicate 124 none
  statics := none }

def pool1 : Array CpInfo := pool [(2, .class_ 4), (1, u "java/lang/Object"), (0, u "<init>"), (0, u "()V"), (0, .methodref 8 9), (0, .class_ 10), (0, .nameAndType 11 12), (0, u "java/lang/Math"), (0, u "min"), (0, u "(II)I"), (0, .methodref 8 14), (0, .nameAndType 15 12), (0, u "max"), (0, .class_ 17), (0, u "com/example/evntual/evntual/engine/RangeType"), (0, .methodref 16 19), (0, .nameAndType 5 20), (0, u "(II)V"), (0, .fieldref 22 23), (0, .class_ 24), (0, .nameAndType 25 26), (0, u "com/example/evntual/evntual/engine/BoolType"), (0, u "INSTANCE"), (0, u "Lcom/example/evntual/evntual/engine/BoolType;"), (0, .methodref 16 28), (0, .nameAndType 29 30), (0, u "equals"), (0, u "(Ljava/lang/Object;)Z"), (0, .class_ 32), (0, u "com/example/evntual/evntual/engine/RangeTypeEqualsPinLaw"), (2, u "law"), (0, u "(IIIII)Z")] 3

def k1m0 : Method := { name := "<init>", desc := "()V", sig := { parameters := [], returnType := none }, accessFlags := 1, code := none }
def k1c1 : Code := { maxStack := 4, maxLocals := 16, code := code, exceptionTable := #[], attributes := #[] }
def k1m1 : Method := { name := "law", desc := "(IIIII)Z", sig := { parameters := [.int, .int, .int, .int, .int], returnType := some .boolean }, accessFlags := 9, code := some k1c1 }
/-- com/example/evntual/evntual/engine/RangeTypeEqualsPinLaw -/
def k1 : Class := { plain "com/example/evntual/evntual/engine/RangeTypeEqualsPinLaw" (some 0) with
  accessFlags := 49
  interfaces := #[]
  cf := some (fileOf pool1 31 #[] #[{ accessFlags := 1, nameIndex := 5, descriptorIndex := 6, attributes := #[] }, { accessFlags := 9, nameIndex := 35, descriptorIndex := 36, attributes := #[] }] 49 2 #[] #[])
  fields := #[]
  methods := #[k1m0, k1m1]
  instanceTypes := #[]
  staticTypes := #[]
  resolved := Array.replicate 40 none
  statics := none }

def pool2 : Array CpInfo := pool [(1, .class_ 2), (0, u "java/lang/Math"), (1, .class_ 6), (1, u "java/lang/Object"), (0, u "<init>"), (0, u "()V"), (89, .class_ 100), (1, u "java/lang/Math$RandomNumberGeneratorHolder"), (71, u "negativeZeroFloatBits"), (0, u "J"), (2, u "negativeZeroDoubleBits"), (21, u "max"), (2, u "min"), (43, u "$assertionsDisabled"), (0, u "Z"), (88, u "(II)I"), (2, u "twoToTheDoubleScaleDown"), (0, u "D"), (4, u "twoToTheDoubleScaleUp"), (9, u "E"), (3, u "PI"), (2, u "TAU"), (2, u "DEGREES_TO_RADIANS"), (0, u "RADIANS_TO_DEGREES")] 94

def k2m0 : Method := { name := "<init>", desc := "()V", sig := { parameters := [], returnType := none }, accessFlags := 2, code := none }
def k2c1 : Code := { maxStack := 2, maxLocals := 2, code := jdk_29_method_65_code, exceptionTable := #[], attributes := #[] }
def k2m1 : Method := { name := "max", desc := "(II)I", sig := { parameters := [.int, .int], returnType := some .int }, accessFlags := 9, code := some k2c1 }
def k2c2 : Code := { maxStack := 2, maxLocals := 2, code := jdk_29_method_69_code, exceptionTable := #[], attributes := #[] }
def k2m2 : Method := { name := "min", desc := "(II)I", sig := { parameters := [.int, .int], returnType := some .int }, accessFlags := 9, code := some k2c2 }
/-- java/lang/Math -/
def k2 : Class := { plain "java/lang/Math" (some 0) with
  accessFlags := 49
  interfaces := #[]
  cf := some (fileOf pool2 1 #[.nestMembers #[98]] #[{ accessFlags := 2, nameIndex := 7, descriptorIndex := 8, attributes := #[] }, { accessFlags := 9, nameIndex := 198, descriptorIndex := 335, attributes := #[] }, { accessFlags := 9, nameIndex := 201, descriptorIndex := 335, attributes := #[] }] 49 4 #[] #[{ accessFlags := 25, nameIndex := 354, descriptorIndex := 339, attributes := #[] }, { accessFlags := 25, nameIndex := 358, descriptorIndex := 339, attributes := #[] }, { accessFlags := 25, nameIndex := 361, descriptorIndex := 339, attributes := #[] }, { accessFlags := 26, nameIndex := 364, descriptorIndex := 339, attributes := #[] }, { accessFlags := 26, nameIndex := 365, descriptorIndex := 339, attributes := #[] }, { accessFlags := 26, nameIndex := 172, descriptorIndex := 173, attributes := #[] }, { accessFlags := 26, nameIndex := 176, descriptorIndex := 173, attributes := #[] }, { accessFlags := 8, nameIndex := 344, descriptorIndex := 339, attributes := #[] }, { accessFlags := 8, nameIndex := 338, descriptorIndex := 339, attributes := #[] }, { accessFlags := 4120, nameIndex := 245, descriptorIndex := 246, attributes := #[] }])
  fields := #[{ name := "E", type := .double, accessFlags := 25, slot := 0, constantValue := 0 }, { name := "PI", type := .double, accessFlags := 25, slot := 1, constantValue := 0 }, { name := "TAU", type := .double, accessFlags := 25, slot := 2, constantValue := 0 }, { name := "DEGREES_TO_RADIANS", type := .double, accessFlags := 26, slot := 3, constantValue := 0 }, { name := "RADIANS_TO_DEGREES", type := .double, accessFlags := 26, slot := 4, constantValue := 0 }, { name := "negativeZeroFloatBits", type := .long, accessFlags := 26, slot := 5, constantValue := 0 }, { name := "negativeZeroDoubleBits", type := .long, accessFlags := 26, slot := 6, constantValue := 0 }, { name := "twoToTheDoubleScaleUp", type := .double, accessFlags := 8, slot := 7, constantValue := 0 }, { name := "twoToTheDoubleScaleDown", type := .double, accessFlags := 8, slot := 8, constantValue := 0 }, { name := "$assertionsDisabled", type := .boolean, accessFlags := 4120, slot := 9, constantValue := 0 }]
  methods := #[k2m0, k2m1, k2m2]
  instanceTypes := #[]
  staticTypes := #[.double, .double, .double, .double, .double, .long, .long, .double, .double, .boolean]
  resolved := Array.replicate 460 none
  statics := none }

def pool3 : Array CpInfo := pool [(1, .class_ 2), (0, u "com/example/evntual/evntual/engine/Type"), (0, .class_ 4), (0, u "java/lang/Object")] 11

/-- com/example/evntual/evntual/engine/Type -/
def k3 : Class := { plain "com/example/evntual/evntual/engine/Type" (some 0) with
  accessFlags := 1537
  interfaces := #[]
  cf := some (fileOf pool3 1 #[] #[] 1537 3 #[] #[])
  fields := #[]
  methods := #[]
  instanceTypes := #[]
  staticTypes := #[]
  resolved := Array.replicate 16 none
  statics := none }

def pool4 : Array CpInfo := pool [(1, .methodref 2 3), (0, .class_ 4), (0, .nameAndType 5 6), (0, u "java/lang/Object"), (0, u "<init>"), (0, u "()V"), (9, .fieldref 17 18), (0, .class_ 19), (0, .nameAndType 20 21), (0, u "com/example/evntual/evntual/engine/RangeType"), (0, u "low"), (0, u "I"), (0, .fieldref 17 23), (0, .nameAndType 24 21), (0, u "high"), (1, .class_ 27), (0, u "com/example/evntual/evntual/engine/Type"), (0, u "(II)V"), (8, u "equals"), (0, u "(Ljava/lang/Object;)Z")] 22

def k4c0 : Code := { maxStack := 4, maxLocals := 3, code := prog_70_method_1_code, exceptionTable := #[], attributes := #[] }
def k4m0 : Method := { name := "<init>", desc := "(II)V", sig := { parameters := [.int, .int], returnType := none }, accessFlags := 1, code := some k4c0 }
def k4c1 : Code := { maxStack := 2, maxLocals := 3, code := prog_70_method_6_code, exceptionTable := #[], attributes := #[] }
def k4m1 : Method := { name := "equals", desc := "(Ljava/lang/Object;)Z", sig := { parameters := [(.object "java/lang/Object")], returnType := some .boolean }, accessFlags := 1, code := some k4c1 }
/-- com/example/evntual/evntual/engine/RangeType -/
def k4 : Class := { plain "com/example/evntual/evntual/engine/RangeType" (some 0) with
  accessFlags := 49
  interfaces := #[3]
  cf := some (fileOf pool4 17 #[] #[{ accessFlags := 1, nameIndex := 5, descriptorIndex := 28, attributes := #[] }, { accessFlags := 1, nameIndex := 37, descriptorIndex := 38, attributes := #[] }] 49 2 #[26] #[{ accessFlags := 18, nameIndex := 20, descriptorIndex := 21, attributes := #[] }, { accessFlags := 18, nameIndex := 24, descriptorIndex := 21, attributes := #[] }])
  fields := #[{ name := "low", type := .int, accessFlags := 18, slot := 0, constantValue := 0 }, { name := "high", type := .int, accessFlags := 18, slot := 1, constantValue := 0 }]
  methods := #[k4m0, k4m1]
  instanceTypes := #[.int, .int]
  staticTypes := #[]
  resolved := Array.replicate 61 none
  statics := none }

def pool5 : Array CpInfo := pool [(2, .class_ 4), (1, u "java/lang/Object"), (0, u "<init>"), (0, u "()V"), (4, .class_ 12), (0, u "com/example/evntual/evntual/engine/BoolType"), (3, u "INSTANCE"), (0, u "Lcom/example/evntual/evntual/engine/BoolType;"), (0, .class_ 19), (0, u "com/example/evntual/evntual/engine/Type")] 9

def k5m0 : Method := { name := "<init>", desc := "()V", sig := { parameters := [], returnType := none }, accessFlags := 2, code := none }
/-- com/example/evntual/evntual/engine/BoolType -/
def k5 : Class := { plain "com/example/evntual/evntual/engine/BoolType" (some 0) with
  accessFlags := 49
  interfaces := #[3]
  cf := some (fileOf pool5 11 #[] #[{ accessFlags := 2, nameIndex := 5, descriptorIndex := 6, attributes := #[] }] 49 2 #[18] #[{ accessFlags := 25, nameIndex := 16, descriptorIndex := 17, attributes := #[] }])
  fields := #[{ name := "INSTANCE", type := (.object "com/example/evntual/evntual/engine/BoolType"), accessFlags := 25, slot := 0, constantValue := 0 }]
  methods := #[k5m0]
  instanceTypes := #[]
  staticTypes := #[(.object "com/example/evntual/evntual/engine/BoolType")]
  resolved := Array.replicate 29 none
  statics := some 0 }

def pool6 : Array CpInfo := pool [(1, u "java/lang/Cloneable"), (0, .class_ 1), (0, u "java/lang/Object"), (0, .class_ 3)] 3

/-- java/lang/Cloneable -/
def k6 : Class := { plain "java/lang/Cloneable" (some 0) with
  accessFlags := 1537
  interfaces := #[]
  cf := some (fileOf pool6 2 #[] #[] 1537 4 #[] #[])
  fields := #[]
  methods := #[]
  instanceTypes := #[]
  staticTypes := #[]
  resolved := Array.replicate 8 none
  statics := none }

def pool7 : Array CpInfo := pool [(1, u "java/io/Serializable"), (0, .class_ 1), (0, u "java/lang/Object"), (0, .class_ 3)] 3

/-- java/io/Serializable -/
def k7 : Class := { plain "java/io/Serializable" (some 0) with
  accessFlags := 1537
  interfaces := #[]
  cf := some (fileOf pool7 2 #[] #[] 1537 4 #[] #[])
  fields := #[]
  methods := #[]
  instanceTypes := #[]
  staticTypes := #[]
  resolved := Array.replicate 8 none
  statics := none }

/-- the primitive byte -/
def k8 : Class := { plain "byte" none with kind := .primitive 'B', accessFlags := 0x411 }
/-- [B -/
def k9 : Class := { plain "[B" (some 0) with kind := .array 8 .byte, interfaces := #[6, 7], accessFlags := 1041 }

/-- the primitive int -/
def k10 : Class := { plain "int" none with kind := .primitive 'I', accessFlags := 0x411 }
/-- [I -/
def k11 : Class := { plain "[I" (some 0) with kind := .array 10 .int, interfaces := #[6, 7], accessFlags := 1041 }

def heap : Heap := #[{ cls := 5, slots := #[.ref 1], vm := .statics 5 },
  { cls := 5, slots := #[], vm := .none }]
def classes : Array Class := #[k0, k1, k2, k3, k4, k5, k6, k7, k8, k9, k10, k11]
def interned : List (Array UInt16 × Addr) := []
def slotsUsed : Nat := 1
def theMethod : MethodId := ⟨1, 1⟩
def args0 : Array Value := #[.int 5, .int 7, .int 1, .int 2, .int 3]
def aboutOver (below : List Frame) : State where
  vm := { classes := classes, interned := interned.toArray }
  heap := heap
  slotsUsed := slotsUsed
  threads := #[{ frames := .invoking theMethod args0 :: below }]
def below0 : List Frame := [.native { method := ⟨0, 0⟩, args := #[] }]
def about1 : State := aboutOver below0
def p0 : Program := .bare "" "" ""
def e0 : Env := launch0.env 0 0 0
theorem w_frames : about1.frames = Frame.invoking theMethod args0 :: below0 := rfl
set_option maxRecDepth 65536 in
theorem w_args : argsFit about1.vm theMethod args0 = true := by decide +kernel
set_option maxRecDepth 65536 in
theorem w_heap : heapFits about1 = true := by decide +kernel
set_option maxRecDepth 65536 in
theorem w_runnable : about1.curStatus? = some .runnable := by decide +kernel
set_option maxRecDepth 65536 in
theorem w_alone : about1.alone = true := by decide +kernel
set_option maxRecDepth 65536 in
theorem w_named : about1.methodNamed? x = some theMethod := by decide +kernel
set_option maxRecDepth 65536 in
theorem w_hears : about1.hears theMethod below0 = true := by decide +kernel
set_option maxRecDepth 65536 in
theorem w_ripe : about1.ripe theMethod args0 below0 = true := by decide +kernel
theorem w_running : about1.status = .running := rfl
set_option maxRecDepth 65536 in
theorem w_room : about1.hasRoom e0.platform room_1 = true :=
  launch0.hasRoom_least _ room_1 (by decide +kernel) (by decide +kernel) (by decide +kernel) (by decide +kernel) (by decide +kernel) (by decide +kernel)
theorem allAtoms_all (ts : List Jvm.Cond) (a : Array Jvm.Value) (st : Jvm.State) : (allAtoms ts).before a st = ts.all (fun c => c.before a st) := by
  induction ts with
  | nil => rfl
  | cons c t ih =>
    show (Jvm.Cond.and c (allAtoms t)).before a st = _
    rw [Jvm.Cond.before_and, ih, List.all_cons]
def words1 : List Jvm.Cond := Jvm.Cond.code x code maxLocals ret :: tables_1
/-- a 'code' word, met by the world's own term for the bytes: nothing is compared byte by byte -/
theorem code_word {y : MethodName} {bytes : ByteArray} {mx : Nat} {rt : Option FieldType} {a : Array Value} {s : State} {m : MethodId} {meth : Method} {c : Code} (h1 : s.methodNamed? y = some m) (h2 : s.vm.method? m = some meth) (h3 : meth.code = some c) (h4 : c.code = bytes)
    (h5 : (c.maxLocals == mx && c.exceptionTable.isEmpty && decide (c.maxStack ≤ mostOperands) && decide (meth.sig.returnType = rt) && !meth.locks && decide (parseMethodDescriptor y.desc = some meth.sig)) = true) : (Jvm.Cond.code y bytes mx rt).before a s = true := by
  simp only [Bool.and_eq_true, beq_iff_eq, Bool.not_eq_true', decide_eq_true_eq] at h5
  obtain ⟨⟨⟨⟨⟨g1, g2⟩, g3⟩, g4⟩, g5⟩, g6⟩ := h5
  simp [Cond.before, Cond.holds, Cond.value, h1, h2, h3, h4, g1, g2, g3, g4, g5, g6]
def isCode : Jvm.Cond → Bool
  | .code _ _ _ _ => true
  | _ => false
theorem all_split {L : List Jvm.Cond} {P : Jvm.Cond → Bool} (h1 : L.all (fun c => isCode c || P c) = true) (h2 : ∀ c ∈ L.filter isCode, P c = true) : L.all P = true := by
  refine List.all_eq_true.mpr fun c hc => ?_
  have h := List.all_eq_true.mp h1 c hc
  rcases Bool.eq_false_or_eq_true (isCode c) with hi | hi
  · exact h2 c (List.mem_filter.mpr ⟨hc, hi⟩)
  · simpa [hi] using h
set_option maxRecDepth 65536 in
theorem w_c0 : (Jvm.Cond.code x code maxLocals ret).before args0 about1 = true := code_word (m := ⟨1, 1⟩) (meth := k1m1) (c := k1c1) (by decide +kernel) rfl rfl rfl (by decide +kernel)
set_option maxRecDepth 65536 in
theorem w_c1 : (Jvm.Cond.code ({ cls := "java/lang/Math", name := "min", desc := "(II)I" } : Jvm.MethodName) jdk_29_method_69_code (2 : Nat) (Option.some Jvm.ClassFile.FieldType.int)).before args0 about1 = true := code_word (m := ⟨2, 2⟩) (meth := k2m2) (c := k2c2) (by decide +kernel) rfl rfl rfl (by decide +kernel)
set_option maxRecDepth 65536 in
theorem w_c2 : (Jvm.Cond.code ({ cls := "java/lang/Math", name := "max", desc := "(II)I" } : Jvm.MethodName) jdk_29_method_65_code (2 : Nat) (Option.some Jvm.ClassFile.FieldType.int)).before args0 about1 = true := code_word (m := ⟨2, 1⟩) (meth := k2m1) (c := k2c1) (by decide +kernel) rfl rfl rfl (by decide +kernel)
set_option maxRecDepth 65536 in
theorem w_c3 : (Jvm.Cond.code ({ cls := "com/example/evntual/evntual/engine/RangeType", name := "<init>", desc := "(II)V" } : Jvm.MethodName) prog_70_method_1_code (3 : Nat) (Option.none : Option Jvm.ClassFile.FieldType)).before args0 about1 = true := code_word (m := ⟨4, 0⟩) (meth := k4m0) (c := k4c0) (by decide +kernel) rfl rfl rfl (by decide +kernel)
set_option maxRecDepth 65536 in
theorem w_c4 : (Jvm.Cond.code ({ cls := "java/lang/Object", name := "<init>", desc := "()V" } : Jvm.MethodName) object_method_1_code (1 : Nat) (Option.none : Option Jvm.ClassFile.FieldType)).before args0 about1 = true := code_word (m := ⟨0, 0⟩) (meth := k0m0) (c := k0c0) (by decide +kernel) rfl rfl rfl (by decide +kernel)
set_option maxRecDepth 65536 in
theorem w_c5 : (Jvm.Cond.code ({ cls := "com/example/evntual/evntual/engine/RangeType", name := "equals", desc := "(Ljava/lang/Object;)Z" } : Jvm.MethodName) prog_70_method_6_code (3 : Nat) (Option.some Jvm.ClassFile.FieldType.boolean)).before args0 about1 = true := code_word (m := ⟨4, 1⟩) (meth := k4m1) (c := k4c1) (by decide +kernel) rfl rfl rfl (by decide +kernel)
def codes1 : List Jvm.Cond := [Jvm.Cond.code x code maxLocals ret, Jvm.Cond.code ({ cls := "java/lang/Math", name := "min", desc := "(II)I" } : Jvm.MethodName) jdk_29_method_69_code (2 : Nat) (Option.some Jvm.ClassFile.FieldType.int), Jvm.Cond.code ({ cls := "java/lang/Math", name := "max", desc := "(II)I" } : Jvm.MethodName) jdk_29_method_65_code (2 : Nat) (Option.some Jvm.ClassFile.FieldType.int), Jvm.Cond.code ({ cls := "com/example/evntual/evntual/engine/RangeType", name := "<init>", desc := "(II)V" } : Jvm.MethodName) prog_70_method_1_code (3 : Nat) (Option.none : Option Jvm.ClassFile.FieldType), Jvm.Cond.code ({ cls := "java/lang/Object", name := "<init>", desc := "()V" } : Jvm.MethodName) object_method_1_code (1 : Nat) (Option.none : Option Jvm.ClassFile.FieldType), Jvm.Cond.code ({ cls := "com/example/evntual/evntual/engine/RangeType", name := "equals", desc := "(Ljava/lang/Object;)Z" } : Jvm.MethodName) prog_70_method_6_code (3 : Nat) (Option.some Jvm.ClassFile.FieldType.boolean)]
set_option maxRecDepth 65536 in
theorem codes_eq : words1.filter isCode = codes1 := rfl
theorem w_codes : ∀ c ∈ words1.filter isCode, c.before args0 about1 = true := by
  rw [codes_eq]
  intro c hc
  simp only [codes1, List.mem_cons, List.not_mem_nil, or_false] at hc
  rcases hc with rfl | rfl | rfl | rfl | rfl | rfl
  · exact w_c0
  · exact w_c1
  · exact w_c2
  · exact w_c3
  · exact w_c4
  · exact w_c5
set_option maxRecDepth 65536 in
theorem w_t1 : (words1.take 24).all (fun c => isCode c || c.before args0 about1) = true := by decide +kernel
set_option maxRecDepth 65536 in
theorem w_t2 : (words1.drop 24).all (fun c => isCode c || c.before args0 about1) = true := by decide +kernel
theorem w_tables : (allAtoms (Jvm.Cond.code x code maxLocals ret :: tables_1)).before args0 about1 = true := by
  rw [allAtoms_all]
  show words1.all (fun c => c.before args0 about1) = true
  refine all_split ?_ w_codes
  rw [← List.take_append_drop 24 words1, List.all_append, w_t1, w_t2]
  rfl
set_option maxRecDepth 65536 in
theorem w_case : (Jvm.Cond.and given_1 narrow_1).before args0 about1 = true := by decide +kernel
theorem w_applies : (headSpec (Jvm.Cond.code x code maxLocals ret :: tables_1) room_1).applies x e0.platform about1 = true :=
  (Spec.applies_iff w_frames).mpr ⟨w_running, w_runnable, w_alone, w_named, w_hears, w_ripe, w_room, w_tables⟩
theorem atStart : AtStart classFile x code maxLocals ret World_1 tables_1 room_1 Calls_1 rest_1 Pre_1 launch0 p0 e0 about1 theMethod args0 below0 :=
  ⟨lists_1, trivial, launch0.admits_env _ _ _, launch0.least_env, fairChoices_fair.cas, fairChoices_fair.clock, w_frames, w_args, w_heap, w_applies, trivial, trivial, w_case⟩
end start1
theorem witness_1 : WitnessClaimed_1 := ⟨start1.p0, start1.e0, start1.about1, start1.theMethod, start1.args0, start1.below0, start1.atStart⟩
end Jvm.Pilot.@@N@@
