import JvmDerived
import JvmDerived.Pilot.@@N@@Statement
import JvmDerived.Pilot.@@N@@Code
set_option linter.unusedVariables false
set_option linter.unusedSimpArgs false
namespace Jvm.RoadKit
open Sem ClassFile Op Lib Jvm.Stand Jvm.Free Jvm.LawKit
section New
variable {p : Program} {l : Launch} {e : Env} {R : Room} {s : State} {m : MethodId} {args : Array Value} {below : List Frame} {meth : Method} {c : Code} {T : State} {locs : List Loc} {cells slots : Nat}
theorem retI (X : Stand p l e R s m args below meth c T locs cells slots) (hx : p.tables.exec = Jvm.exec) {pc : Nat} {Ls : Array Slot} {z : Int32} {rest : List Value} (hret : meth.sig.returnType = some .int) (hd : decode c.code pc = .ok (.ireturn, 1)) {fs : List Frame}
    (hl : ∀ (f : JFrame) (acts : List Action), f.method = m → f.locked = none → f.entered = [] → (doReturn e (T.setTop f) acts (some (.int z))).1 = T.setFrames fs) : Steps p.tables e below (T.setTop (mkF m pc Ls (.int z :: rest))) (T.setFrames fs) := by
  have hm' : T.vm.method? m = some meth := X.method'
  have hn : narrow .int (.int z) = .int z := rfl
  show Steps p.tables e below (T.setTop { method := m, pc := pc, locals := Ls, stack := _ :: rest, locked := none }) _
  jvm_step X.here [X.here.top, hx, hd, hm', hret, hn]
  first | (intro acts; rw [hl _ acts rfl rfl rfl]) | rw [hl _ _ rfl rfl rfl]
  exact Steps.refl _
end New
end Jvm.RoadKit
namespace Jvm.Pilot.@@N@@
open Jvm Jvm.ClassFile Sem Op Lib Jvm.Free Jvm.Stand Jvm.LawKit Jvm.RoadKit Bundle Jvm.Pilot.@@N@@.Jvm.D
def own_min (a b : Int32) : Int32 := if b < a then b else a
def own_hit (f : Int32) (p e : Int64) : Int32 := if f = (0 : Int32) then (if (lcmpW p (e + (2 : Int64))) = (0 : Int32) then (1 : Int32) else (0 : Int32)) else (1 : Int32)
def own_nbo (ps es : List Int64) : Int32 := ps.foldl (fun f p => es.foldl (fun f e => own_hit f p e) f) (0 : Int32)
theorem own_h01 (f : Int32) (p e : Int64) : own_hit f p e = 0 ∨ own_hit f p e = 1 := by
  unfold own_hit
  split
  · split
    · exact Or.inr rfl
    · exact Or.inl rfl
  · exact Or.inr rfl
theorem own_in01 (p : Int64) (es : List Int64) : ∀ f : Int32, f = 0 ∨ f = 1 → es.foldl (fun f e => own_hit f p e) f = 0 ∨ es.foldl (fun f e => own_hit f p e) f = 1 := by
  induction es with
  | nil => exact fun f h => h
  | cons e t ih => exact fun f _ => ih _ (own_h01 f p e)
theorem own_out01 (es ps : List Int64) : ∀ f : Int32, f = 0 ∨ f = 1 → ps.foldl (fun f p => es.foldl (fun f e => own_hit f p e) f) f = 0 ∨ ps.foldl (fun f p => es.foldl (fun f e => own_hit f p e) f) f = 1 := by
  induction ps with
  | nil => exact fun f h => h
  | cons p t ih => exact fun f h => ih _ (own_in01 p es f h)
theorem own_nar (ps es : List Int64) : nar .boolean (own_nbo ps es) = own_nbo ps es := by
  have h : own_nbo ps es = 0 ∨ own_nbo ps es = 1 := own_out01 es ps 0 (Or.inl rfl)
  rcases h with h | h <;> rw [h] <;> rfl
theorem own_swap (p e : Int64) : (lcmpW p (e + (2 : Int64)) = (0 : Int32)) = (lcmpW (p - (2 : Int64)) e = (0 : Int32)) := by
  rw [lw_eq, lw_eq]
  apply propext
  constructor
  · intro h; rw [h]; exact Int64.add_sub_cancel e 2
  · intro h; rw [← h]; exact (Int64.sub_add_cancel p 2).symm
theorem own_np (q : Int32) : ∃ k : Int32, k = own_min (q &&& (3 : Int32)) (2 : Int32) ∧ (k = (0 : Int32) ∨ k = (1 : Int32) ∨ k = (2 : Int32)) := by
  refine ⟨_, rfl, ?_⟩
  have h1 := c_and q (3 : Int32) (by decide)
  have e3 : (3 : Int32).toInt = 3 := rfl
  rw [e3] at h1
  generalize (q &&& (3 : Int32)) = z at *
  have e : ∀ j i : Int32, j = i ↔ j.toInt = i.toInt := fun j i => Int32.toInt_inj.symm
  unfold own_min
  split
  · exact Or.inr (Or.inr rfl)
  · rename_i h
    rw [Int32.lt_iff_toInt_lt, show (2 : Int32).toInt = 2 from rfl] at h
    simp only [e, show (0 : Int32).toInt = 0 from rfl, show (1 : Int32).toInt = 1 from rfl, show (2 : Int32).toInt = 2 from rfl]
    omega
theorem d1_0 : decode jdk_29_method_69_code 0 = .ok (.iload_n 0, 1) := by decide +kernel
theorem d1_1 : decode jdk_29_method_69_code 1 = .ok (.iload_n 1, 1) := by decide +kernel
theorem d1_2 : decode jdk_29_method_69_code 2 = .ok (.if_icmp .gt 7, 3) := by decide +kernel
theorem d1_9 : decode jdk_29_method_69_code 9 = .ok (.iload_n 1, 1) := by decide +kernel
theorem d1_5 : decode jdk_29_method_69_code 5 = .ok (.iload_n 0, 1) := by decide +kernel
theorem d1_6 : decode jdk_29_method_69_code 6 = .ok (.goto 4, 3) := by decide +kernel
theorem d1_10 : decode jdk_29_method_69_code 10 = .ok (.ireturn, 1) := by decide +kernel
theorem ef_rm1 (m : MethodId) (x0 : Int32) (x1 : Int32) : entryFrame m #[(.int x0), (.int x1)] 2 = mkF m 0 #[.val (.int x0), .val (.int x1)] [] := by first | (simp [entryFrame, mkF, argsToLocals, Value.category]; done) | rfl
def Q_rm1 (Z : State) (p1 p2 : Int32) (h0 : Heap) (n0 : Nat) (v : Option Value) (h : Heap) (L : List Loc) : Prop := v = some (.int (own_min p1 p2)) ∧ Fr n0 L ∧ h = h0
set_option maxRecDepth 65536 in
set_option maxHeartbeats 40000000 in
theorem rm1 (l : Launch) (Z : State) (a0 : Array Value) (hw : ∀ d ∈ tables_1, d.before a0 Z = true) (ws : List Jvm.Cond) (p1 p2 : Int32) (h0 : Heap) (n0 : Nat) (Z0 : n0 ≤ h0.size) :
    MetFree l (⟨"java/lang/Math", "min", "(II)I"⟩ : MethodName) (head1 (Jvm.Cond.code (⟨"java/lang/Math", "min", "(II)I"⟩ : MethodName) jdk_29_method_69_code 2 (some .int) :: ws) ({ frames := 0, cells := 0, slots := 0, locals := 0 } : Room)) (fun a U => a = #[(.int p1), (.int p2)] ∧ Z.Warmed39 U.vm ∧ U.heap = h0) (fun _ _ _ _ _ => True) (fun _ U o U' => ∃ v L, o = .returned v ∧ Q_rm1 Z p1 p2 h0 n0 v U'.heap L ∧ FrameEnd U o U' L ({ frames := 0, cells := 0, slots := 0, locals := 0 } : Room).cells ({ frames := 0, cells := 0, slots := 0, locals := 0 } : Room).slots) := by
  refine MetFree.of_bodySF (Jvm.Free.JP.mathPlain rfl (by decide +kernel)) hisR ?_
  intro p e s m args below meth c s₁ Bd hml0 hP hK
  obtain ⟨rfl, hZ, hh⟩ := hP
  have hx := Bd.exec
  have hby := Bd.bytes
  have hml : c.maxLocals = 2 := hml0
  have hown : s.vm.findClass "java/lang/Math" = some m.cls := findClass_of_methodNamed Bd.named
  have hnm := (name_of_methodNamed Bd.named Bd.method).1
  have X0 : Stand p l e ({ frames := 0, cells := 0, slots := 0, locals := 0 } : Room) s m #[(.int p1), (.int p2)] below meth c s₁ [] 0 0 := Stand.of_body Bd
  have e0 : s₁.heap = h0 := by rw [← hh, Bd.state]; rfl
  have N0 := Fr.nil n0
  have pre0 : ∀ t, Steps p.tables e below (s₁.setTop (mkF m 0 #[.val (.int p1), .val (.int p2)] [])) t → Steps p.tables e below (s₁.setTop (entryFrame m #[(.int p1), (.int p2)] 2)) t := fun t k => castTop (ef_rm1 m p1 p2) k
  have k1 : ∀ t, Steps p.tables e below (s₁.setTop (mkF m 2 #[.val (.int p1), .val (.int p2)] [(.int p2), (.int p1)])) t → Steps p.tables e below (s₁.setTop (entryFrame m #[(.int p1), (.int p2)] 2)) t := fun t kt => pre0 t (by
      show Steps p.tables e below (s₁.setTop (mkF m 0 #[.val (.int p1), .val (.int p2)] [])) _
      refine XS.iloadN X0.here hx rfl (hb hby d1_0) rfl ?_
      show Steps p.tables e below (s₁.setTop (mkF m 1 #[.val (.int p1), .val (.int p2)] [(.int p1)])) _
      refine XS.iloadN X0.here hx rfl (hb hby d1_1) rfl ?_
      exact kt)
  obtain ⟨v3, hv3⟩ : ∃ v : Int32, v = (if p2 < p1 then p2 else p1) := ⟨_, rfl⟩
  have k4 : ∀ t, Steps p.tables e below (s₁.setTop (mkF m 10 #[.val (.int p1), .val (.int p2)] [(.int v3)])) t → Steps p.tables e below (s₁.setTop (entryFrame m #[(.int p1), (.int p2)] 2)) t := by
    intro t kt
    by_cases hc2_2 : p2 < p1
    · rw [show v3 = p2 from (hv3.trans (if_pos hc2_2))] at kt
      exact k1 t (by
          show Steps p.tables e below (s₁.setTop (mkF m 2 #[.val (.int p1), .val (.int p2)] [(.int p2), (.int p1)])) _
          refine XS.icmpYes X0.here hx rfl (pc0 := 2) (pc' := 9) rfl (hb hby d1_2) rfl (tlt hc2_2).2.2.1 (by decide) (by decide) ?_
          show Steps p.tables e below (s₁.setTop (mkF m 9 #[.val (.int p1), .val (.int p2)] [])) _
          refine XS.iloadN X0.here hx rfl (hb hby d1_9) rfl ?_
          exact kt)
    · rw [show v3 = p1 from (hv3.trans (if_neg hc2_2))] at kt
      exact k1 t (by
          show Steps p.tables e below (s₁.setTop (mkF m 2 #[.val (.int p1), .val (.int p2)] [(.int p2), (.int p1)])) _
          refine XS.icmpNo X0.here hx rfl (hb hby d1_2) rfl (flt hc2_2).2.2.1 ?_
          show Steps p.tables e below (s₁.setTop (mkF m 5 #[.val (.int p1), .val (.int p2)] [])) _
          refine XS.iloadN X0.here hx rfl (hb hby d1_5) rfl ?_
          show Steps p.tables e below (s₁.setTop (mkF m 6 #[.val (.int p1), .val (.int p2)] [(.int p1)])) _
          refine XS.goto X0.here hx rfl (pc0 := 6) (pc' := 10) rfl (hb hby d1_6) (by decide) (by decide) ?_
          exact kt)
  obtain ⟨fs, hr, hrun, hended, hW, hsame⟩ := X0.leave (v := some (.int v3)) (fun h => by rw [Bd.returns] at h; cases h)
  refine ⟨_, _, k4 _ ?_, hrun, hended, _, _, rfl, ?_, ⟨_, rfl⟩, hW, hsame.mono (by decide) (by decide)⟩
  · show Steps p.tables e below (s₁.setTop (mkF m 10 #[.val (.int p1), .val (.int p2)] [(.int v3)])) _
    exact retI X0 hx Bd.returns (hb hby d1_10) hr
  · show Q_rm1 Z p1 p2 h0 n0 _ s₁.heap _
    rw [e0]
    exact ⟨by rw [hv3]; rfl, N0, rfl⟩
theorem d2_0 : decode prog_10_method_6_code 0 = .ok (.iconst 0, 1) := by decide +kernel
theorem d2_1 : decode prog_10_method_6_code 1 = .ok (.istore_n 2, 1) := by decide +kernel
theorem d2_2 : decode prog_10_method_6_code 2 = .ok (.aload_n 0, 1) := by decide +kernel
theorem d2_3 : decode prog_10_method_6_code 3 = .ok (.astore_n 3, 1) := by decide +kernel
theorem d2_4 : decode prog_10_method_6_code 4 = .ok (.aload_n 3, 1) := by decide +kernel
theorem d2_5 : decode prog_10_method_6_code 5 = .ok (.arraylength, 1) := by decide +kernel
theorem d2_6 : decode prog_10_method_6_code 6 = .ok (.istore 4, 2) := by decide +kernel
theorem d2_8 : decode prog_10_method_6_code 8 = .ok (.iconst 0, 1) := by decide +kernel
theorem d2_9 : decode prog_10_method_6_code 9 = .ok (.istore 5, 2) := by decide +kernel
theorem d2_11 : decode prog_10_method_6_code 11 = .ok (.iload 5, 2) := by decide +kernel
theorem d2_13 : decode prog_10_method_6_code 13 = .ok (.iload 4, 2) := by decide +kernel
theorem d2_15 : decode prog_10_method_6_code 15 = .ok (.if_icmp .ge 68, 3) := by decide +kernel
theorem d2_83 : decode prog_10_method_6_code 83 = .ok (.iload_n 2, 1) := by decide +kernel
theorem d2_84 : decode prog_10_method_6_code 84 = .ok (.ireturn, 1) := by decide +kernel
theorem pn_c0 : plainName "com/example/conformed/conformed/agreement/Enumerator" = true := by first | (simp [plainName, overriddenIn]; done) | decide +kernel
theorem ef_rm2_00 (m : MethodId) (x0 : Addr) (x1 : Addr) : entryFrame m #[(.ref x0), (.ref x1)] 13 = mkF m 0 #[.val (.ref x0), .val (.ref x1), .unset, .unset, .unset, .unset, .unset, .unset, .unset, .unset, .unset, .unset, .unset] [] := by first | (simp [entryFrame, mkF, argsToLocals, Value.category]; done) | rfl
def Q_rm2_00 (Z : State)  (h0 : Heap) (n0 : Nat) (v : Option Value) (h : Heap) (L : List Loc) : Prop := v = some (.int (own_nbo [] [])) ∧ Fr n0 L ∧ h = h0
set_option maxRecDepth 65536 in
set_option maxHeartbeats 40000000 in
theorem rm2_00 (l : Launch) (Z : State) (a0 : Array Value) (hw : ∀ d ∈ tables_1, d.before a0 Z = true) (ws : List Jvm.Cond) (a1 a2 : Addr) (k1 k2 : ClassId) (h0 : Heap) (n0 : Nat) (Z0 : n0 ≤ h0.size) (V1 : Arv Z h0 a1 k1 .long (0 : Int32) [] (.long (0 : Int64))) (V2 : Arv Z h0 a2 k2 .long (0 : Int32) [] (.long (0 : Int64))) :
    MetFree l (⟨"com/example/conformed/conformed/agreement/Enumerator", "nextButOne", "([J[J)Z"⟩ : MethodName) (head1 (Jvm.Cond.code (⟨"com/example/conformed/conformed/agreement/Enumerator", "nextButOne", "([J[J)Z"⟩ : MethodName) prog_10_method_6_code 13 (some .boolean) :: ws) ({ frames := 0, cells := 0, slots := 0, locals := 0 } : Room)) (fun a U => a = #[(.ref a1), (.ref a2)] ∧ Z.Warmed39 U.vm ∧ U.heap = h0) (fun _ _ _ _ _ => True) (fun _ U o U' => ∃ v L, o = .returned v ∧ Q_rm2_00 Z  h0 n0 v U'.heap L ∧ FrameEnd U o U' L ({ frames := 0, cells := 0, slots := 0, locals := 0 } : Room).cells ({ frames := 0, cells := 0, slots := 0, locals := 0 } : Room).slots) := by
  refine MetFree.of_bodySF (plainFor_of_name pn_c0) hisR ?_
  intro p e s m args below meth c s₁ Bd hml0 hP hK
  obtain ⟨rfl, hZ, hh⟩ := hP
  have hx := Bd.exec
  have hby := Bd.bytes
  have hml : c.maxLocals = 13 := hml0
  have hown : s.vm.findClass "com/example/conformed/conformed/agreement/Enumerator" = some m.cls := findClass_of_methodNamed Bd.named
  have hnm := (name_of_methodNamed Bd.named Bd.method).1
  have X0 : Stand p l e ({ frames := 0, cells := 0, slots := 0, locals := 0 } : Room) s m #[(.ref a1), (.ref a2)] below meth c s₁ [] 0 0 := Stand.of_body Bd
  have e0 : s₁.heap = h0 := by rw [← hh, Bd.state]; rfl
  have N0 := Fr.nil n0
  have pre0 : ∀ t, Steps p.tables e below (s₁.setTop (mkF m 0 #[.val (.ref a1), .val (.ref a2), .unset, .unset, .unset, .unset, .unset, .unset, .unset, .unset, .unset, .unset, .unset] [])) t → Steps p.tables e below (s₁.setTop (entryFrame m #[(.ref a1), (.ref a2)] 13)) t := fun t k => castTop (ef_rm2_00 m a1 a2) k
  obtain ⟨cl5, Ar5, q5, S5, M5, H5, G5⟩ := id V1
  have k6 : ∀ t, Steps p.tables e below (s₁.setTop (mkF m 84 #[.val (.ref a1), .val (.ref a2), .val (.int (0 : Int32)), .val (.ref a1), .val (.int (0 : Int32)), .val (.int (0 : Int32)), .unset, .unset, .unset, .unset, .unset, .unset, .unset] [(.int (0 : Int32))])) t → Steps p.tables e below (s₁.setTop (entryFrame m #[(.ref a1), (.ref a2)] 13)) t := fun t kt => pre0 t (by
      let A0 : Array Slot := #[.val (.ref a1), .val (.ref a2), .unset, .unset, .unset, .unset, .unset, .unset, .unset, .unset, .unset, .unset, .unset]
      show Steps p.tables e below (s₁.setTop (mkF m 0 A0 [])) _
      refine XS.iconst X0.here hx rfl (hb hby d2_0) ?_
      show Steps p.tables e below (s₁.setTop (mkF m 1 A0 [(.int (0 : Int32))])) _
      let A1 : Array Slot := #[.val (.ref a1), .val (.ref a2), .val (.int (0 : Int32)), .unset, .unset, .unset, .unset, .unset, .unset, .unset, .unset, .unset, .unset]
      refine XS.istoreN X0.here hx rfl (hb hby d2_1) rfl (l' := A1) rfl ?_
      show Steps p.tables e below (s₁.setTop (mkF m 2 A1 [])) _
      refine XS.aloadN X0.here hx rfl (hb hby d2_2) rfl rfl ?_
      show Steps p.tables e below (s₁.setTop (mkF m 3 A1 [(.ref a1)])) _
      let A2 : Array Slot := #[.val (.ref a1), .val (.ref a2), .val (.int (0 : Int32)), .val (.ref a1), .unset, .unset, .unset, .unset, .unset, .unset, .unset, .unset, .unset]
      refine XS.astoreN X0.here hx rfl (hb hby d2_3) rfl rfl (l' := A2) rfl ?_
      show Steps p.tables e below (s₁.setTop (mkF m 4 A2 [])) _
      refine XS.aloadN X0.here hx rfl (hb hby d2_4) rfl rfl ?_
      show Steps p.tables e below (s₁.setTop (mkF m 5 A2 [(.ref a1)])) _
      refine X0.arraylength hx (by rw [e0]; exact Ar5.1) (State.isArrayOf_alike hZ.alike Ar5.2.1) (g := (mkF m 5 A2 [(.ref a1)])) rfl rfl (hb hby d2_5) _ ?_
      rw [len_of S5 M5]
      show Steps p.tables e below (s₁.setTop (mkF m 6 A2 [(.int (0 : Int32))])) _
      let A3 : Array Slot := #[.val (.ref a1), .val (.ref a2), .val (.int (0 : Int32)), .val (.ref a1), .val (.int (0 : Int32)), .unset, .unset, .unset, .unset, .unset, .unset, .unset, .unset]
      refine XS.istore X0.here hx rfl (hb hby d2_6) rfl (l' := A3) rfl ?_
      show Steps p.tables e below (s₁.setTop (mkF m 8 A3 [])) _
      refine XS.iconst X0.here hx rfl (hb hby d2_8) ?_
      show Steps p.tables e below (s₁.setTop (mkF m 9 A3 [(.int (0 : Int32))])) _
      let A4 : Array Slot := #[.val (.ref a1), .val (.ref a2), .val (.int (0 : Int32)), .val (.ref a1), .val (.int (0 : Int32)), .val (.int (0 : Int32)), .unset, .unset, .unset, .unset, .unset, .unset, .unset]
      refine XS.istore X0.here hx rfl (hb hby d2_9) rfl (l' := A4) rfl ?_
      show Steps p.tables e below (s₁.setTop (mkF m 11 A4 [])) _
      refine XS.iload X0.here hx rfl (hb hby d2_11) rfl ?_
      show Steps p.tables e below (s₁.setTop (mkF m 13 A4 [(.int (0 : Int32))])) _
      refine XS.iload X0.here hx rfl (hb hby d2_13) rfl ?_
      show Steps p.tables e below (s₁.setTop (mkF m 15 A4 [(.int (0 : Int32)), (.int (0 : Int32))])) _
      refine XS.icmpYes X0.here hx rfl (pc0 := 15) (pc' := 83) rfl (hb hby d2_15) rfl (flt (by decide : ¬ ((0 : Int32) < (0 : Int32)))).2.1 (by decide) (by decide) ?_
      show Steps p.tables e below (s₁.setTop (mkF m 83 A4 [])) _
      refine XS.iloadN X0.here hx rfl (hb hby d2_83) rfl ?_
      exact kt)
  obtain ⟨fs, hr, hrun, hended, hW, hsame⟩ := X0.leave (v := some (.int (0 : Int32))) (fun h => by rw [Bd.returns] at h; cases h)
  refine ⟨_, _, k6 _ ?_, hrun, hended, _, _, rfl, ?_, ⟨_, rfl⟩, hW, hsame.mono (by decide) (by decide)⟩
  · show Steps p.tables e below (s₁.setTop (mkF m 84 #[.val (.ref a1), .val (.ref a2), .val (.int (0 : Int32)), .val (.ref a1), .val (.int (0 : Int32)), .val (.int (0 : Int32)), .unset, .unset, .unset, .unset, .unset, .unset, .unset] [(.int (0 : Int32))])) _
    exact retN X0 hx (t := .boolean) Bd.returns (by simp) (hb hby d2_84) hr
  · show Q_rm2_00 Z  h0 n0 _ s₁.heap _
    rw [e0]
    exact ⟨rfl, N0, rfl⟩
theorem ef_rm2_01 (m : MethodId) (x0 : Addr) (x1 : Addr) : entryFrame m #[(.ref x0), (.ref x1)] 13 = mkF m 0 #[.val (.ref x0), .val (.ref x1), .unset, .unset, .unset, .unset, .unset, .unset, .unset, .unset, .unset, .unset, .unset] [] := by first | (simp [entryFrame, mkF, argsToLocals, Value.category]; done) | rfl
def Q_rm2_01 (Z : State)  (y0 : Int64) (h0 : Heap) (n0 : Nat) (v : Option Value) (h : Heap) (L : List Loc) : Prop := v = some (.int (own_nbo [] [y0])) ∧ Fr n0 L ∧ h = h0
set_option maxRecDepth 65536 in
set_option maxHeartbeats 40000000 in
theorem rm2_01 (l : Launch) (Z : State) (a0 : Array Value) (hw : ∀ d ∈ tables_1, d.before a0 Z = true) (ws : List Jvm.Cond) (a1 a2 : Addr) (k1 k2 : ClassId) (y0 : Int64) (h0 : Heap) (n0 : Nat) (Z0 : n0 ≤ h0.size) (V1 : Arv Z h0 a1 k1 .long (0 : Int32) [] (.long (0 : Int64))) (V2 : Arv Z h0 a2 k2 .long (1 : Int32) [(.long y0)] (.long (0 : Int64))) :
    MetFree l (⟨"com/example/conformed/conformed/agreement/Enumerator", "nextButOne", "([J[J)Z"⟩ : MethodName) (head1 (Jvm.Cond.code (⟨"com/example/conformed/conformed/agreement/Enumerator", "nextButOne", "([J[J)Z"⟩ : MethodName) prog_10_method_6_code 13 (some .boolean) :: ws) ({ frames := 0, cells := 0, slots := 0, locals := 0 } : Room)) (fun a U => a = #[(.ref a1), (.ref a2)] ∧ Z.Warmed39 U.vm ∧ U.heap = h0) (fun _ _ _ _ _ => True) (fun _ U o U' => ∃ v L, o = .returned v ∧ Q_rm2_01 Z y0 h0 n0 v U'.heap L ∧ FrameEnd U o U' L ({ frames := 0, cells := 0, slots := 0, locals := 0 } : Room).cells ({ frames := 0, cells := 0, slots := 0, locals := 0 } : Room).slots) := by
  refine MetFree.of_bodySF (plainFor_of_name pn_c0) hisR ?_
  intro p e s m args below meth c s₁ Bd hml0 hP hK
  obtain ⟨rfl, hZ, hh⟩ := hP
  have hx := Bd.exec
  have hby := Bd.bytes
  have hml : c.maxLocals = 13 := hml0
  have hown : s.vm.findClass "com/example/conformed/conformed/agreement/Enumerator" = some m.cls := findClass_of_methodNamed Bd.named
  have hnm := (name_of_methodNamed Bd.named Bd.method).1
  have X0 : Stand p l e ({ frames := 0, cells := 0, slots := 0, locals := 0 } : Room) s m #[(.ref a1), (.ref a2)] below meth c s₁ [] 0 0 := Stand.of_body Bd
  have e0 : s₁.heap = h0 := by rw [← hh, Bd.state]; rfl
  have N0 := Fr.nil n0
  have pre0 : ∀ t, Steps p.tables e below (s₁.setTop (mkF m 0 #[.val (.ref a1), .val (.ref a2), .unset, .unset, .unset, .unset, .unset, .unset, .unset, .unset, .unset, .unset, .unset] [])) t → Steps p.tables e below (s₁.setTop (entryFrame m #[(.ref a1), (.ref a2)] 13)) t := fun t k => castTop (ef_rm2_01 m a1 a2) k
  obtain ⟨cl7, Ar7, q7, S7, M7, H7, G7⟩ := id V1
  have k8 : ∀ t, Steps p.tables e below (s₁.setTop (mkF m 84 #[.val (.ref a1), .val (.ref a2), .val (.int (0 : Int32)), .val (.ref a1), .val (.int (0 : Int32)), .val (.int (0 : Int32)), .unset, .unset, .unset, .unset, .unset, .unset, .unset] [(.int (0 : Int32))])) t → Steps p.tables e below (s₁.setTop (entryFrame m #[(.ref a1), (.ref a2)] 13)) t := fun t kt => pre0 t (by
      let A0 : Array Slot := #[.val (.ref a1), .val (.ref a2), .unset, .unset, .unset, .unset, .unset, .unset, .unset, .unset, .unset, .unset, .unset]
      show Steps p.tables e below (s₁.setTop (mkF m 0 A0 [])) _
      refine XS.iconst X0.here hx rfl (hb hby d2_0) ?_
      show Steps p.tables e below (s₁.setTop (mkF m 1 A0 [(.int (0 : Int32))])) _
      let A1 : Array Slot := #[.val (.ref a1), .val (.ref a2), .val (.int (0 : Int32)), .unset, .unset, .unset, .unset, .unset, .unset, .unset, .unset, .unset, .unset]
      refine XS.istoreN X0.here hx rfl (hb hby d2_1) rfl (l' := A1) rfl ?_
      show Steps p.tables e below (s₁.setTop (mkF m 2 A1 [])) _
      refine XS.aloadN X0.here hx rfl (hb hby d2_2) rfl rfl ?_
      show Steps p.tables e below (s₁.setTop (mkF m 3 A1 [(.ref a1)])) _
      let A2 : Array Slot := #[.val (.ref a1), .val (.ref a2), .val (.int (0 : Int32)), .val (.ref a1), .unset, .unset, .unset, .unset, .unset, .unset, .unset, .unset, .unset]
      refine XS.astoreN X0.here hx rfl (hb hby d2_3) rfl rfl (l' := A2) rfl ?_
      show Steps p.tables e below (s₁.setTop (mkF m 4 A2 [])) _
      refine XS.aloadN X0.here hx rfl (hb hby d2_4) rfl rfl ?_
      show Steps p.tables e below (s₁.setTop (mkF m 5 A2 [(.ref a1)])) _
      refine X0.arraylength hx (by rw [e0]; exact Ar7.1) (State.isArrayOf_alike hZ.alike Ar7.2.1) (g := (mkF m 5 A2 [(.ref a1)])) rfl rfl (hb hby d2_5) _ ?_
      rw [len_of S7 M7]
      show Steps p.tables e below (s₁.setTop (mkF m 6 A2 [(.int (0 : Int32))])) _
      let A3 : Array Slot := #[.val (.ref a1), .val (.ref a2), .val (.int (0 : Int32)), .val (.ref a1), .val (.int (0 : Int32)), .unset, .unset, .unset, .unset, .unset, .unset, .unset, .unset]
      refine XS.istore X0.here hx rfl (hb hby d2_6) rfl (l' := A3) rfl ?_
      show Steps p.tables e below (s₁.setTop (mkF m 8 A3 [])) _
      refine XS.iconst X0.here hx rfl (hb hby d2_8) ?_
      show Steps p.tables e below (s₁.setTop (mkF m 9 A3 [(.int (0 : Int32))])) _
      let A4 : Array Slot := #[.val (.ref a1), .val (.ref a2), .val (.int (0 : Int32)), .val (.ref a1), .val (.int (0 : Int32)), .val (.int (0 : Int32)), .unset, .unset, .unset, .unset, .unset, .unset, .unset]
      refine XS.istore X0.here hx rfl (hb hby d2_9) rfl (l' := A4) rfl ?_
      show Steps p.tables e below (s₁.setTop (mkF m 11 A4 [])) _
      refine XS.iload X0.here hx rfl (hb hby d2_11) rfl ?_
      show Steps p.tables e below (s₁.setTop (mkF m 13 A4 [(.int (0 : Int32))])) _
      refine XS.iload X0.here hx rfl (hb hby d2_13) rfl ?_
      show Steps p.tables e below (s₁.setTop (mkF m 15 A4 [(.int (0 : Int32)), (.int (0 : Int32))])) _
      refine XS.icmpYes X0.here hx rfl (pc0 := 15) (pc' := 83) rfl (hb hby d2_15) rfl (flt (by decide : ¬ ((0 : Int32) < (0 : Int32)))).2.1 (by decide) (by decide) ?_
      show Steps p.tables e below (s₁.setTop (mkF m 83 A4 [])) _
      refine XS.iloadN X0.here hx rfl (hb hby d2_83) rfl ?_
      exact kt)
  obtain ⟨fs, hr, hrun, hended, hW, hsame⟩ := X0.leave (v := some (.int (0 : Int32))) (fun h => by rw [Bd.returns] at h; cases h)
  refine ⟨_, _, k8 _ ?_, hrun, hended, _, _, rfl, ?_, ⟨_, rfl⟩, hW, hsame.mono (by decide) (by decide)⟩
  · show Steps p.tables e below (s₁.setTop (mkF m 84 #[.val (.ref a1), .val (.ref a2), .val (.int (0 : Int32)), .val (.ref a1), .val (.int (0 : Int32)), .val (.int (0 : Int32)), .unset, .unset, .unset, .unset, .unset, .unset, .unset] [(.int (0 : Int32))])) _
    exact retN X0 hx (t := .boolean) Bd.returns (by simp) (hb hby d2_84) hr
  · show Q_rm2_01 Z y0 h0 n0 _ s₁.heap _
    rw [e0]
    exact ⟨rfl, N0, rfl⟩
theorem ef_rm2_02 (m : MethodId) (x0 : Addr) (x1 : Addr) : entryFrame m #[(.ref x0), (.ref x1)] 13 = mkF m 0 #[.val (.ref x0), .val (.ref x1), .unset, .unset, .unset, .unset, .unset, .unset, .unset, .unset, .unset, .unset, .unset] [] := by first | (simp [entryFrame, mkF, argsToLocals, Value.category]; done) | rfl
def Q_rm2_02 (Z : State)  (y0 : Int64) (y1 : Int64) (h0 : Heap) (n0 : Nat) (v : Option Value) (h : Heap) (L : List Loc) : Prop := v = some (.int (own_nbo [] [y0, y1])) ∧ Fr n0 L ∧ h = h0
set_option maxRecDepth 65536 in
set_option maxHeartbeats 40000000 in
theorem rm2_02 (l : Launch) (Z : State) (a0 : Array Value) (hw : ∀ d ∈ tables_1, d.before a0 Z = true) (ws : List Jvm.Cond) (a1 a2 : Addr) (k1 k2 : ClassId) (y0 : Int64) (y1 : Int64) (h0 : Heap) (n0 : Nat) (Z0 : n0 ≤ h0.size) (V1 : Arv Z h0 a1 k1 .long (0 : Int32) [] (.long (0 : Int64))) (V2 : Arv Z h0 a2 k2 .long (2 : Int32) [(.long y0), (.long y1)] (.long (0 : Int64))) :
    MetFree l (⟨"com/example/conformed/conformed/agreement/Enumerator", "nextButOne", "([J[J)Z"⟩ : MethodName) (head1 (Jvm.Cond.code (⟨"com/example/conformed/conformed/agreement/Enumerator", "nextButOne", "([J[J)Z"⟩ : MethodName) prog_10_method_6_code 13 (some .boolean) :: ws) ({ frames := 0, cells := 0, slots := 0, locals := 0 } : Room)) (fun a U => a = #[(.ref a1), (.ref a2)] ∧ Z.Warmed39 U.vm ∧ U.heap = h0) (fun _ _ _ _ _ => True) (fun _ U o U' => ∃ v L, o = .returned v ∧ Q_rm2_02 Z y0 y1 h0 n0 v U'.heap L ∧ FrameEnd U o U' L ({ frames := 0, cells := 0, slots := 0, locals := 0 } : Room).cells ({ frames := 0, cells := 0, slots := 0, locals := 0 } : Room).slots) := by
  refine MetFree.of_bodySF (plainFor_of_name pn_c0) hisR ?_
  intro p e s m args below meth c s₁ Bd hml0 hP hK
  obtain ⟨rfl, hZ, hh⟩ := hP
  have hx := Bd.exec
  have hby := Bd.bytes
  have hml : c.maxLocals = 13 := hml0
  have hown : s.vm.findClass "com/example/conformed/conformed/agreement/Enumerator" = some m.cls := findClass_of_methodNamed Bd.named
  have hnm := (name_of_methodNamed Bd.named Bd.method).1
  have X0 : Stand p l e ({ frames := 0, cells := 0, slots := 0, locals := 0 } : Room) s m #[(.ref a1), (.ref a2)] below meth c s₁ [] 0 0 := Stand.of_body Bd
  have e0 : s₁.heap = h0 := by rw [← hh, Bd.state]; rfl
  have N0 := Fr.nil n0
  have pre0 : ∀ t, Steps p.tables e below (s₁.setTop (mkF m 0 #[.val (.ref a1), .val (.ref a2), .unset, .unset, .unset, .unset, .unset, .unset, .unset, .unset, .unset, .unset, .unset] [])) t → Steps p.tables e below (s₁.setTop (entryFrame m #[(.ref a1), (.ref a2)] 13)) t := fun t k => castTop (ef_rm2_02 m a1 a2) k
  obtain ⟨cl9, Ar9, q9, S9, M9, H9, G9⟩ := id V1
  have k10 : ∀ t, Steps p.tables e below (s₁.setTop (mkF m 84 #[.val (.ref a1), .val (.ref a2), .val (.int (0 : Int32)), .val (.ref a1), .val (.int (0 : Int32)), .val (.int (0 : Int32)), .unset, .unset, .unset, .unset, .unset, .unset, .unset] [(.int (0 : Int32))])) t → Steps p.tables e below (s₁.setTop (entryFrame m #[(.ref a1), (.ref a2)] 13)) t := fun t kt => pre0 t (by
      let A0 : Array Slot := #[.val (.ref a1), .val (.ref a2), .unset, .unset, .unset, .unset, .unset, .unset, .unset, .unset, .unset, .unset, .unset]
      show Steps p.tables e below (s₁.setTop (mkF m 0 A0 [])) _
      refine XS.iconst X0.here hx rfl (hb hby d2_0) ?_
      show Steps p.tables e below (s₁.setTop (mkF m 1 A0 [(.int (0 : Int32))])) _
      let A1 : Array Slot := #[.val (.ref a1), .val (.ref a2), .val (.int (0 : Int32)), .unset, .unset, .unset, .unset, .unset, .unset, .unset, .unset, .unset, .unset]
      refine XS.istoreN X0.here hx rfl (hb hby d2_1) rfl (l' := A1) rfl ?_
      show Steps p.tables e below (s₁.setTop (mkF m 2 A1 [])) _
      refine XS.aloadN X0.here hx rfl (hb hby d2_2) rfl rfl ?_
      show Steps p.tables e below (s₁.setTop (mkF m 3 A1 [(.ref a1)])) _
      let A2 : Array Slot := #[.val (.ref a1), .val (.ref a2), .val (.int (0 : Int32)), .val (.ref a1), .unset, .unset, .unset, .unset, .unset, .unset, .unset, .unset, .unset]
      refine XS.astoreN X0.here hx rfl (hb hby d2_3) rfl rfl (l' := A2) rfl ?_
      show Steps p.tables e below (s₁.setTop (mkF m 4 A2 [])) _
      refine XS.aloadN X0.here hx rfl (hb hby d2_4) rfl rfl ?_
      show Steps p.tables e below (s₁.setTop (mkF m 5 A2 [(.ref a1)])) _
      refine X0.arraylength hx (by rw [e0]; exact Ar9.1) (State.isArrayOf_alike hZ.alike Ar9.2.1) (g := (mkF m 5 A2 [(.ref a1)])) rfl rfl (hb hby d2_5) _ ?_
      rw [len_of S9 M9]
      show Steps p.tables e below (s₁.setTop (mkF m 6 A2 [(.int (0 : Int32))])) _
      let A3 : Array Slot := #[.val (.ref a1), .val (.ref a2), .val (.int (0 : Int32)), .val (.ref a1), .val (.int (0 : Int32)), .unset, .unset, .unset, .unset, .unset, .unset, .unset, .unset]
      refine XS.istore X0.here hx rfl (hb hby d2_6) rfl (l' := A3) rfl ?_
      show Steps p.tables e below (s₁.setTop (mkF m 8 A3 [])) _
      refine XS.iconst X0.here hx rfl (hb hby d2_8) ?_
      show Steps p.tables e below (s₁.setTop (mkF m 9 A3 [(.int (0 : Int32))])) _
      let A4 : Array Slot := #[.val (.ref a1), .val (.ref a2), .val (.int (0 : Int32)), .val (.ref a1), .val (.int (0 : Int32)), .val (.int (0 : Int32)), .unset, .unset, .unset, .unset, .unset, .unset, .unset]
      refine XS.istore X0.here hx rfl (hb hby d2_9) rfl (l' := A4) rfl ?_
      show Steps p.tables e below (s₁.setTop (mkF m 11 A4 [])) _
      refine XS.iload X0.here hx rfl (hb hby d2_11) rfl ?_
      show Steps p.tables e below (s₁.setTop (mkF m 13 A4 [(.int (0 : Int32))])) _
      refine XS.iload X0.here hx rfl (hb hby d2_13) rfl ?_
      show Steps p.tables e below (s₁.setTop (mkF m 15 A4 [(.int (0 : Int32)), (.int (0 : Int32))])) _
      refine XS.icmpYes X0.here hx rfl (pc0 := 15) (pc' := 83) rfl (hb hby d2_15) rfl (flt (by decide : ¬ ((0 : Int32) < (0 : Int32)))).2.1 (by decide) (by decide) ?_
      show Steps p.tables e below (s₁.setTop (mkF m 83 A4 [])) _
      refine XS.iloadN X0.here hx rfl (hb hby d2_83) rfl ?_
      exact kt)
  obtain ⟨fs, hr, hrun, hended, hW, hsame⟩ := X0.leave (v := some (.int (0 : Int32))) (fun h => by rw [Bd.returns] at h; cases h)
  refine ⟨_, _, k10 _ ?_, hrun, hended, _, _, rfl, ?_, ⟨_, rfl⟩, hW, hsame.mono (by decide) (by decide)⟩
  · show Steps p.tables e below (s₁.setTop (mkF m 84 #[.val (.ref a1), .val (.ref a2), .val (.int (0 : Int32)), .val (.ref a1), .val (.int (0 : Int32)), .val (.int (0 : Int32)), .unset, .unset, .unset, .unset, .unset, .unset, .unset] [(.int (0 : Int32))])) _
    exact retN X0 hx (t := .boolean) Bd.returns (by simp) (hb hby d2_84) hr
  · show Q_rm2_02 Z y0 y1 h0 n0 _ s₁.heap _
    rw [e0]
    exact ⟨rfl, N0, rfl⟩
theorem d2_18 : decode prog_10_method_6_code 18 = .ok (.aload_n 3, 1) := by decide +kernel
theorem d2_19 : decode prog_10_method_6_code 19 = .ok (.iload 5, 2) := by decide +kernel
theorem d2_21 : decode prog_10_method_6_code 21 = .ok (.laload, 1) := by decide +kernel
theorem d2_22 : decode prog_10_method_6_code 22 = .ok (.lstore 6, 2) := by decide +kernel
theorem d2_24 : decode prog_10_method_6_code 24 = .ok (.aload_n 1, 1) := by decide +kernel
theorem d2_25 : decode prog_10_method_6_code 25 = .ok (.astore 8, 2) := by decide +kernel
theorem d2_27 : decode prog_10_method_6_code 27 = .ok (.aload 8, 2) := by decide +kernel
theorem d2_29 : decode prog_10_method_6_code 29 = .ok (.arraylength, 1) := by decide +kernel
theorem d2_30 : decode prog_10_method_6_code 30 = .ok (.istore 9, 2) := by decide +kernel
theorem d2_32 : decode prog_10_method_6_code 32 = .ok (.iconst 0, 1) := by decide +kernel
theorem d2_33 : decode prog_10_method_6_code 33 = .ok (.istore 10, 2) := by decide +kernel
theorem d2_35 : decode prog_10_method_6_code 35 = .ok (.iload 10, 2) := by decide +kernel
theorem d2_37 : decode prog_10_method_6_code 37 = .ok (.iload 9, 2) := by decide +kernel
theorem d2_39 : decode prog_10_method_6_code 39 = .ok (.if_icmp .ge 38, 3) := by decide +kernel
theorem d2_77 : decode prog_10_method_6_code 77 = .ok (.iinc 5 1, 3) := by decide +kernel
theorem d2_80 : decode prog_10_method_6_code 80 = .ok (.goto (-69), 3) := by decide +kernel
theorem ef_rm2_10 (m : MethodId) (x0 : Addr) (x1 : Addr) : entryFrame m #[(.ref x0), (.ref x1)] 13 = mkF m 0 #[.val (.ref x0), .val (.ref x1), .unset, .unset, .unset, .unset, .unset, .unset, .unset, .unset, .unset, .unset, .unset] [] := by first | (simp [entryFrame, mkF, argsToLocals, Value.category]; done) | rfl
def Q_rm2_10 (Z : State)  (x0 : Int64) (h0 : Heap) (n0 : Nat) (v : Option Value) (h : Heap) (L : List Loc) : Prop := v = some (.int (own_nbo [x0] [])) ∧ Fr n0 L ∧ h = h0
set_option maxRecDepth 65536 in
set_option maxHeartbeats 40000000 in
theorem rm2_10 (l : Launch) (Z : State) (a0 : Array Value) (hw : ∀ d ∈ tables_1, d.before a0 Z = true) (ws : List Jvm.Cond) (a1 a2 : Addr) (k1 k2 : ClassId) (x0 : Int64) (h0 : Heap) (n0 : Nat) (Z0 : n0 ≤ h0.size) (V1 : Arv Z h0 a1 k1 .long (1 : Int32) [(.long x0)] (.long (0 : Int64))) (V2 : Arv Z h0 a2 k2 .long (0 : Int32) [] (.long (0 : Int64))) :
    MetFree l (⟨"com/example/conformed/conformed/agreement/Enumerator", "nextButOne", "([J[J)Z"⟩ : MethodName) (head1 (Jvm.Cond.code (⟨"com/example/conformed/conformed/agreement/Enumerator", "nextButOne", "([J[J)Z"⟩ : MethodName) prog_10_method_6_code 13 (some .boolean) :: ws) ({ frames := 0, cells := 0, slots := 0, locals := 0 } : Room)) (fun a U => a = #[(.ref a1), (.ref a2)] ∧ Z.Warmed39 U.vm ∧ U.heap = h0) (fun _ _ _ _ _ => True) (fun _ U o U' => ∃ v L, o = .returned v ∧ Q_rm2_10 Z x0 h0 n0 v U'.heap L ∧ FrameEnd U o U' L ({ frames := 0, cells := 0, slots := 0, locals := 0 } : Room).cells ({ frames := 0, cells := 0, slots := 0, locals := 0 } : Room).slots) := by
  refine MetFree.of_bodySF (plainFor_of_name pn_c0) hisR ?_
  intro p e s m args below meth c s₁ Bd hml0 hP hK
  obtain ⟨rfl, hZ, hh⟩ := hP
  have hx := Bd.exec
  have hby := Bd.bytes
  have hml : c.maxLocals = 13 := hml0
  have hown : s.vm.findClass "com/example/conformed/conformed/agreement/Enumerator" = some m.cls := findClass_of_methodNamed Bd.named
  have hnm := (name_of_methodNamed Bd.named Bd.method).1
  have X0 : Stand p l e ({ frames := 0, cells := 0, slots := 0, locals := 0 } : Room) s m #[(.ref a1), (.ref a2)] below meth c s₁ [] 0 0 := Stand.of_body Bd
  have e0 : s₁.heap = h0 := by rw [← hh, Bd.state]; rfl
  have N0 := Fr.nil n0
  have pre0 : ∀ t, Steps p.tables e below (s₁.setTop (mkF m 0 #[.val (.ref a1), .val (.ref a2), .unset, .unset, .unset, .unset, .unset, .unset, .unset, .unset, .unset, .unset, .unset] [])) t → Steps p.tables e below (s₁.setTop (entryFrame m #[(.ref a1), (.ref a2)] 13)) t := fun t k => castTop (ef_rm2_10 m a1 a2) k
  obtain ⟨cl11, Ar11, q11, S11, M11, H11, G11⟩ := id V1
  obtain ⟨cl12, Ar12, q12, S12, M12, H12, G12⟩ := id V1
  have hin13 : ¬ ((0 : Int32) < 0 ∨ cl12.slots.size ≤ ((0 : Int32)).toNatClampNeg) := inb_of S12 ⟨by decide, by decide⟩
  have hat13 : cl12.slots[((0 : Int32)).toNatClampNeg]? = some (.long x0) := H12.at hin13 rfl
  obtain ⟨cl14, Ar14, q14, S14, M14, H14, G14⟩ := id V2
  have k15 : ∀ t, Steps p.tables e below (s₁.setTop (mkF m 84 #[.val (.ref a1), .val (.ref a2), .val (.int (0 : Int32)), .val (.ref a1), .val (.int (1 : Int32)), .val (.int ((0 : Int32) + (1 : Int32))), .val (.long x0), .second, .val (.ref a2), .val (.int (0 : Int32)), .val (.int (0 : Int32)), .unset, .unset] [(.int (0 : Int32))])) t → Steps p.tables e below (s₁.setTop (entryFrame m #[(.ref a1), (.ref a2)] 13)) t := fun t kt => pre0 t (by
      let A0 : Array Slot := #[.val (.ref a1), .val (.ref a2), .unset, .unset, .unset, .unset, .unset, .unset, .unset, .unset, .unset, .unset, .unset]
      show Steps p.tables e below (s₁.setTop (mkF m 0 A0 [])) _
      refine XS.iconst X0.here hx rfl (hb hby d2_0) ?_
      show Steps p.tables e below (s₁.setTop (mkF m 1 A0 [(.int (0 : Int32))])) _
      let A1 : Array Slot := #[.val (.ref a1), .val (.ref a2), .val (.int (0 : Int32)), .unset, .unset, .unset, .unset, .unset, .unset, .unset, .unset, .unset, .unset]
      refine XS.istoreN X0.here hx rfl (hb hby d2_1) rfl (l' := A1) rfl ?_
      show Steps p.tables e below (s₁.setTop (mkF m 2 A1 [])) _
      refine XS.aloadN X0.here hx rfl (hb hby d2_2) rfl rfl ?_
      show Steps p.tables e below (s₁.setTop (mkF m 3 A1 [(.ref a1)])) _
      let A2 : Array Slot := #[.val (.ref a1), .val (.ref a2), .val (.int (0 : Int32)), .val (.ref a1), .unset, .unset, .unset, .unset, .unset, .unset, .unset, .unset, .unset]
      refine XS.astoreN X0.here hx rfl (hb hby d2_3) rfl rfl (l' := A2) rfl ?_
      show Steps p.tables e below (s₁.setTop (mkF m 4 A2 [])) _
      refine XS.aloadN X0.here hx rfl (hb hby d2_4) rfl rfl ?_
      show Steps p.tables e below (s₁.setTop (mkF m 5 A2 [(.ref a1)])) _
      refine X0.arraylength hx (by rw [e0]; exact Ar11.1) (State.isArrayOf_alike hZ.alike Ar11.2.1) (g := (mkF m 5 A2 [(.ref a1)])) rfl rfl (hb hby d2_5) _ ?_
      rw [len_of S11 M11]
      show Steps p.tables e below (s₁.setTop (mkF m 6 A2 [(.int (1 : Int32))])) _
      let A3 : Array Slot := #[.val (.ref a1), .val (.ref a2), .val (.int (0 : Int32)), .val (.ref a1), .val (.int (1 : Int32)), .unset, .unset, .unset, .unset, .unset, .unset, .unset, .unset]
      refine XS.istore X0.here hx rfl (hb hby d2_6) rfl (l' := A3) rfl ?_
      show Steps p.tables e below (s₁.setTop (mkF m 8 A3 [])) _
      refine XS.iconst X0.here hx rfl (hb hby d2_8) ?_
      show Steps p.tables e below (s₁.setTop (mkF m 9 A3 [(.int (0 : Int32))])) _
      let A4 : Array Slot := #[.val (.ref a1), .val (.ref a2), .val (.int (0 : Int32)), .val (.ref a1), .val (.int (1 : Int32)), .val (.int (0 : Int32)), .unset, .unset, .unset, .unset, .unset, .unset, .unset]
      refine XS.istore X0.here hx rfl (hb hby d2_9) rfl (l' := A4) rfl ?_
      show Steps p.tables e below (s₁.setTop (mkF m 11 A4 [])) _
      refine XS.iload X0.here hx rfl (hb hby d2_11) rfl ?_
      show Steps p.tables e below (s₁.setTop (mkF m 13 A4 [(.int (0 : Int32))])) _
      refine XS.iload X0.here hx rfl (hb hby d2_13) rfl ?_
      show Steps p.tables e below (s₁.setTop (mkF m 15 A4 [(.int (1 : Int32)), (.int (0 : Int32))])) _
      refine XS.icmpNo X0.here hx rfl (hb hby d2_15) rfl (tlt (by decide : (0 : Int32) < (1 : Int32))).2.1 ?_
      show Steps p.tables e below (s₁.setTop (mkF m 18 A4 [])) _
      refine XS.aloadN X0.here hx rfl (hb hby d2_18) rfl rfl ?_
      show Steps p.tables e below (s₁.setTop (mkF m 19 A4 [(.ref a1)])) _
      refine XS.iload X0.here hx rfl (hb hby d2_19) rfl ?_
      show Steps p.tables e below (s₁.setTop (mkF m 21 A4 [(.int (0 : Int32)), (.ref a1)])) _
      refine X0.laload hx (j := (0 : Int32)) (v := (.long x0)) (by rw [e0]; exact Ar12.1) (State.isArrayOf_alike hZ.alike Ar12.2.1) Ar12.2.2 hin13 hat13 (g := (mkF m 21 A4 [(.int (0 : Int32)), (.ref a1)])) rfl rfl (hb hby d2_21) _ ?_
      show Steps p.tables e below (s₁.setTop (mkF m 22 A4 [(.long x0)])) _
      let A5 : Array Slot := #[.val (.ref a1), .val (.ref a2), .val (.int (0 : Int32)), .val (.ref a1), .val (.int (1 : Int32)), .val (.int (0 : Int32)), .val (.long x0), .second, .unset, .unset, .unset, .unset, .unset]
      refine XS.lstore X0.here hx rfl (hb hby d2_22) rfl (l' := A5) rfl ?_
      show Steps p.tables e below (s₁.setTop (mkF m 24 A5 [])) _
      refine XS.aloadN X0.here hx rfl (hb hby d2_24) rfl rfl ?_
      show Steps p.tables e below (s₁.setTop (mkF m 25 A5 [(.ref a2)])) _
      let A6 : Array Slot := #[.val (.ref a1), .val (.ref a2), .val (.int (0 : Int32)), .val (.ref a1), .val (.int (1 : Int32)), .val (.int (0 : Int32)), .val (.long x0), .second, .val (.ref a2), .unset, .unset, .unset, .unset]
      refine XS.astore X0.here hx rfl (hb hby d2_25) rfl rfl (l' := A6) rfl ?_
      show Steps p.tables e below (s₁.setTop (mkF m 27 A6 [])) _
      refine XS.aload X0.here hx rfl (hb hby d2_27) rfl rfl ?_
      show Steps p.tables e below (s₁.setTop (mkF m 29 A6 [(.ref a2)])) _
      refine X0.arraylength hx (by rw [e0]; exact Ar14.1) (State.isArrayOf_alike hZ.alike Ar14.2.1) (g := (mkF m 29 A6 [(.ref a2)])) rfl rfl (hb hby d2_29) _ ?_
      rw [len_of S14 M14]
      show Steps p.tables e below (s₁.setTop (mkF m 30 A6 [(.int (0 : Int32))])) _
      let A7 : Array Slot := #[.val (.ref a1), .val (.ref a2), .val (.int (0 : Int32)), .val (.ref a1), .val (.int (1 : Int32)), .val (.int (0 : Int32)), .val (.long x0), .second, .val (.ref a2), .val (.int (0 : Int32)), .unset, .unset, .unset]
      refine XS.istore X0.here hx rfl (hb hby d2_30) rfl (l' := A7) rfl ?_
      show Steps p.tables e below (s₁.setTop (mkF m 32 A7 [])) _
      refine XS.iconst X0.here hx rfl (hb hby d2_32) ?_
      show Steps p.tables e below (s₁.setTop (mkF m 33 A7 [(.int (0 : Int32))])) _
      let A8 : Array Slot := #[.val (.ref a1), .val (.ref a2), .val (.int (0 : Int32)), .val (.ref a1), .val (.int (1 : Int32)), .val (.int (0 : Int32)), .val (.long x0), .second, .val (.ref a2), .val (.int (0 : Int32)), .val (.int (0 : Int32)), .unset, .unset]
      refine XS.istore X0.here hx rfl (hb hby d2_33) rfl (l' := A8) rfl ?_
      show Steps p.tables e below (s₁.setTop (mkF m 35 A8 [])) _
      refine XS.iload X0.here hx rfl (hb hby d2_35) rfl ?_
      show Steps p.tables e below (s₁.setTop (mkF m 37 A8 [(.int (0 : Int32))])) _
      refine XS.iload X0.here hx rfl (hb hby d2_37) rfl ?_
      show Steps p.tables e below (s₁.setTop (mkF m 39 A8 [(.int (0 : Int32)), (.int (0 : Int32))])) _
      refine XS.icmpYes X0.here hx rfl (pc0 := 39) (pc' := 77) rfl (hb hby d2_39) rfl (flt (by decide : ¬ ((0 : Int32) < (0 : Int32)))).2.1 (by decide) (by decide) ?_
      show Steps p.tables e below (s₁.setTop (mkF m 77 A8 [])) _
      let A9 : Array Slot := #[.val (.ref a1), .val (.ref a2), .val (.int (0 : Int32)), .val (.ref a1), .val (.int (1 : Int32)), .val (.int ((0 : Int32) + (1 : Int32))), .val (.long x0), .second, .val (.ref a2), .val (.int (0 : Int32)), .val (.int (0 : Int32)), .unset, .unset]
      refine XS.iinc X0.here hx rfl (hb hby d2_77) rfl (l' := A9) rfl ?_
      show Steps p.tables e below (s₁.setTop (mkF m 80 A9 [])) _
      refine XS.goto X0.here hx rfl (pc0 := 80) (pc' := 11) rfl (hb hby d2_80) (by decide) (by decide) ?_
      show Steps p.tables e below (s₁.setTop (mkF m 11 A9 [])) _
      refine XS.iload X0.here hx rfl (hb hby d2_11) rfl ?_
      show Steps p.tables e below (s₁.setTop (mkF m 13 A9 [(.int ((0 : Int32) + (1 : Int32)))])) _
      refine XS.iload X0.here hx rfl (hb hby d2_13) rfl ?_
      show Steps p.tables e below (s₁.setTop (mkF m 15 A9 [(.int (1 : Int32)), (.int ((0 : Int32) + (1 : Int32)))])) _
      refine XS.icmpYes X0.here hx rfl (pc0 := 15) (pc' := 83) rfl (hb hby d2_15) rfl (flt (by decide : ¬ (((0 : Int32) + (1 : Int32)) < (1 : Int32)))).2.1 (by decide) (by decide) ?_
      show Steps p.tables e below (s₁.setTop (mkF m 83 A9 [])) _
      refine XS.iloadN X0.here hx rfl (hb hby d2_83) rfl ?_
      exact kt)
  obtain ⟨fs, hr, hrun, hended, hW, hsame⟩ := X0.leave (v := some (.int (0 : Int32))) (fun h => by rw [Bd.returns] at h; cases h)
  refine ⟨_, _, k15 _ ?_, hrun, hended, _, _, rfl, ?_, ⟨_, rfl⟩, hW, hsame.mono (by decide) (by decide)⟩
  · show Steps p.tables e below (s₁.setTop (mkF m 84 #[.val (.ref a1), .val (.ref a2), .val (.int (0 : Int32)), .val (.ref a1), .val (.int (1 : Int32)), .val (.int ((0 : Int32) + (1 : Int32))), .val (.long x0), .second, .val (.ref a2), .val (.int (0 : Int32)), .val (.int (0 : Int32)), .unset, .unset] [(.int (0 : Int32))])) _
    exact retN X0 hx (t := .boolean) Bd.returns (by simp) (hb hby d2_84) hr
  · show Q_rm2_10 Z x0 h0 n0 _ s₁.heap _
    rw [e0]
    exact ⟨rfl, N0, rfl⟩
theorem d2_42 : decode prog_10_method_6_code 42 = .ok (.aload 8, 2) := by decide +kernel
theorem d2_44 : decode prog_10_method_6_code 44 = .ok (.iload 10, 2) := by decide +kernel
theorem d2_46 : decode prog_10_method_6_code 46 = .ok (.laload, 1) := by decide +kernel
theorem d2_47 : decode prog_10_method_6_code 47 = .ok (.lstore 11, 2) := by decide +kernel
theorem d2_49 : decode prog_10_method_6_code 49 = .ok (.iload_n 2, 1) := by decide +kernel
theorem d2_50 : decode prog_10_method_6_code 50 = .ok (.ifCond .ne 15, 3) := by decide +kernel
theorem d2_53 : decode prog_10_method_6_code 53 = .ok (.lload 6, 2) := by decide +kernel
theorem d2_55 : decode prog_10_method_6_code 55 = .ok (.lload 11, 2) := by decide +kernel
theorem d2_57 : decode prog_10_method_6_code 57 = .ok (.ldc2_w 100, 3) := by decide +kernel
theorem d2_60 : decode prog_10_method_6_code 60 = .ok (.ladd, 1) := by decide +kernel
theorem d2_61 : decode prog_10_method_6_code 61 = .ok (.lcmp, 1) := by decide +kernel
theorem d2_62 : decode prog_10_method_6_code 62 = .ok (.ifCond .ne 7, 3) := by decide +kernel
theorem d2_65 : decode prog_10_method_6_code 65 = .ok (.iconst 1, 1) := by decide +kernel
theorem d2_66 : decode prog_10_method_6_code 66 = .ok (.goto 4, 3) := by decide +kernel
theorem d2_69 : decode prog_10_method_6_code 69 = .ok (.iconst 0, 1) := by decide +kernel
theorem d2_70 : decode prog_10_method_6_code 70 = .ok (.istore_n 2, 1) := by decide +kernel
theorem d2_71 : decode prog_10_method_6_code 71 = .ok (.iinc 10 1, 3) := by decide +kernel
theorem d2_74 : decode prog_10_method_6_code 74 = .ok (.goto (-39), 3) := by decide +kernel
theorem ef_rm2_11 (m : MethodId) (x0 : Addr) (x1 : Addr) : entryFrame m #[(.ref x0), (.ref x1)] 13 = mkF m 0 #[.val (.ref x0), .val (.ref x1), .unset, .unset, .unset, .unset, .unset, .unset, .unset, .unset, .unset, .unset, .unset] [] := by first | (simp [entryFrame, mkF, argsToLocals, Value.category]; done) | rfl
def Q_rm2_11 (Z : State)  (x0 : Int64) (y0 : Int64) (h0 : Heap) (n0 : Nat) (v : Option Value) (h : Heap) (L : List Loc) : Prop := v = some (.int (own_nbo [x0] [y0])) ∧ Fr n0 L ∧ h = h0
set_option maxRecDepth 65536 in
set_option maxHeartbeats 40000000 in
theorem rm2_11 (l : Launch) (Z : State) (a0 : Array Value) (hw : ∀ d ∈ tables_1, d.before a0 Z = true) (ws : List Jvm.Cond) (a1 a2 : Addr) (k1 k2 : ClassId) (x0 : Int64) (y0 : Int64) (h0 : Heap) (n0 : Nat) (Z0 : n0 ≤ h0.size) (V1 : Arv Z h0 a1 k1 .long (1 : Int32) [(.long x0)] (.long (0 : Int64))) (V2 : Arv Z h0 a2 k2 .long (1 : Int32) [(.long y0)] (.long (0 : Int64))) :
    MetFree l (⟨"com/example/conformed/conformed/agreement/Enumerator", "nextButOne", "([J[J)Z"⟩ : MethodName) (head1 (Jvm.Cond.code (⟨"com/example/conformed/conformed/agreement/Enumerator", "nextButOne", "([J[J)Z"⟩ : MethodName) prog_10_method_6_code 13 (some .boolean) :: ws) ({ frames := 0, cells := 0, slots := 0, locals := 0 } : Room)) (fun a U => a = #[(.ref a1), (.ref a2)] ∧ Z.Warmed39 U.vm ∧ U.heap = h0) (fun _ _ _ _ _ => True) (fun _ U o U' => ∃ v L, o = .returned v ∧ Q_rm2_11 Z x0 y0 h0 n0 v U'.heap L ∧ FrameEnd U o U' L ({ frames := 0, cells := 0, slots := 0, locals := 0 } : Room).cells ({ frames := 0, cells := 0, slots := 0, locals := 0 } : Room).slots) := by
  refine MetFree.of_bodySF (plainFor_of_name pn_c0) hisR ?_
  intro p e s m args below meth c s₁ Bd hml0 hP hK
  obtain ⟨rfl, hZ, hh⟩ := hP
  have hx := Bd.exec
  have hby := Bd.bytes
  have hml : c.maxLocals = 13 := hml0
  have hown : s.vm.findClass "com/example/conformed/conformed/agreement/Enumerator" = some m.cls := findClass_of_methodNamed Bd.named
  have hnm := (name_of_methodNamed Bd.named Bd.method).1
  have X0 : Stand p l e ({ frames := 0, cells := 0, slots := 0, locals := 0 } : Room) s m #[(.ref a1), (.ref a2)] below meth c s₁ [] 0 0 := Stand.of_body Bd
  have e0 : s₁.heap = h0 := by rw [← hh, Bd.state]; rfl
  have N0 := Fr.nil n0
  have pre0 : ∀ t, Steps p.tables e below (s₁.setTop (mkF m 0 #[.val (.ref a1), .val (.ref a2), .unset, .unset, .unset, .unset, .unset, .unset, .unset, .unset, .unset, .unset, .unset] [])) t → Steps p.tables e below (s₁.setTop (entryFrame m #[(.ref a1), (.ref a2)] 13)) t := fun t k => castTop (ef_rm2_11 m a1 a2) k
  obtain ⟨cl16, Ar16, q16, S16, M16, H16, G16⟩ := id V1
  obtain ⟨cl17, Ar17, q17, S17, M17, H17, G17⟩ := id V1
  have hin18 : ¬ ((0 : Int32) < 0 ∨ cl17.slots.size ≤ ((0 : Int32)).toNatClampNeg) := inb_of S17 ⟨by decide, by decide⟩
  have hat18 : cl17.slots[((0 : Int32)).toNatClampNeg]? = some (.long x0) := H17.at hin18 rfl
  obtain ⟨cl19, Ar19, q19, S19, M19, H19, G19⟩ := id V2
  obtain ⟨cl20, Ar20, q20, S20, M20, H20, G20⟩ := id V2
  have hin21 : ¬ ((0 : Int32) < 0 ∨ cl20.slots.size ≤ ((0 : Int32)).toNatClampNeg) := inb_of S20 ⟨by decide, by decide⟩
  have hat21 : cl20.slots[((0 : Int32)).toNatClampNeg]? = some (.long y0) := H20.at hin21 rfl
  have k22 : ∀ t, Steps p.tables e below (s₁.setTop (mkF m 50 #[.val (.ref a1), .val (.ref a2), .val (.int (0 : Int32)), .val (.ref a1), .val (.int (1 : Int32)), .val (.int (0 : Int32)), .val (.long x0), .second, .val (.ref a2), .val (.int (1 : Int32)), .val (.int (0 : Int32)), .val (.long y0), .second] [(.int (0 : Int32))])) t → Steps p.tables e below (s₁.setTop (entryFrame m #[(.ref a1), (.ref a2)] 13)) t := fun t kt => pre0 t (by
      let A0 : Array Slot := #[.val (.ref a1), .val (.ref a2), .unset, .unset, .unset, .unset, .unset, .unset, .unset, .unset, .unset, .unset, .unset]
      show Steps p.tables e below (s₁.setTop (mkF m 0 A0 [])) _
      refine XS.iconst X0.here hx rfl (hb hby d2_0) ?_
      show Steps p.tables e below (s₁.setTop (mkF m 1 A0 [(.int (0 : Int32))])) _
      let A1 : Array Slot := #[.val (.ref a1), .val (.ref a2), .val (.int (0 : Int32)), .unset, .unset, .unset, .unset, .unset, .unset, .unset, .unset, .unset, .unset]
      refine XS.istoreN X0.here hx rfl (hb hby d2_1) rfl (l' := A1) rfl ?_
      show Steps p.tables e below (s₁.setTop (mkF m 2 A1 [])) _
      refine XS.aloadN X0.here hx rfl (hb hby d2_2) rfl rfl ?_
      show Steps p.tables e below (s₁.setTop (mkF m 3 A1 [(.ref a1)])) _
      let A2 : Array Slot := #[.val (.ref a1), .val (.ref a2), .val (.int (0 : Int32)), .val (.ref a1), .unset, .unset, .unset, .unset, .unset, .unset, .unset, .unset, .unset]
      refine XS.astoreN X0.here hx rfl (hb hby d2_3) rfl rfl (l' := A2) rfl ?_
      show Steps p.tables e below (s₁.setTop (mkF m 4 A2 [])) _
      refine XS.aloadN X0.here hx rfl (hb hby d2_4) rfl rfl ?_
      show Steps p.tables e below (s₁.setTop (mkF m 5 A2 [(.ref a1)])) _
      refine X0.arraylength hx (by rw [e0]; exact Ar16.1) (State.isArrayOf_alike hZ.alike Ar16.2.1) (g := (mkF m 5 A2 [(.ref a1)])) rfl rfl (hb hby d2_5) _ ?_
      rw [len_of S16 M16]
      show Steps p.tables e below (s₁.setTop (mkF m 6 A2 [(.int (1 : Int32))])) _
      let A3 : Array Slot := #[.val (.ref a1), .val (.ref a2), .val (.int (0 : Int32)), .val (.ref a1), .val (.int (1 : Int32)), .unset, .unset, .unset, .unset, .unset, .unset, .unset, .unset]
      refine XS.istore X0.here hx rfl (hb hby d2_6) rfl (l' := A3) rfl ?_
      show Steps p.tables e below (s₁.setTop (mkF m 8 A3 [])) _
      refine XS.iconst X0.here hx rfl (hb hby d2_8) ?_
      show Steps p.tables e below (s₁.setTop (mkF m 9 A3 [(.int (0 : Int32))])) _
      let A4 : Array Slot := #[.val (.ref a1), .val (.ref a2), .val (.int (0 : Int32)), .val (.ref a1), .val (.int (1 : Int32)), .val (.int (0 : Int32)), .unset, .unset, .unset, .unset, .unset, .unset, .unset]
      refine XS.istore X0.here hx rfl (hb hby d2_9) rfl (l' := A4) rfl ?_
      show Steps p.tables e below (s₁.setTop (mkF m 11 A4 [])) _
      refine XS.iload X0.here hx rfl (hb hby d2_11) rfl ?_
      show Steps p.tables e below (s₁.setTop (mkF m 13 A4 [(.int (0 : Int32))])) _
      refine XS.iload X0.here hx rfl (hb hby d2_13) rfl ?_
      show Steps p.tables e below (s₁.setTop (mkF m 15 A4 [(.int (1 : Int32)), (.int (0 : Int32))])) _
      refine XS.icmpNo X0.here hx rfl (hb hby d2_15) rfl (tlt (by decide : (0 : Int32) < (1 : Int32))).2.1 ?_
      show Steps p.tables e below (s₁.setTop (mkF m 18 A4 [])) _
      refine XS.aloadN X0.here hx rfl (hb hby d2_18) rfl rfl ?_
      show Steps p.tables e below (s₁.setTop (mkF m 19 A4 [(.ref a1)])) _
      refine XS.iload X0.here hx rfl (hb hby d2_19) rfl ?_
      show Steps p.tables e below (s₁.setTop (mkF m 21 A4 [(.int (0 : Int32)), (.ref a1)])) _
      refine X0.laload hx (j := (0 : Int32)) (v := (.long x0)) (by rw [e0]; exact Ar17.1) (State.isArrayOf_alike hZ.alike Ar17.2.1) Ar17.2.2 hin18 hat18 (g := (mkF m 21 A4 [(.int (0 : Int32)), (.ref a1)])) rfl rfl (hb hby d2_21) _ ?_
      show Steps p.tables e below (s₁.setTop (mkF m 22 A4 [(.long x0)])) _
      let A5 : Array Slot := #[.val (.ref a1), .val (.ref a2), .val (.int (0 : Int32)), .val (.ref a1), .val (.int (1 : Int32)), .val (.int (0 : Int32)), .val (.long x0), .second, .unset, .unset, .unset, .unset, .unset]
      refine XS.lstore X0.here hx rfl (hb hby d2_22) rfl (l' := A5) rfl ?_
      show Steps p.tables e below (s₁.setTop (mkF m 24 A5 [])) _
      refine XS.aloadN X0.here hx rfl (hb hby d2_24) rfl rfl ?_
      show Steps p.tables e below (s₁.setTop (mkF m 25 A5 [(.ref a2)])) _
      let A6 : Array Slot := #[.val (.ref a1), .val (.ref a2), .val (.int (0 : Int32)), .val (.ref a1), .val (.int (1 : Int32)), .val (.int (0 : Int32)), .val (.long x0), .second, .val (.ref a2), .unset, .unset, .unset, .unset]
      refine XS.astore X0.here hx rfl (hb hby d2_25) rfl rfl (l' := A6) rfl ?_
      show Steps p.tables e below (s₁.setTop (mkF m 27 A6 [])) _
      refine XS.aload X0.here hx rfl (hb hby d2_27) rfl rfl ?_
      show Steps p.tables e below (s₁.setTop (mkF m 29 A6 [(.ref a2)])) _
      refine X0.arraylength hx (by rw [e0]; exact Ar19.1) (State.isArrayOf_alike hZ.alike Ar19.2.1) (g := (mkF m 29 A6 [(.ref a2)])) rfl rfl (hb hby d2_29) _ ?_
      rw [len_of S19 M19]
      show Steps p.tables e below (s₁.setTop (mkF m 30 A6 [(.int (1 : Int32))])) _
      let A7 : Array Slot := #[.val (.ref a1), .val (.ref a2), .val (.int (0 : Int32)), .val (.ref a1), .val (.int (1 : Int32)), .val (.int (0 : Int32)), .val (.long x0), .second, .val (.ref a2), .val (.int (1 : Int32)), .unset, .unset, .unset]
      refine XS.istore X0.here hx rfl (hb hby d2_30) rfl (l' := A7) rfl ?_
      show Steps p.tables e below (s₁.setTop (mkF m 32 A7 [])) _
      refine XS.iconst X0.here hx rfl (hb hby d2_32) ?_
      show Steps p.tables e below (s₁.setTop (mkF m 33 A7 [(.int (0 : Int32))])) _
      let A8 : Array Slot := #[.val (.ref a1), .val (.ref a2), .val (.int (0 : Int32)), .val (.ref a1), .val (.int (1 : Int32)), .val (.int (0 : Int32)), .val (.long x0), .second, .val (.ref a2), .val (.int (1 : Int32)), .val (.int (0 : Int32)), .unset, .unset]
      refine XS.istore X0.here hx rfl (hb hby d2_33) rfl (l' := A8) rfl ?_
      show Steps p.tables e below (s₁.setTop (mkF m 35 A8 [])) _
      refine XS.iload X0.here hx rfl (hb hby d2_35) rfl ?_
      show Steps p.tables e below (s₁.setTop (mkF m 37 A8 [(.int (0 : Int32))])) _
      refine XS.iload X0.here hx rfl (hb hby d2_37) rfl ?_
      show Steps p.tables e below (s₁.setTop (mkF m 39 A8 [(.int (1 : Int32)), (.int (0 : Int32))])) _
      refine XS.icmpNo X0.here hx rfl (hb hby d2_39) rfl (tlt (by decide : (0 : Int32) < (1 : Int32))).2.1 ?_
      show Steps p.tables e below (s₁.setTop (mkF m 42 A8 [])) _
      refine XS.aload X0.here hx rfl (hb hby d2_42) rfl rfl ?_
      show Steps p.tables e below (s₁.setTop (mkF m 44 A8 [(.ref a2)])) _
      refine XS.iload X0.here hx rfl (hb hby d2_44) rfl ?_
      show Steps p.tables e below (s₁.setTop (mkF m 46 A8 [(.int (0 : Int32)), (.ref a2)])) _
      refine X0.laload hx (j := (0 : Int32)) (v := (.long y0)) (by rw [e0]; exact Ar20.1) (State.isArrayOf_alike hZ.alike Ar20.2.1) Ar20.2.2 hin21 hat21 (g := (mkF m 46 A8 [(.int (0 : Int32)), (.ref a2)])) rfl rfl (hb hby d2_46) _ ?_
      show Steps p.tables e below (s₁.setTop (mkF m 47 A8 [(.long y0)])) _
      let A9 : Array Slot := #[.val (.ref a1), .val (.ref a2), .val (.int (0 : Int32)), .val (.ref a1), .val (.int (1 : Int32)), .val (.int (0 : Int32)), .val (.long x0), .second, .val (.ref a2), .val (.int (1 : Int32)), .val (.int (0 : Int32)), .val (.long y0), .second]
      refine XS.lstore X0.here hx rfl (hb hby d2_47) rfl (l' := A9) rfl ?_
      show Steps p.tables e below (s₁.setTop (mkF m 49 A9 [])) _
      refine XS.iloadN X0.here hx rfl (hb hby d2_49) rfl ?_
      exact kt)
  obtain ⟨v24, hv24⟩ : ∃ v : Int32, v = (if (lcmpW x0 (y0 + (2 : Int64))) = (0 : Int32) then (1 : Int32) else (0 : Int32)) := ⟨_, rfl⟩
  have k25 : ∀ t, Steps p.tables e below (s₁.setTop (mkF m 70 #[.val (.ref a1), .val (.ref a2), .val (.int (0 : Int32)), .val (.ref a1), .val (.int (1 : Int32)), .val (.int (0 : Int32)), .val (.long x0), .second, .val (.ref a2), .val (.int (1 : Int32)), .val (.int (0 : Int32)), .val (.long y0), .second] [(.int v24)])) t → Steps p.tables e below (s₁.setTop (entryFrame m #[(.ref a1), (.ref a2)] 13)) t := by
    intro t kt
    by_cases hc62_23 : (lcmpW x0 (y0 + (2 : Int64))) = (0 : Int32)
    · rw [show v24 = (1 : Int32) from (hv24.trans (if_pos hc62_23))] at kt
      exact k22 t (by
          let A0 : Array Slot := #[.val (.ref a1), .val (.ref a2), .val (.int (0 : Int32)), .val (.ref a1), .val (.int (1 : Int32)), .val (.int (0 : Int32)), .val (.long x0), .second, .val (.ref a2), .val (.int (1 : Int32)), .val (.int (0 : Int32)), .val (.long y0), .second]
          show Steps p.tables e below (s₁.setTop (mkF m 50 A0 [(.int (0 : Int32))])) _
          refine XS.ifNo X0.here hx rfl (hb hby d2_50) rfl ((if0 _ _).trans (teq (by decide : (0 : Int32) = (0 : Int32))).2) ?_
          show Steps p.tables e below (s₁.setTop (mkF m 53 A0 [])) _
          refine XS.lload X0.here hx rfl (hb hby d2_53) rfl ?_
          show Steps p.tables e below (s₁.setTop (mkF m 55 A0 [(.long x0)])) _
          refine XS.lload X0.here hx rfl (hb hby d2_55) rfl ?_
          show Steps p.tables e below (s₁.setTop (mkF m 57 A0 [(.long y0), (.long x0)])) _
          refine X0.ldc2Long hx hown (mvT hZ (hw _ (List.mem_of_getElem? (i := 10) rfl))) (g := (mkF m 57 A0 [(.long y0), (.long x0)])) rfl (hb hby d2_57) _ ?_
          show Steps p.tables e below (s₁.setTop (mkF m 60 A0 [(.long (2 : Int64)), (.long y0), (.long x0)])) _
          refine XS.ladd X0.here hx rfl (hb hby d2_60) rfl ?_
          show Steps p.tables e below (s₁.setTop (mkF m 61 A0 [(.long (y0 + (2 : Int64))), (.long x0)])) _
          refine XS.lcmp X0.here hx rfl (hb hby d2_61) rfl ?_
          show Steps p.tables e below (s₁.setTop (mkF m 62 A0 [(.int (lcmpW x0 (y0 + (2 : Int64))))])) _
          refine XS.ifNo X0.here hx rfl (hb hby d2_62) rfl ((if0 _ _).trans (teq hc62_23).2) ?_
          show Steps p.tables e below (s₁.setTop (mkF m 65 A0 [])) _
          refine XS.iconst X0.here hx rfl (hb hby d2_65) ?_
          show Steps p.tables e below (s₁.setTop (mkF m 66 A0 [(.int (1 : Int32))])) _
          refine XS.goto X0.here hx rfl (pc0 := 66) (pc' := 70) rfl (hb hby d2_66) (by decide) (by decide) ?_
          exact kt)
    · rw [show v24 = (0 : Int32) from (hv24.trans (if_neg hc62_23))] at kt
      exact k22 t (by
          let A0 : Array Slot := #[.val (.ref a1), .val (.ref a2), .val (.int (0 : Int32)), .val (.ref a1), .val (.int (1 : Int32)), .val (.int (0 : Int32)), .val (.long x0), .second, .val (.ref a2), .val (.int (1 : Int32)), .val (.int (0 : Int32)), .val (.long y0), .second]
          show Steps p.tables e below (s₁.setTop (mkF m 50 A0 [(.int (0 : Int32))])) _
          refine XS.ifNo X0.here hx rfl (hb hby d2_50) rfl ((if0 _ _).trans (teq (by decide : (0 : Int32) = (0 : Int32))).2) ?_
          show Steps p.tables e below (s₁.setTop (mkF m 53 A0 [])) _
          refine XS.lload X0.here hx rfl (hb hby d2_53) rfl ?_
          show Steps p.tables e below (s₁.setTop (mkF m 55 A0 [(.long x0)])) _
          refine XS.lload X0.here hx rfl (hb hby d2_55) rfl ?_
          show Steps p.tables e below (s₁.setTop (mkF m 57 A0 [(.long y0), (.long x0)])) _
          refine X0.ldc2Long hx hown (mvT hZ (hw _ (List.mem_of_getElem? (i := 10) rfl))) (g := (mkF m 57 A0 [(.long y0), (.long x0)])) rfl (hb hby d2_57) _ ?_
          show Steps p.tables e below (s₁.setTop (mkF m 60 A0 [(.long (2 : Int64)), (.long y0), (.long x0)])) _
          refine XS.ladd X0.here hx rfl (hb hby d2_60) rfl ?_
          show Steps p.tables e below (s₁.setTop (mkF m 61 A0 [(.long (y0 + (2 : Int64))), (.long x0)])) _
          refine XS.lcmp X0.here hx rfl (hb hby d2_61) rfl ?_
          show Steps p.tables e below (s₁.setTop (mkF m 62 A0 [(.int (lcmpW x0 (y0 + (2 : Int64))))])) _
          refine XS.ifYes X0.here hx rfl (pc0 := 62) (pc' := 69) rfl (hb hby d2_62) rfl ((if0 _ _).trans (feq hc62_23).2) (by decide) (by decide) ?_
          show Steps p.tables e below (s₁.setTop (mkF m 69 A0 [])) _
          refine XS.iconst X0.here hx rfl (hb hby d2_69) ?_
          exact kt)
  have k26 : ∀ t, Steps p.tables e below (s₁.setTop (mkF m 84 #[.val (.ref a1), .val (.ref a2), .val (.int v24), .val (.ref a1), .val (.int (1 : Int32)), .val (.int ((0 : Int32) + (1 : Int32))), .val (.long x0), .second, .val (.ref a2), .val (.int (1 : Int32)), .val (.int ((0 : Int32) + (1 : Int32))), .val (.long y0), .second] [(.int v24)])) t → Steps p.tables e below (s₁.setTop (entryFrame m #[(.ref a1), (.ref a2)] 13)) t := fun t kt => k25 t (by
      show Steps p.tables e below (s₁.setTop (mkF m 70 #[.val (.ref a1), .val (.ref a2), .val (.int (0 : Int32)), .val (.ref a1), .val (.int (1 : Int32)), .val (.int (0 : Int32)), .val (.long x0), .second, .val (.ref a2), .val (.int (1 : Int32)), .val (.int (0 : Int32)), .val (.long y0), .second] [(.int v24)])) _
      let A0 : Array Slot := #[.val (.ref a1), .val (.ref a2), .val (.int v24), .val (.ref a1), .val (.int (1 : Int32)), .val (.int (0 : Int32)), .val (.long x0), .second, .val (.ref a2), .val (.int (1 : Int32)), .val (.int (0 : Int32)), .val (.long y0), .second]
      refine XS.istoreN X0.here hx rfl (hb hby d2_70) rfl (l' := A0) rfl ?_
      show Steps p.tables e below (s₁.setTop (mkF m 71 A0 [])) _
      let A1 : Array Slot := #[.val (.ref a1), .val (.ref a2), .val (.int v24), .val (.ref a1), .val (.int (1 : Int32)), .val (.int (0 : Int32)), .val (.long x0), .second, .val (.ref a2), .val (.int (1 : Int32)), .val (.int ((0 : Int32) + (1 : Int32))), .val (.long y0), .second]
      refine XS.iinc X0.here hx rfl (hb hby d2_71) rfl (l' := A1) rfl ?_
      show Steps p.tables e below (s₁.setTop (mkF m 74 A1 [])) _
      refine XS.goto X0.here hx rfl (pc0 := 74) (pc' := 35) rfl (hb hby d2_74) (by decide) (by decide) ?_
      show Steps p.tables e below (s₁.setTop (mkF m 35 A1 [])) _
      refine XS.iload X0.here hx rfl (hb hby d2_35) rfl ?_
      show Steps p.tables e below (s₁.setTop (mkF m 37 A1 [(.int ((0 : Int32) + (1 : Int32)))])) _
      refine XS.iload X0.here hx rfl (hb hby d2_37) rfl ?_
      show Steps p.tables e below (s₁.setTop (mkF m 39 A1 [(.int (1 : Int32)), (.int ((0 : Int32) + (1 : Int32)))])) _
      refine XS.icmpYes X0.here hx rfl (pc0 := 39) (pc' := 77) rfl (hb hby d2_39) rfl (flt (by decide : ¬ (((0 : Int32) + (1 : Int32)) < (1 : Int32)))).2.1 (by decide) (by decide) ?_
      show Steps p.tables e below (s₁.setTop (mkF m 77 A1 [])) _
      let A2 : Array Slot := #[.val (.ref a1), .val (.ref a2), .val (.int v24), .val (.ref a1), .val (.int (1 : Int32)), .val (.int ((0 : Int32) + (1 : Int32))), .val (.long x0), .second, .val (.ref a2), .val (.int (1 : Int32)), .val (.int ((0 : Int32) + (1 : Int32))), .val (.long y0), .second]
      refine XS.iinc X0.here hx rfl (hb hby d2_77) rfl (l' := A2) rfl ?_
      show Steps p.tables e below (s₁.setTop (mkF m 80 A2 [])) _
      refine XS.goto X0.here hx rfl (pc0 := 80) (pc' := 11) rfl (hb hby d2_80) (by decide) (by decide) ?_
      show Steps p.tables e below (s₁.setTop (mkF m 11 A2 [])) _
      refine XS.iload X0.here hx rfl (hb hby d2_11) rfl ?_
      show Steps p.tables e below (s₁.setTop (mkF m 13 A2 [(.int ((0 : Int32) + (1 : Int32)))])) _
      refine XS.iload X0.here hx rfl (hb hby d2_13) rfl ?_
      show Steps p.tables e below (s₁.setTop (mkF m 15 A2 [(.int (1 : Int32)), (.int ((0 : Int32) + (1 : Int32)))])) _
      refine XS.icmpYes X0.here hx rfl (pc0 := 15) (pc' := 83) rfl (hb hby d2_15) rfl (flt (by decide : ¬ (((0 : Int32) + (1 : Int32)) < (1 : Int32)))).2.1 (by decide) (by decide) ?_
      show Steps p.tables e below (s₁.setTop (mkF m 83 A2 [])) _
      refine XS.iloadN X0.here hx rfl (hb hby d2_83) rfl ?_
      exact kt)
  obtain ⟨fs, hr, hrun, hended, hW, hsame⟩ := X0.leave (v := some (.int (nar .boolean v24))) (fun h => by rw [Bd.returns] at h; cases h)
  refine ⟨_, _, k26 _ ?_, hrun, hended, _, _, rfl, ?_, ⟨_, rfl⟩, hW, hsame.mono (by decide) (by decide)⟩
  · show Steps p.tables e below (s₁.setTop (mkF m 84 #[.val (.ref a1), .val (.ref a2), .val (.int v24), .val (.ref a1), .val (.int (1 : Int32)), .val (.int ((0 : Int32) + (1 : Int32))), .val (.long x0), .second, .val (.ref a2), .val (.int (1 : Int32)), .val (.int ((0 : Int32) + (1 : Int32))), .val (.long y0), .second] [(.int v24)])) _
    exact retN X0 hx (t := .boolean) Bd.returns (by simp) (hb hby d2_84) hr
  · show Q_rm2_11 Z x0 y0 h0 n0 _ s₁.heap _
    rw [e0]
    exact ⟨by rw [show v24 = own_nbo [x0] [y0] from by rw [hv24]; rfl]; exact congrArg (fun z => some (Value.int z)) (own_nar _ _), N0, rfl⟩
theorem ef_rm2_12 (m : MethodId) (x0 : Addr) (x1 : Addr) : entryFrame m #[(.ref x0), (.ref x1)] 13 = mkF m 0 #[.val (.ref x0), .val (.ref x1), .unset, .unset, .unset, .unset, .unset, .unset, .unset, .unset, .unset, .unset, .unset] [] := by first | (simp [entryFrame, mkF, argsToLocals, Value.category]; done) | rfl
def Q_rm2_12 (Z : State)  (x0 : Int64) (y0 : Int64) (y1 : Int64) (h0 : Heap) (n0 : Nat) (v : Option Value) (h : Heap) (L : List Loc) : Prop := v = some (.int (own_nbo [x0] [y0, y1])) ∧ Fr n0 L ∧ h = h0
set_option maxRecDepth 65536 in
set_option maxHeartbeats 40000000 in
theorem rm2_12 (l : Launch) (Z : State) (a0 : Array Value) (hw : ∀ d ∈ tables_1, d.before a0 Z = true) (ws : List Jvm.Cond) (a1 a2 : Addr) (k1 k2 : ClassId) (x0 : Int64) (y0 : Int64) (y1 : Int64) (h0 : Heap) (n0 : Nat) (Z0 : n0 ≤ h0.size) (V1 : Arv Z h0 a1 k1 .long (1 : Int32) [(.long x0)] (.long (0 : Int64))) (V2 : Arv Z h0 a2 k2 .long (2 : Int32) [(.long y0), (.long y1)] (.long (0 : Int64))) :
    MetFree l (⟨"com/example/conformed/conformed/agreement/Enumerator", "nextButOne", "([J[J)Z"⟩ : MethodName) (head1 (Jvm.Cond.code (⟨"com/example/conformed/conformed/agreement/Enumerator", "nextButOne", "([J[J)Z"⟩ : MethodName) prog_10_method_6_code 13 (some .boolean) :: ws) ({ frames := 0, cells := 0, slots := 0, locals := 0 } : Room)) (fun a U => a = #[(.ref a1), (.ref a2)] ∧ Z.Warmed39 U.vm ∧ U.heap = h0) (fun _ _ _ _ _ => True) (fun _ U o U' => ∃ v L, o = .returned v ∧ Q_rm2_12 Z x0 y0 y1 h0 n0 v U'.heap L ∧ FrameEnd U o U' L ({ frames := 0, cells := 0, slots := 0, locals := 0 } : Room).cells ({ frames := 0, cells := 0, slots := 0, locals := 0 } : Room).slots) := by
  refine MetFree.of_bodySF (plainFor_of_name pn_c0) hisR ?_
  intro p e s m args below meth c s₁ Bd hml0 hP hK
  obtain ⟨rfl, hZ, hh⟩ := hP
  have hx := Bd.exec
  have hby := Bd.bytes
  have hml : c.maxLocals = 13 := hml0
  have hown : s.vm.findClass "com/example/conformed/conformed/agreement/Enumerator" = some m.cls := findClass_of_methodNamed Bd.named
  have hnm := (name_of_methodNamed Bd.named Bd.method).1
  have X0 : Stand p l e ({ frames := 0, cells := 0, slots := 0, locals := 0 } : Room) s m #[(.ref a1), (.ref a2)] below meth c s₁ [] 0 0 := Stand.of_body Bd
  have e0 : s₁.heap = h0 := by rw [← hh, Bd.state]; rfl
  have N0 := Fr.nil n0
  have pre0 : ∀ t, Steps p.tables e below (s₁.setTop (mkF m 0 #[.val (.ref a1), .val (.ref a2), .unset, .unset, .unset, .unset, .unset, .unset, .unset, .unset, .unset, .unset, .unset] [])) t → Steps p.tables e below (s₁.setTop (entryFrame m #[(.ref a1), (.ref a2)] 13)) t := fun t k => castTop (ef_rm2_12 m a1 a2) k
  obtain ⟨cl27, Ar27, q27, S27, M27, H27, G27⟩ := id V1
  obtain ⟨cl28, Ar28, q28, S28, M28, H28, G28⟩ := id V1
  have hin29 : ¬ ((0 : Int32) < 0 ∨ cl28.slots.size ≤ ((0 : Int32)).toNatClampNeg) := inb_of S28 ⟨by decide, by decide⟩
  have hat29 : cl28.slots[((0 : Int32)).toNatClampNeg]? = some (.long x0) := H28.at hin29 rfl
  obtain ⟨cl30, Ar30, q30, S30, M30, H30, G30⟩ := id V2
  obtain ⟨cl31, Ar31, q31, S31, M31, H31, G31⟩ := id V2
  have hin32 : ¬ ((0 : Int32) < 0 ∨ cl31.slots.size ≤ ((0 : Int32)).toNatClampNeg) := inb_of S31 ⟨by decide, by decide⟩
  have hat32 : cl31.slots[((0 : Int32)).toNatClampNeg]? = some (.long y0) := H31.at hin32 rfl
  have k33 : ∀ t, Steps p.tables e below (s₁.setTop (mkF m 50 #[.val (.ref a1), .val (.ref a2), .val (.int (0 : Int32)), .val (.ref a1), .val (.int (1 : Int32)), .val (.int (0 : Int32)), .val (.long x0), .second, .val (.ref a2), .val (.int (2 : Int32)), .val (.int (0 : Int32)), .val (.long y0), .second] [(.int (0 : Int32))])) t → Steps p.tables e below (s₁.setTop (entryFrame m #[(.ref a1), (.ref a2)] 13)) t := fun t kt => pre0 t (by
      let A0 : Array Slot := #[.val (.ref a1), .val (.ref a2), .unset, .unset, .unset, .unset, .unset, .unset, .unset, .unset, .unset, .unset, .unset]
      show Steps p.tables e below (s₁.setTop (mkF m 0 A0 [])) _
      refine XS.iconst X0.here hx rfl (hb hby d2_0) ?_
      show Steps p.tables e below (s₁.setTop (mkF m 1 A0 [(.int (0 : Int32))])) _
      let A1 : Array Slot := #[.val (.ref a1), .val (.ref a2), .val (.int (0 : Int32)), .unset, .unset, .unset, .unset, .unset, .unset, .unset, .unset, .unset, .unset]
      refine XS.istoreN X0.here hx rfl (hb hby d2_1) rfl (l' := A1) rfl ?_
      show Steps p.tables e below (s₁.setTop (mkF m 2 A1 [])) _
      refine XS.aloadN X0.here hx rfl (hb hby d2_2) rfl rfl ?_
      show Steps p.tables e below (s₁.setTop (mkF m 3 A1 [(.ref a1)])) _
      let A2 : Array Slot := #[.val (.ref a1), .val (.ref a2), .val (.int (0 : Int32)), .val (.ref a1), .unset, .unset, .unset, .unset, .unset, .unset, .unset, .unset, .unset]
      refine XS.astoreN X0.here hx rfl (hb hby d2_3) rfl rfl (l' := A2) rfl ?_
      show Steps p.tables e below (s₁.setTop (mkF m 4 A2 [])) _
      refine XS.aloadN X0.here hx rfl (hb hby d2_4) rfl rfl ?_
      show Steps p.tables e below (s₁.setTop (mkF m 5 A2 [(.ref a1)])) _
      refine X0.arraylength hx (by rw [e0]; exact Ar27.1) (State.isArrayOf_alike hZ.alike Ar27.2.1) (g := (mkF m 5 A2 [(.ref a1)])) rfl rfl (hb hby d2_5) _ ?_
      rw [len_of S27 M27]
      show Steps p.tables e below (s₁.setTop (mkF m 6 A2 [(.int (1 : Int32))])) _
      let A3 : Array Slot := #[.val (.ref a1), .val (.ref a2), .val (.int (0 : Int32)), .val (.ref a1), .val (.int (1 : Int32)), .unset, .unset, .unset, .unset, .unset, .unset, .unset, .unset]
      refine XS.istore X0.here hx rfl (hb hby d2_6) rfl (l' := A3) rfl ?_
      show Steps p.tables e below (s₁.setTop (mkF m 8 A3 [])) _
      refine XS.iconst X0.here hx rfl (hb hby d2_8) ?_
      show Steps p.tables e below (s₁.setTop (mkF m 9 A3 [(.int (0 : Int32))])) _
      let A4 : Array Slot := #[.val (.ref a1), .val (.ref a2), .val (.int (0 : Int32)), .val (.ref a1), .val (.int (1 : Int32)), .val (.int (0 : Int32)), .unset, .unset, .unset, .unset, .unset, .unset, .unset]
      refine XS.istore X0.here hx rfl (hb hby d2_9) rfl (l' := A4) rfl ?_
      show Steps p.tables e below (s₁.setTop (mkF m 11 A4 [])) _
      refine XS.iload X0.here hx rfl (hb hby d2_11) rfl ?_
      show Steps p.tables e below (s₁.setTop (mkF m 13 A4 [(.int (0 : Int32))])) _
      refine XS.iload X0.here hx rfl (hb hby d2_13) rfl ?_
      show Steps p.tables e below (s₁.setTop (mkF m 15 A4 [(.int (1 : Int32)), (.int (0 : Int32))])) _
      refine XS.icmpNo X0.here hx rfl (hb hby d2_15) rfl (tlt (by decide : (0 : Int32) < (1 : Int32))).2.1 ?_
      show Steps p.tables e below (s₁.setTop (mkF m 18 A4 [])) _
      refine XS.aloadN X0.here hx rfl (hb hby d2_18) rfl rfl ?_
      show Steps p.tables e below (s₁.setTop (mkF m 19 A4 [(.ref a1)])) _
      refine XS.iload X0.here hx rfl (hb hby d2_19) rfl ?_
      show Steps p.tables e below (s₁.setTop (mkF m 21 A4 [(.int (0 : Int32)), (.ref a1)])) _
      refine X0.laload hx (j := (0 : Int32)) (v := (.long x0)) (by rw [e0]; exact Ar28.1) (State.isArrayOf_alike hZ.alike Ar28.2.1) Ar28.2.2 hin29 hat29 (g := (mkF m 21 A4 [(.int (0 : Int32)), (.ref a1)])) rfl rfl (hb hby d2_21) _ ?_
      show Steps p.tables e below (s₁.setTop (mkF m 22 A4 [(.long x0)])) _
      let A5 : Array Slot := #[.val (.ref a1), .val (.ref a2), .val (.int (0 : Int32)), .val (.ref a1), .val (.int (1 : Int32)), .val (.int (0 : Int32)), .val (.long x0), .second, .unset, .unset, .unset, .unset, .unset]
      refine XS.lstore X0.here hx rfl (hb hby d2_22) rfl (l' := A5) rfl ?_
      show Steps p.tables e below (s₁.setTop (mkF m 24 A5 [])) _
      refine XS.aloadN X0.here hx rfl (hb hby d2_24) rfl rfl ?_
      show Steps p.tables e below (s₁.setTop (mkF m 25 A5 [(.ref a2)])) _
      let A6 : Array Slot := #[.val (.ref a1), .val (.ref a2), .val (.int (0 : Int32)), .val (.ref a1), .val (.int (1 : Int32)), .val (.int (0 : Int32)), .val (.long x0), .second, .val (.ref a2), .unset, .unset, .unset, .unset]
      refine XS.astore X0.here hx rfl (hb hby d2_25) rfl rfl (l' := A6) rfl ?_
      show Steps p.tables e below (s₁.setTop (mkF m 27 A6 [])) _
      refine XS.aload X0.here hx rfl (hb hby d2_27) rfl rfl ?_
      show Steps p.tables e below (s₁.setTop (mkF m 29 A6 [(.ref a2)])) _
      refine X0.arraylength hx (by rw [e0]; exact Ar30.1) (State.isArrayOf_alike hZ.alike Ar30.2.1) (g := (mkF m 29 A6 [(.ref a2)])) rfl rfl (hb hby d2_29) _ ?_
      rw [len_of S30 M30]
      show Steps p.tables e below (s₁.setTop (mkF m 30 A6 [(.int (2 : Int32))])) _
      let A7 : Array Slot := #[.val (.ref a1), .val (.ref a2), .val (.int (0 : Int32)), .val (.ref a1), .val (.int (1 : Int32)), .val (.int (0 : Int32)), .val (.long x0), .second, .val (.ref a2), .val (.int (2 : Int32)), .unset, .unset, .unset]
      refine XS.istore X0.here hx rfl (hb hby d2_30) rfl (l' := A7) rfl ?_
      show Steps p.tables e below (s₁.setTop (mkF m 32 A7 [])) _
      refine XS.iconst X0.here hx rfl (hb hby d2_32) ?_
      show Steps p.tables e below (s₁.setTop (mkF m 33 A7 [(.int (0 : Int32))])) _
      let A8 : Array Slot := #[.val (.ref a1), .val (.ref a2), .val (.int (0 : Int32)), .val (.ref a1), .val (.int (1 : Int32)), .val (.int (0 : Int32)), .val (.long x0), .second, .val (.ref a2), .val (.int (2 : Int32)), .val (.int (0 : Int32)), .unset, .unset]
      refine XS.istore X0.here hx rfl (hb hby d2_33) rfl (l' := A8) rfl ?_
      show Steps p.tables e below (s₁.setTop (mkF m 35 A8 [])) _
      refine XS.iload X0.here hx rfl (hb hby d2_35) rfl ?_
      show Steps p.tables e below (s₁.setTop (mkF m 37 A8 [(.int (0 : Int32))])) _
      refine XS.iload X0.here hx rfl (hb hby d2_37) rfl ?_
      show Steps p.tables e below (s₁.setTop (mkF m 39 A8 [(.int (2 : Int32)), (.int (0 : Int32))])) _
      refine XS.icmpNo X0.here hx rfl (hb hby d2_39) rfl (tlt (by decide : (0 : Int32) < (2 : Int32))).2.1 ?_
      show Steps p.tables e below (s₁.setTop (mkF m 42 A8 [])) _
      refine XS.aload X0.here hx rfl (hb hby d2_42) rfl rfl ?_
      show Steps p.tables e below (s₁.setTop (mkF m 44 A8 [(.ref a2)])) _
      refine XS.iload X0.here hx rfl (hb hby d2_44) rfl ?_
      show Steps p.tables e below (s₁.setTop (mkF m 46 A8 [(.int (0 : Int32)), (.ref a2)])) _
      refine X0.laload hx (j := (0 : Int32)) (v := (.long y0)) (by rw [e0]; exact Ar31.1) (State.isArrayOf_alike hZ.alike Ar31.2.1) Ar31.2.2 hin32 hat32 (g := (mkF m 46 A8 [(.int (0 : Int32)), (.ref a2)])) rfl rfl (hb hby d2_46) _ ?_
      show Steps p.tables e below (s₁.setTop (mkF m 47 A8 [(.long y0)])) _
      let A9 : Array Slot := #[.val (.ref a1), .val (.ref a2), .val (.int (0 : Int32)), .val (.ref a1), .val (.int (1 : Int32)), .val (.int (0 : Int32)), .val (.long x0), .second, .val (.ref a2), .val (.int (2 : Int32)), .val (.int (0 : Int32)), .val (.long y0), .second]
      refine XS.lstore X0.here hx rfl (hb hby d2_47) rfl (l' := A9) rfl ?_
      show Steps p.tables e below (s₁.setTop (mkF m 49 A9 [])) _
      refine XS.iloadN X0.here hx rfl (hb hby d2_49) rfl ?_
      exact kt)
  obtain ⟨v35, hv35⟩ : ∃ v : Int32, v = (if (lcmpW x0 (y0 + (2 : Int64))) = (0 : Int32) then (1 : Int32) else (0 : Int32)) := ⟨_, rfl⟩
  have k36 : ∀ t, Steps p.tables e below (s₁.setTop (mkF m 70 #[.val (.ref a1), .val (.ref a2), .val (.int (0 : Int32)), .val (.ref a1), .val (.int (1 : Int32)), .val (.int (0 : Int32)), .val (.long x0), .second, .val (.ref a2), .val (.int (2 : Int32)), .val (.int (0 : Int32)), .val (.long y0), .second] [(.int v35)])) t → Steps p.tables e below (s₁.setTop (entryFrame m #[(.ref a1), (.ref a2)] 13)) t := by
    intro t kt
    by_cases hc62_34 : (lcmpW x0 (y0 + (2 : Int64))) = (0 : Int32)
    · rw [show v35 = (1 : Int32) from (hv35.trans (if_pos hc62_34))] at kt
      exact k33 t (by
          let A0 : Array Slot := #[.val (.ref a1), .val (.ref a2), .val (.int (0 : Int32)), .val (.ref a1), .val (.int (1 : Int32)), .val (.int (0 : Int32)), .val (.long x0), .second, .val (.ref a2), .val (.int (2 : Int32)), .val (.int (0 : Int32)), .val (.long y0), .second]
          show Steps p.tables e below (s₁.setTop (mkF m 50 A0 [(.int (0 : Int32))])) _
          refine XS.ifNo X0.here hx rfl (hb hby d2_50) rfl ((if0 _ _).trans (teq (by decide : (0 : Int32) = (0 : Int32))).2) ?_
          show Steps p.tables e below (s₁.setTop (mkF m 53 A0 [])) _
          refine XS.lload X0.here hx rfl (hb hby d2_53) rfl ?_
          show Steps p.tables e below (s₁.setTop (mkF m 55 A0 [(.long x0)])) _
          refine XS.lload X0.here hx rfl (hb hby d2_55) rfl ?_
          show Steps p.tables e below (s₁.setTop (mkF m 57 A0 [(.long y0), (.long x0)])) _
          refine X0.ldc2Long hx hown (mvT hZ (hw _ (List.mem_of_getElem? (i := 10) rfl))) (g := (mkF m 57 A0 [(.long y0), (.long x0)])) rfl (hb hby d2_57) _ ?_
          show Steps p.tables e below (s₁.setTop (mkF m 60 A0 [(.long (2 : Int64)), (.long y0), (.long x0)])) _
          refine XS.ladd X0.here hx rfl (hb hby d2_60) rfl ?_
          show Steps p.tables e below (s₁.setTop (mkF m 61 A0 [(.long (y0 + (2 : Int64))), (.long x0)])) _
          refine XS.lcmp X0.here hx rfl (hb hby d2_61) rfl ?_
          show Steps p.tables e below (s₁.setTop (mkF m 62 A0 [(.int (lcmpW x0 (y0 + (2 : Int64))))])) _
          refine XS.ifNo X0.here hx rfl (hb hby d2_62) rfl ((if0 _ _).trans (teq hc62_34).2) ?_
          show Steps p.tables e below (s₁.setTop (mkF m 65 A0 [])) _
          refine XS.iconst X0.here hx rfl (hb hby d2_65) ?_
          show Steps p.tables e below (s₁.setTop (mkF m 66 A0 [(.int (1 : Int32))])) _
          refine XS.goto X0.here hx rfl (pc0 := 66) (pc' := 70) rfl (hb hby d2_66) (by decide) (by decide) ?_
          exact kt)
    · rw [show v35 = (0 : Int32) from (hv35.trans (if_neg hc62_34))] at kt
      exact k33 t (by
          let A0 : Array Slot := #[.val (.ref a1), .val (.ref a2), .val (.int (0 : Int32)), .val (.ref a1), .val (.int (1 : Int32)), .val (.int (0 : Int32)), .val (.long x0), .second, .val (.ref a2), .val (.int (2 : Int32)), .val (.int (0 : Int32)), .val (.long y0), .second]
          show Steps p.tables e below (s₁.setTop (mkF m 50 A0 [(.int (0 : Int32))])) _
          refine XS.ifNo X0.here hx rfl (hb hby d2_50) rfl ((if0 _ _).trans (teq (by decide : (0 : Int32) = (0 : Int32))).2) ?_
          show Steps p.tables e below (s₁.setTop (mkF m 53 A0 [])) _
          refine XS.lload X0.here hx rfl (hb hby d2_53) rfl ?_
          show Steps p.tables e below (s₁.setTop (mkF m 55 A0 [(.long x0)])) _
          refine XS.lload X0.here hx rfl (hb hby d2_55) rfl ?_
          show Steps p.tables e below (s₁.setTop (mkF m 57 A0 [(.long y0), (.long x0)])) _
          refine X0.ldc2Long hx hown (mvT hZ (hw _ (List.mem_of_getElem? (i := 10) rfl))) (g := (mkF m 57 A0 [(.long y0), (.long x0)])) rfl (hb hby d2_57) _ ?_
          show Steps p.tables e below (s₁.setTop (mkF m 60 A0 [(.long (2 : Int64)), (.long y0), (.long x0)])) _
          refine XS.ladd X0.here hx rfl (hb hby d2_60) rfl ?_
          show Steps p.tables e below (s₁.setTop (mkF m 61 A0 [(.long (y0 + (2 : Int64))), (.long x0)])) _
          refine XS.lcmp X0.here hx rfl (hb hby d2_61) rfl ?_
          show Steps p.tables e below (s₁.setTop (mkF m 62 A0 [(.int (lcmpW x0 (y0 + (2 : Int64))))])) _
          refine XS.ifYes X0.here hx rfl (pc0 := 62) (pc' := 69) rfl (hb hby d2_62) rfl ((if0 _ _).trans (feq hc62_34).2) (by decide) (by decide) ?_
          show Steps p.tables e below (s₁.setTop (mkF m 69 A0 [])) _
          refine XS.iconst X0.here hx rfl (hb hby d2_69) ?_
          exact kt)
  obtain ⟨cl37, Ar37, q37, S37, M37, H37, G37⟩ := id V2
  have hin38 : ¬ (((0 : Int32) + (1 : Int32)) < 0 ∨ cl37.slots.size ≤ (((0 : Int32) + (1 : Int32))).toNatClampNeg) := inb_of S37 ⟨by decide, by decide⟩
  have hat38 : cl37.slots[(((0 : Int32) + (1 : Int32))).toNatClampNeg]? = some (.long y1) := H37.at hin38 rfl
  have k39 : ∀ t, Steps p.tables e below (s₁.setTop (mkF m 50 #[.val (.ref a1), .val (.ref a2), .val (.int v35), .val (.ref a1), .val (.int (1 : Int32)), .val (.int (0 : Int32)), .val (.long x0), .second, .val (.ref a2), .val (.int (2 : Int32)), .val (.int ((0 : Int32) + (1 : Int32))), .val (.long y1), .second] [(.int v35)])) t → Steps p.tables e below (s₁.setTop (entryFrame m #[(.ref a1), (.ref a2)] 13)) t := fun t kt => k36 t (by
      show Steps p.tables e below (s₁.setTop (mkF m 70 #[.val (.ref a1), .val (.ref a2), .val (.int (0 : Int32)), .val (.ref a1), .val (.int (1 : Int32)), .val (.int (0 : Int32)), .val (.long x0), .second, .val (.ref a2), .val (.int (2 : Int32)), .val (.int (0 : Int32)), .val (.long y0), .second] [(.int v35)])) _
      let A0 : Array Slot := #[.val (.ref a1), .val (.ref a2), .val (.int v35), .val (.ref a1), .val (.int (1 : Int32)), .val (.int (0 : Int32)), .val (.long x0), .second, .val (.ref a2), .val (.int (2 : Int32)), .val (.int (0 : Int32)), .val (.long y0), .second]
      refine XS.istoreN X0.here hx rfl (hb hby d2_70) rfl (l' := A0) rfl ?_
      show Steps p.tables e below (s₁.setTop (mkF m 71 A0 [])) _
      let A1 : Array Slot := #[.val (.ref a1), .val (.ref a2), .val (.int v35), .val (.ref a1), .val (.int (1 : Int32)), .val (.int (0 : Int32)), .val (.long x0), .second, .val (.ref a2), .val (.int (2 : Int32)), .val (.int ((0 : Int32) + (1 : Int32))), .val (.long y0), .second]
      refine XS.iinc X0.here hx rfl (hb hby d2_71) rfl (l' := A1) rfl ?_
      show Steps p.tables e below (s₁.setTop (mkF m 74 A1 [])) _
      refine XS.goto X0.here hx rfl (pc0 := 74) (pc' := 35) rfl (hb hby d2_74) (by decide) (by decide) ?_
      show Steps p.tables e below (s₁.setTop (mkF m 35 A1 [])) _
      refine XS.iload X0.here hx rfl (hb hby d2_35) rfl ?_
      show Steps p.tables e below (s₁.setTop (mkF m 37 A1 [(.int ((0 : Int32) + (1 : Int32)))])) _
      refine XS.iload X0.here hx rfl (hb hby d2_37) rfl ?_
      show Steps p.tables e below (s₁.setTop (mkF m 39 A1 [(.int (2 : Int32)), (.int ((0 : Int32) + (1 : Int32)))])) _
      refine XS.icmpNo X0.here hx rfl (hb hby d2_39) rfl (tlt (by decide : ((0 : Int32) + (1 : Int32)) < (2 : Int32))).2.1 ?_
      show Steps p.tables e below (s₁.setTop (mkF m 42 A1 [])) _
      refine XS.aload X0.here hx rfl (hb hby d2_42) rfl rfl ?_
      show Steps p.tables e below (s₁.setTop (mkF m 44 A1 [(.ref a2)])) _
      refine XS.iload X0.here hx rfl (hb hby d2_44) rfl ?_
      show Steps p.tables e below (s₁.setTop (mkF m 46 A1 [(.int ((0 : Int32) + (1 : Int32))), (.ref a2)])) _
      refine X0.laload hx (j := ((0 : Int32) + (1 : Int32))) (v := (.long y1)) (by rw [e0]; exact Ar37.1) (State.isArrayOf_alike hZ.alike Ar37.2.1) Ar37.2.2 hin38 hat38 (g := (mkF m 46 A1 [(.int ((0 : Int32) + (1 : Int32))), (.ref a2)])) rfl rfl (hb hby d2_46) _ ?_
      show Steps p.tables e below (s₁.setTop (mkF m 47 A1 [(.long y1)])) _
      let A2 : Array Slot := #[.val (.ref a1), .val (.ref a2), .val (.int v35), .val (.ref a1), .val (.int (1 : Int32)), .val (.int (0 : Int32)), .val (.long x0), .second, .val (.ref a2), .val (.int (2 : Int32)), .val (.int ((0 : Int32) + (1 : Int32))), .val (.long y1), .second]
      refine XS.lstore X0.here hx rfl (hb hby d2_47) rfl (l' := A2) rfl ?_
      show Steps p.tables e below (s₁.setTop (mkF m 49 A2 [])) _
      refine XS.iloadN X0.here hx rfl (hb hby d2_49) rfl ?_
      exact kt)
  obtain ⟨v42, hv42⟩ : ∃ v : Int32, v = (if v35 = (0 : Int32) then (if (lcmpW x0 (y1 + (2 : Int64))) = (0 : Int32) then (1 : Int32) else (0 : Int32)) else (1 : Int32)) := ⟨_, rfl⟩
  have k43 : ∀ t, Steps p.tables e below (s₁.setTop (mkF m 70 #[.val (.ref a1), .val (.ref a2), .val (.int v35), .val (.ref a1), .val (.int (1 : Int32)), .val (.int (0 : Int32)), .val (.long x0), .second, .val (.ref a2), .val (.int (2 : Int32)), .val (.int ((0 : Int32) + (1 : Int32))), .val (.long y1), .second] [(.int v42)])) t → Steps p.tables e below (s₁.setTop (entryFrame m #[(.ref a1), (.ref a2)] 13)) t := by
    intro t kt
    by_cases hc50_40 : v35 = (0 : Int32)
    · by_cases hc62_41 : (lcmpW x0 (y1 + (2 : Int64))) = (0 : Int32)
      · rw [show v42 = (1 : Int32) from ((hv42.trans (if_pos hc50_40)).trans (if_pos hc62_41))] at kt
        exact k39 t (by
            let A0 : Array Slot := #[.val (.ref a1), .val (.ref a2), .val (.int v35), .val (.ref a1), .val (.int (1 : Int32)), .val (.int (0 : Int32)), .val (.long x0), .second, .val (.ref a2), .val (.int (2 : Int32)), .val (.int ((0 : Int32) + (1 : Int32))), .val (.long y1), .second]
            show Steps p.tables e below (s₁.setTop (mkF m 50 A0 [(.int v35)])) _
            refine XS.ifNo X0.here hx rfl (hb hby d2_50) rfl ((if0 _ _).trans (teq hc50_40).2) ?_
            show Steps p.tables e below (s₁.setTop (mkF m 53 A0 [])) _
            refine XS.lload X0.here hx rfl (hb hby d2_53) rfl ?_
            show Steps p.tables e below (s₁.setTop (mkF m 55 A0 [(.long x0)])) _
            refine XS.lload X0.here hx rfl (hb hby d2_55) rfl ?_
            show Steps p.tables e below (s₁.setTop (mkF m 57 A0 [(.long y1), (.long x0)])) _
            refine X0.ldc2Long hx hown (mvT hZ (hw _ (List.mem_of_getElem? (i := 10) rfl))) (g := (mkF m 57 A0 [(.long y1), (.long x0)])) rfl (hb hby d2_57) _ ?_
            show Steps p.tables e below (s₁.setTop (mkF m 60 A0 [(.long (2 : Int64)), (.long y1), (.long x0)])) _
            refine XS.ladd X0.here hx rfl (hb hby d2_60) rfl ?_
            show Steps p.tables e below (s₁.setTop (mkF m 61 A0 [(.long (y1 + (2 : Int64))), (.long x0)])) _
            refine XS.lcmp X0.here hx rfl (hb hby d2_61) rfl ?_
            show Steps p.tables e below (s₁.setTop (mkF m 62 A0 [(.int (lcmpW x0 (y1 + (2 : Int64))))])) _
            refine XS.ifNo X0.here hx rfl (hb hby d2_62) rfl ((if0 _ _).trans (teq hc62_41).2) ?_
            show Steps p.tables e below (s₁.setTop (mkF m 65 A0 [])) _
            refine XS.iconst X0.here hx rfl (hb hby d2_65) ?_
            show Steps p.tables e below (s₁.setTop (mkF m 66 A0 [(.int (1 : Int32))])) _
            refine XS.goto X0.here hx rfl (pc0 := 66) (pc' := 70) rfl (hb hby d2_66) (by decide) (by decide) ?_
            exact kt)
      · rw [show v42 = (0 : Int32) from ((hv42.trans (if_pos hc50_40)).trans (if_neg hc62_41))] at kt
        exact k39 t (by
            let A0 : Array Slot := #[.val (.ref a1), .val (.ref a2), .val (.int v35), .val (.ref a1), .val (.int (1 : Int32)), .val (.int (0 : Int32)), .val (.long x0), .second, .val (.ref a2), .val (.int (2 : Int32)), .val (.int ((0 : Int32) + (1 : Int32))), .val (.long y1), .second]
            show Steps p.tables e below (s₁.setTop (mkF m 50 A0 [(.int v35)])) _
            refine XS.ifNo X0.here hx rfl (hb hby d2_50) rfl ((if0 _ _).trans (teq hc50_40).2) ?_
            show Steps p.tables e below (s₁.setTop (mkF m 53 A0 [])) _
            refine XS.lload X0.here hx rfl (hb hby d2_53) rfl ?_
            show Steps p.tables e below (s₁.setTop (mkF m 55 A0 [(.long x0)])) _
            refine XS.lload X0.here hx rfl (hb hby d2_55) rfl ?_
            show Steps p.tables e below (s₁.setTop (mkF m 57 A0 [(.long y1), (.long x0)])) _
            refine X0.ldc2Long hx hown (mvT hZ (hw _ (List.mem_of_getElem? (i := 10) rfl))) (g := (mkF m 57 A0 [(.long y1), (.long x0)])) rfl (hb hby d2_57) _ ?_
            show Steps p.tables e below (s₁.setTop (mkF m 60 A0 [(.long (2 : Int64)), (.long y1), (.long x0)])) _
            refine XS.ladd X0.here hx rfl (hb hby d2_60) rfl ?_
            show Steps p.tables e below (s₁.setTop (mkF m 61 A0 [(.long (y1 + (2 : Int64))), (.long x0)])) _
            refine XS.lcmp X0.here hx rfl (hb hby d2_61) rfl ?_
            show Steps p.tables e below (s₁.setTop (mkF m 62 A0 [(.int (lcmpW x0 (y1 + (2 : Int64))))])) _
            refine XS.ifYes X0.here hx rfl (pc0 := 62) (pc' := 69) rfl (hb hby d2_62) rfl ((if0 _ _).trans (feq hc62_41).2) (by decide) (by decide) ?_
            show Steps p.tables e below (s₁.setTop (mkF m 69 A0 [])) _
            refine XS.iconst X0.here hx rfl (hb hby d2_69) ?_
            exact kt)
    · rw [show v42 = (1 : Int32) from (hv42.trans (if_neg hc50_40))] at kt
      exact k39 t (by
          let A0 : Array Slot := #[.val (.ref a1), .val (.ref a2), .val (.int v35), .val (.ref a1), .val (.int (1 : Int32)), .val (.int (0 : Int32)), .val (.long x0), .second, .val (.ref a2), .val (.int (2 : Int32)), .val (.int ((0 : Int32) + (1 : Int32))), .val (.long y1), .second]
          show Steps p.tables e below (s₁.setTop (mkF m 50 A0 [(.int v35)])) _
          refine XS.ifYes X0.here hx rfl (pc0 := 50) (pc' := 65) rfl (hb hby d2_50) rfl ((if0 _ _).trans (feq hc50_40).2) (by decide) (by decide) ?_
          show Steps p.tables e below (s₁.setTop (mkF m 65 A0 [])) _
          refine XS.iconst X0.here hx rfl (hb hby d2_65) ?_
          show Steps p.tables e below (s₁.setTop (mkF m 66 A0 [(.int (1 : Int32))])) _
          refine XS.goto X0.here hx rfl (pc0 := 66) (pc' := 70) rfl (hb hby d2_66) (by decide) (by decide) ?_
          exact kt)
  have k44 : ∀ t, Steps p.tables e below (s₁.setTop (mkF m 84 #[.val (.ref a1), .val (.ref a2), .val (.int v42), .val (.ref a1), .val (.int (1 : Int32)), .val (.int ((0 : Int32) + (1 : Int32))), .val (.long x0), .second, .val (.ref a2), .val (.int (2 : Int32)), .val (.int (((0 : Int32) + (1 : Int32)) + (1 : Int32))), .val (.long y1), .second] [(.int v42)])) t → Steps p.tables e below (s₁.setTop (entryFrame m #[(.ref a1), (.ref a2)] 13)) t := fun t kt => k43 t (by
      show Steps p.tables e below (s₁.setTop (mkF m 70 #[.val (.ref a1), .val (.ref a2), .val (.int v35), .val (.ref a1), .val (.int (1 : Int32)), .val (.int (0 : Int32)), .val (.long x0), .second, .val (.ref a2), .val (.int (2 : Int32)), .val (.int ((0 : Int32) + (1 : Int32))), .val (.long y1), .second] [(.int v42)])) _
      let A0 : Array Slot := #[.val (.ref a1), .val (.ref a2), .val (.int v42), .val (.ref a1), .val (.int (1 : Int32)), .val (.int (0 : Int32)), .val (.long x0), .second, .val (.ref a2), .val (.int (2 : Int32)), .val (.int ((0 : Int32) + (1 : Int32))), .val (.long y1), .second]
      refine XS.istoreN X0.here hx rfl (hb hby d2_70) rfl (l' := A0) rfl ?_
      show Steps p.tables e below (s₁.setTop (mkF m 71 A0 [])) _
      let A1 : Array Slot := #[.val (.ref a1), .val (.ref a2), .val (.int v42), .val (.ref a1), .val (.int (1 : Int32)), .val (.int (0 : Int32)), .val (.long x0), .second, .val (.ref a2), .val (.int (2 : Int32)), .val (.int (((0 : Int32) + (1 : Int32)) + (1 : Int32))), .val (.long y1), .second]
      refine XS.iinc X0.here hx rfl (hb hby d2_71) rfl (l' := A1) rfl ?_
      show Steps p.tables e below (s₁.setTop (mkF m 74 A1 [])) _
      refine XS.goto X0.here hx rfl (pc0 := 74) (pc' := 35) rfl (hb hby d2_74) (by decide) (by decide) ?_
      show Steps p.tables e below (s₁.setTop (mkF m 35 A1 [])) _
      refine XS.iload X0.here hx rfl (hb hby d2_35) rfl ?_
      show Steps p.tables e below (s₁.setTop (mkF m 37 A1 [(.int (((0 : Int32) + (1 : Int32)) + (1 : Int32)))])) _
      refine XS.iload X0.here hx rfl (hb hby d2_37) rfl ?_
      show Steps p.tables e below (s₁.setTop (mkF m 39 A1 [(.int (2 : Int32)), (.int (((0 : Int32) + (1 : Int32)) + (1 : Int32)))])) _
      refine XS.icmpYes X0.here hx rfl (pc0 := 39) (pc' := 77) rfl (hb hby d2_39) rfl (flt (by decide : ¬ ((((0 : Int32) + (1 : Int32)) + (1 : Int32)) < (2 : Int32)))).2.1 (by decide) (by decide) ?_
      show Steps p.tables e below (s₁.setTop (mkF m 77 A1 [])) _
      let A2 : Array Slot := #[.val (.ref a1), .val (.ref a2), .val (.int v42), .val (.ref a1), .val (.int (1 : Int32)), .val (.int ((0 : Int32) + (1 : Int32))), .val (.long x0), .second, .val (.ref a2), .val (.int (2 : Int32)), .val (.int (((0 : Int32) + (1 : Int32)) + (1 : Int32))), .val (.long y1), .second]
      refine XS.iinc X0.here hx rfl (hb hby d2_77) rfl (l' := A2) rfl ?_
      show Steps p.tables e below (s₁.setTop (mkF m 80 A2 [])) _
      refine XS.goto X0.here hx rfl (pc0 := 80) (pc' := 11) rfl (hb hby d2_80) (by decide) (by decide) ?_
      show Steps p.tables e below (s₁.setTop (mkF m 11 A2 [])) _
      refine XS.iload X0.here hx rfl (hb hby d2_11) rfl ?_
      show Steps p.tables e below (s₁.setTop (mkF m 13 A2 [(.int ((0 : Int32) + (1 : Int32)))])) _
      refine XS.iload X0.here hx rfl (hb hby d2_13) rfl ?_
      show Steps p.tables e below (s₁.setTop (mkF m 15 A2 [(.int (1 : Int32)), (.int ((0 : Int32) + (1 : Int32)))])) _
      refine XS.icmpYes X0.here hx rfl (pc0 := 15) (pc' := 83) rfl (hb hby d2_15) rfl (flt (by decide : ¬ (((0 : Int32) + (1 : Int32)) < (1 : Int32)))).2.1 (by decide) (by decide) ?_
      show Steps p.tables e below (s₁.setTop (mkF m 83 A2 [])) _
      refine XS.iloadN X0.here hx rfl (hb hby d2_83) rfl ?_
      exact kt)
  obtain ⟨fs, hr, hrun, hended, hW, hsame⟩ := X0.leave (v := some (.int (nar .boolean v42))) (fun h => by rw [Bd.returns] at h; cases h)
  refine ⟨_, _, k44 _ ?_, hrun, hended, _, _, rfl, ?_, ⟨_, rfl⟩, hW, hsame.mono (by decide) (by decide)⟩
  · show Steps p.tables e below (s₁.setTop (mkF m 84 #[.val (.ref a1), .val (.ref a2), .val (.int v42), .val (.ref a1), .val (.int (1 : Int32)), .val (.int ((0 : Int32) + (1 : Int32))), .val (.long x0), .second, .val (.ref a2), .val (.int (2 : Int32)), .val (.int (((0 : Int32) + (1 : Int32)) + (1 : Int32))), .val (.long y1), .second] [(.int v42)])) _
    exact retN X0 hx (t := .boolean) Bd.returns (by simp) (hb hby d2_84) hr
  · show Q_rm2_12 Z x0 y0 y1 h0 n0 _ s₁.heap _
    rw [e0]
    exact ⟨by rw [show v42 = own_nbo [x0] [y0, y1] from by rw [hv42, hv35]; rfl]; exact congrArg (fun z => some (Value.int z)) (own_nar _ _), N0, rfl⟩
theorem ef_rm2_20 (m : MethodId) (x0 : Addr) (x1 : Addr) : entryFrame m #[(.ref x0), (.ref x1)] 13 = mkF m 0 #[.val (.ref x0), .val (.ref x1), .unset, .unset, .unset, .unset, .unset, .unset, .unset, .unset, .unset, .unset, .unset] [] := by first | (simp [entryFrame, mkF, argsToLocals, Value.category]; done) | rfl
def Q_rm2_20 (Z : State)  (x0 : Int64) (x1 : Int64) (h0 : Heap) (n0 : Nat) (v : Option Value) (h : Heap) (L : List Loc) : Prop := v = some (.int (own_nbo [x0, x1] [])) ∧ Fr n0 L ∧ h = h0
set_option maxRecDepth 65536 in
set_option maxHeartbeats 40000000 in
theorem rm2_20 (l : Launch) (Z : State) (a0 : Array Value) (hw : ∀ d ∈ tables_1, d.before a0 Z = true) (ws : List Jvm.Cond) (a1 a2 : Addr) (k1 k2 : ClassId) (x0 : Int64) (x1 : Int64) (h0 : Heap) (n0 : Nat) (Z0 : n0 ≤ h0.size) (V1 : Arv Z h0 a1 k1 .long (2 : Int32) [(.long x0), (.long x1)] (.long (0 : Int64))) (V2 : Arv Z h0 a2 k2 .long (0 : Int32) [] (.long (0 : Int64))) :
    MetFree l (⟨"com/example/conformed/conformed/agreement/Enumerator", "nextButOne", "([J[J)Z"⟩ : MethodName) (head1 (Jvm.Cond.code (⟨"com/example/conformed/conformed/agreement/Enumerator", "nextButOne", "([J[J)Z"⟩ : MethodName) prog_10_method_6_code 13 (some .boolean) :: ws) ({ frames := 0, cells := 0, slots := 0, locals := 0 } : Room)) (fun a U => a = #[(.ref a1), (.ref a2)] ∧ Z.Warmed39 U.vm ∧ U.heap = h0) (fun _ _ _ _ _ => True) (fun _ U o U' => ∃ v L, o = .returned v ∧ Q_rm2_20 Z x0 x1 h0 n0 v U'.heap L ∧ FrameEnd U o U' L ({ frames := 0, cells := 0, slots := 0, locals := 0 } : Room).cells ({ frames := 0, cells := 0, slots := 0, locals := 0 } : Room).slots) := by
  refine MetFree.of_bodySF (plainFor_of_name pn_c0) hisR ?_
  intro p e s m args below meth c s₁ Bd hml0 hP hK
  obtain ⟨rfl, hZ, hh⟩ := hP
  have hx := Bd.exec
  have hby := Bd.bytes
  have hml : c.maxLocals = 13 := hml0
  have hown : s.vm.findClass "com/example/conformed/conformed/agreement/Enumerator" = some m.cls := findClass_of_methodNamed Bd.named
  have hnm := (name_of_methodNamed Bd.named Bd.method).1
  have X0 : Stand p l e ({ frames := 0, cells := 0, slots := 0, locals := 0 } : Room) s m #[(.ref a1), (.ref a2)] below meth c s₁ [] 0 0 := Stand.of_body Bd
  have e0 : s₁.heap = h0 := by rw [← hh, Bd.state]; rfl
  have N0 := Fr.nil n0
  have pre0 : ∀ t, Steps p.tables e below (s₁.setTop (mkF m 0 #[.val (.ref a1), .val (.ref a2), .unset, .unset, .unset, .unset, .unset, .unset, .unset, .unset, .unset, .unset, .unset] [])) t → Steps p.tables e below (s₁.setTop (entryFrame m #[(.ref a1), (.ref a2)] 13)) t := fun t k => castTop (ef_rm2_20 m a1 a2) k
  obtain ⟨cl45, Ar45, q45, S45, M45, H45, G45⟩ := id V1
  obtain ⟨cl46, Ar46, q46, S46, M46, H46, G46⟩ := id V1
  have hin47 : ¬ ((0 : Int32) < 0 ∨ cl46.slots.size ≤ ((0 : Int32)).toNatClampNeg) := inb_of S46 ⟨by decide, by decide⟩
  have hat47 : cl46.slots[((0 : Int32)).toNatClampNeg]? = some (.long x0) := H46.at hin47 rfl
  obtain ⟨cl48, Ar48, q48, S48, M48, H48, G48⟩ := id V2
  obtain ⟨cl49, Ar49, q49, S49, M49, H49, G49⟩ := id V1
  have hin50 : ¬ (((0 : Int32) + (1 : Int32)) < 0 ∨ cl49.slots.size ≤ (((0 : Int32) + (1 : Int32))).toNatClampNeg) := inb_of S49 ⟨by decide, by decide⟩
  have hat50 : cl49.slots[(((0 : Int32) + (1 : Int32))).toNatClampNeg]? = some (.long x1) := H49.at hin50 rfl
  obtain ⟨cl51, Ar51, q51, S51, M51, H51, G51⟩ := id V2
  have k52 : ∀ t, Steps p.tables e below (s₁.setTop (mkF m 84 #[.val (.ref a1), .val (.ref a2), .val (.int (0 : Int32)), .val (.ref a1), .val (.int (2 : Int32)), .val (.int (((0 : Int32) + (1 : Int32)) + (1 : Int32))), .val (.long x1), .second, .val (.ref a2), .val (.int (0 : Int32)), .val (.int (0 : Int32)), .unset, .unset] [(.int (0 : Int32))])) t → Steps p.tables e below (s₁.setTop (entryFrame m #[(.ref a1), (.ref a2)] 13)) t := fun t kt => pre0 t (by
      let A0 : Array Slot := #[.val (.ref a1), .val (.ref a2), .unset, .unset, .unset, .unset, .unset, .unset, .unset, .unset, .unset, .unset, .unset]
      show Steps p.tables e below (s₁.setTop (mkF m 0 A0 [])) _
      refine XS.iconst X0.here hx rfl (hb hby d2_0) ?_
      show Steps p.tables e below (s₁.setTop (mkF m 1 A0 [(.int (0 : Int32))])) _
      let A1 : Array Slot := #[.val (.ref a1), .val (.ref a2), .val (.int (0 : Int32)), .unset, .unset, .unset, .unset, .unset, .unset, .unset, .unset, .unset, .unset]
      refine XS.istoreN X0.here hx rfl (hb hby d2_1) rfl (l' := A1) rfl ?_
      show Steps p.tables e below (s₁.setTop (mkF m 2 A1 [])) _
      refine XS.aloadN X0.here hx rfl (hb hby d2_2) rfl rfl ?_
      show Steps p.tables e below (s₁.setTop (mkF m 3 A1 [(.ref a1)])) _
      let A2 : Array Slot := #[.val (.ref a1), .val (.ref a2), .val (.int (0 : Int32)), .val (.ref a1), .unset, .unset, .unset, .unset, .unset, .unset, .unset, .unset, .unset]
      refine XS.astoreN X0.here hx rfl (hb hby d2_3) rfl rfl (l' := A2) rfl ?_
      show Steps p.tables e below (s₁.setTop (mkF m 4 A2 [])) _
      refine XS.aloadN X0.here hx rfl (hb hby d2_4) rfl rfl ?_
      show Steps p.tables e below (s₁.setTop (mkF m 5 A2 [(.ref a1)])) _
      refine X0.arraylength hx (by rw [e0]; exact Ar45.1) (State.isArrayOf_alike hZ.alike Ar45.2.1) (g := (mkF m 5 A2 [(.ref a1)])) rfl rfl (hb hby d2_5) _ ?_
      rw [len_of S45 M45]
      show Steps p.tables e below (s₁.setTop (mkF m 6 A2 [(.int (2 : Int32))])) _
      let A3 : Array Slot := #[.val (.ref a1), .val (.ref a2), .val (.int (0 : Int32)), .val (.ref a1), .val (.int (2 : Int32)), .unset, .unset, .unset, .unset, .unset, .unset, .unset, .unset]
      refine XS.istore X0.here hx rfl (hb hby d2_6) rfl (l' := A3) rfl ?_
      show Steps p.tables e below (s₁.setTop (mkF m 8 A3 [])) _
      refine XS.iconst X0.here hx rfl (hb hby d2_8) ?_
      show Steps p.tables e below (s₁.setTop (mkF m 9 A3 [(.int (0 : Int32))])) _
      let A4 : Array Slot := #[.val (.ref a1), .val (.ref a2), .val (.int (0 : Int32)), .val (.ref a1), .val (.int (2 : Int32)), .val (.int (0 : Int32)), .unset, .unset, .unset, .unset, .unset, .unset, .unset]
      refine XS.istore X0.here hx rfl (hb hby d2_9) rfl (l' := A4) rfl ?_
      show Steps p.tables e below (s₁.setTop (mkF m 11 A4 [])) _
      refine XS.iload X0.here hx rfl (hb hby d2_11) rfl ?_
      show Steps p.tables e below (s₁.setTop (mkF m 13 A4 [(.int (0 : Int32))])) _
      refine XS.iload X0.here hx rfl (hb hby d2_13) rfl ?_
      show Steps p.tables e below (s₁.setTop (mkF m 15 A4 [(.int (2 : Int32)), (.int (0 : Int32))])) _
      refine XS.icmpNo X0.here hx rfl (hb hby d2_15) rfl (tlt (by decide : (0 : Int32) < (2 : Int32))).2.1 ?_
      show Steps p.tables e below (s₁.setTop (mkF m 18 A4 [])) _
      refine XS.aloadN X0.here hx rfl (hb hby d2_18) rfl rfl ?_
      show Steps p.tables e below (s₁.setTop (mkF m 19 A4 [(.ref a1)])) _
      refine XS.iload X0.here hx rfl (hb hby d2_19) rfl ?_
      show Steps p.tables e below (s₁.setTop (mkF m 21 A4 [(.int (0 : Int32)), (.ref a1)])) _
      refine X0.laload hx (j := (0 : Int32)) (v := (.long x0)) (by rw [e0]; exact Ar46.1) (State.isArrayOf_alike hZ.alike Ar46.2.1) Ar46.2.2 hin47 hat47 (g := (mkF m 21 A4 [(.int (0 : Int32)), (.ref a1)])) rfl rfl (hb hby d2_21) _ ?_
      show Steps p.tables e below (s₁.setTop (mkF m 22 A4 [(.long x0)])) _
      let A5 : Array Slot := #[.val (.ref a1), .val (.ref a2), .val (.int (0 : Int32)), .val (.ref a1), .val (.int (2 : Int32)), .val (.int (0 : Int32)), .val (.long x0), .second, .unset, .unset, .unset, .unset, .unset]
      refine XS.lstore X0.here hx rfl (hb hby d2_22) rfl (l' := A5) rfl ?_
      show Steps p.tables e below (s₁.setTop (mkF m 24 A5 [])) _
      refine XS.aloadN X0.here hx rfl (hb hby d2_24) rfl rfl ?_
      show Steps p.tables e below (s₁.setTop (mkF m 25 A5 [(.ref a2)])) _
      let A6 : Array Slot := #[.val (.ref a1), .val (.ref a2), .val (.int (0 : Int32)), .val (.ref a1), .val (.int (2 : Int32)), .val (.int (0 : Int32)), .val (.long x0), .second, .val (.ref a2), .unset, .unset, .unset, .unset]
      refine XS.astore X0.here hx rfl (hb hby d2_25) rfl rfl (l' := A6) rfl ?_
      show Steps p.tables e below (s₁.setTop (mkF m 27 A6 [])) _
      refine XS.aload X0.here hx rfl (hb hby d2_27) rfl rfl ?_
      show Steps p.tables e below (s₁.setTop (mkF m 29 A6 [(.ref a2)])) _
      refine X0.arraylength hx (by rw [e0]; exact Ar48.1) (State.isArrayOf_alike hZ.alike Ar48.2.1) (g := (mkF m 29 A6 [(.ref a2)])) rfl rfl (hb hby d2_29) _ ?_
      rw [len_of S48 M48]
      show Steps p.tables e below (s₁.setTop (mkF m 30 A6 [(.int (0 : Int32))])) _
      let A7 : Array Slot := #[.val (.ref a1), .val (.ref a2), .val (.int (0 : Int32)), .val (.ref a1), .val (.int (2 : Int32)), .val (.int (0 : Int32)), .val (.long x0), .second, .val (.ref a2), .val (.int (0 : Int32)), .unset, .unset, .unset]
      refine XS.istore X0.here hx rfl (hb hby d2_30) rfl (l' := A7) rfl ?_
      show Steps p.tables e below (s₁.setTop (mkF m 32 A7 [])) _
      refine XS.iconst X0.here hx rfl (hb hby d2_32) ?_
      show Steps p.tables e below (s₁.setTop (mkF m 33 A7 [(.int (0 : Int32))])) _
      let A8 : Array Slot := #[.val (.ref a1), .val (.ref a2), .val (.int (0 : Int32)), .val (.ref a1), .val (.int (2 : Int32)), .val (.int (0 : Int32)), .val (.long x0), .second, .val (.ref a2), .val (.int (0 : Int32)), .val (.int (0 : Int32)), .unset, .unset]
      refine XS.istore X0.here hx rfl (hb hby d2_33) rfl (l' := A8) rfl ?_
      show Steps p.tables e below (s₁.setTop (mkF m 35 A8 [])) _
      refine XS.iload X0.here hx rfl (hb hby d2_35) rfl ?_
      show Steps p.tables e below (s₁.setTop (mkF m 37 A8 [(.int (0 : Int32))])) _
      refine XS.iload X0.here hx rfl (hb hby d2_37) rfl ?_
      show Steps p.tables e below (s₁.setTop (mkF m 39 A8 [(.int (0 : Int32)), (.int (0 : Int32))])) _
      refine XS.icmpYes X0.here hx rfl (pc0 := 39) (pc' := 77) rfl (hb hby d2_39) rfl (flt (by decide : ¬ ((0 : Int32) < (0 : Int32)))).2.1 (by decide) (by decide) ?_
      show Steps p.tables e below (s₁.setTop (mkF m 77 A8 [])) _
      let A9 : Array Slot := #[.val (.ref a1), .val (.ref a2), .val (.int (0 : Int32)), .val (.ref a1), .val (.int (2 : Int32)), .val (.int ((0 : Int32) + (1 : Int32))), .val (.long x0), .second, .val (.ref a2), .val (.int (0 : Int32)), .val (.int (0 : Int32)), .unset, .unset]
      refine XS.iinc X0.here hx rfl (hb hby d2_77) rfl (l' := A9) rfl ?_
      show Steps p.tables e below (s₁.setTop (mkF m 80 A9 [])) _
      refine XS.goto X0.here hx rfl (pc0 := 80) (pc' := 11) rfl (hb hby d2_80) (by decide) (by decide) ?_
      show Steps p.tables e below (s₁.setTop (mkF m 11 A9 [])) _
      refine XS.iload X0.here hx rfl (hb hby d2_11) rfl ?_
      show Steps p.tables e below (s₁.setTop (mkF m 13 A9 [(.int ((0 : Int32) + (1 : Int32)))])) _
      refine XS.iload X0.here hx rfl (hb hby d2_13) rfl ?_
      show Steps p.tables e below (s₁.setTop (mkF m 15 A9 [(.int (2 : Int32)), (.int ((0 : Int32) + (1 : Int32)))])) _
      refine XS.icmpNo X0.here hx rfl (hb hby d2_15) rfl (tlt (by decide : ((0 : Int32) + (1 : Int32)) < (2 : Int32))).2.1 ?_
      show Steps p.tables e below (s₁.setTop (mkF m 18 A9 [])) _
      refine XS.aloadN X0.here hx rfl (hb hby d2_18) rfl rfl ?_
      show Steps p.tables e below (s₁.setTop (mkF m 19 A9 [(.ref a1)])) _
      refine XS.iload X0.here hx rfl (hb hby d2_19) rfl ?_
      show Steps p.tables e below (s₁.setTop (mkF m 21 A9 [(.int ((0 : Int32) + (1 : Int32))), (.ref a1)])) _
      refine X0.laload hx (j := ((0 : Int32) + (1 : Int32))) (v := (.long x1)) (by rw [e0]; exact Ar49.1) (State.isArrayOf_alike hZ.alike Ar49.2.1) Ar49.2.2 hin50 hat50 (g := (mkF m 21 A9 [(.int ((0 : Int32) + (1 : Int32))), (.ref a1)])) rfl rfl (hb hby d2_21) _ ?_
      show Steps p.tables e below (s₁.setTop (mkF m 22 A9 [(.long x1)])) _
      let A10 : Array Slot := #[.val (.ref a1), .val (.ref a2), .val (.int (0 : Int32)), .val (.ref a1), .val (.int (2 : Int32)), .val (.int ((0 : Int32) + (1 : Int32))), .val (.long x1), .second, .val (.ref a2), .val (.int (0 : Int32)), .val (.int (0 : Int32)), .unset, .unset]
      refine XS.lstore X0.here hx rfl (hb hby d2_22) rfl (l' := A10) rfl ?_
      show Steps p.tables e below (s₁.setTop (mkF m 24 A10 [])) _
      refine XS.aloadN X0.here hx rfl (hb hby d2_24) rfl rfl ?_
      show Steps p.tables e below (s₁.setTop (mkF m 25 A10 [(.ref a2)])) _
      refine XS.astore X0.here hx rfl (hb hby d2_25) rfl rfl (l' := A10) rfl ?_
      show Steps p.tables e below (s₁.setTop (mkF m 27 A10 [])) _
      refine XS.aload X0.here hx rfl (hb hby d2_27) rfl rfl ?_
      show Steps p.tables e below (s₁.setTop (mkF m 29 A10 [(.ref a2)])) _
      refine X0.arraylength hx (by rw [e0]; exact Ar51.1) (State.isArrayOf_alike hZ.alike Ar51.2.1) (g := (mkF m 29 A10 [(.ref a2)])) rfl rfl (hb hby d2_29) _ ?_
      rw [len_of S51 M51]
      show Steps p.tables e below (s₁.setTop (mkF m 30 A10 [(.int (0 : Int32))])) _
      refine XS.istore X0.here hx rfl (hb hby d2_30) rfl (l' := A10) rfl ?_
      show Steps p.tables e below (s₁.setTop (mkF m 32 A10 [])) _
      refine XS.iconst X0.here hx rfl (hb hby d2_32) ?_
      show Steps p.tables e below (s₁.setTop (mkF m 33 A10 [(.int (0 : Int32))])) _
      refine XS.istore X0.here hx rfl (hb hby d2_33) rfl (l' := A10) rfl ?_
      show Steps p.tables e below (s₁.setTop (mkF m 35 A10 [])) _
      refine XS.iload X0.here hx rfl (hb hby d2_35) rfl ?_
      show Steps p.tables e below (s₁.setTop (mkF m 37 A10 [(.int (0 : Int32))])) _
      refine XS.iload X0.here hx rfl (hb hby d2_37) rfl ?_
      show Steps p.tables e below (s₁.setTop (mkF m 39 A10 [(.int (0 : Int32)), (.int (0 : Int32))])) _
      refine XS.icmpYes X0.here hx rfl (pc0 := 39) (pc' := 77) rfl (hb hby d2_39) rfl (flt (by decide : ¬ ((0 : Int32) < (0 : Int32)))).2.1 (by decide) (by decide) ?_
      show Steps p.tables e below (s₁.setTop (mkF m 77 A10 [])) _
      let A11 : Array Slot := #[.val (.ref a1), .val (.ref a2), .val (.int (0 : Int32)), .val (.ref a1), .val (.int (2 : Int32)), .val (.int (((0 : Int32) + (1 : Int32)) + (1 : Int32))), .val (.long x1), .second, .val (.ref a2), .val (.int (0 : Int32)), .val (.int (0 : Int32)), .unset, .unset]
      refine XS.iinc X0.here hx rfl (hb hby d2_77) rfl (l' := A11) rfl ?_
      show Steps p.tables e below (s₁.setTop (mkF m 80 A11 [])) _
      refine XS.goto X0.here hx rfl (pc0 := 80) (pc' := 11) rfl (hb hby d2_80) (by decide) (by decide) ?_
      show Steps p.tables e below (s₁.setTop (mkF m 11 A11 [])) _
      refine XS.iload X0.here hx rfl (hb hby d2_11) rfl ?_
      show Steps p.tables e below (s₁.setTop (mkF m 13 A11 [(.int (((0 : Int32) + (1 : Int32)) + (1 : Int32)))])) _
      refine XS.iload X0.here hx rfl (hb hby d2_13) rfl ?_
      show Steps p.tables e below (s₁.setTop (mkF m 15 A11 [(.int (2 : Int32)), (.int (((0 : Int32) + (1 : Int32)) + (1 : Int32)))])) _
      refine XS.icmpYes X0.here hx rfl (pc0 := 15) (pc' := 83) rfl (hb hby d2_15) rfl (flt (by decide : ¬ ((((0 : Int32) + (1 : Int32)) + (1 : Int32)) < (2 : Int32)))).2.1 (by decide) (by decide) ?_
      show Steps p.tables e below (s₁.setTop (mkF m 83 A11 [])) _
      refine XS.iloadN X0.here hx rfl (hb hby d2_83) rfl ?_
      exact kt)
  obtain ⟨fs, hr, hrun, hended, hW, hsame⟩ := X0.leave (v := some (.int (0 : Int32))) (fun h => by rw [Bd.returns] at h; cases h)
  refine ⟨_, _, k52 _ ?_, hrun, hended, _, _, rfl, ?_, ⟨_, rfl⟩, hW, hsame.mono (by decide) (by decide)⟩
  · show Steps p.tables e below (s₁.setTop (mkF m 84 #[.val (.ref a1), .val (.ref a2), .val (.int (0 : Int32)), .val (.ref a1), .val (.int (2 : Int32)), .val (.int (((0 : Int32) + (1 : Int32)) + (1 : Int32))), .val (.long x1), .second, .val (.ref a2), .val (.int (0 : Int32)), .val (.int (0 : Int32)), .unset, .unset] [(.int (0 : Int32))])) _
    exact retN X0 hx (t := .boolean) Bd.returns (by simp) (hb hby d2_84) hr
  · show Q_rm2_20 Z x0 x1 h0 n0 _ s₁.heap _
    rw [e0]
    exact ⟨rfl, N0, rfl⟩
theorem ef_rm2_21 (m : MethodId) (x0 : Addr) (x1 : Addr) : entryFrame m #[(.ref x0), (.ref x1)] 13 = mkF m 0 #[.val (.ref x0), .val (.ref x1), .unset, .unset, .unset, .unset, .unset, .unset, .unset, .unset, .unset, .unset, .unset] [] := by first | (simp [entryFrame, mkF, argsToLocals, Value.category]; done) | rfl
def Q_rm2_21 (Z : State)  (x0 : Int64) (x1 : Int64) (y0 : Int64) (h0 : Heap) (n0 : Nat) (v : Option Value) (h : Heap) (L : List Loc) : Prop := v = some (.int (own_nbo [x0, x1] [y0])) ∧ Fr n0 L ∧ h = h0
set_option maxRecDepth 65536 in
set_option maxHeartbeats 40000000 in
theorem rm2_21 (l : Launch) (Z : State) (a0 : Array Value) (hw : ∀ d ∈ tables_1, d.before a0 Z = true) (ws : List Jvm.Cond) (a1 a2 : Addr) (k1 k2 : ClassId) (x0 : Int64) (x1 : Int64) (y0 : Int64) (h0 : Heap) (n0 : Nat) (Z0 : n0 ≤ h0.size) (V1 : Arv Z h0 a1 k1 .long (2 : Int32) [(.long x0), (.long x1)] (.long (0 : Int64))) (V2 : Arv Z h0 a2 k2 .long (1 : Int32) [(.long y0)] (.long (0 : Int64))) :
    MetFree l (⟨"com/example/conformed/conformed/agreement/Enumerator", "nextButOne", "([J[J)Z"⟩ : MethodName) (head1 (Jvm.Cond.code (⟨"com/example/conformed/conformed/agreement/Enumerator", "nextButOne", "([J[J)Z"⟩ : MethodName) prog_10_method_6_code 13 (some .boolean) :: ws) ({ frames := 0, cells := 0, slots := 0, locals := 0 } : Room)) (fun a U => a = #[(.ref a1), (.ref a2)] ∧ Z.Warmed39 U.vm ∧ U.heap = h0) (fun _ _ _ _ _ => True) (fun _ U o U' => ∃ v L, o = .returned v ∧ Q_rm2_21 Z x0 x1 y0 h0 n0 v U'.heap L ∧ FrameEnd U o U' L ({ frames := 0, cells := 0, slots := 0, locals := 0 } : Room).cells ({ frames := 0, cells := 0, slots := 0, locals := 0 } : Room).slots) := by
  refine MetFree.of_bodySF (plainFor_of_name pn_c0) hisR ?_
  intro p e s m args below meth c s₁ Bd hml0 hP hK
  obtain ⟨rfl, hZ, hh⟩ := hP
  have hx := Bd.exec
  have hby := Bd.bytes
  have hml : c.maxLocals = 13 := hml0
  have hown : s.vm.findClass "com/example/conformed/conformed/agreement/Enumerator" = some m.cls := findClass_of_methodNamed Bd.named
  have hnm := (name_of_methodNamed Bd.named Bd.method).1
  have X0 : Stand p l e ({ frames := 0, cells := 0, slots := 0, locals := 0 } : Room) s m #[(.ref a1), (.ref a2)] below meth c s₁ [] 0 0 := Stand.of_body Bd
  have e0 : s₁.heap = h0 := by rw [← hh, Bd.state]; rfl
  have N0 := Fr.nil n0
  have pre0 : ∀ t, Steps p.tables e below (s₁.setTop (mkF m 0 #[.val (.ref a1), .val (.ref a2), .unset, .unset, .unset, .unset, .unset, .unset, .unset, .unset, .unset, .unset, .unset] [])) t → Steps p.tables e below (s₁.setTop (entryFrame m #[(.ref a1), (.ref a2)] 13)) t := fun t k => castTop (ef_rm2_21 m a1 a2) k
  obtain ⟨cl53, Ar53, q53, S53, M53, H53, G53⟩ := id V1
  obtain ⟨cl54, Ar54, q54, S54, M54, H54, G54⟩ := id V1
  have hin55 : ¬ ((0 : Int32) < 0 ∨ cl54.slots.size ≤ ((0 : Int32)).toNatClampNeg) := inb_of S54 ⟨by decide, by decide⟩
  have hat55 : cl54.slots[((0 : Int32)).toNatClampNeg]? = some (.long x0) := H54.at hin55 rfl
  obtain ⟨cl56, Ar56, q56, S56, M56, H56, G56⟩ := id V2
  obtain ⟨cl57, Ar57, q57, S57, M57, H57, G57⟩ := id V2
  have hin58 : ¬ ((0 : Int32) < 0 ∨ cl57.slots.size ≤ ((0 : Int32)).toNatClampNeg) := inb_of S57 ⟨by decide, by decide⟩
  have hat58 : cl57.slots[((0 : Int32)).toNatClampNeg]? = some (.long y0) := H57.at hin58 rfl
  have k59 : ∀ t, Steps p.tables e below (s₁.setTop (mkF m 50 #[.val (.ref a1), .val (.ref a2), .val (.int (0 : Int32)), .val (.ref a1), .val (.int (2 : Int32)), .val (.int (0 : Int32)), .val (.long x0), .second, .val (.ref a2), .val (.int (1 : Int32)), .val (.int (0 : Int32)), .val (.long y0), .second] [(.int (0 : Int32))])) t → Steps p.tables e below (s₁.setTop (entryFrame m #[(.ref a1), (.ref a2)] 13)) t := fun t kt => pre0 t (by
      let A0 : Array Slot := #[.val (.ref a1), .val (.ref a2), .unset, .unset, .unset, .unset, .unset, .unset, .unset, .unset, .unset, .unset, .unset]
      show Steps p.tables e below (s₁.setTop (mkF m 0 A0 [])) _
      refine XS.iconst X0.here hx rfl (hb hby d2_0) ?_
      show Steps p.tables e below (s₁.setTop (mkF m 1 A0 [(.int (0 : Int32))])) _
      let A1 : Array Slot := #[.val (.ref a1), .val (.ref a2), .val (.int (0 : Int32)), .unset, .unset, .unset, .unset, .unset, .unset, .unset, .unset, .unset, .unset]
      refine XS.istoreN X0.here hx rfl (hb hby d2_1) rfl (l' := A1) rfl ?_
      show Steps p.tables e below (s₁.setTop (mkF m 2 A1 [])) _
      refine XS.aloadN X0.here hx rfl (hb hby d2_2) rfl rfl ?_
      show Steps p.tables e below (s₁.setTop (mkF m 3 A1 [(.ref a1)])) _
      let A2 : Array Slot := #[.val (.ref a1), .val (.ref a2), .val (.int (0 : Int32)), .val (.ref a1), .unset, .unset, .unset, .unset, .unset, .unset, .unset, .unset, .unset]
      refine XS.astoreN X0.here hx rfl (hb hby d2_3) rfl rfl (l' := A2) rfl ?_
      show Steps p.tables e below (s₁.setTop (mkF m 4 A2 [])) _
      refine XS.aloadN X0.here hx rfl (hb hby d2_4) rfl rfl ?_
      show Steps p.tables e below (s₁.setTop (mkF m 5 A2 [(.ref a1)])) _
      refine X0.arraylength hx (by rw [e0]; exact Ar53.1) (State.isArrayOf_alike hZ.alike Ar53.2.1) (g := (mkF m 5 A2 [(.ref a1)])) rfl rfl (hb hby d2_5) _ ?_
      rw [len_of S53 M53]
      show Steps p.tables e below (s₁.setTop (mkF m 6 A2 [(.int (2 : Int32))])) _
      let A3 : Array Slot := #[.val (.ref a1), .val (.ref a2), .val (.int (0 : Int32)), .val (.ref a1), .val (.int (2 : Int32)), .unset, .unset, .unset, .unset, .unset, .unset, .unset, .unset]
      refine XS.istore X0.here hx rfl (hb hby d2_6) rfl (l' := A3) rfl ?_
      show Steps p.tables e below (s₁.setTop (mkF m 8 A3 [])) _
      refine XS.iconst X0.here hx rfl (hb hby d2_8) ?_
      show Steps p.tables e below (s₁.setTop (mkF m 9 A3 [(.int (0 : Int32))])) _
      let A4 : Array Slot := #[.val (.ref a1), .val (.ref a2), .val (.int (0 : Int32)), .val (.ref a1), .val (.int (2 : Int32)), .val (.int (0 : Int32)), .unset, .unset, .unset, .unset, .unset, .unset, .unset]
      refine XS.istore X0.here hx rfl (hb hby d2_9) rfl (l' := A4) rfl ?_
      show Steps p.tables e below (s₁.setTop (mkF m 11 A4 [])) _
      refine XS.iload X0.here hx rfl (hb hby d2_11) rfl ?_
      show Steps p.tables e below (s₁.setTop (mkF m 13 A4 [(.int (0 : Int32))])) _
      refine XS.iload X0.here hx rfl (hb hby d2_13) rfl ?_
      show Steps p.tables e below (s₁.setTop (mkF m 15 A4 [(.int (2 : Int32)), (.int (0 : Int32))])) _
      refine XS.icmpNo X0.here hx rfl (hb hby d2_15) rfl (tlt (by decide : (0 : Int32) < (2 : Int32))).2.1 ?_
      show Steps p.tables e below (s₁.setTop (mkF m 18 A4 [])) _
      refine XS.aloadN X0.here hx rfl (hb hby d2_18) rfl rfl ?_
      show Steps p.tables e below (s₁.setTop (mkF m 19 A4 [(.ref a1)])) _
      refine XS.iload X0.here hx rfl (hb hby d2_19) rfl ?_
      show Steps p.tables e below (s₁.setTop (mkF m 21 A4 [(.int (0 : Int32)), (.ref a1)])) _
      refine X0.laload hx (j := (0 : Int32)) (v := (.long x0)) (by rw [e0]; exact Ar54.1) (State.isArrayOf_alike hZ.alike Ar54.2.1) Ar54.2.2 hin55 hat55 (g := (mkF m 21 A4 [(.int (0 : Int32)), (.ref a1)])) rfl rfl (hb hby d2_21) _ ?_
      show Steps p.tables e below (s₁.setTop (mkF m 22 A4 [(.long x0)])) _
      let A5 : Array Slot := #[.val (.ref a1), .val (.ref a2), .val (.int (0 : Int32)), .val (.ref a1), .val (.int (2 : Int32)), .val (.int (0 : Int32)), .val (.long x0), .second, .unset, .unset, .unset, .unset, .unset]
      refine XS.lstore X0.here hx rfl (hb hby d2_22) rfl (l' := A5) rfl ?_
      show Steps p.tables e below (s₁.setTop (mkF m 24 A5 [])) _
      refine XS.aloadN X0.here hx rfl (hb hby d2_24) rfl rfl ?_
      show Steps p.tables e below (s₁.setTop (mkF m 25 A5 [(.ref a2)])) _
      let A6 : Array Slot := #[.val (.ref a1), .val (.ref a2), .val (.int (0 : Int32)), .val (.ref a1), .val (.int (2 : Int32)), .val (.int (0 : Int32)), .val (.long x0), .second, .val (.ref a2), .unset, .unset, .unset, .unset]
      refine XS.astore X0.here hx rfl (hb hby d2_25) rfl rfl (l' := A6) rfl ?_
      show Steps p.tables e below (s₁.setTop (mkF m 27 A6 [])) _
      refine XS.aload X0.here hx rfl (hb hby d2_27) rfl rfl ?_
      show Steps p.tables e below (s₁.setTop (mkF m 29 A6 [(.ref a2)])) _
      refine X0.arraylength hx (by rw [e0]; exact Ar56.1) (State.isArrayOf_alike hZ.alike Ar56.2.1) (g := (mkF m 29 A6 [(.ref a2)])) rfl rfl (hb hby d2_29) _ ?_
      rw [len_of S56 M56]
      show Steps p.tables e below (s₁.setTop (mkF m 30 A6 [(.int (1 : Int32))])) _
      let A7 : Array Slot := #[.val (.ref a1), .val (.ref a2), .val (.int (0 : Int32)), .val (.ref a1), .val (.int (2 : Int32)), .val (.int (0 : Int32)), .val (.long x0), .second, .val (.ref a2), .val (.int (1 : Int32)), .unset, .unset, .unset]
      refine XS.istore X0.here hx rfl (hb hby d2_30) rfl (l' := A7) rfl ?_
      show Steps p.tables e below (s₁.setTop (mkF m 32 A7 [])) _
      refine XS.iconst X0.here hx rfl (hb hby d2_32) ?_
      show Steps p.tables e below (s₁.setTop (mkF m 33 A7 [(.int (0 : Int32))])) _
      let A8 : Array Slot := #[.val (.ref a1), .val (.ref a2), .val (.int (0 : Int32)), .val (.ref a1), .val (.int (2 : Int32)), .val (.int (0 : Int32)), .val (.long x0), .second, .val (.ref a2), .val (.int (1 : Int32)), .val (.int (0 : Int32)), .unset, .unset]
      refine XS.istore X0.here hx rfl (hb hby d2_33) rfl (l' := A8) rfl ?_
      show Steps p.tables e below (s₁.setTop (mkF m 35 A8 [])) _
      refine XS.iload X0.here hx rfl (hb hby d2_35) rfl ?_
      show Steps p.tables e below (s₁.setTop (mkF m 37 A8 [(.int (0 : Int32))])) _
      refine XS.iload X0.here hx rfl (hb hby d2_37) rfl ?_
      show Steps p.tables e below (s₁.setTop (mkF m 39 A8 [(.int (1 : Int32)), (.int (0 : Int32))])) _
      refine XS.icmpNo X0.here hx rfl (hb hby d2_39) rfl (tlt (by decide : (0 : Int32) < (1 : Int32))).2.1 ?_
      show Steps p.tables e below (s₁.setTop (mkF m 42 A8 [])) _
      refine XS.aload X0.here hx rfl (hb hby d2_42) rfl rfl ?_
      show Steps p.tables e below (s₁.setTop (mkF m 44 A8 [(.ref a2)])) _
      refine XS.iload X0.here hx rfl (hb hby d2_44) rfl ?_
      show Steps p.tables e below (s₁.setTop (mkF m 46 A8 [(.int (0 : Int32)), (.ref a2)])) _
      refine X0.laload hx (j := (0 : Int32)) (v := (.long y0)) (by rw [e0]; exact Ar57.1) (State.isArrayOf_alike hZ.alike Ar57.2.1) Ar57.2.2 hin58 hat58 (g := (mkF m 46 A8 [(.int (0 : Int32)), (.ref a2)])) rfl rfl (hb hby d2_46) _ ?_
      show Steps p.tables e below (s₁.setTop (mkF m 47 A8 [(.long y0)])) _
      let A9 : Array Slot := #[.val (.ref a1), .val (.ref a2), .val (.int (0 : Int32)), .val (.ref a1), .val (.int (2 : Int32)), .val (.int (0 : Int32)), .val (.long x0), .second, .val (.ref a2), .val (.int (1 : Int32)), .val (.int (0 : Int32)), .val (.long y0), .second]
      refine XS.lstore X0.here hx rfl (hb hby d2_47) rfl (l' := A9) rfl ?_
      show Steps p.tables e below (s₁.setTop (mkF m 49 A9 [])) _
      refine XS.iloadN X0.here hx rfl (hb hby d2_49) rfl ?_
      exact kt)
  obtain ⟨v61, hv61⟩ : ∃ v : Int32, v = (if (lcmpW x0 (y0 + (2 : Int64))) = (0 : Int32) then (1 : Int32) else (0 : Int32)) := ⟨_, rfl⟩
  have k62 : ∀ t, Steps p.tables e below (s₁.setTop (mkF m 70 #[.val (.ref a1), .val (.ref a2), .val (.int (0 : Int32)), .val (.ref a1), .val (.int (2 : Int32)), .val (.int (0 : Int32)), .val (.long x0), .second, .val (.ref a2), .val (.int (1 : Int32)), .val (.int (0 : Int32)), .val (.long y0), .second] [(.int v61)])) t → Steps p.tables e below (s₁.setTop (entryFrame m #[(.ref a1), (.ref a2)] 13)) t := by
    intro t kt
    by_cases hc62_60 : (lcmpW x0 (y0 + (2 : Int64))) = (0 : Int32)
    · rw [show v61 = (1 : Int32) from (hv61.trans (if_pos hc62_60))] at kt
      exact k59 t (by
          let A0 : Array Slot := #[.val (.ref a1), .val (.ref a2), .val (.int (0 : Int32)), .val (.ref a1), .val (.int (2 : Int32)), .val (.int (0 : Int32)), .val (.long x0), .second, .val (.ref a2), .val (.int (1 : Int32)), .val (.int (0 : Int32)), .val (.long y0), .second]
          show Steps p.tables e below (s₁.setTop (mkF m 50 A0 [(.int (0 : Int32))])) _
          refine XS.ifNo X0.here hx rfl (hb hby d2_50) rfl ((if0 _ _).trans (teq (by decide : (0 : Int32) = (0 : Int32))).2) ?_
          show Steps p.tables e below (s₁.setTop (mkF m 53 A0 [])) _
          refine XS.lload X0.here hx rfl (hb hby d2_53) rfl ?_
          show Steps p.tables e below (s₁.setTop (mkF m 55 A0 [(.long x0)])) _
          refine XS.lload X0.here hx rfl (hb hby d2_55) rfl ?_
          show Steps p.tables e below (s₁.setTop (mkF m 57 A0 [(.long y0), (.long x0)])) _
          refine X0.ldc2Long hx hown (mvT hZ (hw _ (List.mem_of_getElem? (i := 10) rfl))) (g := (mkF m 57 A0 [(.long y0), (.long x0)])) rfl (hb hby d2_57) _ ?_
          show Steps p.tables e below (s₁.setTop (mkF m 60 A0 [(.long (2 : Int64)), (.long y0), (.long x0)])) _
          refine XS.ladd X0.here hx rfl (hb hby d2_60) rfl ?_
          show Steps p.tables e below (s₁.setTop (mkF m 61 A0 [(.long (y0 + (2 : Int64))), (.long x0)])) _
          refine XS.lcmp X0.here hx rfl (hb hby d2_61) rfl ?_
          show Steps p.tables e below (s₁.setTop (mkF m 62 A0 [(.int (lcmpW x0 (y0 + (2 : Int64))))])) _
          refine XS.ifNo X0.here hx rfl (hb hby d2_62) rfl ((if0 _ _).trans (teq hc62_60).2) ?_
          show Steps p.tables e below (s₁.setTop (mkF m 65 A0 [])) _
          refine XS.iconst X0.here hx rfl (hb hby d2_65) ?_
          show Steps p.tables e below (s₁.setTop (mkF m 66 A0 [(.int (1 : Int32))])) _
          refine XS.goto X0.here hx rfl (pc0 := 66) (pc' := 70) rfl (hb hby d2_66) (by decide) (by decide) ?_
          exact kt)
    · rw [show v61 = (0 : Int32) from (hv61.trans (if_neg hc62_60))] at kt
      exact k59 t (by
          let A0 : Array Slot := #[.val (.ref a1), .val (.ref a2), .val (.int (0 : Int32)), .val (.ref a1), .val (.int (2 : Int32)), .val (.int (0 : Int32)), .val (.long x0), .second, .val (.ref a2), .val (.int (1 : Int32)), .val (.int (0 : Int32)), .val (.long y0), .second]
          show Steps p.tables e below (s₁.setTop (mkF m 50 A0 [(.int (0 : Int32))])) _
          refine XS.ifNo X0.here hx rfl (hb hby d2_50) rfl ((if0 _ _).trans (teq (by decide : (0 : Int32) = (0 : Int32))).2) ?_
          show Steps p.tables e below (s₁.setTop (mkF m 53 A0 [])) _
          refine XS.lload X0.here hx rfl (hb hby d2_53) rfl ?_
          show Steps p.tables e below (s₁.setTop (mkF m 55 A0 [(.long x0)])) _
          refine XS.lload X0.here hx rfl (hb hby d2_55) rfl ?_
          show Steps p.tables e below (s₁.setTop (mkF m 57 A0 [(.long y0), (.long x0)])) _
          refine X0.ldc2Long hx hown (mvT hZ (hw _ (List.mem_of_getElem? (i := 10) rfl))) (g := (mkF m 57 A0 [(.long y0), (.long x0)])) rfl (hb hby d2_57) _ ?_
          show Steps p.tables e below (s₁.setTop (mkF m 60 A0 [(.long (2 : Int64)), (.long y0), (.long x0)])) _
          refine XS.ladd X0.here hx rfl (hb hby d2_60) rfl ?_
          show Steps p.tables e below (s₁.setTop (mkF m 61 A0 [(.long (y0 + (2 : Int64))), (.long x0)])) _
          refine XS.lcmp X0.here hx rfl (hb hby d2_61) rfl ?_
          show Steps p.tables e below (s₁.setTop (mkF m 62 A0 [(.int (lcmpW x0 (y0 + (2 : Int64))))])) _
          refine XS.ifYes X0.here hx rfl (pc0 := 62) (pc' := 69) rfl (hb hby d2_62) rfl ((if0 _ _).trans (feq hc62_60).2) (by decide) (by decide) ?_
          show Steps p.tables e below (s₁.setTop (mkF m 69 A0 [])) _
          refine XS.iconst X0.here hx rfl (hb hby d2_69) ?_
          exact kt)
  obtain ⟨cl63, Ar63, q63, S63, M63, H63, G63⟩ := id V1
  have hin64 : ¬ (((0 : Int32) + (1 : Int32)) < 0 ∨ cl63.slots.size ≤ (((0 : Int32) + (1 : Int32))).toNatClampNeg) := inb_of S63 ⟨by decide, by decide⟩
  have hat64 : cl63.slots[(((0 : Int32) + (1 : Int32))).toNatClampNeg]? = some (.long x1) := H63.at hin64 rfl
  obtain ⟨cl65, Ar65, q65, S65, M65, H65, G65⟩ := id V2
  obtain ⟨cl66, Ar66, q66, S66, M66, H66, G66⟩ := id V2
  have hin67 : ¬ ((0 : Int32) < 0 ∨ cl66.slots.size ≤ ((0 : Int32)).toNatClampNeg) := inb_of S66 ⟨by decide, by decide⟩
  have hat67 : cl66.slots[((0 : Int32)).toNatClampNeg]? = some (.long y0) := H66.at hin67 rfl
  have k68 : ∀ t, Steps p.tables e below (s₁.setTop (mkF m 50 #[.val (.ref a1), .val (.ref a2), .val (.int v61), .val (.ref a1), .val (.int (2 : Int32)), .val (.int ((0 : Int32) + (1 : Int32))), .val (.long x1), .second, .val (.ref a2), .val (.int (1 : Int32)), .val (.int (0 : Int32)), .val (.long y0), .second] [(.int v61)])) t → Steps p.tables e below (s₁.setTop (entryFrame m #[(.ref a1), (.ref a2)] 13)) t := fun t kt => k62 t (by
      show Steps p.tables e below (s₁.setTop (mkF m 70 #[.val (.ref a1), .val (.ref a2), .val (.int (0 : Int32)), .val (.ref a1), .val (.int (2 : Int32)), .val (.int (0 : Int32)), .val (.long x0), .second, .val (.ref a2), .val (.int (1 : Int32)), .val (.int (0 : Int32)), .val (.long y0), .second] [(.int v61)])) _
      let A0 : Array Slot := #[.val (.ref a1), .val (.ref a2), .val (.int v61), .val (.ref a1), .val (.int (2 : Int32)), .val (.int (0 : Int32)), .val (.long x0), .second, .val (.ref a2), .val (.int (1 : Int32)), .val (.int (0 : Int32)), .val (.long y0), .second]
      refine XS.istoreN X0.here hx rfl (hb hby d2_70) rfl (l' := A0) rfl ?_
      show Steps p.tables e below (s₁.setTop (mkF m 71 A0 [])) _
      let A1 : Array Slot := #[.val (.ref a1), .val (.ref a2), .val (.int v61), .val (.ref a1), .val (.int (2 : Int32)), .val (.int (0 : Int32)), .val (.long x0), .second, .val (.ref a2), .val (.int (1 : Int32)), .val (.int ((0 : Int32) + (1 : Int32))), .val (.long y0), .second]
      refine XS.iinc X0.here hx rfl (hb hby d2_71) rfl (l' := A1) rfl ?_
      show Steps p.tables e below (s₁.setTop (mkF m 74 A1 [])) _
      refine XS.goto X0.here hx rfl (pc0 := 74) (pc' := 35) rfl (hb hby d2_74) (by decide) (by decide) ?_
      show Steps p.tables e below (s₁.setTop (mkF m 35 A1 [])) _
      refine XS.iload X0.here hx rfl (hb hby d2_35) rfl ?_
      show Steps p.tables e below (s₁.setTop (mkF m 37 A1 [(.int ((0 : Int32) + (1 : Int32)))])) _
      refine XS.iload X0.here hx rfl (hb hby d2_37) rfl ?_
      show Steps p.tables e below (s₁.setTop (mkF m 39 A1 [(.int (1 : Int32)), (.int ((0 : Int32) + (1 : Int32)))])) _
      refine XS.icmpYes X0.here hx rfl (pc0 := 39) (pc' := 77) rfl (hb hby d2_39) rfl (flt (by decide : ¬ (((0 : Int32) + (1 : Int32)) < (1 : Int32)))).2.1 (by decide) (by decide) ?_
      show Steps p.tables e below (s₁.setTop (mkF m 77 A1 [])) _
      let A2 : Array Slot := #[.val (.ref a1), .val (.ref a2), .val (.int v61), .val (.ref a1), .val (.int (2 : Int32)), .val (.int ((0 : Int32) + (1 : Int32))), .val (.long x0), .second, .val (.ref a2), .val (.int (1 : Int32)), .val (.int ((0 : Int32) + (1 : Int32))), .val (.long y0), .second]
      refine XS.iinc X0.here hx rfl (hb hby d2_77) rfl (l' := A2) rfl ?_
      show Steps p.tables e below (s₁.setTop (mkF m 80 A2 [])) _
      refine XS.goto X0.here hx rfl (pc0 := 80) (pc' := 11) rfl (hb hby d2_80) (by decide) (by decide) ?_
      show Steps p.tables e below (s₁.setTop (mkF m 11 A2 [])) _
      refine XS.iload X0.here hx rfl (hb hby d2_11) rfl ?_
      show Steps p.tables e below (s₁.setTop (mkF m 13 A2 [(.int ((0 : Int32) + (1 : Int32)))])) _
      refine XS.iload X0.here hx rfl (hb hby d2_13) rfl ?_
      show Steps p.tables e below (s₁.setTop (mkF m 15 A2 [(.int (2 : Int32)), (.int ((0 : Int32) + (1 : Int32)))])) _
      refine XS.icmpNo X0.here hx rfl (hb hby d2_15) rfl (tlt (by decide : ((0 : Int32) + (1 : Int32)) < (2 : Int32))).2.1 ?_
      show Steps p.tables e below (s₁.setTop (mkF m 18 A2 [])) _
      refine XS.aloadN X0.here hx rfl (hb hby d2_18) rfl rfl ?_
      show Steps p.tables e below (s₁.setTop (mkF m 19 A2 [(.ref a1)])) _
      refine XS.iload X0.here hx rfl (hb hby d2_19) rfl ?_
      show Steps p.tables e below (s₁.setTop (mkF m 21 A2 [(.int ((0 : Int32) + (1 : Int32))), (.ref a1)])) _
      refine X0.laload hx (j := ((0 : Int32) + (1 : Int32))) (v := (.long x1)) (by rw [e0]; exact Ar63.1) (State.isArrayOf_alike hZ.alike Ar63.2.1) Ar63.2.2 hin64 hat64 (g := (mkF m 21 A2 [(.int ((0 : Int32) + (1 : Int32))), (.ref a1)])) rfl rfl (hb hby d2_21) _ ?_
      show Steps p.tables e below (s₁.setTop (mkF m 22 A2 [(.long x1)])) _
      let A3 : Array Slot := #[.val (.ref a1), .val (.ref a2), .val (.int v61), .val (.ref a1), .val (.int (2 : Int32)), .val (.int ((0 : Int32) + (1 : Int32))), .val (.long x1), .second, .val (.ref a2), .val (.int (1 : Int32)), .val (.int ((0 : Int32) + (1 : Int32))), .val (.long y0), .second]
      refine XS.lstore X0.here hx rfl (hb hby d2_22) rfl (l' := A3) rfl ?_
      show Steps p.tables e below (s₁.setTop (mkF m 24 A3 [])) _
      refine XS.aloadN X0.here hx rfl (hb hby d2_24) rfl rfl ?_
      show Steps p.tables e below (s₁.setTop (mkF m 25 A3 [(.ref a2)])) _
      refine XS.astore X0.here hx rfl (hb hby d2_25) rfl rfl (l' := A3) rfl ?_
      show Steps p.tables e below (s₁.setTop (mkF m 27 A3 [])) _
      refine XS.aload X0.here hx rfl (hb hby d2_27) rfl rfl ?_
      show Steps p.tables e below (s₁.setTop (mkF m 29 A3 [(.ref a2)])) _
      refine X0.arraylength hx (by rw [e0]; exact Ar65.1) (State.isArrayOf_alike hZ.alike Ar65.2.1) (g := (mkF m 29 A3 [(.ref a2)])) rfl rfl (hb hby d2_29) _ ?_
      rw [len_of S65 M65]
      show Steps p.tables e below (s₁.setTop (mkF m 30 A3 [(.int (1 : Int32))])) _
      refine XS.istore X0.here hx rfl (hb hby d2_30) rfl (l' := A3) rfl ?_
      show Steps p.tables e below (s₁.setTop (mkF m 32 A3 [])) _
      refine XS.iconst X0.here hx rfl (hb hby d2_32) ?_
      show Steps p.tables e below (s₁.setTop (mkF m 33 A3 [(.int (0 : Int32))])) _
      let A4 : Array Slot := #[.val (.ref a1), .val (.ref a2), .val (.int v61), .val (.ref a1), .val (.int (2 : Int32)), .val (.int ((0 : Int32) + (1 : Int32))), .val (.long x1), .second, .val (.ref a2), .val (.int (1 : Int32)), .val (.int (0 : Int32)), .val (.long y0), .second]
      refine XS.istore X0.here hx rfl (hb hby d2_33) rfl (l' := A4) rfl ?_
      show Steps p.tables e below (s₁.setTop (mkF m 35 A4 [])) _
      refine XS.iload X0.here hx rfl (hb hby d2_35) rfl ?_
      show Steps p.tables e below (s₁.setTop (mkF m 37 A4 [(.int (0 : Int32))])) _
      refine XS.iload X0.here hx rfl (hb hby d2_37) rfl ?_
      show Steps p.tables e below (s₁.setTop (mkF m 39 A4 [(.int (1 : Int32)), (.int (0 : Int32))])) _
      refine XS.icmpNo X0.here hx rfl (hb hby d2_39) rfl (tlt (by decide : (0 : Int32) < (1 : Int32))).2.1 ?_
      show Steps p.tables e below (s₁.setTop (mkF m 42 A4 [])) _
      refine XS.aload X0.here hx rfl (hb hby d2_42) rfl rfl ?_
      show Steps p.tables e below (s₁.setTop (mkF m 44 A4 [(.ref a2)])) _
      refine XS.iload X0.here hx rfl (hb hby d2_44) rfl ?_
      show Steps p.tables e below (s₁.setTop (mkF m 46 A4 [(.int (0 : Int32)), (.ref a2)])) _
      refine X0.laload hx (j := (0 : Int32)) (v := (.long y0)) (by rw [e0]; exact Ar66.1) (State.isArrayOf_alike hZ.alike Ar66.2.1) Ar66.2.2 hin67 hat67 (g := (mkF m 46 A4 [(.int (0 : Int32)), (.ref a2)])) rfl rfl (hb hby d2_46) _ ?_
      show Steps p.tables e below (s₁.setTop (mkF m 47 A4 [(.long y0)])) _
      refine XS.lstore X0.here hx rfl (hb hby d2_47) rfl (l' := A4) rfl ?_
      show Steps p.tables e below (s₁.setTop (mkF m 49 A4 [])) _
      refine XS.iloadN X0.here hx rfl (hb hby d2_49) rfl ?_
      exact kt)
  obtain ⟨v71, hv71⟩ : ∃ v : Int32, v = (if v61 = (0 : Int32) then (if (lcmpW x1 (y0 + (2 : Int64))) = (0 : Int32) then (1 : Int32) else (0 : Int32)) else (1 : Int32)) := ⟨_, rfl⟩
  have k72 : ∀ t, Steps p.tables e below (s₁.setTop (mkF m 70 #[.val (.ref a1), .val (.ref a2), .val (.int v61), .val (.ref a1), .val (.int (2 : Int32)), .val (.int ((0 : Int32) + (1 : Int32))), .val (.long x1), .second, .val (.ref a2), .val (.int (1 : Int32)), .val (.int (0 : Int32)), .val (.long y0), .second] [(.int v71)])) t → Steps p.tables e below (s₁.setTop (entryFrame m #[(.ref a1), (.ref a2)] 13)) t := by
    intro t kt
    by_cases hc50_69 : v61 = (0 : Int32)
    · by_cases hc62_70 : (lcmpW x1 (y0 + (2 : Int64))) = (0 : Int32)
      · rw [show v71 = (1 : Int32) from ((hv71.trans (if_pos hc50_69)).trans (if_pos hc62_70))] at kt
        exact k68 t (by
            let A0 : Array Slot := #[.val (.ref a1), .val (.ref a2), .val (.int v61), .val (.ref a1), .val (.int (2 : Int32)), .val (.int ((0 : Int32) + (1 : Int32))), .val (.long x1), .second, .val (.ref a2), .val (.int (1 : Int32)), .val (.int (0 : Int32)), .val (.long y0), .second]
            show Steps p.tables e below (s₁.setTop (mkF m 50 A0 [(.int v61)])) _
            refine XS.ifNo X0.here hx rfl (hb hby d2_50) rfl ((if0 _ _).trans (teq hc50_69).2) ?_
            show Steps p.tables e below (s₁.setTop (mkF m 53 A0 [])) _
            refine XS.lload X0.here hx rfl (hb hby d2_53) rfl ?_
            show Steps p.tables e below (s₁.setTop (mkF m 55 A0 [(.long x1)])) _
            refine XS.lload X0.here hx rfl (hb hby d2_55) rfl ?_
            show Steps p.tables e below (s₁.setTop (mkF m 57 A0 [(.long y0), (.long x1)])) _
            refine X0.ldc2Long hx hown (mvT hZ (hw _ (List.mem_of_getElem? (i := 10) rfl))) (g := (mkF m 57 A0 [(.long y0), (.long x1)])) rfl (hb hby d2_57) _ ?_
            show Steps p.tables e below (s₁.setTop (mkF m 60 A0 [(.long (2 : Int64)), (.long y0), (.long x1)])) _
            refine XS.ladd X0.here hx rfl (hb hby d2_60) rfl ?_
            show Steps p.tables e below (s₁.setTop (mkF m 61 A0 [(.long (y0 + (2 : Int64))), (.long x1)])) _
            refine XS.lcmp X0.here hx rfl (hb hby d2_61) rfl ?_
            show Steps p.tables e below (s₁.setTop (mkF m 62 A0 [(.int (lcmpW x1 (y0 + (2 : Int64))))])) _
            refine XS.ifNo X0.here hx rfl (hb hby d2_62) rfl ((if0 _ _).trans (teq hc62_70).2) ?_
            show Steps p.tables e below (s₁.setTop (mkF m 65 A0 [])) _
            refine XS.iconst X0.here hx rfl (hb hby d2_65) ?_
            show Steps p.tables e below (s₁.setTop (mkF m 66 A0 [(.int (1 : Int32))])) _
            refine XS.goto X0.here hx rfl (pc0 := 66) (pc' := 70) rfl (hb hby d2_66) (by decide) (by decide) ?_
            exact kt)
      · rw [show v71 = (0 : Int32) from ((hv71.trans (if_pos hc50_69)).trans (if_neg hc62_70))] at kt
        exact k68 t (by
            let A0 : Array Slot := #[.val (.ref a1), .val (.ref a2), .val (.int v61), .val (.ref a1), .val (.int (2 : Int32)), .val (.int ((0 : Int32) + (1 : Int32))), .val (.long x1), .second, .val (.ref a2), .val (.int (1 : Int32)), .val (.int (0 : Int32)), .val (.long y0), .second]
            show Steps p.tables e below (s₁.setTop (mkF m 50 A0 [(.int v61)])) _
            refine XS.ifNo X0.here hx rfl (hb hby d2_50) rfl ((if0 _ _).trans (teq hc50_69).2) ?_
            show Steps p.tables e below (s₁.setTop (mkF m 53 A0 [])) _
            refine XS.lload X0.here hx rfl (hb hby d2_53) rfl ?_
            show Steps p.tables e below (s₁.setTop (mkF m 55 A0 [(.long x1)])) _
            refine XS.lload X0.here hx rfl (hb hby d2_55) rfl ?_
            show Steps p.tables e below (s₁.setTop (mkF m 57 A0 [(.long y0), (.long x1)])) _
            refine X0.ldc2Long hx hown (mvT hZ (hw _ (List.mem_of_getElem? (i := 10) rfl))) (g := (mkF m 57 A0 [(.long y0), (.long x1)])) rfl (hb hby d2_57) _ ?_
            show Steps p.tables e below (s₁.setTop (mkF m 60 A0 [(.long (2 : Int64)), (.long y0), (.long x1)])) _
            refine XS.ladd X0.here hx rfl (hb hby d2_60) rfl ?_
            show Steps p.tables e below (s₁.setTop (mkF m 61 A0 [(.long (y0 + (2 : Int64))), (.long x1)])) _
            refine XS.lcmp X0.here hx rfl (hb hby d2_61) rfl ?_
            show Steps p.tables e below (s₁.setTop (mkF m 62 A0 [(.int (lcmpW x1 (y0 + (2 : Int64))))])) _
            refine XS.ifYes X0.here hx rfl (pc0 := 62) (pc' := 69) rfl (hb hby d2_62) rfl ((if0 _ _).trans (feq hc62_70).2) (by decide) (by decide) ?_
            show Steps p.tables e below (s₁.setTop (mkF m 69 A0 [])) _
            refine XS.iconst X0.here hx rfl (hb hby d2_69) ?_
            exact kt)
    · rw [show v71 = (1 : Int32) from (hv71.trans (if_neg hc50_69))] at kt
      exact k68 t (by
          let A0 : Array Slot := #[.val (.ref a1), .val (.ref a2), .val (.int v61), .val (.ref a1), .val (.int (2 : Int32)), .val (.int ((0 : Int32) + (1 : Int32))), .val (.long x1), .second, .val (.ref a2), .val (.int (1 : Int32)), .val (.int (0 : Int32)), .val (.long y0), .second]
          show Steps p.tables e below (s₁.setTop (mkF m 50 A0 [(.int v61)])) _
          refine XS.ifYes X0.here hx rfl (pc0 := 50) (pc' := 65) rfl (hb hby d2_50) rfl ((if0 _ _).trans (feq hc50_69).2) (by decide) (by decide) ?_
          show Steps p.tables e below (s₁.setTop (mkF m 65 A0 [])) _
          refine XS.iconst X0.here hx rfl (hb hby d2_65) ?_
          show Steps p.tables e below (s₁.setTop (mkF m 66 A0 [(.int (1 : Int32))])) _
          refine XS.goto X0.here hx rfl (pc0 := 66) (pc' := 70) rfl (hb hby d2_66) (by decide) (by decide) ?_
          exact kt)
  have k73 : ∀ t, Steps p.tables e below (s₁.setTop (mkF m 84 #[.val (.ref a1), .val (.ref a2), .val (.int v71), .val (.ref a1), .val (.int (2 : Int32)), .val (.int (((0 : Int32) + (1 : Int32)) + (1 : Int32))), .val (.long x1), .second, .val (.ref a2), .val (.int (1 : Int32)), .val (.int ((0 : Int32) + (1 : Int32))), .val (.long y0), .second] [(.int v71)])) t → Steps p.tables e below (s₁.setTop (entryFrame m #[(.ref a1), (.ref a2)] 13)) t := fun t kt => k72 t (by
      show Steps p.tables e below (s₁.setTop (mkF m 70 #[.val (.ref a1), .val (.ref a2), .val (.int v61), .val (.ref a1), .val (.int (2 : Int32)), .val (.int ((0 : Int32) + (1 : Int32))), .val (.long x1), .second, .val (.ref a2), .val (.int (1 : Int32)), .val (.int (0 : Int32)), .val (.long y0), .second] [(.int v71)])) _
      let A0 : Array Slot := #[.val (.ref a1), .val (.ref a2), .val (.int v71), .val (.ref a1), .val (.int (2 : Int32)), .val (.int ((0 : Int32) + (1 : Int32))), .val (.long x1), .second, .val (.ref a2), .val (.int (1 : Int32)), .val (.int (0 : Int32)), .val (.long y0), .second]
      refine XS.istoreN X0.here hx rfl (hb hby d2_70) rfl (l' := A0) rfl ?_
      show Steps p.tables e below (s₁.setTop (mkF m 71 A0 [])) _
      let A1 : Array Slot := #[.val (.ref a1), .val (.ref a2), .val (.int v71), .val (.ref a1), .val (.int (2 : Int32)), .val (.int ((0 : Int32) + (1 : Int32))), .val (.long x1), .second, .val (.ref a2), .val (.int (1 : Int32)), .val (.int ((0 : Int32) + (1 : Int32))), .val (.long y0), .second]
      refine XS.iinc X0.here hx rfl (hb hby d2_71) rfl (l' := A1) rfl ?_
      show Steps p.tables e below (s₁.setTop (mkF m 74 A1 [])) _
      refine XS.goto X0.here hx rfl (pc0 := 74) (pc' := 35) rfl (hb hby d2_74) (by decide) (by decide) ?_
      show Steps p.tables e below (s₁.setTop (mkF m 35 A1 [])) _
      refine XS.iload X0.here hx rfl (hb hby d2_35) rfl ?_
      show Steps p.tables e below (s₁.setTop (mkF m 37 A1 [(.int ((0 : Int32) + (1 : Int32)))])) _
      refine XS.iload X0.here hx rfl (hb hby d2_37) rfl ?_
      show Steps p.tables e below (s₁.setTop (mkF m 39 A1 [(.int (1 : Int32)), (.int ((0 : Int32) + (1 : Int32)))])) _
      refine XS.icmpYes X0.here hx rfl (pc0 := 39) (pc' := 77) rfl (hb hby d2_39) rfl (flt (by decide : ¬ (((0 : Int32) + (1 : Int32)) < (1 : Int32)))).2.1 (by decide) (by decide) ?_
      show Steps p.tables e below (s₁.setTop (mkF m 77 A1 [])) _
      let A2 : Array Slot := #[.val (.ref a1), .val (.ref a2), .val (.int v71), .val (.ref a1), .val (.int (2 : Int32)), .val (.int (((0 : Int32) + (1 : Int32)) + (1 : Int32))), .val (.long x1), .second, .val (.ref a2), .val (.int (1 : Int32)), .val (.int ((0 : Int32) + (1 : Int32))), .val (.long y0), .second]
      refine XS.iinc X0.here hx rfl (hb hby d2_77) rfl (l' := A2) rfl ?_
      show Steps p.tables e below (s₁.setTop (mkF m 80 A2 [])) _
      refine XS.goto X0.here hx rfl (pc0 := 80) (pc' := 11) rfl (hb hby d2_80) (by decide) (by decide) ?_
      show Steps p.tables e below (s₁.setTop (mkF m 11 A2 [])) _
      refine XS.iload X0.here hx rfl (hb hby d2_11) rfl ?_
      show Steps p.tables e below (s₁.setTop (mkF m 13 A2 [(.int (((0 : Int32) + (1 : Int32)) + (1 : Int32)))])) _
      refine XS.iload X0.here hx rfl (hb hby d2_13) rfl ?_
      show Steps p.tables e below (s₁.setTop (mkF m 15 A2 [(.int (2 : Int32)), (.int (((0 : Int32) + (1 : Int32)) + (1 : Int32)))])) _
      refine XS.icmpYes X0.here hx rfl (pc0 := 15) (pc' := 83) rfl (hb hby d2_15) rfl (flt (by decide : ¬ ((((0 : Int32) + (1 : Int32)) + (1 : Int32)) < (2 : Int32)))).2.1 (by decide) (by decide) ?_
      show Steps p.tables e below (s₁.setTop (mkF m 83 A2 [])) _
      refine XS.iloadN X0.here hx rfl (hb hby d2_83) rfl ?_
      exact kt)
  obtain ⟨fs, hr, hrun, hended, hW, hsame⟩ := X0.leave (v := some (.int (nar .boolean v71))) (fun h => by rw [Bd.returns] at h; cases h)
  refine ⟨_, _, k73 _ ?_, hrun, hended, _, _, rfl, ?_, ⟨_, rfl⟩, hW, hsame.mono (by decide) (by decide)⟩
  · show Steps p.tables e below (s₁.setTop (mkF m 84 #[.val (.ref a1), .val (.ref a2), .val (.int v71), .val (.ref a1), .val (.int (2 : Int32)), .val (.int (((0 : Int32) + (1 : Int32)) + (1 : Int32))), .val (.long x1), .second, .val (.ref a2), .val (.int (1 : Int32)), .val (.int ((0 : Int32) + (1 : Int32))), .val (.long y0), .second] [(.int v71)])) _
    exact retN X0 hx (t := .boolean) Bd.returns (by simp) (hb hby d2_84) hr
  · show Q_rm2_21 Z x0 x1 y0 h0 n0 _ s₁.heap _
    rw [e0]
    exact ⟨by rw [show v71 = own_nbo [x0, x1] [y0] from by rw [hv71, hv61]; rfl]; exact congrArg (fun z => some (Value.int z)) (own_nar _ _), N0, rfl⟩
theorem ef_rm2_22 (m : MethodId) (x0 : Addr) (x1 : Addr) : entryFrame m #[(.ref x0), (.ref x1)] 13 = mkF m 0 #[.val (.ref x0), .val (.ref x1), .unset, .unset, .unset, .unset, .unset, .unset, .unset, .unset, .unset, .unset, .unset] [] := by first | (simp [entryFrame, mkF, argsToLocals, Value.category]; done) | rfl
def Q_rm2_22 (Z : State)  (x0 : Int64) (x1 : Int64) (y0 : Int64) (y1 : Int64) (h0 : Heap) (n0 : Nat) (v : Option Value) (h : Heap) (L : List Loc) : Prop := v = some (.int (own_nbo [x0, x1] [y0, y1])) ∧ Fr n0 L ∧ h = h0
set_option maxRecDepth 65536 in
set_option maxHeartbeats 40000000 in
theorem rm2_22 (l : Launch) (Z : State) (a0 : Array Value) (hw : ∀ d ∈ tables_1, d.before a0 Z = true) (ws : List Jvm.Cond) (a1 a2 : Addr) (k1 k2 : ClassId) (x0 : Int64) (x1 : Int64) (y0 : Int64) (y1 : Int64) (h0 : Heap) (n0 : Nat) (Z0 : n0 ≤ h0.size) (V1 : Arv Z h0 a1 k1 .long (2 : Int32) [(.long x0), (.long x1)] (.long (0 : Int64))) (V2 : Arv Z h0 a2 k2 .long (2 : Int32) [(.long y0), (.long y1)] (.long (0 : Int64))) :
    MetFree l (⟨"com/example/conformed/conformed/agreement/Enumerator", "nextButOne", "([J[J)Z"⟩ : MethodName) (head1 (Jvm.Cond.code (⟨"com/example/conformed/conformed/agreement/Enumerator", "nextButOne", "([J[J)Z"⟩ : MethodName) prog_10_method_6_code 13 (some .boolean) :: ws) ({ frames := 0, cells := 0, slots := 0, locals := 0 } : Room)) (fun a U => a = #[(.ref a1), (.ref a2)] ∧ Z.Warmed39 U.vm ∧ U.heap = h0) (fun _ _ _ _ _ => True) (fun _ U o U' => ∃ v L, o = .returned v ∧ Q_rm2_22 Z x0 x1 y0 y1 h0 n0 v U'.heap L ∧ FrameEnd U o U' L ({ frames := 0, cells := 0, slots := 0, locals := 0 } : Room).cells ({ frames := 0, cells := 0, slots := 0, locals := 0 } : Room).slots) := by
  refine MetFree.of_bodySF (plainFor_of_name pn_c0) hisR ?_
  intro p e s m args below meth c s₁ Bd hml0 hP hK
  obtain ⟨rfl, hZ, hh⟩ := hP
  have hx := Bd.exec
  have hby := Bd.bytes
  have hml : c.maxLocals = 13 := hml0
  have hown : s.vm.findClass "com/example/conformed/conformed/agreement/Enumerator" = some m.cls := findClass_of_methodNamed Bd.named
  have hnm := (name_of_methodNamed Bd.named Bd.method).1
  have X0 : Stand p l e ({ frames := 0, cells := 0, slots := 0, locals := 0 } : Room) s m #[(.ref a1), (.ref a2)] below meth c s₁ [] 0 0 := Stand.of_body Bd
  have e0 : s₁.heap = h0 := by rw [← hh, Bd.state]; rfl
  have N0 := Fr.nil n0
  have pre0 : ∀ t, Steps p.tables e below (s₁.setTop (mkF m 0 #[.val (.ref a1), .val (.ref a2), .unset, .unset, .unset, .unset, .unset, .unset, .unset, .unset, .unset, .unset, .unset] [])) t → Steps p.tables e below (s₁.setTop (entryFrame m #[(.ref a1), (.ref a2)] 13)) t := fun t k => castTop (ef_rm2_22 m a1 a2) k
  obtain ⟨cl74, Ar74, q74, S74, M74, H74, G74⟩ := id V1
  obtain ⟨cl75, Ar75, q75, S75, M75, H75, G75⟩ := id V1
  have hin76 : ¬ ((0 : Int32) < 0 ∨ cl75.slots.size ≤ ((0 : Int32)).toNatClampNeg) := inb_of S75 ⟨by decide, by decide⟩
  have hat76 : cl75.slots[((0 : Int32)).toNatClampNeg]? = some (.long x0) := H75.at hin76 rfl
  obtain ⟨cl77, Ar77, q77, S77, M77, H77, G77⟩ := id V2
  obtain ⟨cl78, Ar78, q78, S78, M78, H78, G78⟩ := id V2
  have hin79 : ¬ ((0 : Int32) < 0 ∨ cl78.slots.size ≤ ((0 : Int32)).toNatClampNeg) := inb_of S78 ⟨by decide, by decide⟩
  have hat79 : cl78.slots[((0 : Int32)).toNatClampNeg]? = some (.long y0) := H78.at hin79 rfl
  have k80 : ∀ t, Steps p.tables e below (s₁.setTop (mkF m 50 #[.val (.ref a1), .val (.ref a2), .val (.int (0 : Int32)), .val (.ref a1), .val (.int (2 : Int32)), .val (.int (0 : Int32)), .val (.long x0), .second, .val (.ref a2), .val (.int (2 : Int32)), .val (.int (0 : Int32)), .val (.long y0), .second] [(.int (0 : Int32))])) t → Steps p.tables e below (s₁.setTop (entryFrame m #[(.ref a1), (.ref a2)] 13)) t := fun t kt => pre0 t (by
      let A0 : Array Slot := #[.val (.ref a1), .val (.ref a2), .unset, .unset, .unset, .unset, .unset, .unset, .unset, .unset, .unset, .unset, .unset]
      show Steps p.tables e below (s₁.setTop (mkF m 0 A0 [])) _
      refine XS.iconst X0.here hx rfl (hb hby d2_0) ?_
      show Steps p.tables e below (s₁.setTop (mkF m 1 A0 [(.int (0 : Int32))])) _
      let A1 : Array Slot := #[.val (.ref a1), .val (.ref a2), .val (.int (0 : Int32)), .unset, .unset, .unset, .unset, .unset, .unset, .unset, .unset, .unset, .unset]
      refine XS.istoreN X0.here hx rfl (hb hby d2_1) rfl (l' := A1) rfl ?_
      show Steps p.tables e below (s₁.setTop (mkF m 2 A1 [])) _
      refine XS.aloadN X0.here hx rfl (hb hby d2_2) rfl rfl ?_
      show Steps p.tables e below (s₁.setTop (mkF m 3 A1 [(.ref a1)])) _
      let A2 : Array Slot := #[.val (.ref a1), .val (.ref a2), .val (.int (0 : Int32)), .val (.ref a1), .unset, .unset, .unset, .unset, .unset, .unset, .unset, .unset, .unset]
      refine XS.astoreN X0.here hx rfl (hb hby d2_3) rfl rfl (l' := A2) rfl ?_
      show Steps p.tables e below (s₁.setTop (mkF m 4 A2 [])) _
      refine XS.aloadN X0.here hx rfl (hb hby d2_4) rfl rfl ?_
      show Steps p.tables e below (s₁.setTop (mkF m 5 A2 [(.ref a1)])) _
      refine X0.arraylength hx (by rw [e0]; exact Ar74.1) (State.isArrayOf_alike hZ.alike Ar74.2.1) (g := (mkF m 5 A2 [(.ref a1)])) rfl rfl (hb hby d2_5) _ ?_
      rw [len_of S74 M74]
      show Steps p.tables e below (s₁.setTop (mkF m 6 A2 [(.int (2 : Int32))])) _
      let A3 : Array Slot := #[.val (.ref a1), .val (.ref a2), .val (.int (0 : Int32)), .val (.ref a1), .val (.int (2 : Int32)), .unset, .unset, .unset, .unset, .unset, .unset, .unset, .unset]
      refine XS.istore X0.here hx rfl (hb hby d2_6) rfl (l' := A3) rfl ?_
      show Steps p.tables e below (s₁.setTop (mkF m 8 A3 [])) _
      refine XS.iconst X0.here hx rfl (hb hby d2_8) ?_
      show Steps p.tables e below (s₁.setTop (mkF m 9 A3 [(.int (0 : Int32))])) _
      let A4 : Array Slot := #[.val (.ref a1), .val (.ref a2), .val (.int (0 : Int32)), .val (.ref a1), .val (.int (2 : Int32)), .val (.int (0 : Int32)), .unset, .unset, .unset, .unset, .unset, .unset, .unset]
      refine XS.istore X0.here hx rfl (hb hby d2_9) rfl (l' := A4) rfl ?_
      show Steps p.tables e below (s₁.setTop (mkF m 11 A4 [])) _
      refine XS.iload X0.here hx rfl (hb hby d2_11) rfl ?_
      show Steps p.tables e below (s₁.setTop (mkF m 13 A4 [(.int (0 : Int32))])) _
      refine XS.iload X0.here hx rfl (hb hby d2_13) rfl ?_
      show Steps p.tables e below (s₁.setTop (mkF m 15 A4 [(.int (2 : Int32)), (.int (0 : Int32))])) _
      refine XS.icmpNo X0.here hx rfl (hb hby d2_15) rfl (tlt (by decide : (0 : Int32) < (2 : Int32))).2.1 ?_
      show Steps p.tables e below (s₁.setTop (mkF m 18 A4 [])) _
      refine XS.aloadN X0.here hx rfl (hb hby d2_18) rfl rfl ?_
      show Steps p.tables e below (s₁.setTop (mkF m 19 A4 [(.ref a1)])) _
      refine XS.iload X0.here hx rfl (hb hby d2_19) rfl ?_
      show Steps p.tables e below (s₁.setTop (mkF m 21 A4 [(.int (0 : Int32)), (.ref a1)])) _
      refine X0.laload hx (j := (0 : Int32)) (v := (.long x0)) (by rw [e0]; exact Ar75.1) (State.isArrayOf_alike hZ.alike Ar75.2.1) Ar75.2.2 hin76 hat76 (g := (mkF m 21 A4 [(.int (0 : Int32)), (.ref a1)])) rfl rfl (hb hby d2_21) _ ?_
      show Steps p.tables e below (s₁.setTop (mkF m 22 A4 [(.long x0)])) _
      let A5 : Array Slot := #[.val (.ref a1), .val (.ref a2), .val (.int (0 : Int32)), .val (.ref a1), .val (.int (2 : Int32)), .val (.int (0 : Int32)), .val (.long x0), .second, .unset, .unset, .unset, .unset, .unset]
      refine XS.lstore X0.here hx rfl (hb hby d2_22) rfl (l' := A5) rfl ?_
      show Steps p.tables e below (s₁.setTop (mkF m 24 A5 [])) _
      refine XS.aloadN X0.here hx rfl (hb hby d2_24) rfl rfl ?_
      show Steps p.tables e below (s₁.setTop (mkF m 25 A5 [(.ref a2)])) _
      let A6 : Array Slot := #[.val (.ref a1), .val (.ref a2), .val (.int (0 : Int32)), .val (.ref a1), .val (.int (2 : Int32)), .val (.int (0 : Int32)), .val (.long x0), .second, .val (.ref a2), .unset, .unset, .unset, .unset]
      refine XS.astore X0.here hx rfl (hb hby d2_25) rfl rfl (l' := A6) rfl ?_
      show Steps p.tables e below (s₁.setTop (mkF m 27 A6 [])) _
      refine XS.aload X0.here hx rfl (hb hby d2_27) rfl rfl ?_
      show Steps p.tables e below (s₁.setTop (mkF m 29 A6 [(.ref a2)])) _
      refine X0.arraylength hx (by rw [e0]; exact Ar77.1) (State.isArrayOf_alike hZ.alike Ar77.2.1) (g := (mkF m 29 A6 [(.ref a2)])) rfl rfl (hb hby d2_29) _ ?_
      rw [len_of S77 M77]
      show Steps p.tables e below (s₁.setTop (mkF m 30 A6 [(.int (2 : Int32))])) _
      let A7 : Array Slot := #[.val (.ref a1), .val (.ref a2), .val (.int (0 : Int32)), .val (.ref a1), .val (.int (2 : Int32)), .val (.int (0 : Int32)), .val (.long x0), .second, .val (.ref a2), .val (.int (2 : Int32)), .unset, .unset, .unset]
      refine XS.istore X0.here hx rfl (hb hby d2_30) rfl (l' := A7) rfl ?_
      show Steps p.tables e below (s₁.setTop (mkF m 32 A7 [])) _
      refine XS.iconst X0.here hx rfl (hb hby d2_32) ?_
      show Steps p.tables e below (s₁.setTop (mkF m 33 A7 [(.int (0 : Int32))])) _
      let A8 : Array Slot := #[.val (.ref a1), .val (.ref a2), .val (.int (0 : Int32)), .val (.ref a1), .val (.int (2 : Int32)), .val (.int (0 : Int32)), .val (.long x0), .second, .val (.ref a2), .val (.int (2 : Int32)), .val (.int (0 : Int32)), .unset, .unset]
      refine XS.istore X0.here hx rfl (hb hby d2_33) rfl (l' := A8) rfl ?_
      show Steps p.tables e below (s₁.setTop (mkF m 35 A8 [])) _
      refine XS.iload X0.here hx rfl (hb hby d2_35) rfl ?_
      show Steps p.tables e below (s₁.setTop (mkF m 37 A8 [(.int (0 : Int32))])) _
      refine XS.iload X0.here hx rfl (hb hby d2_37) rfl ?_
      show Steps p.tables e below (s₁.setTop (mkF m 39 A8 [(.int (2 : Int32)), (.int (0 : Int32))])) _
      refine XS.icmpNo X0.here hx rfl (hb hby d2_39) rfl (tlt (by decide : (0 : Int32) < (2 : Int32))).2.1 ?_
      show Steps p.tables e below (s₁.setTop (mkF m 42 A8 [])) _
      refine XS.aload X0.here hx rfl (hb hby d2_42) rfl rfl ?_
      show Steps p.tables e below (s₁.setTop (mkF m 44 A8 [(.ref a2)])) _
      refine XS.iload X0.here hx rfl (hb hby d2_44) rfl ?_
      show Steps p.tables e below (s₁.setTop (mkF m 46 A8 [(.int (0 : Int32)), (.ref a2)])) _
      refine X0.laload hx (j := (0 : Int32)) (v := (.long y0)) (by rw [e0]; exact Ar78.1) (State.isArrayOf_alike hZ.alike Ar78.2.1) Ar78.2.2 hin79 hat79 (g := (mkF m 46 A8 [(.int (0 : Int32)), (.ref a2)])) rfl rfl (hb hby d2_46) _ ?_
      show Steps p.tables e below (s₁.setTop (mkF m 47 A8 [(.long y0)])) _
      let A9 : Array Slot := #[.val (.ref a1), .val (.ref a2), .val (.int (0 : Int32)), .val (.ref a1), .val (.int (2 : Int32)), .val (.int (0 : Int32)), .val (.long x0), .second, .val (.ref a2), .val (.int (2 : Int32)), .val (.int (0 : Int32)), .val (.long y0), .second]
      refine XS.lstore X0.here hx rfl (hb hby d2_47) rfl (l' := A9) rfl ?_
      show Steps p.tables e below (s₁.setTop (mkF m 49 A9 [])) _
      refine XS.iloadN X0.here hx rfl (hb hby d2_49) rfl ?_
      exact kt)
  obtain ⟨v82, hv82⟩ : ∃ v : Int32, v = (if (lcmpW x0 (y0 + (2 : Int64))) = (0 : Int32) then (1 : Int32) else (0 : Int32)) := ⟨_, rfl⟩
  have k83 : ∀ t, Steps p.tables e below (s₁.setTop (mkF m 70 #[.val (.ref a1), .val (.ref a2), .val (.int (0 : Int32)), .val (.ref a1), .val (.int (2 : Int32)), .val (.int (0 : Int32)), .val (.long x0), .second, .val (.ref a2), .val (.int (2 : Int32)), .val (.int (0 : Int32)), .val (.long y0), .second] [(.int v82)])) t → Steps p.tables e below (s₁.setTop (entryFrame m #[(.ref a1), (.ref a2)] 13)) t := by
    intro t kt
    by_cases hc62_81 : (lcmpW x0 (y0 + (2 : Int64))) = (0 : Int32)
    · rw [show v82 = (1 : Int32) from (hv82.trans (if_pos hc62_81))] at kt
      exact k80 t (by
          let A0 : Array Slot := #[.val (.ref a1), .val (.ref a2), .val (.int (0 : Int32)), .val (.ref a1), .val (.int (2 : Int32)), .val (.int (0 : Int32)), .val (.long x0), .second, .val (.ref a2), .val (.int (2 : Int32)), .val (.int (0 : Int32)), .val (.long y0), .second]
          show Steps p.tables e below (s₁.setTop (mkF m 50 A0 [(.int (0 : Int32))])) _
          refine XS.ifNo X0.here hx rfl (hb hby d2_50) rfl ((if0 _ _).trans (teq (by decide : (0 : Int32) = (0 : Int32))).2) ?_
          show Steps p.tables e below (s₁.setTop (mkF m 53 A0 [])) _
          refine XS.lload X0.here hx rfl (hb hby d2_53) rfl ?_
          show Steps p.tables e below (s₁.setTop (mkF m 55 A0 [(.long x0)])) _
          refine XS.lload X0.here hx rfl (hb hby d2_55) rfl ?_
          show Steps p.tables e below (s₁.setTop (mkF m 57 A0 [(.long y0), (.long x0)])) _
          refine X0.ldc2Long hx hown (mvT hZ (hw _ (List.mem_of_getElem? (i := 10) rfl))) (g := (mkF m 57 A0 [(.long y0), (.long x0)])) rfl (hb hby d2_57) _ ?_
          show Steps p.tables e below (s₁.setTop (mkF m 60 A0 [(.long (2 : Int64)), (.long y0), (.long x0)])) _
          refine XS.ladd X0.here hx rfl (hb hby d2_60) rfl ?_
          show Steps p.tables e below (s₁.setTop (mkF m 61 A0 [(.long (y0 + (2 : Int64))), (.long x0)])) _
          refine XS.lcmp X0.here hx rfl (hb hby d2_61) rfl ?_
          show Steps p.tables e below (s₁.setTop (mkF m 62 A0 [(.int (lcmpW x0 (y0 + (2 : Int64))))])) _
          refine XS.ifNo X0.here hx rfl (hb hby d2_62) rfl ((if0 _ _).trans (teq hc62_81).2) ?_
          show Steps p.tables e below (s₁.setTop (mkF m 65 A0 [])) _
          refine XS.iconst X0.here hx rfl (hb hby d2_65) ?_
          show Steps p.tables e below (s₁.setTop (mkF m 66 A0 [(.int (1 : Int32))])) _
          refine XS.goto X0.here hx rfl (pc0 := 66) (pc' := 70) rfl (hb hby d2_66) (by decide) (by decide) ?_
          exact kt)
    · rw [show v82 = (0 : Int32) from (hv82.trans (if_neg hc62_81))] at kt
      exact k80 t (by
          let A0 : Array Slot := #[.val (.ref a1), .val (.ref a2), .val (.int (0 : Int32)), .val (.ref a1), .val (.int (2 : Int32)), .val (.int (0 : Int32)), .val (.long x0), .second, .val (.ref a2), .val (.int (2 : Int32)), .val (.int (0 : Int32)), .val (.long y0), .second]
          show Steps p.tables e below (s₁.setTop (mkF m 50 A0 [(.int (0 : Int32))])) _
          refine XS.ifNo X0.here hx rfl (hb hby d2_50) rfl ((if0 _ _).trans (teq (by decide : (0 : Int32) = (0 : Int32))).2) ?_
          show Steps p.tables e below (s₁.setTop (mkF m 53 A0 [])) _
          refine XS.lload X0.here hx rfl (hb hby d2_53) rfl ?_
          show Steps p.tables e below (s₁.setTop (mkF m 55 A0 [(.long x0)])) _
          refine XS.lload X0.here hx rfl (hb hby d2_55) rfl ?_
          show Steps p.tables e below (s₁.setTop (mkF m 57 A0 [(.long y0), (.long x0)])) _
          refine X0.ldc2Long hx hown (mvT hZ (hw _ (List.mem_of_getElem? (i := 10) rfl))) (g := (mkF m 57 A0 [(.long y0), (.long x0)])) rfl (hb hby d2_57) _ ?_
          show Steps p.tables e below (s₁.setTop (mkF m 60 A0 [(.long (2 : Int64)), (.long y0), (.long x0)])) _
          refine XS.ladd X0.here hx rfl (hb hby d2_60) rfl ?_
          show Steps p.tables e below (s₁.setTop (mkF m 61 A0 [(.long (y0 + (2 : Int64))), (.long x0)])) _
          refine XS.lcmp X0.here hx rfl (hb hby d2_61) rfl ?_
          show Steps p.tables e below (s₁.setTop (mkF m 62 A0 [(.int (lcmpW x0 (y0 + (2 : Int64))))])) _
          refine XS.ifYes X0.here hx rfl (pc0 := 62) (pc' := 69) rfl (hb hby d2_62) rfl ((if0 _ _).trans (feq hc62_81).2) (by decide) (by decide) ?_
          show Steps p.tables e below (s₁.setTop (mkF m 69 A0 [])) _
          refine XS.iconst X0.here hx rfl (hb hby d2_69) ?_
          exact kt)
  obtain ⟨cl84, Ar84, q84, S84, M84, H84, G84⟩ := id V2
  have hin85 : ¬ (((0 : Int32) + (1 : Int32)) < 0 ∨ cl84.slots.size ≤ (((0 : Int32) + (1 : Int32))).toNatClampNeg) := inb_of S84 ⟨by decide, by decide⟩
  have hat85 : cl84.slots[(((0 : Int32) + (1 : Int32))).toNatClampNeg]? = some (.long y1) := H84.at hin85 rfl
  have k86 : ∀ t, Steps p.tables e below (s₁.setTop (mkF m 50 #[.val (.ref a1), .val (.ref a2), .val (.int v82), .val (.ref a1), .val (.int (2 : Int32)), .val (.int (0 : Int32)), .val (.long x0), .second, .val (.ref a2), .val (.int (2 : Int32)), .val (.int ((0 : Int32) + (1 : Int32))), .val (.long y1), .second] [(.int v82)])) t → Steps p.tables e below (s₁.setTop (entryFrame m #[(.ref a1), (.ref a2)] 13)) t := fun t kt => k83 t (by
      show Steps p.tables e below (s₁.setTop (mkF m 70 #[.val (.ref a1), .val (.ref a2), .val (.int (0 : Int32)), .val (.ref a1), .val (.int (2 : Int32)), .val (.int (0 : Int32)), .val (.long x0), .second, .val (.ref a2), .val (.int (2 : Int32)), .val (.int (0 : Int32)), .val (.long y0), .second] [(.int v82)])) _
      let A0 : Array Slot := #[.val (.ref a1), .val (.ref a2), .val (.int v82), .val (.ref a1), .val (.int (2 : Int32)), .val (.int (0 : Int32)), .val (.long x0), .second, .val (.ref a2), .val (.int (2 : Int32)), .val (.int (0 : Int32)), .val (.long y0), .second]
      refine XS.istoreN X0.here hx rfl (hb hby d2_70) rfl (l' := A0) rfl ?_
      show Steps p.tables e below (s₁.setTop (mkF m 71 A0 [])) _
      let A1 : Array Slot := #[.val (.ref a1), .val (.ref a2), .val (.int v82), .val (.ref a1), .val (.int (2 : Int32)), .val (.int (0 : Int32)), .val (.long x0), .second, .val (.ref a2), .val (.int (2 : Int32)), .val (.int ((0 : Int32) + (1 : Int32))), .val (.long y0), .second]
      refine XS.iinc X0.here hx rfl (hb hby d2_71) rfl (l' := A1) rfl ?_
      show Steps p.tables e below (s₁.setTop (mkF m 74 A1 [])) _
      refine XS.goto X0.here hx rfl (pc0 := 74) (pc' := 35) rfl (hb hby d2_74) (by decide) (by decide) ?_
      show Steps p.tables e below (s₁.setTop (mkF m 35 A1 [])) _
      refine XS.iload X0.here hx rfl (hb hby d2_35) rfl ?_
      show Steps p.tables e below (s₁.setTop (mkF m 37 A1 [(.int ((0 : Int32) + (1 : Int32)))])) _
      refine XS.iload X0.here hx rfl (hb hby d2_37) rfl ?_
      show Steps p.tables e below (s₁.setTop (mkF m 39 A1 [(.int (2 : Int32)), (.int ((0 : Int32) + (1 : Int32)))])) _
      refine XS.icmpNo X0.here hx rfl (hb hby d2_39) rfl (tlt (by decide : ((0 : Int32) + (1 : Int32)) < (2 : Int32))).2.1 ?_
      show Steps p.tables e below (s₁.setTop (mkF m 42 A1 [])) _
      refine XS.aload X0.here hx rfl (hb hby d2_42) rfl rfl ?_
      show Steps p.tables e below (s₁.setTop (mkF m 44 A1 [(.ref a2)])) _
      refine XS.iload X0.here hx rfl (hb hby d2_44) rfl ?_
      show Steps p.tables e below (s₁.setTop (mkF m 46 A1 [(.int ((0 : Int32) + (1 : Int32))), (.ref a2)])) _
      refine X0.laload hx (j := ((0 : Int32) + (1 : Int32))) (v := (.long y1)) (by rw [e0]; exact Ar84.1) (State.isArrayOf_alike hZ.alike Ar84.2.1) Ar84.2.2 hin85 hat85 (g := (mkF m 46 A1 [(.int ((0 : Int32) + (1 : Int32))), (.ref a2)])) rfl rfl (hb hby d2_46) _ ?_
      show Steps p.tables e below (s₁.setTop (mkF m 47 A1 [(.long y1)])) _
      let A2 : Array Slot := #[.val (.ref a1), .val (.ref a2), .val (.int v82), .val (.ref a1), .val (.int (2 : Int32)), .val (.int (0 : Int32)), .val (.long x0), .second, .val (.ref a2), .val (.int (2 : Int32)), .val (.int ((0 : Int32) + (1 : Int32))), .val (.long y1), .second]
      refine XS.lstore X0.here hx rfl (hb hby d2_47) rfl (l' := A2) rfl ?_
      show Steps p.tables e below (s₁.setTop (mkF m 49 A2 [])) _
      refine XS.iloadN X0.here hx rfl (hb hby d2_49) rfl ?_
      exact kt)
  obtain ⟨v89, hv89⟩ : ∃ v : Int32, v = (if v82 = (0 : Int32) then (if (lcmpW x0 (y1 + (2 : Int64))) = (0 : Int32) then (1 : Int32) else (0 : Int32)) else (1 : Int32)) := ⟨_, rfl⟩
  have k90 : ∀ t, Steps p.tables e below (s₁.setTop (mkF m 70 #[.val (.ref a1), .val (.ref a2), .val (.int v82), .val (.ref a1), .val (.int (2 : Int32)), .val (.int (0 : Int32)), .val (.long x0), .second, .val (.ref a2), .val (.int (2 : Int32)), .val (.int ((0 : Int32) + (1 : Int32))), .val (.long y1), .second] [(.int v89)])) t → Steps p.tables e below (s₁.setTop (entryFrame m #[(.ref a1), (.ref a2)] 13)) t := by
    intro t kt
    by_cases hc50_87 : v82 = (0 : Int32)
    · by_cases hc62_88 : (lcmpW x0 (y1 + (2 : Int64))) = (0 : Int32)
      · rw [show v89 = (1 : Int32) from ((hv89.trans (if_pos hc50_87)).trans (if_pos hc62_88))] at kt
        exact k86 t (by
            let A0 : Array Slot := #[.val (.ref a1), .val (.ref a2), .val (.int v82), .val (.ref a1), .val (.int (2 : Int32)), .val (.int (0 : Int32)), .val (.long x0), .second, .val (.ref a2), .val (.int (2 : Int32)), .val (.int ((0 : Int32) + (1 : Int32))), .val (.long y1), .second]
            show Steps p.tables e below (s₁.setTop (mkF m 50 A0 [(.int v82)])) _
            refine XS.ifNo X0.here hx rfl (hb hby d2_50) rfl ((if0 _ _).trans (teq hc50_87).2) ?_
            show Steps p.tables e below (s₁.setTop (mkF m 53 A0 [])) _
            refine XS.lload X0.here hx rfl (hb hby d2_53) rfl ?_
            show Steps p.tables e below (s₁.setTop (mkF m 55 A0 [(.long x0)])) _
            refine XS.lload X0.here hx rfl (hb hby d2_55) rfl ?_
            show Steps p.tables e below (s₁.setTop (mkF m 57 A0 [(.long y1), (.long x0)])) _
            refine X0.ldc2Long hx hown (mvT hZ (hw _ (List.mem_of_getElem? (i := 10) rfl))) (g := (mkF m 57 A0 [(.long y1), (.long x0)])) rfl (hb hby d2_57) _ ?_
            show Steps p.tables e below (s₁.setTop (mkF m 60 A0 [(.long (2 : Int64)), (.long y1), (.long x0)])) _
            refine XS.ladd X0.here hx rfl (hb hby d2_60) rfl ?_
            show Steps p.tables e below (s₁.setTop (mkF m 61 A0 [(.long (y1 + (2 : Int64))), (.long x0)])) _
            refine XS.lcmp X0.here hx rfl (hb hby d2_61) rfl ?_
            show Steps p.tables e below (s₁.setTop (mkF m 62 A0 [(.int (lcmpW x0 (y1 + (2 : Int64))))])) _
            refine XS.ifNo X0.here hx rfl (hb hby d2_62) rfl ((if0 _ _).trans (teq hc62_88).2) ?_
            show Steps p.tables e below (s₁.setTop (mkF m 65 A0 [])) _
            refine XS.iconst X0.here hx rfl (hb hby d2_65) ?_
            show Steps p.tables e below (s₁.setTop (mkF m 66 A0 [(.int (1 : Int32))])) _
            refine XS.goto X0.here hx rfl (pc0 := 66) (pc' := 70) rfl (hb hby d2_66) (by decide) (by decide) ?_
            exact kt)
      · rw [show v89 = (0 : Int32) from ((hv89.trans (if_pos hc50_87)).trans (if_neg hc62_88))] at kt
        exact k86 t (by
            let A0 : Array Slot := #[.val (.ref a1), .val (.ref a2), .val (.int v82), .val (.ref a1), .val (.int (2 : Int32)), .val (.int (0 : Int32)), .val (.long x0), .second, .val (.ref a2), .val (.int (2 : Int32)), .val (.int ((0 : Int32) + (1 : Int32))), .val (.long y1), .second]
            show Steps p.tables e below (s₁.setTop (mkF m 50 A0 [(.int v82)])) _
            refine XS.ifNo X0.here hx rfl (hb hby d2_50) rfl ((if0 _ _).trans (teq hc50_87).2) ?_
            show Steps p.tables e below (s₁.setTop (mkF m 53 A0 [])) _
            refine XS.lload X0.here hx rfl (hb hby d2_53) rfl ?_
            show Steps p.tables e below (s₁.setTop (mkF m 55 A0 [(.long x0)])) _
            refine XS.lload X0.here hx rfl (hb hby d2_55) rfl ?_
            show Steps p.tables e below (s₁.setTop (mkF m 57 A0 [(.long y1), (.long x0)])) _
            refine X0.ldc2Long hx hown (mvT hZ (hw _ (List.mem_of_getElem? (i := 10) rfl))) (g := (mkF m 57 A0 [(.long y1), (.long x0)])) rfl (hb hby d2_57) _ ?_
            show Steps p.tables e below (s₁.setTop (mkF m 60 A0 [(.long (2 : Int64)), (.long y1), (.long x0)])) _
            refine XS.ladd X0.here hx rfl (hb hby d2_60) rfl ?_
            show Steps p.tables e below (s₁.setTop (mkF m 61 A0 [(.long (y1 + (2 : Int64))), (.long x0)])) _
            refine XS.lcmp X0.here hx rfl (hb hby d2_61) rfl ?_
            show Steps p.tables e below (s₁.setTop (mkF m 62 A0 [(.int (lcmpW x0 (y1 + (2 : Int64))))])) _
            refine XS.ifYes X0.here hx rfl (pc0 := 62) (pc' := 69) rfl (hb hby d2_62) rfl ((if0 _ _).trans (feq hc62_88).2) (by decide) (by decide) ?_
            show Steps p.tables e below (s₁.setTop (mkF m 69 A0 [])) _
            refine XS.iconst X0.here hx rfl (hb hby d2_69) ?_
            exact kt)
    · rw [show v89 = (1 : Int32) from (hv89.trans (if_neg hc50_87))] at kt
      exact k86 t (by
          let A0 : Array Slot := #[.val (.ref a1), .val (.ref a2), .val (.int v82), .val (.ref a1), .val (.int (2 : Int32)), .val (.int (0 : Int32)), .val (.long x0), .second, .val (.ref a2), .val (.int (2 : Int32)), .val (.int ((0 : Int32) + (1 : Int32))), .val (.long y1), .second]
          show Steps p.tables e below (s₁.setTop (mkF m 50 A0 [(.int v82)])) _
          refine XS.ifYes X0.here hx rfl (pc0 := 50) (pc' := 65) rfl (hb hby d2_50) rfl ((if0 _ _).trans (feq hc50_87).2) (by decide) (by decide) ?_
          show Steps p.tables e below (s₁.setTop (mkF m 65 A0 [])) _
          refine XS.iconst X0.here hx rfl (hb hby d2_65) ?_
          show Steps p.tables e below (s₁.setTop (mkF m 66 A0 [(.int (1 : Int32))])) _
          refine XS.goto X0.here hx rfl (pc0 := 66) (pc' := 70) rfl (hb hby d2_66) (by decide) (by decide) ?_
          exact kt)
  obtain ⟨cl91, Ar91, q91, S91, M91, H91, G91⟩ := id V1
  have hin92 : ¬ (((0 : Int32) + (1 : Int32)) < 0 ∨ cl91.slots.size ≤ (((0 : Int32) + (1 : Int32))).toNatClampNeg) := inb_of S91 ⟨by decide, by decide⟩
  have hat92 : cl91.slots[(((0 : Int32) + (1 : Int32))).toNatClampNeg]? = some (.long x1) := H91.at hin92 rfl
  obtain ⟨cl93, Ar93, q93, S93, M93, H93, G93⟩ := id V2
  obtain ⟨cl94, Ar94, q94, S94, M94, H94, G94⟩ := id V2
  have hin95 : ¬ ((0 : Int32) < 0 ∨ cl94.slots.size ≤ ((0 : Int32)).toNatClampNeg) := inb_of S94 ⟨by decide, by decide⟩
  have hat95 : cl94.slots[((0 : Int32)).toNatClampNeg]? = some (.long y0) := H94.at hin95 rfl
  have k96 : ∀ t, Steps p.tables e below (s₁.setTop (mkF m 50 #[.val (.ref a1), .val (.ref a2), .val (.int v89), .val (.ref a1), .val (.int (2 : Int32)), .val (.int ((0 : Int32) + (1 : Int32))), .val (.long x1), .second, .val (.ref a2), .val (.int (2 : Int32)), .val (.int (0 : Int32)), .val (.long y0), .second] [(.int v89)])) t → Steps p.tables e below (s₁.setTop (entryFrame m #[(.ref a1), (.ref a2)] 13)) t := fun t kt => k90 t (by
      show Steps p.tables e below (s₁.setTop (mkF m 70 #[.val (.ref a1), .val (.ref a2), .val (.int v82), .val (.ref a1), .val (.int (2 : Int32)), .val (.int (0 : Int32)), .val (.long x0), .second, .val (.ref a2), .val (.int (2 : Int32)), .val (.int ((0 : Int32) + (1 : Int32))), .val (.long y1), .second] [(.int v89)])) _
      let A0 : Array Slot := #[.val (.ref a1), .val (.ref a2), .val (.int v89), .val (.ref a1), .val (.int (2 : Int32)), .val (.int (0 : Int32)), .val (.long x0), .second, .val (.ref a2), .val (.int (2 : Int32)), .val (.int ((0 : Int32) + (1 : Int32))), .val (.long y1), .second]
      refine XS.istoreN X0.here hx rfl (hb hby d2_70) rfl (l' := A0) rfl ?_
      show Steps p.tables e below (s₁.setTop (mkF m 71 A0 [])) _
      let A1 : Array Slot := #[.val (.ref a1), .val (.ref a2), .val (.int v89), .val (.ref a1), .val (.int (2 : Int32)), .val (.int (0 : Int32)), .val (.long x0), .second, .val (.ref a2), .val (.int (2 : Int32)), .val (.int (((0 : Int32) + (1 : Int32)) + (1 : Int32))), .val (.long y1), .second]
      refine XS.iinc X0.here hx rfl (hb hby d2_71) rfl (l' := A1) rfl ?_
      show Steps p.tables e below (s₁.setTop (mkF m 74 A1 [])) _
      refine XS.goto X0.here hx rfl (pc0 := 74) (pc' := 35) rfl (hb hby d2_74) (by decide) (by decide) ?_
      show Steps p.tables e below (s₁.setTop (mkF m 35 A1 [])) _
      refine XS.iload X0.here hx rfl (hb hby d2_35) rfl ?_
      show Steps p.tables e below (s₁.setTop (mkF m 37 A1 [(.int (((0 : Int32) + (1 : Int32)) + (1 : Int32)))])) _
      refine XS.iload X0.here hx rfl (hb hby d2_37) rfl ?_
      show Steps p.tables e below (s₁.setTop (mkF m 39 A1 [(.int (2 : Int32)), (.int (((0 : Int32) + (1 : Int32)) + (1 : Int32)))])) _
      refine XS.icmpYes X0.here hx rfl (pc0 := 39) (pc' := 77) rfl (hb hby d2_39) rfl (flt (by decide : ¬ ((((0 : Int32) + (1 : Int32)) + (1 : Int32)) < (2 : Int32)))).2.1 (by decide) (by decide) ?_
      show Steps p.tables e below (s₁.setTop (mkF m 77 A1 [])) _
      let A2 : Array Slot := #[.val (.ref a1), .val (.ref a2), .val (.int v89), .val (.ref a1), .val (.int (2 : Int32)), .val (.int ((0 : Int32) + (1 : Int32))), .val (.long x0), .second, .val (.ref a2), .val (.int (2 : Int32)), .val (.int (((0 : Int32) + (1 : Int32)) + (1 : Int32))), .val (.long y1), .second]
      refine XS.iinc X0.here hx rfl (hb hby d2_77) rfl (l' := A2) rfl ?_
      show Steps p.tables e below (s₁.setTop (mkF m 80 A2 [])) _
      refine XS.goto X0.here hx rfl (pc0 := 80) (pc' := 11) rfl (hb hby d2_80) (by decide) (by decide) ?_
      show Steps p.tables e below (s₁.setTop (mkF m 11 A2 [])) _
      refine XS.iload X0.here hx rfl (hb hby d2_11) rfl ?_
      show Steps p.tables e below (s₁.setTop (mkF m 13 A2 [(.int ((0 : Int32) + (1 : Int32)))])) _
      refine XS.iload X0.here hx rfl (hb hby d2_13) rfl ?_
      show Steps p.tables e below (s₁.setTop (mkF m 15 A2 [(.int (2 : Int32)), (.int ((0 : Int32) + (1 : Int32)))])) _
      refine XS.icmpNo X0.here hx rfl (hb hby d2_15) rfl (tlt (by decide : ((0 : Int32) + (1 : Int32)) < (2 : Int32))).2.1 ?_
      show Steps p.tables e below (s₁.setTop (mkF m 18 A2 [])) _
      refine XS.aloadN X0.here hx rfl (hb hby d2_18) rfl rfl ?_
      show Steps p.tables e below (s₁.setTop (mkF m 19 A2 [(.ref a1)])) _
      refine XS.iload X0.here hx rfl (hb hby d2_19) rfl ?_
      show Steps p.tables e below (s₁.setTop (mkF m 21 A2 [(.int ((0 : Int32) + (1 : Int32))), (.ref a1)])) _
      refine X0.laload hx (j := ((0 : Int32) + (1 : Int32))) (v := (.long x1)) (by rw [e0]; exact Ar91.1) (State.isArrayOf_alike hZ.alike Ar91.2.1) Ar91.2.2 hin92 hat92 (g := (mkF m 21 A2 [(.int ((0 : Int32) + (1 : Int32))), (.ref a1)])) rfl rfl (hb hby d2_21) _ ?_
      show Steps p.tables e below (s₁.setTop (mkF m 22 A2 [(.long x1)])) _
      let A3 : Array Slot := #[.val (.ref a1), .val (.ref a2), .val (.int v89), .val (.ref a1), .val (.int (2 : Int32)), .val (.int ((0 : Int32) + (1 : Int32))), .val (.long x1), .second, .val (.ref a2), .val (.int (2 : Int32)), .val (.int (((0 : Int32) + (1 : Int32)) + (1 : Int32))), .val (.long y1), .second]
      refine XS.lstore X0.here hx rfl (hb hby d2_22) rfl (l' := A3) rfl ?_
      show Steps p.tables e below (s₁.setTop (mkF m 24 A3 [])) _
      refine XS.aloadN X0.here hx rfl (hb hby d2_24) rfl rfl ?_
      show Steps p.tables e below (s₁.setTop (mkF m 25 A3 [(.ref a2)])) _
      refine XS.astore X0.here hx rfl (hb hby d2_25) rfl rfl (l' := A3) rfl ?_
      show Steps p.tables e below (s₁.setTop (mkF m 27 A3 [])) _
      refine XS.aload X0.here hx rfl (hb hby d2_27) rfl rfl ?_
      show Steps p.tables e below (s₁.setTop (mkF m 29 A3 [(.ref a2)])) _
      refine X0.arraylength hx (by rw [e0]; exact Ar93.1) (State.isArrayOf_alike hZ.alike Ar93.2.1) (g := (mkF m 29 A3 [(.ref a2)])) rfl rfl (hb hby d2_29) _ ?_
      rw [len_of S93 M93]
      show Steps p.tables e below (s₁.setTop (mkF m 30 A3 [(.int (2 : Int32))])) _
      refine XS.istore X0.here hx rfl (hb hby d2_30) rfl (l' := A3) rfl ?_
      show Steps p.tables e below (s₁.setTop (mkF m 32 A3 [])) _
      refine XS.iconst X0.here hx rfl (hb hby d2_32) ?_
      show Steps p.tables e below (s₁.setTop (mkF m 33 A3 [(.int (0 : Int32))])) _
      let A4 : Array Slot := #[.val (.ref a1), .val (.ref a2), .val (.int v89), .val (.ref a1), .val (.int (2 : Int32)), .val (.int ((0 : Int32) + (1 : Int32))), .val (.long x1), .second, .val (.ref a2), .val (.int (2 : Int32)), .val (.int (0 : Int32)), .val (.long y1), .second]
      refine XS.istore X0.here hx rfl (hb hby d2_33) rfl (l' := A4) rfl ?_
      show Steps p.tables e below (s₁.setTop (mkF m 35 A4 [])) _
      refine XS.iload X0.here hx rfl (hb hby d2_35) rfl ?_
      show Steps p.tables e below (s₁.setTop (mkF m 37 A4 [(.int (0 : Int32))])) _
      refine XS.iload X0.here hx rfl (hb hby d2_37) rfl ?_
      show Steps p.tables e below (s₁.setTop (mkF m 39 A4 [(.int (2 : Int32)), (.int (0 : Int32))])) _
      refine XS.icmpNo X0.here hx rfl (hb hby d2_39) rfl (tlt (by decide : (0 : Int32) < (2 : Int32))).2.1 ?_
      show Steps p.tables e below (s₁.setTop (mkF m 42 A4 [])) _
      refine XS.aload X0.here hx rfl (hb hby d2_42) rfl rfl ?_
      show Steps p.tables e below (s₁.setTop (mkF m 44 A4 [(.ref a2)])) _
      refine XS.iload X0.here hx rfl (hb hby d2_44) rfl ?_
      show Steps p.tables e below (s₁.setTop (mkF m 46 A4 [(.int (0 : Int32)), (.ref a2)])) _
      refine X0.laload hx (j := (0 : Int32)) (v := (.long y0)) (by rw [e0]; exact Ar94.1) (State.isArrayOf_alike hZ.alike Ar94.2.1) Ar94.2.2 hin95 hat95 (g := (mkF m 46 A4 [(.int (0 : Int32)), (.ref a2)])) rfl rfl (hb hby d2_46) _ ?_
      show Steps p.tables e below (s₁.setTop (mkF m 47 A4 [(.long y0)])) _
      let A5 : Array Slot := #[.val (.ref a1), .val (.ref a2), .val (.int v89), .val (.ref a1), .val (.int (2 : Int32)), .val (.int ((0 : Int32) + (1 : Int32))), .val (.long x1), .second, .val (.ref a2), .val (.int (2 : Int32)), .val (.int (0 : Int32)), .val (.long y0), .second]
      refine XS.lstore X0.here hx rfl (hb hby d2_47) rfl (l' := A5) rfl ?_
      show Steps p.tables e below (s₁.setTop (mkF m 49 A5 [])) _
      refine XS.iloadN X0.here hx rfl (hb hby d2_49) rfl ?_
      exact kt)
  obtain ⟨v99, hv99⟩ : ∃ v : Int32, v = (if v89 = (0 : Int32) then (if (lcmpW x1 (y0 + (2 : Int64))) = (0 : Int32) then (1 : Int32) else (0 : Int32)) else (1 : Int32)) := ⟨_, rfl⟩
  have k100 : ∀ t, Steps p.tables e below (s₁.setTop (mkF m 70 #[.val (.ref a1), .val (.ref a2), .val (.int v89), .val (.ref a1), .val (.int (2 : Int32)), .val (.int ((0 : Int32) + (1 : Int32))), .val (.long x1), .second, .val (.ref a2), .val (.int (2 : Int32)), .val (.int (0 : Int32)), .val (.long y0), .second] [(.int v99)])) t → Steps p.tables e below (s₁.setTop (entryFrame m #[(.ref a1), (.ref a2)] 13)) t := by
    intro t kt
    by_cases hc50_97 : v89 = (0 : Int32)
    · by_cases hc62_98 : (lcmpW x1 (y0 + (2 : Int64))) = (0 : Int32)
      · rw [show v99 = (1 : Int32) from ((hv99.trans (if_pos hc50_97)).trans (if_pos hc62_98))] at kt
        exact k96 t (by
            let A0 : Array Slot := #[.val (.ref a1), .val (.ref a2), .val (.int v89), .val (.ref a1), .val (.int (2 : Int32)), .val (.int ((0 : Int32) + (1 : Int32))), .val (.long x1), .second, .val (.ref a2), .val (.int (2 : Int32)), .val (.int (0 : Int32)), .val (.long y0), .second]
            show Steps p.tables e below (s₁.setTop (mkF m 50 A0 [(.int v89)])) _
            refine XS.ifNo X0.here hx rfl (hb hby d2_50) rfl ((if0 _ _).trans (teq hc50_97).2) ?_
            show Steps p.tables e below (s₁.setTop (mkF m 53 A0 [])) _
            refine XS.lload X0.here hx rfl (hb hby d2_53) rfl ?_
            show Steps p.tables e below (s₁.setTop (mkF m 55 A0 [(.long x1)])) _
            refine XS.lload X0.here hx rfl (hb hby d2_55) rfl ?_
            show Steps p.tables e below (s₁.setTop (mkF m 57 A0 [(.long y0), (.long x1)])) _
            refine X0.ldc2Long hx hown (mvT hZ (hw _ (List.mem_of_getElem? (i := 10) rfl))) (g := (mkF m 57 A0 [(.long y0), (.long x1)])) rfl (hb hby d2_57) _ ?_
            show Steps p.tables e below (s₁.setTop (mkF m 60 A0 [(.long (2 : Int64)), (.long y0), (.long x1)])) _
            refine XS.ladd X0.here hx rfl (hb hby d2_60) rfl ?_
            show Steps p.tables e below (s₁.setTop (mkF m 61 A0 [(.long (y0 + (2 : Int64))), (.long x1)])) _
            refine XS.lcmp X0.here hx rfl (hb hby d2_61) rfl ?_
            show Steps p.tables e below (s₁.setTop (mkF m 62 A0 [(.int (lcmpW x1 (y0 + (2 : Int64))))])) _
            refine XS.ifNo X0.here hx rfl (hb hby d2_62) rfl ((if0 _ _).trans (teq hc62_98).2) ?_
            show Steps p.tables e below (s₁.setTop (mkF m 65 A0 [])) _
            refine XS.iconst X0.here hx rfl (hb hby d2_65) ?_
            show Steps p.tables e below (s₁.setTop (mkF m 66 A0 [(.int (1 : Int32))])) _
            refine XS.goto X0.here hx rfl (pc0 := 66) (pc' := 70) rfl (hb hby d2_66) (by decide) (by decide) ?_
            exact kt)
      · rw [show v99 = (0 : Int32) from ((hv99.trans (if_pos hc50_97)).trans (if_neg hc62_98))] at kt
        exact k96 t (by
            let A0 : Array Slot := #[.val (.ref a1), .val (.ref a2), .val (.int v89), .val (.ref a1), .val (.int (2 : Int32)), .val (.int ((0 : Int32) + (1 : Int32))), .val (.long x1), .second, .val (.ref a2), .val (.int (2 : Int32)), .val (.int (0 : Int32)), .val (.long y0), .second]
            show Steps p.tables e below (s₁.setTop (mkF m 50 A0 [(.int v89)])) _
            refine XS.ifNo X0.here hx rfl (hb hby d2_50) rfl ((if0 _ _).trans (teq hc50_97).2) ?_
            show Steps p.tables e below (s₁.setTop (mkF m 53 A0 [])) _
            refine XS.lload X0.here hx rfl (hb hby d2_53) rfl ?_
            show Steps p.tables e below (s₁.setTop (mkF m 55 A0 [(.long x1)])) _
            refine XS.lload X0.here hx rfl (hb hby d2_55) rfl ?_
            show Steps p.tables e below (s₁.setTop (mkF m 57 A0 [(.long y0), (.long x1)])) _
            refine X0.ldc2Long hx hown (mvT hZ (hw _ (List.mem_of_getElem? (i := 10) rfl))) (g := (mkF m 57 A0 [(.long y0), (.long x1)])) rfl (hb hby d2_57) _ ?_
            show Steps p.tables e below (s₁.setTop (mkF m 60 A0 [(.long (2 : Int64)), (.long y0), (.long x1)])) _
            refine XS.ladd X0.here hx rfl (hb hby d2_60) rfl ?_
            show Steps p.tables e below (s₁.setTop (mkF m 61 A0 [(.long (y0 + (2 : Int64))), (.long x1)])) _
            refine XS.lcmp X0.here hx rfl (hb hby d2_61) rfl ?_
            show Steps p.tables e below (s₁.setTop (mkF m 62 A0 [(.int (lcmpW x1 (y0 + (2 : Int64))))])) _
            refine XS.ifYes X0.here hx rfl (pc0 := 62) (pc' := 69) rfl (hb hby d2_62) rfl ((if0 _ _).trans (feq hc62_98).2) (by decide) (by decide) ?_
            show Steps p.tables e below (s₁.setTop (mkF m 69 A0 [])) _
            refine XS.iconst X0.here hx rfl (hb hby d2_69) ?_
            exact kt)
    · rw [show v99 = (1 : Int32) from (hv99.trans (if_neg hc50_97))] at kt
      exact k96 t (by
          let A0 : Array Slot := #[.val (.ref a1), .val (.ref a2), .val (.int v89), .val (.ref a1), .val (.int (2 : Int32)), .val (.int ((0 : Int32) + (1 : Int32))), .val (.long x1), .second, .val (.ref a2), .val (.int (2 : Int32)), .val (.int (0 : Int32)), .val (.long y0), .second]
          show Steps p.tables e below (s₁.setTop (mkF m 50 A0 [(.int v89)])) _
          refine XS.ifYes X0.here hx rfl (pc0 := 50) (pc' := 65) rfl (hb hby d2_50) rfl ((if0 _ _).trans (feq hc50_97).2) (by decide) (by decide) ?_
          show Steps p.tables e below (s₁.setTop (mkF m 65 A0 [])) _
          refine XS.iconst X0.here hx rfl (hb hby d2_65) ?_
          show Steps p.tables e below (s₁.setTop (mkF m 66 A0 [(.int (1 : Int32))])) _
          refine XS.goto X0.here hx rfl (pc0 := 66) (pc' := 70) rfl (hb hby d2_66) (by decide) (by decide) ?_
          exact kt)
  obtain ⟨cl101, Ar101, q101, S101, M101, H101, G101⟩ := id V2
  have hin102 : ¬ (((0 : Int32) + (1 : Int32)) < 0 ∨ cl101.slots.size ≤ (((0 : Int32) + (1 : Int32))).toNatClampNeg) := inb_of S101 ⟨by decide, by decide⟩
  have hat102 : cl101.slots[(((0 : Int32) + (1 : Int32))).toNatClampNeg]? = some (.long y1) := H101.at hin102 rfl
  have k103 : ∀ t, Steps p.tables e below (s₁.setTop (mkF m 50 #[.val (.ref a1), .val (.ref a2), .val (.int v99), .val (.ref a1), .val (.int (2 : Int32)), .val (.int ((0 : Int32) + (1 : Int32))), .val (.long x1), .second, .val (.ref a2), .val (.int (2 : Int32)), .val (.int ((0 : Int32) + (1 : Int32))), .val (.long y1), .second] [(.int v99)])) t → Steps p.tables e below (s₁.setTop (entryFrame m #[(.ref a1), (.ref a2)] 13)) t := fun t kt => k100 t (by
      show Steps p.tables e below (s₁.setTop (mkF m 70 #[.val (.ref a1), .val (.ref a2), .val (.int v89), .val (.ref a1), .val (.int (2 : Int32)), .val (.int ((0 : Int32) + (1 : Int32))), .val (.long x1), .second, .val (.ref a2), .val (.int (2 : Int32)), .val (.int (0 : Int32)), .val (.long y0), .second] [(.int v99)])) _
      let A0 : Array Slot := #[.val (.ref a1), .val (.ref a2), .val (.int v99), .val (.ref a1), .val (.int (2 : Int32)), .val (.int ((0 : Int32) + (1 : Int32))), .val (.long x1), .second, .val (.ref a2), .val (.int (2 : Int32)), .val (.int (0 : Int32)), .val (.long y0), .second]
      refine XS.istoreN X0.here hx rfl (hb hby d2_70) rfl (l' := A0) rfl ?_
      show Steps p.tables e below (s₁.setTop (mkF m 71 A0 [])) _
      let A1 : Array Slot := #[.val (.ref a1), .val (.ref a2), .val (.int v99), .val (.ref a1), .val (.int (2 : Int32)), .val (.int ((0 : Int32) + (1 : Int32))), .val (.long x1), .second, .val (.ref a2), .val (.int (2 : Int32)), .val (.int ((0 : Int32) + (1 : Int32))), .val (.long y0), .second]
      refine XS.iinc X0.here hx rfl (hb hby d2_71) rfl (l' := A1) rfl ?_
      show Steps p.tables e below (s₁.setTop (mkF m 74 A1 [])) _
      refine XS.goto X0.here hx rfl (pc0 := 74) (pc' := 35) rfl (hb hby d2_74) (by decide) (by decide) ?_
      show Steps p.tables e below (s₁.setTop (mkF m 35 A1 [])) _
      refine XS.iload X0.here hx rfl (hb hby d2_35) rfl ?_
      show Steps p.tables e below (s₁.setTop (mkF m 37 A1 [(.int ((0 : Int32) + (1 : Int32)))])) _
      refine XS.iload X0.here hx rfl (hb hby d2_37) rfl ?_
      show Steps p.tables e below (s₁.setTop (mkF m 39 A1 [(.int (2 : Int32)), (.int ((0 : Int32) + (1 : Int32)))])) _
      refine XS.icmpNo X0.here hx rfl (hb hby d2_39) rfl (tlt (by decide : ((0 : Int32) + (1 : Int32)) < (2 : Int32))).2.1 ?_
      show Steps p.tables e below (s₁.setTop (mkF m 42 A1 [])) _
      refine XS.aload X0.here hx rfl (hb hby d2_42) rfl rfl ?_
      show Steps p.tables e below (s₁.setTop (mkF m 44 A1 [(.ref a2)])) _
      refine XS.iload X0.here hx rfl (hb hby d2_44) rfl ?_
      show Steps p.tables e below (s₁.setTop (mkF m 46 A1 [(.int ((0 : Int32) + (1 : Int32))), (.ref a2)])) _
      refine X0.laload hx (j := ((0 : Int32) + (1 : Int32))) (v := (.long y1)) (by rw [e0]; exact Ar101.1) (State.isArrayOf_alike hZ.alike Ar101.2.1) Ar101.2.2 hin102 hat102 (g := (mkF m 46 A1 [(.int ((0 : Int32) + (1 : Int32))), (.ref a2)])) rfl rfl (hb hby d2_46) _ ?_
      show Steps p.tables e below (s₁.setTop (mkF m 47 A1 [(.long y1)])) _
      let A2 : Array Slot := #[.val (.ref a1), .val (.ref a2), .val (.int v99), .val (.ref a1), .val (.int (2 : Int32)), .val (.int ((0 : Int32) + (1 : Int32))), .val (.long x1), .second, .val (.ref a2), .val (.int (2 : Int32)), .val (.int ((0 : Int32) + (1 : Int32))), .val (.long y1), .second]
      refine XS.lstore X0.here hx rfl (hb hby d2_47) rfl (l' := A2) rfl ?_
      show Steps p.tables e below (s₁.setTop (mkF m 49 A2 [])) _
      refine XS.iloadN X0.here hx rfl (hb hby d2_49) rfl ?_
      exact kt)
  obtain ⟨v106, hv106⟩ : ∃ v : Int32, v = (if v99 = (0 : Int32) then (if (lcmpW x1 (y1 + (2 : Int64))) = (0 : Int32) then (1 : Int32) else (0 : Int32)) else (1 : Int32)) := ⟨_, rfl⟩
  have k107 : ∀ t, Steps p.tables e below (s₁.setTop (mkF m 70 #[.val (.ref a1), .val (.ref a2), .val (.int v99), .val (.ref a1), .val (.int (2 : Int32)), .val (.int ((0 : Int32) + (1 : Int32))), .val (.long x1), .second, .val (.ref a2), .val (.int (2 : Int32)), .val (.int ((0 : Int32) + (1 : Int32))), .val (.long y1), .second] [(.int v106)])) t → Steps p.tables e below (s₁.setTop (entryFrame m #[(.ref a1), (.ref a2)] 13)) t := by
    intro t kt
    by_cases hc50_104 : v99 = (0 : Int32)
    · by_cases hc62_105 : (lcmpW x1 (y1 + (2 : Int64))) = (0 : Int32)
      · rw [show v106 = (1 : Int32) from ((hv106.trans (if_pos hc50_104)).trans (if_pos hc62_105))] at kt
        exact k103 t (by
            let A0 : Array Slot := #[.val (.ref a1), .val (.ref a2), .val (.int v99), .val (.ref a1), .val (.int (2 : Int32)), .val (.int ((0 : Int32) + (1 : Int32))), .val (.long x1), .second, .val (.ref a2), .val (.int (2 : Int32)), .val (.int ((0 : Int32) + (1 : Int32))), .val (.long y1), .second]
            show Steps p.tables e below (s₁.setTop (mkF m 50 A0 [(.int v99)])) _
            refine XS.ifNo X0.here hx rfl (hb hby d2_50) rfl ((if0 _ _).trans (teq hc50_104).2) ?_
            show Steps p.tables e below (s₁.setTop (mkF m 53 A0 [])) _
            refine XS.lload X0.here hx rfl (hb hby d2_53) rfl ?_
            show Steps p.tables e below (s₁.setTop (mkF m 55 A0 [(.long x1)])) _
            refine XS.lload X0.here hx rfl (hb hby d2_55) rfl ?_
            show Steps p.tables e below (s₁.setTop (mkF m 57 A0 [(.long y1), (.long x1)])) _
            refine X0.ldc2Long hx hown (mvT hZ (hw _ (List.mem_of_getElem? (i := 10) rfl))) (g := (mkF m 57 A0 [(.long y1), (.long x1)])) rfl (hb hby d2_57) _ ?_
            show Steps p.tables e below (s₁.setTop (mkF m 60 A0 [(.long (2 : Int64)), (.long y1), (.long x1)])) _
            refine XS.ladd X0.here hx rfl (hb hby d2_60) rfl ?_
            show Steps p.tables e below (s₁.setTop (mkF m 61 A0 [(.long (y1 + (2 : Int64))), (.long x1)])) _
            refine XS.lcmp X0.here hx rfl (hb hby d2_61) rfl ?_
            show Steps p.tables e below (s₁.setTop (mkF m 62 A0 [(.int (lcmpW x1 (y1 + (2 : Int64))))])) _
            refine XS.ifNo X0.here hx rfl (hb hby d2_62) rfl ((if0 _ _).trans (teq hc62_105).2) ?_
            show Steps p.tables e below (s₁.setTop (mkF m 65 A0 [])) _
            refine XS.iconst X0.here hx rfl (hb hby d2_65) ?_
            show Steps p.tables e below (s₁.setTop (mkF m 66 A0 [(.int (1 : Int32))])) _
            refine XS.goto X0.here hx rfl (pc0 := 66) (pc' := 70) rfl (hb hby d2_66) (by decide) (by decide) ?_
            exact kt)
      · rw [show v106 = (0 : Int32) from ((hv106.trans (if_pos hc50_104)).trans (if_neg hc62_105))] at kt
        exact k103 t (by
            let A0 : Array Slot := #[.val (.ref a1), .val (.ref a2), .val (.int v99), .val (.ref a1), .val (.int (2 : Int32)), .val (.int ((0 : Int32) + (1 : Int32))), .val (.long x1), .second, .val (.ref a2), .val (.int (2 : Int32)), .val (.int ((0 : Int32) + (1 : Int32))), .val (.long y1), .second]
            show Steps p.tables e below (s₁.setTop (mkF m 50 A0 [(.int v99)])) _
            refine XS.ifNo X0.here hx rfl (hb hby d2_50) rfl ((if0 _ _).trans (teq hc50_104).2) ?_
            show Steps p.tables e below (s₁.setTop (mkF m 53 A0 [])) _
            refine XS.lload X0.here hx rfl (hb hby d2_53) rfl ?_
            show Steps p.tables e below (s₁.setTop (mkF m 55 A0 [(.long x1)])) _
            refine XS.lload X0.here hx rfl (hb hby d2_55) rfl ?_
            show Steps p.tables e below (s₁.setTop (mkF m 57 A0 [(.long y1), (.long x1)])) _
            refine X0.ldc2Long hx hown (mvT hZ (hw _ (List.mem_of_getElem? (i := 10) rfl))) (g := (mkF m 57 A0 [(.long y1), (.long x1)])) rfl (hb hby d2_57) _ ?_
            show Steps p.tables e below (s₁.setTop (mkF m 60 A0 [(.long (2 : Int64)), (.long y1), (.long x1)])) _
            refine XS.ladd X0.here hx rfl (hb hby d2_60) rfl ?_
            show Steps p.tables e below (s₁.setTop (mkF m 61 A0 [(.long (y1 + (2 : Int64))), (.long x1)])) _
            refine XS.lcmp X0.here hx rfl (hb hby d2_61) rfl ?_
            show Steps p.tables e below (s₁.setTop (mkF m 62 A0 [(.int (lcmpW x1 (y1 + (2 : Int64))))])) _
            refine XS.ifYes X0.here hx rfl (pc0 := 62) (pc' := 69) rfl (hb hby d2_62) rfl ((if0 _ _).trans (feq hc62_105).2) (by decide) (by decide) ?_
            show Steps p.tables e below (s₁.setTop (mkF m 69 A0 [])) _
            refine XS.iconst X0.here hx rfl (hb hby d2_69) ?_
            exact kt)
    · rw [show v106 = (1 : Int32) from (hv106.trans (if_neg hc50_104))] at kt
      exact k103 t (by
          let A0 : Array Slot := #[.val (.ref a1), .val (.ref a2), .val (.int v99), .val (.ref a1), .val (.int (2 : Int32)), .val (.int ((0 : Int32) + (1 : Int32))), .val (.long x1), .second, .val (.ref a2), .val (.int (2 : Int32)), .val (.int ((0 : Int32) + (1 : Int32))), .val (.long y1), .second]
          show Steps p.tables e below (s₁.setTop (mkF m 50 A0 [(.int v99)])) _
          refine XS.ifYes X0.here hx rfl (pc0 := 50) (pc' := 65) rfl (hb hby d2_50) rfl ((if0 _ _).trans (feq hc50_104).2) (by decide) (by decide) ?_
          show Steps p.tables e below (s₁.setTop (mkF m 65 A0 [])) _
          refine XS.iconst X0.here hx rfl (hb hby d2_65) ?_
          show Steps p.tables e below (s₁.setTop (mkF m 66 A0 [(.int (1 : Int32))])) _
          refine XS.goto X0.here hx rfl (pc0 := 66) (pc' := 70) rfl (hb hby d2_66) (by decide) (by decide) ?_
          exact kt)
  have k108 : ∀ t, Steps p.tables e below (s₁.setTop (mkF m 84 #[.val (.ref a1), .val (.ref a2), .val (.int v106), .val (.ref a1), .val (.int (2 : Int32)), .val (.int (((0 : Int32) + (1 : Int32)) + (1 : Int32))), .val (.long x1), .second, .val (.ref a2), .val (.int (2 : Int32)), .val (.int (((0 : Int32) + (1 : Int32)) + (1 : Int32))), .val (.long y1), .second] [(.int v106)])) t → Steps p.tables e below (s₁.setTop (entryFrame m #[(.ref a1), (.ref a2)] 13)) t := fun t kt => k107 t (by
      show Steps p.tables e below (s₁.setTop (mkF m 70 #[.val (.ref a1), .val (.ref a2), .val (.int v99), .val (.ref a1), .val (.int (2 : Int32)), .val (.int ((0 : Int32) + (1 : Int32))), .val (.long x1), .second, .val (.ref a2), .val (.int (2 : Int32)), .val (.int ((0 : Int32) + (1 : Int32))), .val (.long y1), .second] [(.int v106)])) _
      let A0 : Array Slot := #[.val (.ref a1), .val (.ref a2), .val (.int v106), .val (.ref a1), .val (.int (2 : Int32)), .val (.int ((0 : Int32) + (1 : Int32))), .val (.long x1), .second, .val (.ref a2), .val (.int (2 : Int32)), .val (.int ((0 : Int32) + (1 : Int32))), .val (.long y1), .second]
      refine XS.istoreN X0.here hx rfl (hb hby d2_70) rfl (l' := A0) rfl ?_
      show Steps p.tables e below (s₁.setTop (mkF m 71 A0 [])) _
      let A1 : Array Slot := #[.val (.ref a1), .val (.ref a2), .val (.int v106), .val (.ref a1), .val (.int (2 : Int32)), .val (.int ((0 : Int32) + (1 : Int32))), .val (.long x1), .second, .val (.ref a2), .val (.int (2 : Int32)), .val (.int (((0 : Int32) + (1 : Int32)) + (1 : Int32))), .val (.long y1), .second]
      refine XS.iinc X0.here hx rfl (hb hby d2_71) rfl (l' := A1) rfl ?_
      show Steps p.tables e below (s₁.setTop (mkF m 74 A1 [])) _
      refine XS.goto X0.here hx rfl (pc0 := 74) (pc' := 35) rfl (hb hby d2_74) (by decide) (by decide) ?_
      show Steps p.tables e below (s₁.setTop (mkF m 35 A1 [])) _
      refine XS.iload X0.here hx rfl (hb hby d2_35) rfl ?_
      show Steps p.tables e below (s₁.setTop (mkF m 37 A1 [(.int (((0 : Int32) + (1 : Int32)) + (1 : Int32)))])) _
      refine XS.iload X0.here hx rfl (hb hby d2_37) rfl ?_
      show Steps p.tables e below (s₁.setTop (mkF m 39 A1 [(.int (2 : Int32)), (.int (((0 : Int32) + (1 : Int32)) + (1 : Int32)))])) _
      refine XS.icmpYes X0.here hx rfl (pc0 := 39) (pc' := 77) rfl (hb hby d2_39) rfl (flt (by decide : ¬ ((((0 : Int32) + (1 : Int32)) + (1 : Int32)) < (2 : Int32)))).2.1 (by decide) (by decide) ?_
      show Steps p.tables e below (s₁.setTop (mkF m 77 A1 [])) _
      let A2 : Array Slot := #[.val (.ref a1), .val (.ref a2), .val (.int v106), .val (.ref a1), .val (.int (2 : Int32)), .val (.int (((0 : Int32) + (1 : Int32)) + (1 : Int32))), .val (.long x1), .second, .val (.ref a2), .val (.int (2 : Int32)), .val (.int (((0 : Int32) + (1 : Int32)) + (1 : Int32))), .val (.long y1), .second]
      refine XS.iinc X0.here hx rfl (hb hby d2_77) rfl (l' := A2) rfl ?_
      show Steps p.tables e below (s₁.setTop (mkF m 80 A2 [])) _
      refine XS.goto X0.here hx rfl (pc0 := 80) (pc' := 11) rfl (hb hby d2_80) (by decide) (by decide) ?_
      show Steps p.tables e below (s₁.setTop (mkF m 11 A2 [])) _
      refine XS.iload X0.here hx rfl (hb hby d2_11) rfl ?_
      show Steps p.tables e below (s₁.setTop (mkF m 13 A2 [(.int (((0 : Int32) + (1 : Int32)) + (1 : Int32)))])) _
      refine XS.iload X0.here hx rfl (hb hby d2_13) rfl ?_
      show Steps p.tables e below (s₁.setTop (mkF m 15 A2 [(.int (2 : Int32)), (.int (((0 : Int32) + (1 : Int32)) + (1 : Int32)))])) _
      refine XS.icmpYes X0.here hx rfl (pc0 := 15) (pc' := 83) rfl (hb hby d2_15) rfl (flt (by decide : ¬ ((((0 : Int32) + (1 : Int32)) + (1 : Int32)) < (2 : Int32)))).2.1 (by decide) (by decide) ?_
      show Steps p.tables e below (s₁.setTop (mkF m 83 A2 [])) _
      refine XS.iloadN X0.here hx rfl (hb hby d2_83) rfl ?_
      exact kt)
  obtain ⟨fs, hr, hrun, hended, hW, hsame⟩ := X0.leave (v := some (.int (nar .boolean v106))) (fun h => by rw [Bd.returns] at h; cases h)
  refine ⟨_, _, k108 _ ?_, hrun, hended, _, _, rfl, ?_, ⟨_, rfl⟩, hW, hsame.mono (by decide) (by decide)⟩
  · show Steps p.tables e below (s₁.setTop (mkF m 84 #[.val (.ref a1), .val (.ref a2), .val (.int v106), .val (.ref a1), .val (.int (2 : Int32)), .val (.int (((0 : Int32) + (1 : Int32)) + (1 : Int32))), .val (.long x1), .second, .val (.ref a2), .val (.int (2 : Int32)), .val (.int (((0 : Int32) + (1 : Int32)) + (1 : Int32))), .val (.long y1), .second] [(.int v106)])) _
    exact retN X0 hx (t := .boolean) Bd.returns (by simp) (hb hby d2_84) hr
  · show Q_rm2_22 Z x0 x1 y0 y1 h0 n0 _ s₁.heap _
    rw [e0]
    exact ⟨by rw [show v106 = own_nbo [x0, x1] [y0, y1] from by rw [hv106, hv99, hv89, hv82]; rfl]; exact congrArg (fun z => some (Value.int z)) (own_nar _ _), N0, rfl⟩
theorem pd_0 : parseMethodDescriptor "(II)I" = some ⟨[.int, .int], some .int⟩ := by decide +kernel
theorem pd_1 : parseMethodDescriptor "([J[J)Z" = some ⟨[(.array .long), (.array .long)], some .boolean⟩ := by decide +kernel
theorem pn_c1 : plainName "com/example/conformed/conformed/agreement/EnumeratorNextButOnePinLaw" = true := by first | (simp [plainName, overriddenIn]; done) | decide +kernel
theorem ef_rm0 (m : MethodId) (x0 : Int64) (x1 : Int64) (x2 : Int64) (x3 : Int64) (x4 : Int32) (x5 : Int32) : entryFrame m #[(.long x0), (.long x1), (.long x2), (.long x3), (.int x4), (.int x5)] maxLocals = mkF m 0 #[.val (.long x0), .second, .val (.long x1), .second, .val (.long x2), .second, .val (.long x3), .second, .val (.int x4), .val (.int x5), .unset, .unset, .unset, .unset, .unset, .unset, .unset, .unset, .unset, .unset] [] := by first | (simp [entryFrame, mkF, argsToLocals, Value.category, maxLocals]; done) | rfl
def Q_rm0 (Z : State) (q1 q2 q3 q4 : Int64) (p5 p6 : Int32) (h0 : Heap) (n0 : Nat) (v : Option Value) (h : Heap) (L : List Loc) : Prop := v = some (.int 1) ∧ Fr n0 L
set_option maxRecDepth 65536 in
set_option maxHeartbeats 40000000 in
theorem rm0 (l : Launch) (Z : State) (a0 : Array Value) (hw : ∀ d ∈ tables_1, d.before a0 Z = true) (ws : List Jvm.Cond) (q1 q2 q3 q4 : Int64) (p5 p6 : Int32) (h0 : Heap) (n0 : Nat) (Z0 : n0 ≤ h0.size) :
    MetFree l x (head1 (Jvm.Cond.code x code maxLocals ret :: ws) room_1) (fun a U => a = #[(.long q1), (.long q2), (.long q3), (.long q4), (.int p5), (.int p6)] ∧ Z.Warmed39 U.vm ∧ U.heap = h0) (fun _ _ _ _ _ => True) (fun _ U o U' => ∃ v L, o = .returned v ∧ Q_rm0 Z q1 q2 q3 q4 p5 p6 h0 n0 v U'.heap L ∧ FrameEnd U o U' L room_1.cells room_1.slots) := by
  refine MetFree.of_bodySF (plainFor_of_name pn_c1) hisR ?_
  intro p e s m args below meth c s₁ Bd hml0 hP hK
  obtain ⟨rfl, hZ, hh⟩ := hP
  have hx := Bd.exec
  have hby := Bd.bytes
  have hml : c.maxLocals = 20 := hml0
  have hown : s.vm.findClass "com/example/conformed/conformed/agreement/EnumeratorNextButOnePinLaw" = some m.cls := findClass_of_methodNamed Bd.named
  have hnm := (name_of_methodNamed Bd.named Bd.method).1
  have X0 : Stand p l e room_1 s m #[(.long q1), (.long q2), (.long q3), (.long q4), (.int p5), (.int p6)] below meth c s₁ [] 0 0 := Stand.of_body Bd
  have e0 : s₁.heap = h0 := by rw [← hh, Bd.state]; rfl
  have N0 := Fr.nil n0
  have pre0 : ∀ t, Steps p.tables e below (s₁.setTop (mkF m 0 #[.val (.long q1), .second, .val (.long q2), .second, .val (.long q3), .second, .val (.long q4), .second, .val (.int p5), .val (.int p6), .unset, .unset, .unset, .unset, .unset, .unset, .unset, .unset, .unset, .unset] [])) t → Steps p.tables e below (s₁.setTop (entryFrame m #[(.long q1), (.long q2), (.long q3), (.long q4), (.int p5), (.int p6)] maxLocals)) t := fun t k => castTop (ef_rm0 m q1 q2 q3 q4 p5 p6) k
  obtain ⟨_, _, ⟨T109, L109, k109, n109⟩, -, X109, ⟨Lc109, hQ109, l109, y109, z109⟩, st109⟩ := Jvm.LawKit.callS X0 hx (y := (⟨"java/lang/Math", "min", "(II)I"⟩ : MethodName)) hown (mvT hZ (hw _ (List.mem_of_getElem? (i := 0) rfl))) (mvT hZ (hw _ (List.mem_of_getElem? (i := 1) rfl))) (mvT hZ (hw _ (List.mem_of_getElem? (i := 2) rfl))) (mvT hZ (hw _ (List.mem_of_getElem? (i := 3) rfl))) (by decide) (backOf (W := 0) (rm1 l Z a0 hw [] (p5 &&& (3 : Int32)) (2 : Int32) h0 n0 Z0) hZ (hw _ (List.mem_of_getElem? (i := 3) rfl)) (hw _ (List.mem_of_getElem? (i := 2) rfl)) (by decide) (by decide)) (g := (mkF m 5 #[.val (.long q1), .second, .val (.long q2), .second, .val (.long q3), .second, .val (.long q4), .second, .val (.int p5), .val (.int p6), .unset, .unset, .unset, .unset, .unset, .unset, .unset, .unset, .unset, .unset] [(.int (2 : Int32)), (.int (p5 &&& (3 : Int32)))])) rfl (by rw [hml]; rfl) (argsL := [(.int (p5 &&& (3 : Int32))), (.int (2 : Int32))]) (rest := []) (lenOf pd_0 rfl) rfl (by show 2 * 0 + _ ≤ _; exact Nat.le_of_eq rfl) (hb hby at_5) (fun _ _ => ⟨rfl, e0, (by decide : 0 + 0 ≤ _), (by decide : 0 + 0 ≤ _)⟩)
  dsimp only [Pt.U, Pt.locs, Pt.cells, Pt.slots] at X109 l109 y109 z109 st109 hQ109
  subst l109 y109 z109
  obtain ⟨rfl, N109q, e109⟩ := hQ109
  have N109 := Fr.app N0 N109q
  obtain ⟨np, hnp, hnp3⟩ := own_np p5
  have k110 : ∀ t, Steps p.tables e below (T109.setTop (mkF m 8 #[.val (.long q1), .second, .val (.long q2), .second, .val (.long q3), .second, .val (.long q4), .second, .val (.int p5), .val (.int p6), .unset, .unset, .unset, .unset, .unset, .unset, .unset, .unset, .unset, .unset] [(.int (own_min (p5 &&& (3 : Int32)) (2 : Int32)))])) t → Steps p.tables e below (s₁.setTop (entryFrame m #[(.long q1), (.long q2), (.long q3), (.long q4), (.int p5), (.int p6)] maxLocals)) t := fun t kt => pre0 t (by
      let A0 : Array Slot := #[.val (.long q1), .second, .val (.long q2), .second, .val (.long q3), .second, .val (.long q4), .second, .val (.int p5), .val (.int p6), .unset, .unset, .unset, .unset, .unset, .unset, .unset, .unset, .unset, .unset]
      show Steps p.tables e below (s₁.setTop (mkF m 0 A0 [])) _
      refine XS.iload X0.here hx rfl (hb hby at_0) rfl ?_
      show Steps p.tables e below (s₁.setTop (mkF m 2 A0 [(.int p5)])) _
      refine XS.iconst X0.here hx rfl (hb hby at_2) ?_
      show Steps p.tables e below (s₁.setTop (mkF m 3 A0 [(.int (3 : Int32)), (.int p5)])) _
      refine XS.iand X0.here hx rfl (hb hby at_3) rfl ?_
      show Steps p.tables e below (s₁.setTop (mkF m 4 A0 [(.int (p5 &&& (3 : Int32)))])) _
      refine XS.iconst X0.here hx rfl (hb hby at_4) ?_
      show Steps p.tables e below (s₁.setTop (mkF m 5 A0 [(.int (2 : Int32)), (.int (p5 &&& (3 : Int32)))])) _
      refine st109 _ ?_
      exact kt)
  rw [← hnp] at k110
  obtain ⟨_, _, ⟨T111, L111, k111, n111⟩, -, X111, ⟨Lc111, hQ111, l111, y111, z111⟩, st111⟩ := Jvm.LawKit.callS X109 hx (y := (⟨"java/lang/Math", "min", "(II)I"⟩ : MethodName)) hown (mvT hZ (hw _ (List.mem_of_getElem? (i := 0) rfl))) (mvT hZ (hw _ (List.mem_of_getElem? (i := 1) rfl))) (mvT hZ (hw _ (List.mem_of_getElem? (i := 2) rfl))) (mvT hZ (hw _ (List.mem_of_getElem? (i := 3) rfl))) (by decide) (backOf (W := 0) (rm1 l Z a0 hw [] ((p5 >>> ((2 : Int32) &&& 31)) &&& (3 : Int32)) (2 : Int32) h0 n0 Z0) hZ (hw _ (List.mem_of_getElem? (i := 3) rfl)) (hw _ (List.mem_of_getElem? (i := 2) rfl)) (by decide) (by decide)) (g := (mkF m 17 #[.val (.long q1), .second, .val (.long q2), .second, .val (.long q3), .second, .val (.long q4), .second, .val (.int p5), .val (.int p6), .val (.int np), .unset, .unset, .unset, .unset, .unset, .unset, .unset, .unset, .unset] [(.int (2 : Int32)), (.int ((p5 >>> ((2 : Int32) &&& 31)) &&& (3 : Int32)))])) rfl (by rw [hml]; rfl) (argsL := [(.int ((p5 >>> ((2 : Int32) &&& 31)) &&& (3 : Int32))), (.int (2 : Int32))]) (rest := []) (lenOf pd_0 rfl) rfl (by show 2 * 0 + _ ≤ _; exact Nat.le_of_eq rfl) (hb hby at_17) (fun _ _ => ⟨rfl, e109, (by decide : 0 + 0 ≤ _), (by decide : 0 + 0 ≤ _)⟩)
  dsimp only [Pt.U, Pt.locs, Pt.cells, Pt.slots] at X111 l111 y111 z111 st111 hQ111
  subst l111 y111 z111
  obtain ⟨rfl, N111q, e111⟩ := hQ111
  have N111 := Fr.app N109 N111q
  obtain ⟨ne, hne, hne3⟩ := own_np (p5 >>> ((2 : Int32) &&& 31))
  have k112 : ∀ t, Steps p.tables e below (T111.setTop (mkF m 20 #[.val (.long q1), .second, .val (.long q2), .second, .val (.long q3), .second, .val (.long q4), .second, .val (.int p5), .val (.int p6), .val (.int np), .unset, .unset, .unset, .unset, .unset, .unset, .unset, .unset, .unset] [(.int (own_min ((p5 >>> ((2 : Int32) &&& 31)) &&& (3 : Int32)) (2 : Int32)))])) t → Steps p.tables e below (s₁.setTop (entryFrame m #[(.long q1), (.long q2), (.long q3), (.long q4), (.int p5), (.int p6)] maxLocals)) t := fun t kt => k110 t (by
      show Steps p.tables e below (T109.setTop (mkF m 8 #[.val (.long q1), .second, .val (.long q2), .second, .val (.long q3), .second, .val (.long q4), .second, .val (.int p5), .val (.int p6), .unset, .unset, .unset, .unset, .unset, .unset, .unset, .unset, .unset, .unset] [(.int np)])) _
      let A0 : Array Slot := #[.val (.long q1), .second, .val (.long q2), .second, .val (.long q3), .second, .val (.long q4), .second, .val (.int p5), .val (.int p6), .val (.int np), .unset, .unset, .unset, .unset, .unset, .unset, .unset, .unset, .unset]
      refine XS.istore X109.here hx rfl (hb hby at_8) rfl (l' := A0) rfl ?_
      show Steps p.tables e below (T109.setTop (mkF m 10 A0 [])) _
      refine XS.iload X109.here hx rfl (hb hby at_10) rfl ?_
      show Steps p.tables e below (T109.setTop (mkF m 12 A0 [(.int p5)])) _
      refine XS.iconst X109.here hx rfl (hb hby at_12) ?_
      show Steps p.tables e below (T109.setTop (mkF m 13 A0 [(.int (2 : Int32)), (.int p5)])) _
      refine XS.ishr X109.here hx rfl (hb hby at_13) rfl ?_
      show Steps p.tables e below (T109.setTop (mkF m 14 A0 [(.int (p5 >>> ((2 : Int32) &&& 31)))])) _
      refine XS.iconst X109.here hx rfl (hb hby at_14) ?_
      show Steps p.tables e below (T109.setTop (mkF m 15 A0 [(.int (3 : Int32)), (.int (p5 >>> ((2 : Int32) &&& 31)))])) _
      refine XS.iand X109.here hx rfl (hb hby at_15) rfl ?_
      show Steps p.tables e below (T109.setTop (mkF m 16 A0 [(.int ((p5 >>> ((2 : Int32) &&& 31)) &&& (3 : Int32)))])) _
      refine XS.iconst X109.here hx rfl (hb hby at_16) ?_
      show Steps p.tables e below (T109.setTop (mkF m 17 A0 [(.int (2 : Int32)), (.int ((p5 >>> ((2 : Int32) &&& 31)) &&& (3 : Int32)))])) _
      refine st111 _ ?_
      exact kt)
  rw [← hne] at k112
  have k113 : ∀ t, Steps p.tables e below (T111.setTop (mkF m 34 #[.val (.long q1), .second, .val (.long q2), .second, .val (.long q3), .second, .val (.long q4), .second, .val (.int p5), .val (.int p6), .val (.int np), .val (.int ne), .val (.long q3), .second, .val (.long q4), .second, .unset, .unset, .unset, .unset] [(.int (p6 &&& (1 : Int32)))])) t → Steps p.tables e below (s₁.setTop (entryFrame m #[(.long q1), (.long q2), (.long q3), (.long q4), (.int p5), (.int p6)] maxLocals)) t := fun t kt => k112 t (by
      show Steps p.tables e below (T111.setTop (mkF m 20 #[.val (.long q1), .second, .val (.long q2), .second, .val (.long q3), .second, .val (.long q4), .second, .val (.int p5), .val (.int p6), .val (.int np), .unset, .unset, .unset, .unset, .unset, .unset, .unset, .unset, .unset] [(.int ne)])) _
      let A0 : Array Slot := #[.val (.long q1), .second, .val (.long q2), .second, .val (.long q3), .second, .val (.long q4), .second, .val (.int p5), .val (.int p6), .val (.int np), .val (.int ne), .unset, .unset, .unset, .unset, .unset, .unset, .unset, .unset]
      refine XS.istore X111.here hx rfl (hb hby at_20) rfl (l' := A0) rfl ?_
      show Steps p.tables e below (T111.setTop (mkF m 22 A0 [])) _
      refine XS.lload X111.here hx rfl (hb hby at_22) rfl ?_
      show Steps p.tables e below (T111.setTop (mkF m 24 A0 [(.long q3)])) _
      let A1 : Array Slot := #[.val (.long q1), .second, .val (.long q2), .second, .val (.long q3), .second, .val (.long q4), .second, .val (.int p5), .val (.int p6), .val (.int np), .val (.int ne), .val (.long q3), .second, .unset, .unset, .unset, .unset, .unset, .unset]
      refine XS.lstore X111.here hx rfl (hb hby at_24) rfl (l' := A1) rfl ?_
      show Steps p.tables e below (T111.setTop (mkF m 26 A1 [])) _
      refine XS.lload X111.here hx rfl (hb hby at_26) rfl ?_
      show Steps p.tables e below (T111.setTop (mkF m 28 A1 [(.long q4)])) _
      let A2 : Array Slot := #[.val (.long q1), .second, .val (.long q2), .second, .val (.long q3), .second, .val (.long q4), .second, .val (.int p5), .val (.int p6), .val (.int np), .val (.int ne), .val (.long q3), .second, .val (.long q4), .second, .unset, .unset, .unset, .unset]
      refine XS.lstore X111.here hx rfl (hb hby at_28) rfl (l' := A2) rfl ?_
      show Steps p.tables e below (T111.setTop (mkF m 30 A2 [])) _
      refine XS.iload X111.here hx rfl (hb hby at_30) rfl ?_
      show Steps p.tables e below (T111.setTop (mkF m 32 A2 [(.int p6)])) _
      refine XS.iconst X111.here hx rfl (hb hby at_32) ?_
      show Steps p.tables e below (T111.setTop (mkF m 33 A2 [(.int (1 : Int32)), (.int p6)])) _
      refine XS.iand X111.here hx rfl (hb hby at_33) rfl ?_
      exact kt)
  obtain ⟨v115, hv115⟩ : ∃ v : Int64, v = (if (p6 &&& (1 : Int32)) = (0 : Int32) then q3 else ((q2 - (1 : Int64)) - (((p6 >>> ((2 : Int32) &&& 31)) &&& (1 : Int32)).toInt64))) := ⟨_, rfl⟩
  have k116 : ∀ t, Steps p.tables e below (T111.setTop (mkF m 50 #[.val (.long q1), .second, .val (.long q2), .second, .val (.long q3), .second, .val (.long q4), .second, .val (.int p5), .val (.int p6), .val (.int np), .val (.int ne), .val (.long v115), .second, .val (.long q4), .second, .unset, .unset, .unset, .unset] [])) t → Steps p.tables e below (s₁.setTop (entryFrame m #[(.long q1), (.long q2), (.long q3), (.long q4), (.int p5), (.int p6)] maxLocals)) t := by
    intro t kt
    by_cases hc34_114 : (p6 &&& (1 : Int32)) = (0 : Int32)
    · rw [show v115 = q3 from (hv115.trans (if_pos hc34_114))] at kt
      exact k113 t (by
          show Steps p.tables e below (T111.setTop (mkF m 34 #[.val (.long q1), .second, .val (.long q2), .second, .val (.long q3), .second, .val (.long q4), .second, .val (.int p5), .val (.int p6), .val (.int np), .val (.int ne), .val (.long q3), .second, .val (.long q4), .second, .unset, .unset, .unset, .unset] [(.int (p6 &&& (1 : Int32)))])) _
          refine XS.ifYes X111.here hx rfl (pc0 := 34) (pc' := 50) rfl (hb hby at_34) rfl ((if0 _ _).trans (teq hc34_114).1) (by decide) (by decide) ?_
          exact kt)
    · rw [show v115 = ((q2 - (1 : Int64)) - (((p6 >>> ((2 : Int32) &&& 31)) &&& (1 : Int32)).toInt64)) from (hv115.trans (if_neg hc34_114))] at kt
      exact k113 t (by
          let A0 : Array Slot := #[.val (.long q1), .second, .val (.long q2), .second, .val (.long q3), .second, .val (.long q4), .second, .val (.int p5), .val (.int p6), .val (.int np), .val (.int ne), .val (.long q3), .second, .val (.long q4), .second, .unset, .unset, .unset, .unset]
          show Steps p.tables e below (T111.setTop (mkF m 34 A0 [(.int (p6 &&& (1 : Int32)))])) _
          refine XS.ifNo X111.here hx rfl (hb hby at_34) rfl ((if0 _ _).trans (feq hc34_114).1) ?_
          show Steps p.tables e below (T111.setTop (mkF m 37 A0 [])) _
          refine XS.lloadN X111.here hx rfl (hb hby at_37) rfl ?_
          show Steps p.tables e below (T111.setTop (mkF m 38 A0 [(.long q2)])) _
          refine XS.lconst X111.here hx rfl (hb hby at_38) ?_
          show Steps p.tables e below (T111.setTop (mkF m 39 A0 [(.long (1 : Int64)), (.long q2)])) _
          refine XS.lsub X111.here hx rfl (hb hby at_39) rfl ?_
          show Steps p.tables e below (T111.setTop (mkF m 40 A0 [(.long (q2 - (1 : Int64)))])) _
          refine XS.iload X111.here hx rfl (hb hby at_40) rfl ?_
          show Steps p.tables e below (T111.setTop (mkF m 42 A0 [(.int p6), (.long (q2 - (1 : Int64)))])) _
          refine XS.iconst X111.here hx rfl (hb hby at_42) ?_
          show Steps p.tables e below (T111.setTop (mkF m 43 A0 [(.int (2 : Int32)), (.int p6), (.long (q2 - (1 : Int64)))])) _
          refine XS.ishr X111.here hx rfl (hb hby at_43) rfl ?_
          show Steps p.tables e below (T111.setTop (mkF m 44 A0 [(.int (p6 >>> ((2 : Int32) &&& 31))), (.long (q2 - (1 : Int64)))])) _
          refine XS.iconst X111.here hx rfl (hb hby at_44) ?_
          show Steps p.tables e below (T111.setTop (mkF m 45 A0 [(.int (1 : Int32)), (.int (p6 >>> ((2 : Int32) &&& 31))), (.long (q2 - (1 : Int64)))])) _
          refine XS.iand X111.here hx rfl (hb hby at_45) rfl ?_
          show Steps p.tables e below (T111.setTop (mkF m 46 A0 [(.int ((p6 >>> ((2 : Int32) &&& 31)) &&& (1 : Int32))), (.long (q2 - (1 : Int64)))])) _
          refine XS.i2l X111.here hx rfl (hb hby at_46) rfl ?_
          show Steps p.tables e below (T111.setTop (mkF m 47 A0 [(.long (((p6 >>> ((2 : Int32) &&& 31)) &&& (1 : Int32)).toInt64)), (.long (q2 - (1 : Int64)))])) _
          refine XS.lsub X111.here hx rfl (hb hby at_47) rfl ?_
          show Steps p.tables e below (T111.setTop (mkF m 48 A0 [(.long ((q2 - (1 : Int64)) - (((p6 >>> ((2 : Int32) &&& 31)) &&& (1 : Int32)).toInt64)))])) _
          refine XS.lstore X111.here hx rfl (hb hby at_48) rfl (l' := #[.val (.long q1), .second, .val (.long q2), .second, .val (.long q3), .second, .val (.long q4), .second, .val (.int p5), .val (.int p6), .val (.int np), .val (.int ne), .val (.long ((q2 - (1 : Int64)) - (((p6 >>> ((2 : Int32) &&& 31)) &&& (1 : Int32)).toInt64))), .second, .val (.long q4), .second, .unset, .unset, .unset, .unset]) rfl ?_
          exact kt)
  have k117 : ∀ t, Steps p.tables e below (T111.setTop (mkF m 54 #[.val (.long q1), .second, .val (.long q2), .second, .val (.long q3), .second, .val (.long q4), .second, .val (.int p5), .val (.int p6), .val (.int np), .val (.int ne), .val (.long v115), .second, .val (.long q4), .second, .unset, .unset, .unset, .unset] [(.int (p6 &&& (2 : Int32)))])) t → Steps p.tables e below (s₁.setTop (entryFrame m #[(.long q1), (.long q2), (.long q3), (.long q4), (.int p5), (.int p6)] maxLocals)) t := fun t kt => k116 t (by
      let A0 : Array Slot := #[.val (.long q1), .second, .val (.long q2), .second, .val (.long q3), .second, .val (.long q4), .second, .val (.int p5), .val (.int p6), .val (.int np), .val (.int ne), .val (.long v115), .second, .val (.long q4), .second, .unset, .unset, .unset, .unset]
      show Steps p.tables e below (T111.setTop (mkF m 50 A0 [])) _
      refine XS.iload X111.here hx rfl (hb hby at_50) rfl ?_
      show Steps p.tables e below (T111.setTop (mkF m 52 A0 [(.int p6)])) _
      refine XS.iconst X111.here hx rfl (hb hby at_52) ?_
      show Steps p.tables e below (T111.setTop (mkF m 53 A0 [(.int (2 : Int32)), (.int p6)])) _
      refine XS.iand X111.here hx rfl (hb hby at_53) rfl ?_
      exact kt)
  obtain ⟨v119, hv119⟩ : ∃ v : Int64, v = (if (p6 &&& (2 : Int32)) = (0 : Int32) then q4 else ((q1 - (1 : Int64)) - (((p6 >>> ((3 : Int32) &&& 31)) &&& (1 : Int32)).toInt64))) := ⟨_, rfl⟩
  have k120 : ∀ t, Steps p.tables e below (T111.setTop (mkF m 70 #[.val (.long q1), .second, .val (.long q2), .second, .val (.long q3), .second, .val (.long q4), .second, .val (.int p5), .val (.int p6), .val (.int np), .val (.int ne), .val (.long v115), .second, .val (.long v119), .second, .unset, .unset, .unset, .unset] [])) t → Steps p.tables e below (s₁.setTop (entryFrame m #[(.long q1), (.long q2), (.long q3), (.long q4), (.int p5), (.int p6)] maxLocals)) t := by
    intro t kt
    by_cases hc54_118 : (p6 &&& (2 : Int32)) = (0 : Int32)
    · rw [show v119 = q4 from (hv119.trans (if_pos hc54_118))] at kt
      exact k117 t (by
          show Steps p.tables e below (T111.setTop (mkF m 54 #[.val (.long q1), .second, .val (.long q2), .second, .val (.long q3), .second, .val (.long q4), .second, .val (.int p5), .val (.int p6), .val (.int np), .val (.int ne), .val (.long v115), .second, .val (.long q4), .second, .unset, .unset, .unset, .unset] [(.int (p6 &&& (2 : Int32)))])) _
          refine XS.ifYes X111.here hx rfl (pc0 := 54) (pc' := 70) rfl (hb hby at_54) rfl ((if0 _ _).trans (teq hc54_118).1) (by decide) (by decide) ?_
          exact kt)
    · rw [show v119 = ((q1 - (1 : Int64)) - (((p6 >>> ((3 : Int32) &&& 31)) &&& (1 : Int32)).toInt64)) from (hv119.trans (if_neg hc54_118))] at kt
      exact k117 t (by
          let A0 : Array Slot := #[.val (.long q1), .second, .val (.long q2), .second, .val (.long q3), .second, .val (.long q4), .second, .val (.int p5), .val (.int p6), .val (.int np), .val (.int ne), .val (.long v115), .second, .val (.long q4), .second, .unset, .unset, .unset, .unset]
          show Steps p.tables e below (T111.setTop (mkF m 54 A0 [(.int (p6 &&& (2 : Int32)))])) _
          refine XS.ifNo X111.here hx rfl (hb hby at_54) rfl ((if0 _ _).trans (feq hc54_118).1) ?_
          show Steps p.tables e below (T111.setTop (mkF m 57 A0 [])) _
          refine XS.lloadN X111.here hx rfl (hb hby at_57) rfl ?_
          show Steps p.tables e below (T111.setTop (mkF m 58 A0 [(.long q1)])) _
          refine XS.lconst X111.here hx rfl (hb hby at_58) ?_
          show Steps p.tables e below (T111.setTop (mkF m 59 A0 [(.long (1 : Int64)), (.long q1)])) _
          refine XS.lsub X111.here hx rfl (hb hby at_59) rfl ?_
          show Steps p.tables e below (T111.setTop (mkF m 60 A0 [(.long (q1 - (1 : Int64)))])) _
          refine XS.iload X111.here hx rfl (hb hby at_60) rfl ?_
          show Steps p.tables e below (T111.setTop (mkF m 62 A0 [(.int p6), (.long (q1 - (1 : Int64)))])) _
          refine XS.iconst X111.here hx rfl (hb hby at_62) ?_
          show Steps p.tables e below (T111.setTop (mkF m 63 A0 [(.int (3 : Int32)), (.int p6), (.long (q1 - (1 : Int64)))])) _
          refine XS.ishr X111.here hx rfl (hb hby at_63) rfl ?_
          show Steps p.tables e below (T111.setTop (mkF m 64 A0 [(.int (p6 >>> ((3 : Int32) &&& 31))), (.long (q1 - (1 : Int64)))])) _
          refine XS.iconst X111.here hx rfl (hb hby at_64) ?_
          show Steps p.tables e below (T111.setTop (mkF m 65 A0 [(.int (1 : Int32)), (.int (p6 >>> ((3 : Int32) &&& 31))), (.long (q1 - (1 : Int64)))])) _
          refine XS.iand X111.here hx rfl (hb hby at_65) rfl ?_
          show Steps p.tables e below (T111.setTop (mkF m 66 A0 [(.int ((p6 >>> ((3 : Int32) &&& 31)) &&& (1 : Int32))), (.long (q1 - (1 : Int64)))])) _
          refine XS.i2l X111.here hx rfl (hb hby at_66) rfl ?_
          show Steps p.tables e below (T111.setTop (mkF m 67 A0 [(.long (((p6 >>> ((3 : Int32) &&& 31)) &&& (1 : Int32)).toInt64)), (.long (q1 - (1 : Int64)))])) _
          refine XS.lsub X111.here hx rfl (hb hby at_67) rfl ?_
          show Steps p.tables e below (T111.setTop (mkF m 68 A0 [(.long ((q1 - (1 : Int64)) - (((p6 >>> ((3 : Int32) &&& 31)) &&& (1 : Int32)).toInt64)))])) _
          refine XS.lstore X111.here hx rfl (hb hby at_68) rfl (l' := #[.val (.long q1), .second, .val (.long q2), .second, .val (.long q3), .second, .val (.long q4), .second, .val (.int p5), .val (.int p6), .val (.int np), .val (.int ne), .val (.long v115), .second, .val (.long ((q1 - (1 : Int64)) - (((p6 >>> ((3 : Int32) &&& 31)) &&& (1 : Int32)).toInt64))), .second, .unset, .unset, .unset, .unset]) rfl ?_
          exact kt)
  rcases hnp3 with rfl | rfl | rfl
  · rcases hne3 with rfl | rfl | rfl
    · obtain ⟨T121, h121, kc121, X121, e121, E121, A121, st121⟩ := newP X111 hx hZ (hw _ (List.mem_of_getElem? (i := 4) rfl)) e111 (g := (mkF m 72 #[.val (.long q1), .second, .val (.long q2), .second, .val (.long q3), .second, .val (.long q4), .second, .val (.int p5), .val (.int p6), .val (.int (0 : Int32)), .val (.int (0 : Int32)), .val (.long v115), .second, .val (.long v119), .second, .unset, .unset, .unset, .unset] [(.int (0 : Int32))])) rfl (hb hby at_72) rfl (by decide) (cap := 0) (by decide) (by decide) (by decide) (by decide)
      obtain ⟨b121, g121⟩ : ∃ z, z = h0.size := ⟨_, rfl⟩
      rw [← g121] at A121 st121
      have g_b121 : n0 ≤ b121 := Nat.le_trans Z0 (Nat.le_of_eq g121.symm)
      have Z_122 : n0 ≤ h121.size := Nat.le_trans Z0 E121.1
      have V_b121 : Arv Z h121 b121 kc121 .long (0 : Int32) [] (.long (0 : Int64)) := Arv.new A121 (by decide)
      obtain ⟨T123, h123, kc123, X123, e123, E123, A123, st123⟩ := newP X121 hx hZ (hw _ (List.mem_of_getElem? (i := 4) rfl)) e121 (g := (mkF m 78 #[.val (.long q1), .second, .val (.long q2), .second, .val (.long q3), .second, .val (.long q4), .second, .val (.int p5), .val (.int p6), .val (.int (0 : Int32)), .val (.int (0 : Int32)), .val (.long v115), .second, .val (.long v119), .second, .val (.ref b121), .unset, .unset, .unset] [(.int (0 : Int32))])) rfl (hb hby at_78) rfl (by decide) (cap := 0) (by decide) (by decide) (by decide) (by decide)
      obtain ⟨b123, g123⟩ : ∃ z, z = h121.size := ⟨_, rfl⟩
      rw [← g123] at A123 st123
      have ne_b121_b123 : b121 ≠ b123 := Nat.ne_of_lt (Nat.lt_of_lt_of_le V_b121.lt (Nat.le_of_eq g123.symm))
      have g_b123 : n0 ≤ b123 := Nat.le_trans Z_122 (Nat.le_of_eq g123.symm)
      have V_b121'124 := V_b121.ext E123
      have Z_125 : n0 ≤ h123.size := Nat.le_trans Z_122 E123.1
      have V_b123 : Arv Z h123 b123 kc123 .long (0 : Int32) [] (.long (0 : Int64)) := Arv.new A123 (by decide)
      have k126 : ∀ t, Steps p.tables e below (T123.setTop (mkF m 128 #[.val (.long q1), .second, .val (.long q2), .second, .val (.long q3), .second, .val (.long q4), .second, .val (.int p5), .val (.int p6), .val (.int (0 : Int32)), .val (.int (0 : Int32)), .val (.long v115), .second, .val (.long v119), .second, .val (.ref b121), .val (.ref b123), .unset, .unset] [])) t → Steps p.tables e below (s₁.setTop (entryFrame m #[(.long q1), (.long q2), (.long q3), (.long q4), (.int p5), (.int p6)] maxLocals)) t := fun t kt => k120 t (by
          let A0 : Array Slot := #[.val (.long q1), .second, .val (.long q2), .second, .val (.long q3), .second, .val (.long q4), .second, .val (.int p5), .val (.int p6), .val (.int (0 : Int32)), .val (.int (0 : Int32)), .val (.long v115), .second, .val (.long v119), .second, .unset, .unset, .unset, .unset]
          show Steps p.tables e below (T111.setTop (mkF m 70 A0 [])) _
          refine XS.iload X111.here hx rfl (hb hby at_70) rfl ?_
          show Steps p.tables e below (T111.setTop (mkF m 72 A0 [(.int (0 : Int32))])) _
          refine st121 _ ?_
          show Steps p.tables e below (T121.setTop (mkF m 74 A0 [(.ref b121)])) _
          let A1 : Array Slot := #[.val (.long q1), .second, .val (.long q2), .second, .val (.long q3), .second, .val (.long q4), .second, .val (.int p5), .val (.int p6), .val (.int (0 : Int32)), .val (.int (0 : Int32)), .val (.long v115), .second, .val (.long v119), .second, .val (.ref b121), .unset, .unset, .unset]
          refine XS.astore X121.here hx rfl (hb hby at_74) rfl rfl (l' := A1) rfl ?_
          show Steps p.tables e below (T121.setTop (mkF m 76 A1 [])) _
          refine XS.iload X121.here hx rfl (hb hby at_76) rfl ?_
          show Steps p.tables e below (T121.setTop (mkF m 78 A1 [(.int (0 : Int32))])) _
          refine st123 _ ?_
          show Steps p.tables e below (T123.setTop (mkF m 80 A1 [(.ref b123)])) _
          let A2 : Array Slot := #[.val (.long q1), .second, .val (.long q2), .second, .val (.long q3), .second, .val (.long q4), .second, .val (.int p5), .val (.int p6), .val (.int (0 : Int32)), .val (.int (0 : Int32)), .val (.long v115), .second, .val (.long v119), .second, .val (.ref b121), .val (.ref b123), .unset, .unset]
          refine XS.astore X123.here hx rfl (hb hby at_80) rfl rfl (l' := A2) rfl ?_
          show Steps p.tables e below (T123.setTop (mkF m 82 A2 [])) _
          refine XS.iload X123.here hx rfl (hb hby at_82) rfl ?_
          show Steps p.tables e below (T123.setTop (mkF m 84 A2 [(.int (0 : Int32))])) _
          refine XS.iconst X123.here hx rfl (hb hby at_84) ?_
          show Steps p.tables e below (T123.setTop (mkF m 85 A2 [(.int (1 : Int32)), (.int (0 : Int32))])) _
          refine XS.icmpYes X123.here hx rfl (pc0 := 85) (pc' := 93) rfl (hb hby at_85) rfl (tlt (by decide : (0 : Int32) < (1 : Int32))).1 (by decide) (by decide) ?_
          show Steps p.tables e below (T123.setTop (mkF m 93 A2 [])) _
          refine XS.iload X123.here hx rfl (hb hby at_93) rfl ?_
          show Steps p.tables e below (T123.setTop (mkF m 95 A2 [(.int (0 : Int32))])) _
          refine XS.iconst X123.here hx rfl (hb hby at_95) ?_
          show Steps p.tables e below (T123.setTop (mkF m 96 A2 [(.int (2 : Int32)), (.int (0 : Int32))])) _
          refine XS.icmpYes X123.here hx rfl (pc0 := 96) (pc' := 104) rfl (hb hby at_96) rfl (tlt (by decide : (0 : Int32) < (2 : Int32))).1 (by decide) (by decide) ?_
          show Steps p.tables e below (T123.setTop (mkF m 104 A2 [])) _
          refine XS.iload X123.here hx rfl (hb hby at_104) rfl ?_
          show Steps p.tables e below (T123.setTop (mkF m 106 A2 [(.int (0 : Int32))])) _
          refine XS.iconst X123.here hx rfl (hb hby at_106) ?_
          show Steps p.tables e below (T123.setTop (mkF m 107 A2 [(.int (1 : Int32)), (.int (0 : Int32))])) _
          refine XS.icmpYes X123.here hx rfl (pc0 := 107) (pc' := 116) rfl (hb hby at_107) rfl (tlt (by decide : (0 : Int32) < (1 : Int32))).1 (by decide) (by decide) ?_
          show Steps p.tables e below (T123.setTop (mkF m 116 A2 [])) _
          refine XS.iload X123.here hx rfl (hb hby at_116) rfl ?_
          show Steps p.tables e below (T123.setTop (mkF m 118 A2 [(.int (0 : Int32))])) _
          refine XS.iconst X123.here hx rfl (hb hby at_118) ?_
          show Steps p.tables e below (T123.setTop (mkF m 119 A2 [(.int (2 : Int32)), (.int (0 : Int32))])) _
          refine XS.icmpYes X123.here hx rfl (pc0 := 119) (pc' := 128) rfl (hb hby at_119) rfl (tlt (by decide : (0 : Int32) < (2 : Int32))).1 (by decide) (by decide) ?_
          exact kt)
      have k127 : ∀ t, Steps p.tables e below (T123.setTop (mkF m 225 #[.val (.long q1), .second, .val (.long q2), .second, .val (.long q3), .second, .val (.long q4), .second, .val (.int p5), .val (.int p6), .val (.int (0 : Int32)), .val (.int (0 : Int32)), .val (.long v115), .second, .val (.long v119), .second, .val (.ref b121), .val (.ref b123), .unset, .unset] [(.int (0 : Int32))])) t → Steps p.tables e below (s₁.setTop (entryFrame m #[(.long q1), (.long q2), (.long q3), (.long q4), (.int p5), (.int p6)] maxLocals)) t := fun t kt => k126 t (by
          let A0 : Array Slot := #[.val (.long q1), .second, .val (.long q2), .second, .val (.long q3), .second, .val (.long q4), .second, .val (.int p5), .val (.int p6), .val (.int (0 : Int32)), .val (.int (0 : Int32)), .val (.long v115), .second, .val (.long v119), .second, .val (.ref b121), .val (.ref b123), .unset, .unset]
          show Steps p.tables e below (T123.setTop (mkF m 128 A0 [])) _
          refine XS.iload X123.here hx rfl (hb hby at_128) rfl ?_
          show Steps p.tables e below (T123.setTop (mkF m 130 A0 [(.int (0 : Int32))])) _
          refine XS.iconst X123.here hx rfl (hb hby at_130) ?_
          show Steps p.tables e below (T123.setTop (mkF m 131 A0 [(.int (1 : Int32)), (.int (0 : Int32))])) _
          refine XS.icmpYes X123.here hx rfl (pc0 := 131) (pc' := 151) rfl (hb hby at_131) rfl (tlt (by decide : (0 : Int32) < (1 : Int32))).1 (by decide) (by decide) ?_
          show Steps p.tables e below (T123.setTop (mkF m 151 A0 [])) _
          refine XS.iload X123.here hx rfl (hb hby at_151) rfl ?_
          show Steps p.tables e below (T123.setTop (mkF m 153 A0 [(.int (0 : Int32))])) _
          refine XS.iconst X123.here hx rfl (hb hby at_153) ?_
          show Steps p.tables e below (T123.setTop (mkF m 154 A0 [(.int (1 : Int32)), (.int (0 : Int32))])) _
          refine XS.icmpYes X123.here hx rfl (pc0 := 154) (pc' := 174) rfl (hb hby at_154) rfl (tlt (by decide : (0 : Int32) < (1 : Int32))).1 (by decide) (by decide) ?_
          show Steps p.tables e below (T123.setTop (mkF m 174 A0 [])) _
          refine XS.iload X123.here hx rfl (hb hby at_174) rfl ?_
          show Steps p.tables e below (T123.setTop (mkF m 176 A0 [(.int (0 : Int32))])) _
          refine XS.iconst X123.here hx rfl (hb hby at_176) ?_
          show Steps p.tables e below (T123.setTop (mkF m 177 A0 [(.int (2 : Int32)), (.int (0 : Int32))])) _
          refine XS.icmpYes X123.here hx rfl (pc0 := 177) (pc' := 197) rfl (hb hby at_177) rfl (tlt (by decide : (0 : Int32) < (2 : Int32))).1 (by decide) (by decide) ?_
          show Steps p.tables e below (T123.setTop (mkF m 197 A0 [])) _
          refine XS.iload X123.here hx rfl (hb hby at_197) rfl ?_
          show Steps p.tables e below (T123.setTop (mkF m 199 A0 [(.int (0 : Int32))])) _
          refine XS.iconst X123.here hx rfl (hb hby at_199) ?_
          show Steps p.tables e below (T123.setTop (mkF m 200 A0 [(.int (2 : Int32)), (.int (0 : Int32))])) _
          refine XS.icmpYes X123.here hx rfl (pc0 := 200) (pc' := 224) rfl (hb hby at_200) rfl (tlt (by decide : (0 : Int32) < (2 : Int32))).1 (by decide) (by decide) ?_
          show Steps p.tables e below (T123.setTop (mkF m 224 A0 [])) _
          refine XS.iconst X123.here hx rfl (hb hby at_224) ?_
          exact kt)
      have hfin : own_nbo [] [] = (0 : Int32) := rfl
      obtain ⟨_, _, ⟨T128, L128, k128, n128⟩, -, X128, ⟨Lc128, hQ128, l128, y128, z128⟩, st128⟩ := Jvm.LawKit.callS X123 hx (y := (⟨"com/example/conformed/conformed/agreement/Enumerator", "nextButOne", "([J[J)Z"⟩ : MethodName)) hown (mvT hZ (hw _ (List.mem_of_getElem? (i := 5) rfl))) (mvT hZ (hw _ (List.mem_of_getElem? (i := 6) rfl))) (mvT hZ (hw _ (List.mem_of_getElem? (i := 7) rfl))) (mvT hZ (hw _ (List.mem_of_getElem? (i := 8) rfl))) (by decide) (backOf (W := 0) (rm2_00 l Z a0 hw [] b121 b123 kc121 kc123  h123 n0 Z_125 V_b121'124 V_b123) hZ (hw _ (List.mem_of_getElem? (i := 8) rfl)) (hw _ (List.mem_of_getElem? (i := 7) rfl)) (by decide) (by decide)) (g := (mkF m 231 #[.val (.long q1), .second, .val (.long q2), .second, .val (.long q3), .second, .val (.long q4), .second, .val (.int p5), .val (.int p6), .val (.int (0 : Int32)), .val (.int (0 : Int32)), .val (.long v115), .second, .val (.long v119), .second, .val (.ref b121), .val (.ref b123), .val (.int (0 : Int32)), .unset] [(.ref b123), (.ref b121)])) rfl (by rw [hml]; rfl) (argsL := [(.ref b121), (.ref b123)]) (rest := []) (lenOf pd_1 rfl) rfl (by show 2 * 0 + _ ≤ _; exact Nat.le_of_eq rfl) (hb hby at_231) (fun _ _ => ⟨rfl, e123, (by decide : 2 + 0 ≤ _), (by decide : 0 + 0 ≤ _)⟩)
      dsimp only [Pt.U, Pt.locs, Pt.cells, Pt.slots] at X128 l128 y128 z128 st128 hQ128
      subst l128 y128 z128
      obtain ⟨rfl, N128q, e128⟩ := hQ128
      have N128 := Fr.app N111 N128q
      have k129 : ∀ t, Steps p.tables e below (T128.setTop (mkF m 248 #[.val (.long q1), .second, .val (.long q2), .second, .val (.long q3), .second, .val (.long q4), .second, .val (.int p5), .val (.int p6), .val (.int (0 : Int32)), .val (.int (0 : Int32)), .val (.long v115), .second, .val (.long v119), .second, .val (.ref b121), .val (.ref b123), .val (.int (0 : Int32)), .val (.int (own_nbo [] []))] [(.int (1 : Int32))])) t → Steps p.tables e below (s₁.setTop (entryFrame m #[(.long q1), (.long q2), (.long q3), (.long q4), (.int p5), (.int p6)] maxLocals)) t := fun t kt => k127 t (by
          show Steps p.tables e below (T123.setTop (mkF m 225 #[.val (.long q1), .second, .val (.long q2), .second, .val (.long q3), .second, .val (.long q4), .second, .val (.int p5), .val (.int p6), .val (.int (0 : Int32)), .val (.int (0 : Int32)), .val (.long v115), .second, .val (.long v119), .second, .val (.ref b121), .val (.ref b123), .unset, .unset] [(.int (0 : Int32))])) _
          let A0 : Array Slot := #[.val (.long q1), .second, .val (.long q2), .second, .val (.long q3), .second, .val (.long q4), .second, .val (.int p5), .val (.int p6), .val (.int (0 : Int32)), .val (.int (0 : Int32)), .val (.long v115), .second, .val (.long v119), .second, .val (.ref b121), .val (.ref b123), .val (.int (0 : Int32)), .unset]
          refine XS.istore X123.here hx rfl (hb hby at_225) rfl (l' := A0) rfl ?_
          show Steps p.tables e below (T123.setTop (mkF m 227 A0 [])) _
          refine XS.aload X123.here hx rfl (hb hby at_227) rfl rfl ?_
          show Steps p.tables e below (T123.setTop (mkF m 229 A0 [(.ref b121)])) _
          refine XS.aload X123.here hx rfl (hb hby at_229) rfl rfl ?_
          show Steps p.tables e below (T123.setTop (mkF m 231 A0 [(.ref b123), (.ref b121)])) _
          refine st128 _ ?_
          show Steps p.tables e below (T128.setTop (mkF m 234 A0 [(.int (own_nbo [] []))])) _
          let A1 : Array Slot := #[.val (.long q1), .second, .val (.long q2), .second, .val (.long q3), .second, .val (.long q4), .second, .val (.int p5), .val (.int p6), .val (.int (0 : Int32)), .val (.int (0 : Int32)), .val (.long v115), .second, .val (.long v119), .second, .val (.ref b121), .val (.ref b123), .val (.int (0 : Int32)), .val (.int (own_nbo [] []))]
          refine XS.istore X128.here hx rfl (hb hby at_234) rfl (l' := A1) rfl ?_
          show Steps p.tables e below (T128.setTop (mkF m 236 A1 [])) _
          refine XS.iload X128.here hx rfl (hb hby at_236) rfl ?_
          show Steps p.tables e below (T128.setTop (mkF m 238 A1 [(.int (own_nbo [] []))])) _
          refine XS.iload X128.here hx rfl (hb hby at_238) rfl ?_
          show Steps p.tables e below (T128.setTop (mkF m 240 A1 [(.int (0 : Int32)), (.int (own_nbo [] []))])) _
          refine XS.icmpNo X128.here hx rfl (hb hby at_240) rfl (teq hfin).2 ?_
          show Steps p.tables e below (T128.setTop (mkF m 243 A1 [])) _
          refine XS.iconst X128.here hx rfl (hb hby at_243) ?_
          show Steps p.tables e below (T128.setTop (mkF m 244 A1 [(.int (1 : Int32))])) _
          refine XS.goto X128.here hx rfl (pc0 := 244) (pc' := 248) rfl (hb hby at_244) (by decide) (by decide) ?_
          exact kt)
      obtain ⟨fs, hr, hrun, hended, hW, hsame⟩ := X128.leave (v := some (.int (1 : Int32))) (fun h => by rw [Bd.returns] at h; cases h)
      refine ⟨_, _, k129 _ ?_, hrun, hended, _, _, rfl, ?_, ⟨_, rfl⟩, hW, hsame.mono (by decide) (by decide)⟩
      · show Steps p.tables e below (T128.setTop (mkF m 248 #[.val (.long q1), .second, .val (.long q2), .second, .val (.long q3), .second, .val (.long q4), .second, .val (.int p5), .val (.int p6), .val (.int (0 : Int32)), .val (.int (0 : Int32)), .val (.long v115), .second, .val (.long v119), .second, .val (.ref b121), .val (.ref b123), .val (.int (0 : Int32)), .val (.int (own_nbo [] []))] [(.int (1 : Int32))])) _
        exact retN X128 hx (t := .boolean) Bd.returns (by simp) (hb hby at_248) hr
      · show Q_rm0 Z q1 q2 q3 q4 p5 p6 h0 n0 _ T128.heap _
        rw [e128]
        exact ⟨rfl, N128⟩
    · obtain ⟨T130, h130, kc130, X130, e130, E130, A130, st130⟩ := newP X111 hx hZ (hw _ (List.mem_of_getElem? (i := 4) rfl)) e111 (g := (mkF m 72 #[.val (.long q1), .second, .val (.long q2), .second, .val (.long q3), .second, .val (.long q4), .second, .val (.int p5), .val (.int p6), .val (.int (0 : Int32)), .val (.int (1 : Int32)), .val (.long v115), .second, .val (.long v119), .second, .unset, .unset, .unset, .unset] [(.int (0 : Int32))])) rfl (hb hby at_72) rfl (by decide) (cap := 0) (by decide) (by decide) (by decide) (by decide)
      obtain ⟨b130, g130⟩ : ∃ z, z = h0.size := ⟨_, rfl⟩
      rw [← g130] at A130 st130
      have g_b130 : n0 ≤ b130 := Nat.le_trans Z0 (Nat.le_of_eq g130.symm)
      have Z_131 : n0 ≤ h130.size := Nat.le_trans Z0 E130.1
      have V_b130 : Arv Z h130 b130 kc130 .long (0 : Int32) [] (.long (0 : Int64)) := Arv.new A130 (by decide)
      obtain ⟨T132, h132, kc132, X132, e132, E132, A132, st132⟩ := newP X130 hx hZ (hw _ (List.mem_of_getElem? (i := 4) rfl)) e130 (g := (mkF m 78 #[.val (.long q1), .second, .val (.long q2), .second, .val (.long q3), .second, .val (.long q4), .second, .val (.int p5), .val (.int p6), .val (.int (0 : Int32)), .val (.int (1 : Int32)), .val (.long v115), .second, .val (.long v119), .second, .val (.ref b130), .unset, .unset, .unset] [(.int (1 : Int32))])) rfl (hb hby at_78) rfl (by decide) (cap := 1) (by decide) (by decide) (by decide) (by decide)
      obtain ⟨b132, g132⟩ : ∃ z, z = h130.size := ⟨_, rfl⟩
      rw [← g132] at A132 st132
      have ne_b130_b132 : b130 ≠ b132 := Nat.ne_of_lt (Nat.lt_of_lt_of_le V_b130.lt (Nat.le_of_eq g132.symm))
      have g_b132 : n0 ≤ b132 := Nat.le_trans Z_131 (Nat.le_of_eq g132.symm)
      have V_b130'133 := V_b130.ext E132
      have Z_134 : n0 ≤ h132.size := Nat.le_trans Z_131 E132.1
      have V_b132 : Arv Z h132 b132 kc132 .long (1 : Int32) [(.long (0 : Int64))] (.long (0 : Int64)) := (Arv.new A132 (by decide)).pad (pad_rep [] (.long (0 : Int64)) 1)
      obtain ⟨cl135, Ar135, q135, S135, M135, H135, G135⟩ := id V_b132
      have hin136 : ¬ ((0 : Int32) < 0 ∨ cl135.slots.size ≤ ((0 : Int32)).toNatClampNeg) := inb_of S135 ⟨by decide, by decide⟩
      obtain ⟨T136, h136, X136, e136, W136, st136⟩ := stJ X132 hx hZ e132 Ar135 (j := (0 : Int32)) hin136 (g := (mkF m 115 #[.val (.long q1), .second, .val (.long q2), .second, .val (.long q3), .second, .val (.long q4), .second, .val (.int p5), .val (.int p6), .val (.int (0 : Int32)), .val (.int (1 : Int32)), .val (.long v115), .second, .val (.long v119), .second, .val (.ref b130), .val (.ref b132), .unset, .unset] [(.long v115), (.int (0 : Int32)), (.ref b132)])) rfl rfl (hb hby at_115)
      have V_b132_136 : Arv Z h136 b132 kc132 .long (1 : Int32) [(.long v115)] (.long (0 : Int64)) := Arv.set Ar135 q135 S135 M135 H135 G135 rfl W136 0 rfl (Nat.le_of_ble_eq_true rfl)
      have V_b130'137 := V_b130'133.other W136 ne_b130_b132
      have Z_138 : n0 ≤ h136.size := Nat.le_trans Z_134 (Nat.le_of_eq (Wr.size W136).symm)
      have N136 := Fr.snoc X136 N111 g_b132
      have k139 : ∀ t, Steps p.tables e below (T136.setTop (mkF m 128 #[.val (.long q1), .second, .val (.long q2), .second, .val (.long q3), .second, .val (.long q4), .second, .val (.int p5), .val (.int p6), .val (.int (0 : Int32)), .val (.int (1 : Int32)), .val (.long v115), .second, .val (.long v119), .second, .val (.ref b130), .val (.ref b132), .unset, .unset] [])) t → Steps p.tables e below (s₁.setTop (entryFrame m #[(.long q1), (.long q2), (.long q3), (.long q4), (.int p5), (.int p6)] maxLocals)) t := fun t kt => k120 t (by
          let A0 : Array Slot := #[.val (.long q1), .second, .val (.long q2), .second, .val (.long q3), .second, .val (.long q4), .second, .val (.int p5), .val (.int p6), .val (.int (0 : Int32)), .val (.int (1 : Int32)), .val (.long v115), .second, .val (.long v119), .second, .unset, .unset, .unset, .unset]
          show Steps p.tables e below (T111.setTop (mkF m 70 A0 [])) _
          refine XS.iload X111.here hx rfl (hb hby at_70) rfl ?_
          show Steps p.tables e below (T111.setTop (mkF m 72 A0 [(.int (0 : Int32))])) _
          refine st130 _ ?_
          show Steps p.tables e below (T130.setTop (mkF m 74 A0 [(.ref b130)])) _
          let A1 : Array Slot := #[.val (.long q1), .second, .val (.long q2), .second, .val (.long q3), .second, .val (.long q4), .second, .val (.int p5), .val (.int p6), .val (.int (0 : Int32)), .val (.int (1 : Int32)), .val (.long v115), .second, .val (.long v119), .second, .val (.ref b130), .unset, .unset, .unset]
          refine XS.astore X130.here hx rfl (hb hby at_74) rfl rfl (l' := A1) rfl ?_
          show Steps p.tables e below (T130.setTop (mkF m 76 A1 [])) _
          refine XS.iload X130.here hx rfl (hb hby at_76) rfl ?_
          show Steps p.tables e below (T130.setTop (mkF m 78 A1 [(.int (1 : Int32))])) _
          refine st132 _ ?_
          show Steps p.tables e below (T132.setTop (mkF m 80 A1 [(.ref b132)])) _
          let A2 : Array Slot := #[.val (.long q1), .second, .val (.long q2), .second, .val (.long q3), .second, .val (.long q4), .second, .val (.int p5), .val (.int p6), .val (.int (0 : Int32)), .val (.int (1 : Int32)), .val (.long v115), .second, .val (.long v119), .second, .val (.ref b130), .val (.ref b132), .unset, .unset]
          refine XS.astore X132.here hx rfl (hb hby at_80) rfl rfl (l' := A2) rfl ?_
          show Steps p.tables e below (T132.setTop (mkF m 82 A2 [])) _
          refine XS.iload X132.here hx rfl (hb hby at_82) rfl ?_
          show Steps p.tables e below (T132.setTop (mkF m 84 A2 [(.int (0 : Int32))])) _
          refine XS.iconst X132.here hx rfl (hb hby at_84) ?_
          show Steps p.tables e below (T132.setTop (mkF m 85 A2 [(.int (1 : Int32)), (.int (0 : Int32))])) _
          refine XS.icmpYes X132.here hx rfl (pc0 := 85) (pc' := 93) rfl (hb hby at_85) rfl (tlt (by decide : (0 : Int32) < (1 : Int32))).1 (by decide) (by decide) ?_
          show Steps p.tables e below (T132.setTop (mkF m 93 A2 [])) _
          refine XS.iload X132.here hx rfl (hb hby at_93) rfl ?_
          show Steps p.tables e below (T132.setTop (mkF m 95 A2 [(.int (0 : Int32))])) _
          refine XS.iconst X132.here hx rfl (hb hby at_95) ?_
          show Steps p.tables e below (T132.setTop (mkF m 96 A2 [(.int (2 : Int32)), (.int (0 : Int32))])) _
          refine XS.icmpYes X132.here hx rfl (pc0 := 96) (pc' := 104) rfl (hb hby at_96) rfl (tlt (by decide : (0 : Int32) < (2 : Int32))).1 (by decide) (by decide) ?_
          show Steps p.tables e below (T132.setTop (mkF m 104 A2 [])) _
          refine XS.iload X132.here hx rfl (hb hby at_104) rfl ?_
          show Steps p.tables e below (T132.setTop (mkF m 106 A2 [(.int (1 : Int32))])) _
          refine XS.iconst X132.here hx rfl (hb hby at_106) ?_
          show Steps p.tables e below (T132.setTop (mkF m 107 A2 [(.int (1 : Int32)), (.int (1 : Int32))])) _
          refine XS.icmpNo X132.here hx rfl (hb hby at_107) rfl (flt (by decide : ¬ ((1 : Int32) < (1 : Int32)))).1 ?_
          show Steps p.tables e below (T132.setTop (mkF m 110 A2 [])) _
          refine XS.aload X132.here hx rfl (hb hby at_110) rfl rfl ?_
          show Steps p.tables e below (T132.setTop (mkF m 112 A2 [(.ref b132)])) _
          refine XS.iconst X132.here hx rfl (hb hby at_112) ?_
          show Steps p.tables e below (T132.setTop (mkF m 113 A2 [(.int (0 : Int32)), (.ref b132)])) _
          refine XS.lload X132.here hx rfl (hb hby at_113) rfl ?_
          show Steps p.tables e below (T132.setTop (mkF m 115 A2 [(.long v115), (.int (0 : Int32)), (.ref b132)])) _
          refine st136 _ ?_
          show Steps p.tables e below (T136.setTop (mkF m 116 A2 [])) _
          refine XS.iload X136.here hx rfl (hb hby at_116) rfl ?_
          show Steps p.tables e below (T136.setTop (mkF m 118 A2 [(.int (1 : Int32))])) _
          refine XS.iconst X136.here hx rfl (hb hby at_118) ?_
          show Steps p.tables e below (T136.setTop (mkF m 119 A2 [(.int (2 : Int32)), (.int (1 : Int32))])) _
          refine XS.icmpYes X136.here hx rfl (pc0 := 119) (pc' := 128) rfl (hb hby at_119) rfl (tlt (by decide : (1 : Int32) < (2 : Int32))).1 (by decide) (by decide) ?_
          exact kt)
      have k140 : ∀ t, Steps p.tables e below (T136.setTop (mkF m 225 #[.val (.long q1), .second, .val (.long q2), .second, .val (.long q3), .second, .val (.long q4), .second, .val (.int p5), .val (.int p6), .val (.int (0 : Int32)), .val (.int (1 : Int32)), .val (.long v115), .second, .val (.long v119), .second, .val (.ref b130), .val (.ref b132), .unset, .unset] [(.int (0 : Int32))])) t → Steps p.tables e below (s₁.setTop (entryFrame m #[(.long q1), (.long q2), (.long q3), (.long q4), (.int p5), (.int p6)] maxLocals)) t := fun t kt => k139 t (by
          let A0 : Array Slot := #[.val (.long q1), .second, .val (.long q2), .second, .val (.long q3), .second, .val (.long q4), .second, .val (.int p5), .val (.int p6), .val (.int (0 : Int32)), .val (.int (1 : Int32)), .val (.long v115), .second, .val (.long v119), .second, .val (.ref b130), .val (.ref b132), .unset, .unset]
          show Steps p.tables e below (T136.setTop (mkF m 128 A0 [])) _
          refine XS.iload X136.here hx rfl (hb hby at_128) rfl ?_
          show Steps p.tables e below (T136.setTop (mkF m 130 A0 [(.int (0 : Int32))])) _
          refine XS.iconst X136.here hx rfl (hb hby at_130) ?_
          show Steps p.tables e below (T136.setTop (mkF m 131 A0 [(.int (1 : Int32)), (.int (0 : Int32))])) _
          refine XS.icmpYes X136.here hx rfl (pc0 := 131) (pc' := 151) rfl (hb hby at_131) rfl (tlt (by decide : (0 : Int32) < (1 : Int32))).1 (by decide) (by decide) ?_
          show Steps p.tables e below (T136.setTop (mkF m 151 A0 [])) _
          refine XS.iload X136.here hx rfl (hb hby at_151) rfl ?_
          show Steps p.tables e below (T136.setTop (mkF m 153 A0 [(.int (0 : Int32))])) _
          refine XS.iconst X136.here hx rfl (hb hby at_153) ?_
          show Steps p.tables e below (T136.setTop (mkF m 154 A0 [(.int (1 : Int32)), (.int (0 : Int32))])) _
          refine XS.icmpYes X136.here hx rfl (pc0 := 154) (pc' := 174) rfl (hb hby at_154) rfl (tlt (by decide : (0 : Int32) < (1 : Int32))).1 (by decide) (by decide) ?_
          show Steps p.tables e below (T136.setTop (mkF m 174 A0 [])) _
          refine XS.iload X136.here hx rfl (hb hby at_174) rfl ?_
          show Steps p.tables e below (T136.setTop (mkF m 176 A0 [(.int (0 : Int32))])) _
          refine XS.iconst X136.here hx rfl (hb hby at_176) ?_
          show Steps p.tables e below (T136.setTop (mkF m 177 A0 [(.int (2 : Int32)), (.int (0 : Int32))])) _
          refine XS.icmpYes X136.here hx rfl (pc0 := 177) (pc' := 197) rfl (hb hby at_177) rfl (tlt (by decide : (0 : Int32) < (2 : Int32))).1 (by decide) (by decide) ?_
          show Steps p.tables e below (T136.setTop (mkF m 197 A0 [])) _
          refine XS.iload X136.here hx rfl (hb hby at_197) rfl ?_
          show Steps p.tables e below (T136.setTop (mkF m 199 A0 [(.int (0 : Int32))])) _
          refine XS.iconst X136.here hx rfl (hb hby at_199) ?_
          show Steps p.tables e below (T136.setTop (mkF m 200 A0 [(.int (2 : Int32)), (.int (0 : Int32))])) _
          refine XS.icmpYes X136.here hx rfl (pc0 := 200) (pc' := 224) rfl (hb hby at_200) rfl (tlt (by decide : (0 : Int32) < (2 : Int32))).1 (by decide) (by decide) ?_
          show Steps p.tables e below (T136.setTop (mkF m 224 A0 [])) _
          refine XS.iconst X136.here hx rfl (hb hby at_224) ?_
          exact kt)
      have hfin : own_nbo [] [v115] = (0 : Int32) := rfl
      obtain ⟨_, _, ⟨T141, L141, k141, n141⟩, -, X141, ⟨Lc141, hQ141, l141, y141, z141⟩, st141⟩ := Jvm.LawKit.callS X136 hx (y := (⟨"com/example/conformed/conformed/agreement/Enumerator", "nextButOne", "([J[J)Z"⟩ : MethodName)) hown (mvT hZ (hw _ (List.mem_of_getElem? (i := 5) rfl))) (mvT hZ (hw _ (List.mem_of_getElem? (i := 6) rfl))) (mvT hZ (hw _ (List.mem_of_getElem? (i := 7) rfl))) (mvT hZ (hw _ (List.mem_of_getElem? (i := 8) rfl))) (by decide) (backOf (W := 0) (rm2_01 l Z a0 hw [] b130 b132 kc130 kc132 v115 h136 n0 Z_138 V_b130'137 V_b132_136) hZ (hw _ (List.mem_of_getElem? (i := 8) rfl)) (hw _ (List.mem_of_getElem? (i := 7) rfl)) (by decide) (by decide)) (g := (mkF m 231 #[.val (.long q1), .second, .val (.long q2), .second, .val (.long q3), .second, .val (.long q4), .second, .val (.int p5), .val (.int p6), .val (.int (0 : Int32)), .val (.int (1 : Int32)), .val (.long v115), .second, .val (.long v119), .second, .val (.ref b130), .val (.ref b132), .val (.int (0 : Int32)), .unset] [(.ref b132), (.ref b130)])) rfl (by rw [hml]; rfl) (argsL := [(.ref b130), (.ref b132)]) (rest := []) (lenOf pd_1 rfl) rfl (by show 2 * 0 + _ ≤ _; exact Nat.le_of_eq rfl) (hb hby at_231) (fun _ _ => ⟨rfl, e136, (by decide : 2 + 0 ≤ _), (by decide : 1 + 0 ≤ _)⟩)
      dsimp only [Pt.U, Pt.locs, Pt.cells, Pt.slots] at X141 l141 y141 z141 st141 hQ141
      subst l141 y141 z141
      obtain ⟨rfl, N141q, e141⟩ := hQ141
      have N141 := Fr.app N136 N141q
      have k142 : ∀ t, Steps p.tables e below (T141.setTop (mkF m 248 #[.val (.long q1), .second, .val (.long q2), .second, .val (.long q3), .second, .val (.long q4), .second, .val (.int p5), .val (.int p6), .val (.int (0 : Int32)), .val (.int (1 : Int32)), .val (.long v115), .second, .val (.long v119), .second, .val (.ref b130), .val (.ref b132), .val (.int (0 : Int32)), .val (.int (own_nbo [] [v115]))] [(.int (1 : Int32))])) t → Steps p.tables e below (s₁.setTop (entryFrame m #[(.long q1), (.long q2), (.long q3), (.long q4), (.int p5), (.int p6)] maxLocals)) t := fun t kt => k140 t (by
          show Steps p.tables e below (T136.setTop (mkF m 225 #[.val (.long q1), .second, .val (.long q2), .second, .val (.long q3), .second, .val (.long q4), .second, .val (.int p5), .val (.int p6), .val (.int (0 : Int32)), .val (.int (1 : Int32)), .val (.long v115), .second, .val (.long v119), .second, .val (.ref b130), .val (.ref b132), .unset, .unset] [(.int (0 : Int32))])) _
          let A0 : Array Slot := #[.val (.long q1), .second, .val (.long q2), .second, .val (.long q3), .second, .val (.long q4), .second, .val (.int p5), .val (.int p6), .val (.int (0 : Int32)), .val (.int (1 : Int32)), .val (.long v115), .second, .val (.long v119), .second, .val (.ref b130), .val (.ref b132), .val (.int (0 : Int32)), .unset]
          refine XS.istore X136.here hx rfl (hb hby at_225) rfl (l' := A0) rfl ?_
          show Steps p.tables e below (T136.setTop (mkF m 227 A0 [])) _
          refine XS.aload X136.here hx rfl (hb hby at_227) rfl rfl ?_
          show Steps p.tables e below (T136.setTop (mkF m 229 A0 [(.ref b130)])) _
          refine XS.aload X136.here hx rfl (hb hby at_229) rfl rfl ?_
          show Steps p.tables e below (T136.setTop (mkF m 231 A0 [(.ref b132), (.ref b130)])) _
          refine st141 _ ?_
          show Steps p.tables e below (T141.setTop (mkF m 234 A0 [(.int (own_nbo [] [v115]))])) _
          let A1 : Array Slot := #[.val (.long q1), .second, .val (.long q2), .second, .val (.long q3), .second, .val (.long q4), .second, .val (.int p5), .val (.int p6), .val (.int (0 : Int32)), .val (.int (1 : Int32)), .val (.long v115), .second, .val (.long v119), .second, .val (.ref b130), .val (.ref b132), .val (.int (0 : Int32)), .val (.int (own_nbo [] [v115]))]
          refine XS.istore X141.here hx rfl (hb hby at_234) rfl (l' := A1) rfl ?_
          show Steps p.tables e below (T141.setTop (mkF m 236 A1 [])) _
          refine XS.iload X141.here hx rfl (hb hby at_236) rfl ?_
          show Steps p.tables e below (T141.setTop (mkF m 238 A1 [(.int (own_nbo [] [v115]))])) _
          refine XS.iload X141.here hx rfl (hb hby at_238) rfl ?_
          show Steps p.tables e below (T141.setTop (mkF m 240 A1 [(.int (0 : Int32)), (.int (own_nbo [] [v115]))])) _
          refine XS.icmpNo X141.here hx rfl (hb hby at_240) rfl (teq hfin).2 ?_
          show Steps p.tables e below (T141.setTop (mkF m 243 A1 [])) _
          refine XS.iconst X141.here hx rfl (hb hby at_243) ?_
          show Steps p.tables e below (T141.setTop (mkF m 244 A1 [(.int (1 : Int32))])) _
          refine XS.goto X141.here hx rfl (pc0 := 244) (pc' := 248) rfl (hb hby at_244) (by decide) (by decide) ?_
          exact kt)
      obtain ⟨fs, hr, hrun, hended, hW, hsame⟩ := X141.leave (v := some (.int (1 : Int32))) (fun h => by rw [Bd.returns] at h; cases h)
      refine ⟨_, _, k142 _ ?_, hrun, hended, _, _, rfl, ?_, ⟨_, rfl⟩, hW, hsame.mono (by decide) (by decide)⟩
      · show Steps p.tables e below (T141.setTop (mkF m 248 #[.val (.long q1), .second, .val (.long q2), .second, .val (.long q3), .second, .val (.long q4), .second, .val (.int p5), .val (.int p6), .val (.int (0 : Int32)), .val (.int (1 : Int32)), .val (.long v115), .second, .val (.long v119), .second, .val (.ref b130), .val (.ref b132), .val (.int (0 : Int32)), .val (.int (own_nbo [] [v115]))] [(.int (1 : Int32))])) _
        exact retN X141 hx (t := .boolean) Bd.returns (by simp) (hb hby at_248) hr
      · show Q_rm0 Z q1 q2 q3 q4 p5 p6 h0 n0 _ T141.heap _
        rw [e141]
        exact ⟨rfl, N141⟩
    · obtain ⟨T143, h143, kc143, X143, e143, E143, A143, st143⟩ := newP X111 hx hZ (hw _ (List.mem_of_getElem? (i := 4) rfl)) e111 (g := (mkF m 72 #[.val (.long q1), .second, .val (.long q2), .second, .val (.long q3), .second, .val (.long q4), .second, .val (.int p5), .val (.int p6), .val (.int (0 : Int32)), .val (.int (2 : Int32)), .val (.long v115), .second, .val (.long v119), .second, .unset, .unset, .unset, .unset] [(.int (0 : Int32))])) rfl (hb hby at_72) rfl (by decide) (cap := 0) (by decide) (by decide) (by decide) (by decide)
      obtain ⟨b143, g143⟩ : ∃ z, z = h0.size := ⟨_, rfl⟩
      rw [← g143] at A143 st143
      have g_b143 : n0 ≤ b143 := Nat.le_trans Z0 (Nat.le_of_eq g143.symm)
      have Z_144 : n0 ≤ h143.size := Nat.le_trans Z0 E143.1
      have V_b143 : Arv Z h143 b143 kc143 .long (0 : Int32) [] (.long (0 : Int64)) := Arv.new A143 (by decide)
      obtain ⟨T145, h145, kc145, X145, e145, E145, A145, st145⟩ := newP X143 hx hZ (hw _ (List.mem_of_getElem? (i := 4) rfl)) e143 (g := (mkF m 78 #[.val (.long q1), .second, .val (.long q2), .second, .val (.long q3), .second, .val (.long q4), .second, .val (.int p5), .val (.int p6), .val (.int (0 : Int32)), .val (.int (2 : Int32)), .val (.long v115), .second, .val (.long v119), .second, .val (.ref b143), .unset, .unset, .unset] [(.int (2 : Int32))])) rfl (hb hby at_78) rfl (by decide) (cap := 2) (by decide) (by decide) (by decide) (by decide)
      obtain ⟨b145, g145⟩ : ∃ z, z = h143.size := ⟨_, rfl⟩
      rw [← g145] at A145 st145
      have ne_b143_b145 : b143 ≠ b145 := Nat.ne_of_lt (Nat.lt_of_lt_of_le V_b143.lt (Nat.le_of_eq g145.symm))
      have g_b145 : n0 ≤ b145 := Nat.le_trans Z_144 (Nat.le_of_eq g145.symm)
      have V_b143'146 := V_b143.ext E145
      have Z_147 : n0 ≤ h145.size := Nat.le_trans Z_144 E145.1
      have V_b145 : Arv Z h145 b145 kc145 .long (2 : Int32) [(.long (0 : Int64)), (.long (0 : Int64))] (.long (0 : Int64)) := (Arv.new A145 (by decide)).pad (pad_rep [] (.long (0 : Int64)) 2)
      obtain ⟨cl148, Ar148, q148, S148, M148, H148, G148⟩ := id V_b145
      have hin149 : ¬ ((0 : Int32) < 0 ∨ cl148.slots.size ≤ ((0 : Int32)).toNatClampNeg) := inb_of S148 ⟨by decide, by decide⟩
      obtain ⟨T149, h149, X149, e149, W149, st149⟩ := stJ X145 hx hZ e145 Ar148 (j := (0 : Int32)) hin149 (g := (mkF m 115 #[.val (.long q1), .second, .val (.long q2), .second, .val (.long q3), .second, .val (.long q4), .second, .val (.int p5), .val (.int p6), .val (.int (0 : Int32)), .val (.int (2 : Int32)), .val (.long v115), .second, .val (.long v119), .second, .val (.ref b143), .val (.ref b145), .unset, .unset] [(.long v115), (.int (0 : Int32)), (.ref b145)])) rfl rfl (hb hby at_115)
      have V_b145_149 : Arv Z h149 b145 kc145 .long (2 : Int32) [(.long v115), (.long (0 : Int64))] (.long (0 : Int64)) := Arv.set Ar148 q148 S148 M148 H148 G148 rfl W149 0 rfl (Nat.le_of_ble_eq_true rfl)
      have V_b143'150 := V_b143'146.other W149 ne_b143_b145
      have Z_151 : n0 ≤ h149.size := Nat.le_trans Z_147 (Nat.le_of_eq (Wr.size W149).symm)
      have N149 := Fr.snoc X149 N111 g_b145
      obtain ⟨cl152, Ar152, q152, S152, M152, H152, G152⟩ := id V_b145_149
      have hin153 : ¬ ((1 : Int32) < 0 ∨ cl152.slots.size ≤ ((1 : Int32)).toNatClampNeg) := inb_of S152 ⟨by decide, by decide⟩
      obtain ⟨T153, h153, X153, e153, W153, st153⟩ := stJ X149 hx hZ e149 Ar152 (j := (1 : Int32)) hin153 (g := (mkF m 127 #[.val (.long q1), .second, .val (.long q2), .second, .val (.long q3), .second, .val (.long q4), .second, .val (.int p5), .val (.int p6), .val (.int (0 : Int32)), .val (.int (2 : Int32)), .val (.long v115), .second, .val (.long v119), .second, .val (.ref b143), .val (.ref b145), .unset, .unset] [(.long v119), (.int (1 : Int32)), (.ref b145)])) rfl rfl (hb hby at_127)
      have V_b145_153 : Arv Z h153 b145 kc145 .long (2 : Int32) [(.long v115), (.long v119)] (.long (0 : Int64)) := Arv.set Ar152 q152 S152 M152 H152 G152 rfl W153 1 rfl (Nat.le_of_ble_eq_true rfl)
      have V_b143'154 := V_b143'150.other W153 ne_b143_b145
      have Z_155 : n0 ≤ h153.size := Nat.le_trans Z_151 (Nat.le_of_eq (Wr.size W153).symm)
      have N153 := Fr.snoc X153 N149 g_b145
      have k156 : ∀ t, Steps p.tables e below (T153.setTop (mkF m 128 #[.val (.long q1), .second, .val (.long q2), .second, .val (.long q3), .second, .val (.long q4), .second, .val (.int p5), .val (.int p6), .val (.int (0 : Int32)), .val (.int (2 : Int32)), .val (.long v115), .second, .val (.long v119), .second, .val (.ref b143), .val (.ref b145), .unset, .unset] [])) t → Steps p.tables e below (s₁.setTop (entryFrame m #[(.long q1), (.long q2), (.long q3), (.long q4), (.int p5), (.int p6)] maxLocals)) t := fun t kt => k120 t (by
          let A0 : Array Slot := #[.val (.long q1), .second, .val (.long q2), .second, .val (.long q3), .second, .val (.long q4), .second, .val (.int p5), .val (.int p6), .val (.int (0 : Int32)), .val (.int (2 : Int32)), .val (.long v115), .second, .val (.long v119), .second, .unset, .unset, .unset, .unset]
          show Steps p.tables e below (T111.setTop (mkF m 70 A0 [])) _
          refine XS.iload X111.here hx rfl (hb hby at_70) rfl ?_
          show Steps p.tables e below (T111.setTop (mkF m 72 A0 [(.int (0 : Int32))])) _
          refine st143 _ ?_
          show Steps p.tables e below (T143.setTop (mkF m 74 A0 [(.ref b143)])) _
          let A1 : Array Slot := #[.val (.long q1), .second, .val (.long q2), .second, .val (.long q3), .second, .val (.long q4), .second, .val (.int p5), .val (.int p6), .val (.int (0 : Int32)), .val (.int (2 : Int32)), .val (.long v115), .second, .val (.long v119), .second, .val (.ref b143), .unset, .unset, .unset]
          refine XS.astore X143.here hx rfl (hb hby at_74) rfl rfl (l' := A1) rfl ?_
          show Steps p.tables e below (T143.setTop (mkF m 76 A1 [])) _
          refine XS.iload X143.here hx rfl (hb hby at_76) rfl ?_
          show Steps p.tables e below (T143.setTop (mkF m 78 A1 [(.int (2 : Int32))])) _
          refine st145 _ ?_
          show Steps p.tables e below (T145.setTop (mkF m 80 A1 [(.ref b145)])) _
          let A2 : Array Slot := #[.val (.long q1), .second, .val (.long q2), .second, .val (.long q3), .second, .val (.long q4), .second, .val (.int p5), .val (.int p6), .val (.int (0 : Int32)), .val (.int (2 : Int32)), .val (.long v115), .second, .val (.long v119), .second, .val (.ref b143), .val (.ref b145), .unset, .unset]
          refine XS.astore X145.here hx rfl (hb hby at_80) rfl rfl (l' := A2) rfl ?_
          show Steps p.tables e below (T145.setTop (mkF m 82 A2 [])) _
          refine XS.iload X145.here hx rfl (hb hby at_82) rfl ?_
          show Steps p.tables e below (T145.setTop (mkF m 84 A2 [(.int (0 : Int32))])) _
          refine XS.iconst X145.here hx rfl (hb hby at_84) ?_
          show Steps p.tables e below (T145.setTop (mkF m 85 A2 [(.int (1 : Int32)), (.int (0 : Int32))])) _
          refine XS.icmpYes X145.here hx rfl (pc0 := 85) (pc' := 93) rfl (hb hby at_85) rfl (tlt (by decide : (0 : Int32) < (1 : Int32))).1 (by decide) (by decide) ?_
          show Steps p.tables e below (T145.setTop (mkF m 93 A2 [])) _
          refine XS.iload X145.here hx rfl (hb hby at_93) rfl ?_
          show Steps p.tables e below (T145.setTop (mkF m 95 A2 [(.int (0 : Int32))])) _
          refine XS.iconst X145.here hx rfl (hb hby at_95) ?_
          show Steps p.tables e below (T145.setTop (mkF m 96 A2 [(.int (2 : Int32)), (.int (0 : Int32))])) _
          refine XS.icmpYes X145.here hx rfl (pc0 := 96) (pc' := 104) rfl (hb hby at_96) rfl (tlt (by decide : (0 : Int32) < (2 : Int32))).1 (by decide) (by decide) ?_
          show Steps p.tables e below (T145.setTop (mkF m 104 A2 [])) _
          refine XS.iload X145.here hx rfl (hb hby at_104) rfl ?_
          show Steps p.tables e below (T145.setTop (mkF m 106 A2 [(.int (2 : Int32))])) _
          refine XS.iconst X145.here hx rfl (hb hby at_106) ?_
          show Steps p.tables e below (T145.setTop (mkF m 107 A2 [(.int (1 : Int32)), (.int (2 : Int32))])) _
          refine XS.icmpNo X145.here hx rfl (hb hby at_107) rfl (flt (by decide : ¬ ((2 : Int32) < (1 : Int32)))).1 ?_
          show Steps p.tables e below (T145.setTop (mkF m 110 A2 [])) _
          refine XS.aload X145.here hx rfl (hb hby at_110) rfl rfl ?_
          show Steps p.tables e below (T145.setTop (mkF m 112 A2 [(.ref b145)])) _
          refine XS.iconst X145.here hx rfl (hb hby at_112) ?_
          show Steps p.tables e below (T145.setTop (mkF m 113 A2 [(.int (0 : Int32)), (.ref b145)])) _
          refine XS.lload X145.here hx rfl (hb hby at_113) rfl ?_
          show Steps p.tables e below (T145.setTop (mkF m 115 A2 [(.long v115), (.int (0 : Int32)), (.ref b145)])) _
          refine st149 _ ?_
          show Steps p.tables e below (T149.setTop (mkF m 116 A2 [])) _
          refine XS.iload X149.here hx rfl (hb hby at_116) rfl ?_
          show Steps p.tables e below (T149.setTop (mkF m 118 A2 [(.int (2 : Int32))])) _
          refine XS.iconst X149.here hx rfl (hb hby at_118) ?_
          show Steps p.tables e below (T149.setTop (mkF m 119 A2 [(.int (2 : Int32)), (.int (2 : Int32))])) _
          refine XS.icmpNo X149.here hx rfl (hb hby at_119) rfl (flt (by decide : ¬ ((2 : Int32) < (2 : Int32)))).1 ?_
          show Steps p.tables e below (T149.setTop (mkF m 122 A2 [])) _
          refine XS.aload X149.here hx rfl (hb hby at_122) rfl rfl ?_
          show Steps p.tables e below (T149.setTop (mkF m 124 A2 [(.ref b145)])) _
          refine XS.iconst X149.here hx rfl (hb hby at_124) ?_
          show Steps p.tables e below (T149.setTop (mkF m 125 A2 [(.int (1 : Int32)), (.ref b145)])) _
          refine XS.lload X149.here hx rfl (hb hby at_125) rfl ?_
          show Steps p.tables e below (T149.setTop (mkF m 127 A2 [(.long v119), (.int (1 : Int32)), (.ref b145)])) _
          refine st153 _ ?_
          exact kt)
      have k157 : ∀ t, Steps p.tables e below (T153.setTop (mkF m 225 #[.val (.long q1), .second, .val (.long q2), .second, .val (.long q3), .second, .val (.long q4), .second, .val (.int p5), .val (.int p6), .val (.int (0 : Int32)), .val (.int (2 : Int32)), .val (.long v115), .second, .val (.long v119), .second, .val (.ref b143), .val (.ref b145), .unset, .unset] [(.int (0 : Int32))])) t → Steps p.tables e below (s₁.setTop (entryFrame m #[(.long q1), (.long q2), (.long q3), (.long q4), (.int p5), (.int p6)] maxLocals)) t := fun t kt => k156 t (by
          let A0 : Array Slot := #[.val (.long q1), .second, .val (.long q2), .second, .val (.long q3), .second, .val (.long q4), .second, .val (.int p5), .val (.int p6), .val (.int (0 : Int32)), .val (.int (2 : Int32)), .val (.long v115), .second, .val (.long v119), .second, .val (.ref b143), .val (.ref b145), .unset, .unset]
          show Steps p.tables e below (T153.setTop (mkF m 128 A0 [])) _
          refine XS.iload X153.here hx rfl (hb hby at_128) rfl ?_
          show Steps p.tables e below (T153.setTop (mkF m 130 A0 [(.int (0 : Int32))])) _
          refine XS.iconst X153.here hx rfl (hb hby at_130) ?_
          show Steps p.tables e below (T153.setTop (mkF m 131 A0 [(.int (1 : Int32)), (.int (0 : Int32))])) _
          refine XS.icmpYes X153.here hx rfl (pc0 := 131) (pc' := 151) rfl (hb hby at_131) rfl (tlt (by decide : (0 : Int32) < (1 : Int32))).1 (by decide) (by decide) ?_
          show Steps p.tables e below (T153.setTop (mkF m 151 A0 [])) _
          refine XS.iload X153.here hx rfl (hb hby at_151) rfl ?_
          show Steps p.tables e below (T153.setTop (mkF m 153 A0 [(.int (0 : Int32))])) _
          refine XS.iconst X153.here hx rfl (hb hby at_153) ?_
          show Steps p.tables e below (T153.setTop (mkF m 154 A0 [(.int (1 : Int32)), (.int (0 : Int32))])) _
          refine XS.icmpYes X153.here hx rfl (pc0 := 154) (pc' := 174) rfl (hb hby at_154) rfl (tlt (by decide : (0 : Int32) < (1 : Int32))).1 (by decide) (by decide) ?_
          show Steps p.tables e below (T153.setTop (mkF m 174 A0 [])) _
          refine XS.iload X153.here hx rfl (hb hby at_174) rfl ?_
          show Steps p.tables e below (T153.setTop (mkF m 176 A0 [(.int (0 : Int32))])) _
          refine XS.iconst X153.here hx rfl (hb hby at_176) ?_
          show Steps p.tables e below (T153.setTop (mkF m 177 A0 [(.int (2 : Int32)), (.int (0 : Int32))])) _
          refine XS.icmpYes X153.here hx rfl (pc0 := 177) (pc' := 197) rfl (hb hby at_177) rfl (tlt (by decide : (0 : Int32) < (2 : Int32))).1 (by decide) (by decide) ?_
          show Steps p.tables e below (T153.setTop (mkF m 197 A0 [])) _
          refine XS.iload X153.here hx rfl (hb hby at_197) rfl ?_
          show Steps p.tables e below (T153.setTop (mkF m 199 A0 [(.int (0 : Int32))])) _
          refine XS.iconst X153.here hx rfl (hb hby at_199) ?_
          show Steps p.tables e below (T153.setTop (mkF m 200 A0 [(.int (2 : Int32)), (.int (0 : Int32))])) _
          refine XS.icmpYes X153.here hx rfl (pc0 := 200) (pc' := 224) rfl (hb hby at_200) rfl (tlt (by decide : (0 : Int32) < (2 : Int32))).1 (by decide) (by decide) ?_
          show Steps p.tables e below (T153.setTop (mkF m 224 A0 [])) _
          refine XS.iconst X153.here hx rfl (hb hby at_224) ?_
          exact kt)
      have hfin : own_nbo [] [v115, v119] = (0 : Int32) := rfl
      obtain ⟨_, _, ⟨T158, L158, k158, n158⟩, -, X158, ⟨Lc158, hQ158, l158, y158, z158⟩, st158⟩ := Jvm.LawKit.callS X153 hx (y := (⟨"com/example/conformed/conformed/agreement/Enumerator", "nextButOne", "([J[J)Z"⟩ : MethodName)) hown (mvT hZ (hw _ (List.mem_of_getElem? (i := 5) rfl))) (mvT hZ (hw _ (List.mem_of_getElem? (i := 6) rfl))) (mvT hZ (hw _ (List.mem_of_getElem? (i := 7) rfl))) (mvT hZ (hw _ (List.mem_of_getElem? (i := 8) rfl))) (by decide) (backOf (W := 0) (rm2_02 l Z a0 hw [] b143 b145 kc143 kc145 v115 v119 h153 n0 Z_155 V_b143'154 V_b145_153) hZ (hw _ (List.mem_of_getElem? (i := 8) rfl)) (hw _ (List.mem_of_getElem? (i := 7) rfl)) (by decide) (by decide)) (g := (mkF m 231 #[.val (.long q1), .second, .val (.long q2), .second, .val (.long q3), .second, .val (.long q4), .second, .val (.int p5), .val (.int p6), .val (.int (0 : Int32)), .val (.int (2 : Int32)), .val (.long v115), .second, .val (.long v119), .second, .val (.ref b143), .val (.ref b145), .val (.int (0 : Int32)), .unset] [(.ref b145), (.ref b143)])) rfl (by rw [hml]; rfl) (argsL := [(.ref b143), (.ref b145)]) (rest := []) (lenOf pd_1 rfl) rfl (by show 2 * 0 + _ ≤ _; exact Nat.le_of_eq rfl) (hb hby at_231) (fun _ _ => ⟨rfl, e153, (by decide : 2 + 0 ≤ _), (by decide : 2 + 0 ≤ _)⟩)
      dsimp only [Pt.U, Pt.locs, Pt.cells, Pt.slots] at X158 l158 y158 z158 st158 hQ158
      subst l158 y158 z158
      obtain ⟨rfl, N158q, e158⟩ := hQ158
      have N158 := Fr.app N153 N158q
      have k159 : ∀ t, Steps p.tables e below (T158.setTop (mkF m 248 #[.val (.long q1), .second, .val (.long q2), .second, .val (.long q3), .second, .val (.long q4), .second, .val (.int p5), .val (.int p6), .val (.int (0 : Int32)), .val (.int (2 : Int32)), .val (.long v115), .second, .val (.long v119), .second, .val (.ref b143), .val (.ref b145), .val (.int (0 : Int32)), .val (.int (own_nbo [] [v115, v119]))] [(.int (1 : Int32))])) t → Steps p.tables e below (s₁.setTop (entryFrame m #[(.long q1), (.long q2), (.long q3), (.long q4), (.int p5), (.int p6)] maxLocals)) t := fun t kt => k157 t (by
          show Steps p.tables e below (T153.setTop (mkF m 225 #[.val (.long q1), .second, .val (.long q2), .second, .val (.long q3), .second, .val (.long q4), .second, .val (.int p5), .val (.int p6), .val (.int (0 : Int32)), .val (.int (2 : Int32)), .val (.long v115), .second, .val (.long v119), .second, .val (.ref b143), .val (.ref b145), .unset, .unset] [(.int (0 : Int32))])) _
          let A0 : Array Slot := #[.val (.long q1), .second, .val (.long q2), .second, .val (.long q3), .second, .val (.long q4), .second, .val (.int p5), .val (.int p6), .val (.int (0 : Int32)), .val (.int (2 : Int32)), .val (.long v115), .second, .val (.long v119), .second, .val (.ref b143), .val (.ref b145), .val (.int (0 : Int32)), .unset]
          refine XS.istore X153.here hx rfl (hb hby at_225) rfl (l' := A0) rfl ?_
          show Steps p.tables e below (T153.setTop (mkF m 227 A0 [])) _
          refine XS.aload X153.here hx rfl (hb hby at_227) rfl rfl ?_
          show Steps p.tables e below (T153.setTop (mkF m 229 A0 [(.ref b143)])) _
          refine XS.aload X153.here hx rfl (hb hby at_229) rfl rfl ?_
          show Steps p.tables e below (T153.setTop (mkF m 231 A0 [(.ref b145), (.ref b143)])) _
          refine st158 _ ?_
          show Steps p.tables e below (T158.setTop (mkF m 234 A0 [(.int (own_nbo [] [v115, v119]))])) _
          let A1 : Array Slot := #[.val (.long q1), .second, .val (.long q2), .second, .val (.long q3), .second, .val (.long q4), .second, .val (.int p5), .val (.int p6), .val (.int (0 : Int32)), .val (.int (2 : Int32)), .val (.long v115), .second, .val (.long v119), .second, .val (.ref b143), .val (.ref b145), .val (.int (0 : Int32)), .val (.int (own_nbo [] [v115, v119]))]
          refine XS.istore X158.here hx rfl (hb hby at_234) rfl (l' := A1) rfl ?_
          show Steps p.tables e below (T158.setTop (mkF m 236 A1 [])) _
          refine XS.iload X158.here hx rfl (hb hby at_236) rfl ?_
          show Steps p.tables e below (T158.setTop (mkF m 238 A1 [(.int (own_nbo [] [v115, v119]))])) _
          refine XS.iload X158.here hx rfl (hb hby at_238) rfl ?_
          show Steps p.tables e below (T158.setTop (mkF m 240 A1 [(.int (0 : Int32)), (.int (own_nbo [] [v115, v119]))])) _
          refine XS.icmpNo X158.here hx rfl (hb hby at_240) rfl (teq hfin).2 ?_
          show Steps p.tables e below (T158.setTop (mkF m 243 A1 [])) _
          refine XS.iconst X158.here hx rfl (hb hby at_243) ?_
          show Steps p.tables e below (T158.setTop (mkF m 244 A1 [(.int (1 : Int32))])) _
          refine XS.goto X158.here hx rfl (pc0 := 244) (pc' := 248) rfl (hb hby at_244) (by decide) (by decide) ?_
          exact kt)
      obtain ⟨fs, hr, hrun, hended, hW, hsame⟩ := X158.leave (v := some (.int (1 : Int32))) (fun h => by rw [Bd.returns] at h; cases h)
      refine ⟨_, _, k159 _ ?_, hrun, hended, _, _, rfl, ?_, ⟨_, rfl⟩, hW, hsame.mono (by decide) (by decide)⟩
      · show Steps p.tables e below (T158.setTop (mkF m 248 #[.val (.long q1), .second, .val (.long q2), .second, .val (.long q3), .second, .val (.long q4), .second, .val (.int p5), .val (.int p6), .val (.int (0 : Int32)), .val (.int (2 : Int32)), .val (.long v115), .second, .val (.long v119), .second, .val (.ref b143), .val (.ref b145), .val (.int (0 : Int32)), .val (.int (own_nbo [] [v115, v119]))] [(.int (1 : Int32))])) _
        exact retN X158 hx (t := .boolean) Bd.returns (by simp) (hb hby at_248) hr
      · show Q_rm0 Z q1 q2 q3 q4 p5 p6 h0 n0 _ T158.heap _
        rw [e158]
        exact ⟨rfl, N158⟩
  · rcases hne3 with rfl | rfl | rfl
    · obtain ⟨T160, h160, kc160, X160, e160, E160, A160, st160⟩ := newP X111 hx hZ (hw _ (List.mem_of_getElem? (i := 4) rfl)) e111 (g := (mkF m 72 #[.val (.long q1), .second, .val (.long q2), .second, .val (.long q3), .second, .val (.long q4), .second, .val (.int p5), .val (.int p6), .val (.int (1 : Int32)), .val (.int (0 : Int32)), .val (.long v115), .second, .val (.long v119), .second, .unset, .unset, .unset, .unset] [(.int (1 : Int32))])) rfl (hb hby at_72) rfl (by decide) (cap := 1) (by decide) (by decide) (by decide) (by decide)
      obtain ⟨b160, g160⟩ : ∃ z, z = h0.size := ⟨_, rfl⟩
      rw [← g160] at A160 st160
      have g_b160 : n0 ≤ b160 := Nat.le_trans Z0 (Nat.le_of_eq g160.symm)
      have Z_161 : n0 ≤ h160.size := Nat.le_trans Z0 E160.1
      have V_b160 : Arv Z h160 b160 kc160 .long (1 : Int32) [(.long (0 : Int64))] (.long (0 : Int64)) := (Arv.new A160 (by decide)).pad (pad_rep [] (.long (0 : Int64)) 1)
      obtain ⟨T162, h162, kc162, X162, e162, E162, A162, st162⟩ := newP X160 hx hZ (hw _ (List.mem_of_getElem? (i := 4) rfl)) e160 (g := (mkF m 78 #[.val (.long q1), .second, .val (.long q2), .second, .val (.long q3), .second, .val (.long q4), .second, .val (.int p5), .val (.int p6), .val (.int (1 : Int32)), .val (.int (0 : Int32)), .val (.long v115), .second, .val (.long v119), .second, .val (.ref b160), .unset, .unset, .unset] [(.int (0 : Int32))])) rfl (hb hby at_78) rfl (by decide) (cap := 0) (by decide) (by decide) (by decide) (by decide)
      obtain ⟨b162, g162⟩ : ∃ z, z = h160.size := ⟨_, rfl⟩
      rw [← g162] at A162 st162
      have ne_b160_b162 : b160 ≠ b162 := Nat.ne_of_lt (Nat.lt_of_lt_of_le V_b160.lt (Nat.le_of_eq g162.symm))
      have g_b162 : n0 ≤ b162 := Nat.le_trans Z_161 (Nat.le_of_eq g162.symm)
      have V_b160'163 := V_b160.ext E162
      have Z_164 : n0 ≤ h162.size := Nat.le_trans Z_161 E162.1
      have V_b162 : Arv Z h162 b162 kc162 .long (0 : Int32) [] (.long (0 : Int64)) := Arv.new A162 (by decide)
      obtain ⟨cl165, Ar165, q165, S165, M165, H165, G165⟩ := id V_b160'163
      have hin166 : ¬ ((0 : Int32) < 0 ∨ cl165.slots.size ≤ ((0 : Int32)).toNatClampNeg) := inb_of S165 ⟨by decide, by decide⟩
      obtain ⟨T166, h166, X166, e166, W166, st166⟩ := stJ X162 hx hZ e162 Ar165 (j := (0 : Int32)) hin166 (g := (mkF m 92 #[.val (.long q1), .second, .val (.long q2), .second, .val (.long q3), .second, .val (.long q4), .second, .val (.int p5), .val (.int p6), .val (.int (1 : Int32)), .val (.int (0 : Int32)), .val (.long v115), .second, .val (.long v119), .second, .val (.ref b160), .val (.ref b162), .unset, .unset] [(.long q1), (.int (0 : Int32)), (.ref b160)])) rfl rfl (hb hby at_92)
      have V_b160_166 : Arv Z h166 b160 kc160 .long (1 : Int32) [(.long q1)] (.long (0 : Int64)) := Arv.set Ar165 q165 S165 M165 H165 G165 rfl W166 0 rfl (Nat.le_of_ble_eq_true rfl)
      have V_b162'167 := V_b162.other W166 (Ne.symm ne_b160_b162)
      have Z_168 : n0 ≤ h166.size := Nat.le_trans Z_164 (Nat.le_of_eq (Wr.size W166).symm)
      have N166 := Fr.snoc X166 N111 g_b160
      have k169 : ∀ t, Steps p.tables e below (T166.setTop (mkF m 128 #[.val (.long q1), .second, .val (.long q2), .second, .val (.long q3), .second, .val (.long q4), .second, .val (.int p5), .val (.int p6), .val (.int (1 : Int32)), .val (.int (0 : Int32)), .val (.long v115), .second, .val (.long v119), .second, .val (.ref b160), .val (.ref b162), .unset, .unset] [])) t → Steps p.tables e below (s₁.setTop (entryFrame m #[(.long q1), (.long q2), (.long q3), (.long q4), (.int p5), (.int p6)] maxLocals)) t := fun t kt => k120 t (by
          let A0 : Array Slot := #[.val (.long q1), .second, .val (.long q2), .second, .val (.long q3), .second, .val (.long q4), .second, .val (.int p5), .val (.int p6), .val (.int (1 : Int32)), .val (.int (0 : Int32)), .val (.long v115), .second, .val (.long v119), .second, .unset, .unset, .unset, .unset]
          show Steps p.tables e below (T111.setTop (mkF m 70 A0 [])) _
          refine XS.iload X111.here hx rfl (hb hby at_70) rfl ?_
          show Steps p.tables e below (T111.setTop (mkF m 72 A0 [(.int (1 : Int32))])) _
          refine st160 _ ?_
          show Steps p.tables e below (T160.setTop (mkF m 74 A0 [(.ref b160)])) _
          let A1 : Array Slot := #[.val (.long q1), .second, .val (.long q2), .second, .val (.long q3), .second, .val (.long q4), .second, .val (.int p5), .val (.int p6), .val (.int (1 : Int32)), .val (.int (0 : Int32)), .val (.long v115), .second, .val (.long v119), .second, .val (.ref b160), .unset, .unset, .unset]
          refine XS.astore X160.here hx rfl (hb hby at_74) rfl rfl (l' := A1) rfl ?_
          show Steps p.tables e below (T160.setTop (mkF m 76 A1 [])) _
          refine XS.iload X160.here hx rfl (hb hby at_76) rfl ?_
          show Steps p.tables e below (T160.setTop (mkF m 78 A1 [(.int (0 : Int32))])) _
          refine st162 _ ?_
          show Steps p.tables e below (T162.setTop (mkF m 80 A1 [(.ref b162)])) _
          let A2 : Array Slot := #[.val (.long q1), .second, .val (.long q2), .second, .val (.long q3), .second, .val (.long q4), .second, .val (.int p5), .val (.int p6), .val (.int (1 : Int32)), .val (.int (0 : Int32)), .val (.long v115), .second, .val (.long v119), .second, .val (.ref b160), .val (.ref b162), .unset, .unset]
          refine XS.astore X162.here hx rfl (hb hby at_80) rfl rfl (l' := A2) rfl ?_
          show Steps p.tables e below (T162.setTop (mkF m 82 A2 [])) _
          refine XS.iload X162.here hx rfl (hb hby at_82) rfl ?_
          show Steps p.tables e below (T162.setTop (mkF m 84 A2 [(.int (1 : Int32))])) _
          refine XS.iconst X162.here hx rfl (hb hby at_84) ?_
          show Steps p.tables e below (T162.setTop (mkF m 85 A2 [(.int (1 : Int32)), (.int (1 : Int32))])) _
          refine XS.icmpNo X162.here hx rfl (hb hby at_85) rfl (flt (by decide : ¬ ((1 : Int32) < (1 : Int32)))).1 ?_
          show Steps p.tables e below (T162.setTop (mkF m 88 A2 [])) _
          refine XS.aload X162.here hx rfl (hb hby at_88) rfl rfl ?_
          show Steps p.tables e below (T162.setTop (mkF m 90 A2 [(.ref b160)])) _
          refine XS.iconst X162.here hx rfl (hb hby at_90) ?_
          show Steps p.tables e below (T162.setTop (mkF m 91 A2 [(.int (0 : Int32)), (.ref b160)])) _
          refine XS.lloadN X162.here hx rfl (hb hby at_91) rfl ?_
          show Steps p.tables e below (T162.setTop (mkF m 92 A2 [(.long q1), (.int (0 : Int32)), (.ref b160)])) _
          refine st166 _ ?_
          show Steps p.tables e below (T166.setTop (mkF m 93 A2 [])) _
          refine XS.iload X166.here hx rfl (hb hby at_93) rfl ?_
          show Steps p.tables e below (T166.setTop (mkF m 95 A2 [(.int (1 : Int32))])) _
          refine XS.iconst X166.here hx rfl (hb hby at_95) ?_
          show Steps p.tables e below (T166.setTop (mkF m 96 A2 [(.int (2 : Int32)), (.int (1 : Int32))])) _
          refine XS.icmpYes X166.here hx rfl (pc0 := 96) (pc' := 104) rfl (hb hby at_96) rfl (tlt (by decide : (1 : Int32) < (2 : Int32))).1 (by decide) (by decide) ?_
          show Steps p.tables e below (T166.setTop (mkF m 104 A2 [])) _
          refine XS.iload X166.here hx rfl (hb hby at_104) rfl ?_
          show Steps p.tables e below (T166.setTop (mkF m 106 A2 [(.int (0 : Int32))])) _
          refine XS.iconst X166.here hx rfl (hb hby at_106) ?_
          show Steps p.tables e below (T166.setTop (mkF m 107 A2 [(.int (1 : Int32)), (.int (0 : Int32))])) _
          refine XS.icmpYes X166.here hx rfl (pc0 := 107) (pc' := 116) rfl (hb hby at_107) rfl (tlt (by decide : (0 : Int32) < (1 : Int32))).1 (by decide) (by decide) ?_
          show Steps p.tables e below (T166.setTop (mkF m 116 A2 [])) _
          refine XS.iload X166.here hx rfl (hb hby at_116) rfl ?_
          show Steps p.tables e below (T166.setTop (mkF m 118 A2 [(.int (0 : Int32))])) _
          refine XS.iconst X166.here hx rfl (hb hby at_118) ?_
          show Steps p.tables e below (T166.setTop (mkF m 119 A2 [(.int (2 : Int32)), (.int (0 : Int32))])) _
          refine XS.icmpYes X166.here hx rfl (pc0 := 119) (pc' := 128) rfl (hb hby at_119) rfl (tlt (by decide : (0 : Int32) < (2 : Int32))).1 (by decide) (by decide) ?_
          exact kt)
      have k170 : ∀ t, Steps p.tables e below (T166.setTop (mkF m 225 #[.val (.long q1), .second, .val (.long q2), .second, .val (.long q3), .second, .val (.long q4), .second, .val (.int p5), .val (.int p6), .val (.int (1 : Int32)), .val (.int (0 : Int32)), .val (.long v115), .second, .val (.long v119), .second, .val (.ref b160), .val (.ref b162), .unset, .unset] [(.int (0 : Int32))])) t → Steps p.tables e below (s₁.setTop (entryFrame m #[(.long q1), (.long q2), (.long q3), (.long q4), (.int p5), (.int p6)] maxLocals)) t := fun t kt => k169 t (by
          let A0 : Array Slot := #[.val (.long q1), .second, .val (.long q2), .second, .val (.long q3), .second, .val (.long q4), .second, .val (.int p5), .val (.int p6), .val (.int (1 : Int32)), .val (.int (0 : Int32)), .val (.long v115), .second, .val (.long v119), .second, .val (.ref b160), .val (.ref b162), .unset, .unset]
          show Steps p.tables e below (T166.setTop (mkF m 128 A0 [])) _
          refine XS.iload X166.here hx rfl (hb hby at_128) rfl ?_
          show Steps p.tables e below (T166.setTop (mkF m 130 A0 [(.int (1 : Int32))])) _
          refine XS.iconst X166.here hx rfl (hb hby at_130) ?_
          show Steps p.tables e below (T166.setTop (mkF m 131 A0 [(.int (1 : Int32)), (.int (1 : Int32))])) _
          refine XS.icmpNo X166.here hx rfl (hb hby at_131) rfl (flt (by decide : ¬ ((1 : Int32) < (1 : Int32)))).1 ?_
          show Steps p.tables e below (T166.setTop (mkF m 134 A0 [])) _
          refine XS.iload X166.here hx rfl (hb hby at_134) rfl ?_
          show Steps p.tables e below (T166.setTop (mkF m 136 A0 [(.int (0 : Int32))])) _
          refine XS.iconst X166.here hx rfl (hb hby at_136) ?_
          show Steps p.tables e below (T166.setTop (mkF m 137 A0 [(.int (1 : Int32)), (.int (0 : Int32))])) _
          refine XS.icmpYes X166.here hx rfl (pc0 := 137) (pc' := 151) rfl (hb hby at_137) rfl (tlt (by decide : (0 : Int32) < (1 : Int32))).1 (by decide) (by decide) ?_
          show Steps p.tables e below (T166.setTop (mkF m 151 A0 [])) _
          refine XS.iload X166.here hx rfl (hb hby at_151) rfl ?_
          show Steps p.tables e below (T166.setTop (mkF m 153 A0 [(.int (1 : Int32))])) _
          refine XS.iconst X166.here hx rfl (hb hby at_153) ?_
          show Steps p.tables e below (T166.setTop (mkF m 154 A0 [(.int (1 : Int32)), (.int (1 : Int32))])) _
          refine XS.icmpNo X166.here hx rfl (hb hby at_154) rfl (flt (by decide : ¬ ((1 : Int32) < (1 : Int32)))).1 ?_
          show Steps p.tables e below (T166.setTop (mkF m 157 A0 [])) _
          refine XS.iload X166.here hx rfl (hb hby at_157) rfl ?_
          show Steps p.tables e below (T166.setTop (mkF m 159 A0 [(.int (0 : Int32))])) _
          refine XS.iconst X166.here hx rfl (hb hby at_159) ?_
          show Steps p.tables e below (T166.setTop (mkF m 160 A0 [(.int (2 : Int32)), (.int (0 : Int32))])) _
          refine XS.icmpYes X166.here hx rfl (pc0 := 160) (pc' := 174) rfl (hb hby at_160) rfl (tlt (by decide : (0 : Int32) < (2 : Int32))).1 (by decide) (by decide) ?_
          show Steps p.tables e below (T166.setTop (mkF m 174 A0 [])) _
          refine XS.iload X166.here hx rfl (hb hby at_174) rfl ?_
          show Steps p.tables e below (T166.setTop (mkF m 176 A0 [(.int (1 : Int32))])) _
          refine XS.iconst X166.here hx rfl (hb hby at_176) ?_
          show Steps p.tables e below (T166.setTop (mkF m 177 A0 [(.int (2 : Int32)), (.int (1 : Int32))])) _
          refine XS.icmpYes X166.here hx rfl (pc0 := 177) (pc' := 197) rfl (hb hby at_177) rfl (tlt (by decide : (1 : Int32) < (2 : Int32))).1 (by decide) (by decide) ?_
          show Steps p.tables e below (T166.setTop (mkF m 197 A0 [])) _
          refine XS.iload X166.here hx rfl (hb hby at_197) rfl ?_
          show Steps p.tables e below (T166.setTop (mkF m 199 A0 [(.int (1 : Int32))])) _
          refine XS.iconst X166.here hx rfl (hb hby at_199) ?_
          show Steps p.tables e below (T166.setTop (mkF m 200 A0 [(.int (2 : Int32)), (.int (1 : Int32))])) _
          refine XS.icmpYes X166.here hx rfl (pc0 := 200) (pc' := 224) rfl (hb hby at_200) rfl (tlt (by decide : (1 : Int32) < (2 : Int32))).1 (by decide) (by decide) ?_
          show Steps p.tables e below (T166.setTop (mkF m 224 A0 [])) _
          refine XS.iconst X166.here hx rfl (hb hby at_224) ?_
          exact kt)
      have hfin : own_nbo [q1] [] = (0 : Int32) := rfl
      obtain ⟨_, _, ⟨T171, L171, k171, n171⟩, -, X171, ⟨Lc171, hQ171, l171, y171, z171⟩, st171⟩ := Jvm.LawKit.callS X166 hx (y := (⟨"com/example/conformed/conformed/agreement/Enumerator", "nextButOne", "([J[J)Z"⟩ : MethodName)) hown (mvT hZ (hw _ (List.mem_of_getElem? (i := 5) rfl))) (mvT hZ (hw _ (List.mem_of_getElem? (i := 6) rfl))) (mvT hZ (hw _ (List.mem_of_getElem? (i := 7) rfl))) (mvT hZ (hw _ (List.mem_of_getElem? (i := 8) rfl))) (by decide) (backOf (W := 0) (rm2_10 l Z a0 hw [] b160 b162 kc160 kc162 q1 h166 n0 Z_168 V_b160_166 V_b162'167) hZ (hw _ (List.mem_of_getElem? (i := 8) rfl)) (hw _ (List.mem_of_getElem? (i := 7) rfl)) (by decide) (by decide)) (g := (mkF m 231 #[.val (.long q1), .second, .val (.long q2), .second, .val (.long q3), .second, .val (.long q4), .second, .val (.int p5), .val (.int p6), .val (.int (1 : Int32)), .val (.int (0 : Int32)), .val (.long v115), .second, .val (.long v119), .second, .val (.ref b160), .val (.ref b162), .val (.int (0 : Int32)), .unset] [(.ref b162), (.ref b160)])) rfl (by rw [hml]; rfl) (argsL := [(.ref b160), (.ref b162)]) (rest := []) (lenOf pd_1 rfl) rfl (by show 2 * 0 + _ ≤ _; exact Nat.le_of_eq rfl) (hb hby at_231) (fun _ _ => ⟨rfl, e166, (by decide : 2 + 0 ≤ _), (by decide : 1 + 0 ≤ _)⟩)
      dsimp only [Pt.U, Pt.locs, Pt.cells, Pt.slots] at X171 l171 y171 z171 st171 hQ171
      subst l171 y171 z171
      obtain ⟨rfl, N171q, e171⟩ := hQ171
      have N171 := Fr.app N166 N171q
      have k172 : ∀ t, Steps p.tables e below (T171.setTop (mkF m 248 #[.val (.long q1), .second, .val (.long q2), .second, .val (.long q3), .second, .val (.long q4), .second, .val (.int p5), .val (.int p6), .val (.int (1 : Int32)), .val (.int (0 : Int32)), .val (.long v115), .second, .val (.long v119), .second, .val (.ref b160), .val (.ref b162), .val (.int (0 : Int32)), .val (.int (own_nbo [q1] []))] [(.int (1 : Int32))])) t → Steps p.tables e below (s₁.setTop (entryFrame m #[(.long q1), (.long q2), (.long q3), (.long q4), (.int p5), (.int p6)] maxLocals)) t := fun t kt => k170 t (by
          show Steps p.tables e below (T166.setTop (mkF m 225 #[.val (.long q1), .second, .val (.long q2), .second, .val (.long q3), .second, .val (.long q4), .second, .val (.int p5), .val (.int p6), .val (.int (1 : Int32)), .val (.int (0 : Int32)), .val (.long v115), .second, .val (.long v119), .second, .val (.ref b160), .val (.ref b162), .unset, .unset] [(.int (0 : Int32))])) _
          let A0 : Array Slot := #[.val (.long q1), .second, .val (.long q2), .second, .val (.long q3), .second, .val (.long q4), .second, .val (.int p5), .val (.int p6), .val (.int (1 : Int32)), .val (.int (0 : Int32)), .val (.long v115), .second, .val (.long v119), .second, .val (.ref b160), .val (.ref b162), .val (.int (0 : Int32)), .unset]
          refine XS.istore X166.here hx rfl (hb hby at_225) rfl (l' := A0) rfl ?_
          show Steps p.tables e below (T166.setTop (mkF m 227 A0 [])) _
          refine XS.aload X166.here hx rfl (hb hby at_227) rfl rfl ?_
          show Steps p.tables e below (T166.setTop (mkF m 229 A0 [(.ref b160)])) _
          refine XS.aload X166.here hx rfl (hb hby at_229) rfl rfl ?_
          show Steps p.tables e below (T166.setTop (mkF m 231 A0 [(.ref b162), (.ref b160)])) _
          refine st171 _ ?_
          show Steps p.tables e below (T171.setTop (mkF m 234 A0 [(.int (own_nbo [q1] []))])) _
          let A1 : Array Slot := #[.val (.long q1), .second, .val (.long q2), .second, .val (.long q3), .second, .val (.long q4), .second, .val (.int p5), .val (.int p6), .val (.int (1 : Int32)), .val (.int (0 : Int32)), .val (.long v115), .second, .val (.long v119), .second, .val (.ref b160), .val (.ref b162), .val (.int (0 : Int32)), .val (.int (own_nbo [q1] []))]
          refine XS.istore X171.here hx rfl (hb hby at_234) rfl (l' := A1) rfl ?_
          show Steps p.tables e below (T171.setTop (mkF m 236 A1 [])) _
          refine XS.iload X171.here hx rfl (hb hby at_236) rfl ?_
          show Steps p.tables e below (T171.setTop (mkF m 238 A1 [(.int (own_nbo [q1] []))])) _
          refine XS.iload X171.here hx rfl (hb hby at_238) rfl ?_
          show Steps p.tables e below (T171.setTop (mkF m 240 A1 [(.int (0 : Int32)), (.int (own_nbo [q1] []))])) _
          refine XS.icmpNo X171.here hx rfl (hb hby at_240) rfl (teq hfin).2 ?_
          show Steps p.tables e below (T171.setTop (mkF m 243 A1 [])) _
          refine XS.iconst X171.here hx rfl (hb hby at_243) ?_
          show Steps p.tables e below (T171.setTop (mkF m 244 A1 [(.int (1 : Int32))])) _
          refine XS.goto X171.here hx rfl (pc0 := 244) (pc' := 248) rfl (hb hby at_244) (by decide) (by decide) ?_
          exact kt)
      obtain ⟨fs, hr, hrun, hended, hW, hsame⟩ := X171.leave (v := some (.int (1 : Int32))) (fun h => by rw [Bd.returns] at h; cases h)
      refine ⟨_, _, k172 _ ?_, hrun, hended, _, _, rfl, ?_, ⟨_, rfl⟩, hW, hsame.mono (by decide) (by decide)⟩
      · show Steps p.tables e below (T171.setTop (mkF m 248 #[.val (.long q1), .second, .val (.long q2), .second, .val (.long q3), .second, .val (.long q4), .second, .val (.int p5), .val (.int p6), .val (.int (1 : Int32)), .val (.int (0 : Int32)), .val (.long v115), .second, .val (.long v119), .second, .val (.ref b160), .val (.ref b162), .val (.int (0 : Int32)), .val (.int (own_nbo [q1] []))] [(.int (1 : Int32))])) _
        exact retN X171 hx (t := .boolean) Bd.returns (by simp) (hb hby at_248) hr
      · show Q_rm0 Z q1 q2 q3 q4 p5 p6 h0 n0 _ T171.heap _
        rw [e171]
        exact ⟨rfl, N171⟩
    · obtain ⟨T173, h173, kc173, X173, e173, E173, A173, st173⟩ := newP X111 hx hZ (hw _ (List.mem_of_getElem? (i := 4) rfl)) e111 (g := (mkF m 72 #[.val (.long q1), .second, .val (.long q2), .second, .val (.long q3), .second, .val (.long q4), .second, .val (.int p5), .val (.int p6), .val (.int (1 : Int32)), .val (.int (1 : Int32)), .val (.long v115), .second, .val (.long v119), .second, .unset, .unset, .unset, .unset] [(.int (1 : Int32))])) rfl (hb hby at_72) rfl (by decide) (cap := 1) (by decide) (by decide) (by decide) (by decide)
      obtain ⟨b173, g173⟩ : ∃ z, z = h0.size := ⟨_, rfl⟩
      rw [← g173] at A173 st173
      have g_b173 : n0 ≤ b173 := Nat.le_trans Z0 (Nat.le_of_eq g173.symm)
      have Z_174 : n0 ≤ h173.size := Nat.le_trans Z0 E173.1
      have V_b173 : Arv Z h173 b173 kc173 .long (1 : Int32) [(.long (0 : Int64))] (.long (0 : Int64)) := (Arv.new A173 (by decide)).pad (pad_rep [] (.long (0 : Int64)) 1)
      obtain ⟨T175, h175, kc175, X175, e175, E175, A175, st175⟩ := newP X173 hx hZ (hw _ (List.mem_of_getElem? (i := 4) rfl)) e173 (g := (mkF m 78 #[.val (.long q1), .second, .val (.long q2), .second, .val (.long q3), .second, .val (.long q4), .second, .val (.int p5), .val (.int p6), .val (.int (1 : Int32)), .val (.int (1 : Int32)), .val (.long v115), .second, .val (.long v119), .second, .val (.ref b173), .unset, .unset, .unset] [(.int (1 : Int32))])) rfl (hb hby at_78) rfl (by decide) (cap := 1) (by decide) (by decide) (by decide) (by decide)
      obtain ⟨b175, g175⟩ : ∃ z, z = h173.size := ⟨_, rfl⟩
      rw [← g175] at A175 st175
      have ne_b173_b175 : b173 ≠ b175 := Nat.ne_of_lt (Nat.lt_of_lt_of_le V_b173.lt (Nat.le_of_eq g175.symm))
      have g_b175 : n0 ≤ b175 := Nat.le_trans Z_174 (Nat.le_of_eq g175.symm)
      have V_b173'176 := V_b173.ext E175
      have Z_177 : n0 ≤ h175.size := Nat.le_trans Z_174 E175.1
      have V_b175 : Arv Z h175 b175 kc175 .long (1 : Int32) [(.long (0 : Int64))] (.long (0 : Int64)) := (Arv.new A175 (by decide)).pad (pad_rep [] (.long (0 : Int64)) 1)
      obtain ⟨cl178, Ar178, q178, S178, M178, H178, G178⟩ := id V_b173'176
      have hin179 : ¬ ((0 : Int32) < 0 ∨ cl178.slots.size ≤ ((0 : Int32)).toNatClampNeg) := inb_of S178 ⟨by decide, by decide⟩
      obtain ⟨T179, h179, X179, e179, W179, st179⟩ := stJ X175 hx hZ e175 Ar178 (j := (0 : Int32)) hin179 (g := (mkF m 92 #[.val (.long q1), .second, .val (.long q2), .second, .val (.long q3), .second, .val (.long q4), .second, .val (.int p5), .val (.int p6), .val (.int (1 : Int32)), .val (.int (1 : Int32)), .val (.long v115), .second, .val (.long v119), .second, .val (.ref b173), .val (.ref b175), .unset, .unset] [(.long q1), (.int (0 : Int32)), (.ref b173)])) rfl rfl (hb hby at_92)
      have V_b173_179 : Arv Z h179 b173 kc173 .long (1 : Int32) [(.long q1)] (.long (0 : Int64)) := Arv.set Ar178 q178 S178 M178 H178 G178 rfl W179 0 rfl (Nat.le_of_ble_eq_true rfl)
      have V_b175'180 := V_b175.other W179 (Ne.symm ne_b173_b175)
      have Z_181 : n0 ≤ h179.size := Nat.le_trans Z_177 (Nat.le_of_eq (Wr.size W179).symm)
      have N179 := Fr.snoc X179 N111 g_b173
      obtain ⟨cl182, Ar182, q182, S182, M182, H182, G182⟩ := id V_b175'180
      have hin183 : ¬ ((0 : Int32) < 0 ∨ cl182.slots.size ≤ ((0 : Int32)).toNatClampNeg) := inb_of S182 ⟨by decide, by decide⟩
      obtain ⟨T183, h183, X183, e183, W183, st183⟩ := stJ X179 hx hZ e179 Ar182 (j := (0 : Int32)) hin183 (g := (mkF m 115 #[.val (.long q1), .second, .val (.long q2), .second, .val (.long q3), .second, .val (.long q4), .second, .val (.int p5), .val (.int p6), .val (.int (1 : Int32)), .val (.int (1 : Int32)), .val (.long v115), .second, .val (.long v119), .second, .val (.ref b173), .val (.ref b175), .unset, .unset] [(.long v115), (.int (0 : Int32)), (.ref b175)])) rfl rfl (hb hby at_115)
      have V_b175_183 : Arv Z h183 b175 kc175 .long (1 : Int32) [(.long v115)] (.long (0 : Int64)) := Arv.set Ar182 q182 S182 M182 H182 G182 rfl W183 0 rfl (Nat.le_of_ble_eq_true rfl)
      have V_b173_179'184 := V_b173_179.other W183 ne_b173_b175
      have Z_185 : n0 ≤ h183.size := Nat.le_trans Z_181 (Nat.le_of_eq (Wr.size W183).symm)
      have N183 := Fr.snoc X183 N179 g_b175
      have k186 : ∀ t, Steps p.tables e below (T183.setTop (mkF m 128 #[.val (.long q1), .second, .val (.long q2), .second, .val (.long q3), .second, .val (.long q4), .second, .val (.int p5), .val (.int p6), .val (.int (1 : Int32)), .val (.int (1 : Int32)), .val (.long v115), .second, .val (.long v119), .second, .val (.ref b173), .val (.ref b175), .unset, .unset] [])) t → Steps p.tables e below (s₁.setTop (entryFrame m #[(.long q1), (.long q2), (.long q3), (.long q4), (.int p5), (.int p6)] maxLocals)) t := fun t kt => k120 t (by
          let A0 : Array Slot := #[.val (.long q1), .second, .val (.long q2), .second, .val (.long q3), .second, .val (.long q4), .second, .val (.int p5), .val (.int p6), .val (.int (1 : Int32)), .val (.int (1 : Int32)), .val (.long v115), .second, .val (.long v119), .second, .unset, .unset, .unset, .unset]
          show Steps p.tables e below (T111.setTop (mkF m 70 A0 [])) _
          refine XS.iload X111.here hx rfl (hb hby at_70) rfl ?_
          show Steps p.tables e below (T111.setTop (mkF m 72 A0 [(.int (1 : Int32))])) _
          refine st173 _ ?_
          show Steps p.tables e below (T173.setTop (mkF m 74 A0 [(.ref b173)])) _
          let A1 : Array Slot := #[.val (.long q1), .second, .val (.long q2), .second, .val (.long q3), .second, .val (.long q4), .second, .val (.int p5), .val (.int p6), .val (.int (1 : Int32)), .val (.int (1 : Int32)), .val (.long v115), .second, .val (.long v119), .second, .val (.ref b173), .unset, .unset, .unset]
          refine XS.astore X173.here hx rfl (hb hby at_74) rfl rfl (l' := A1) rfl ?_
          show Steps p.tables e below (T173.setTop (mkF m 76 A1 [])) _
          refine XS.iload X173.here hx rfl (hb hby at_76) rfl ?_
          show Steps p.tables e below (T173.setTop (mkF m 78 A1 [(.int (1 : Int32))])) _
          refine st175 _ ?_
          show Steps p.tables e below (T175.setTop (mkF m 80 A1 [(.ref b175)])) _
          let A2 : Array Slot := #[.val (.long q1), .second, .val (.long q2), .second, .val (.long q3), .second, .val (.long q4), .second, .val (.int p5), .val (.int p6), .val (.int (1 : Int32)), .val (.int (1 : Int32)), .val (.long v115), .second, .val (.long v119), .second, .val (.ref b173), .val (.ref b175), .unset, .unset]
          refine XS.astore X175.here hx rfl (hb hby at_80) rfl rfl (l' := A2) rfl ?_
          show Steps p.tables e below (T175.setTop (mkF m 82 A2 [])) _
          refine XS.iload X175.here hx rfl (hb hby at_82) rfl ?_
          show Steps p.tables e below (T175.setTop (mkF m 84 A2 [(.int (1 : Int32))])) _
          refine XS.iconst X175.here hx rfl (hb hby at_84) ?_
          show Steps p.tables e below (T175.setTop (mkF m 85 A2 [(.int (1 : Int32)), (.int (1 : Int32))])) _
          refine XS.icmpNo X175.here hx rfl (hb hby at_85) rfl (flt (by decide : ¬ ((1 : Int32) < (1 : Int32)))).1 ?_
          show Steps p.tables e below (T175.setTop (mkF m 88 A2 [])) _
          refine XS.aload X175.here hx rfl (hb hby at_88) rfl rfl ?_
          show Steps p.tables e below (T175.setTop (mkF m 90 A2 [(.ref b173)])) _
          refine XS.iconst X175.here hx rfl (hb hby at_90) ?_
          show Steps p.tables e below (T175.setTop (mkF m 91 A2 [(.int (0 : Int32)), (.ref b173)])) _
          refine XS.lloadN X175.here hx rfl (hb hby at_91) rfl ?_
          show Steps p.tables e below (T175.setTop (mkF m 92 A2 [(.long q1), (.int (0 : Int32)), (.ref b173)])) _
          refine st179 _ ?_
          show Steps p.tables e below (T179.setTop (mkF m 93 A2 [])) _
          refine XS.iload X179.here hx rfl (hb hby at_93) rfl ?_
          show Steps p.tables e below (T179.setTop (mkF m 95 A2 [(.int (1 : Int32))])) _
          refine XS.iconst X179.here hx rfl (hb hby at_95) ?_
          show Steps p.tables e below (T179.setTop (mkF m 96 A2 [(.int (2 : Int32)), (.int (1 : Int32))])) _
          refine XS.icmpYes X179.here hx rfl (pc0 := 96) (pc' := 104) rfl (hb hby at_96) rfl (tlt (by decide : (1 : Int32) < (2 : Int32))).1 (by decide) (by decide) ?_
          show Steps p.tables e below (T179.setTop (mkF m 104 A2 [])) _
          refine XS.iload X179.here hx rfl (hb hby at_104) rfl ?_
          show Steps p.tables e below (T179.setTop (mkF m 106 A2 [(.int (1 : Int32))])) _
          refine XS.iconst X179.here hx rfl (hb hby at_106) ?_
          show Steps p.tables e below (T179.setTop (mkF m 107 A2 [(.int (1 : Int32)), (.int (1 : Int32))])) _
          refine XS.icmpNo X179.here hx rfl (hb hby at_107) rfl (flt (by decide : ¬ ((1 : Int32) < (1 : Int32)))).1 ?_
          show Steps p.tables e below (T179.setTop (mkF m 110 A2 [])) _
          refine XS.aload X179.here hx rfl (hb hby at_110) rfl rfl ?_
          show Steps p.tables e below (T179.setTop (mkF m 112 A2 [(.ref b175)])) _
          refine XS.iconst X179.here hx rfl (hb hby at_112) ?_
          show Steps p.tables e below (T179.setTop (mkF m 113 A2 [(.int (0 : Int32)), (.ref b175)])) _
          refine XS.lload X179.here hx rfl (hb hby at_113) rfl ?_
          show Steps p.tables e below (T179.setTop (mkF m 115 A2 [(.long v115), (.int (0 : Int32)), (.ref b175)])) _
          refine st183 _ ?_
          show Steps p.tables e below (T183.setTop (mkF m 116 A2 [])) _
          refine XS.iload X183.here hx rfl (hb hby at_116) rfl ?_
          show Steps p.tables e below (T183.setTop (mkF m 118 A2 [(.int (1 : Int32))])) _
          refine XS.iconst X183.here hx rfl (hb hby at_118) ?_
          show Steps p.tables e below (T183.setTop (mkF m 119 A2 [(.int (2 : Int32)), (.int (1 : Int32))])) _
          refine XS.icmpYes X183.here hx rfl (pc0 := 119) (pc' := 128) rfl (hb hby at_119) rfl (tlt (by decide : (1 : Int32) < (2 : Int32))).1 (by decide) (by decide) ?_
          exact kt)
      obtain ⟨v188, hv188⟩ : ∃ v : Int32, v = (if (lcmpW (q1 - (2 : Int64)) v115) = (0 : Int32) then (1 : Int32) else (0 : Int32)) := ⟨_, rfl⟩
      have k189 : ∀ t, Steps p.tables e below (T183.setTop (mkF m 225 #[.val (.long q1), .second, .val (.long q2), .second, .val (.long q3), .second, .val (.long q4), .second, .val (.int p5), .val (.int p6), .val (.int (1 : Int32)), .val (.int (1 : Int32)), .val (.long v115), .second, .val (.long v119), .second, .val (.ref b173), .val (.ref b175), .unset, .unset] [(.int v188)])) t → Steps p.tables e below (s₁.setTop (entryFrame m #[(.long q1), (.long q2), (.long q3), (.long q4), (.int p5), (.int p6)] maxLocals)) t := by
        intro t kt
        by_cases hc148_187 : (lcmpW (q1 - (2 : Int64)) v115) = (0 : Int32)
        · rw [show v188 = (1 : Int32) from (hv188.trans (if_pos hc148_187))] at kt
          exact k186 t (by
              let A0 : Array Slot := #[.val (.long q1), .second, .val (.long q2), .second, .val (.long q3), .second, .val (.long q4), .second, .val (.int p5), .val (.int p6), .val (.int (1 : Int32)), .val (.int (1 : Int32)), .val (.long v115), .second, .val (.long v119), .second, .val (.ref b173), .val (.ref b175), .unset, .unset]
              show Steps p.tables e below (T183.setTop (mkF m 128 A0 [])) _
              refine XS.iload X183.here hx rfl (hb hby at_128) rfl ?_
              show Steps p.tables e below (T183.setTop (mkF m 130 A0 [(.int (1 : Int32))])) _
              refine XS.iconst X183.here hx rfl (hb hby at_130) ?_
              show Steps p.tables e below (T183.setTop (mkF m 131 A0 [(.int (1 : Int32)), (.int (1 : Int32))])) _
              refine XS.icmpNo X183.here hx rfl (hb hby at_131) rfl (flt (by decide : ¬ ((1 : Int32) < (1 : Int32)))).1 ?_
              show Steps p.tables e below (T183.setTop (mkF m 134 A0 [])) _
              refine XS.iload X183.here hx rfl (hb hby at_134) rfl ?_
              show Steps p.tables e below (T183.setTop (mkF m 136 A0 [(.int (1 : Int32))])) _
              refine XS.iconst X183.here hx rfl (hb hby at_136) ?_
              show Steps p.tables e below (T183.setTop (mkF m 137 A0 [(.int (1 : Int32)), (.int (1 : Int32))])) _
              refine XS.icmpNo X183.here hx rfl (hb hby at_137) rfl (flt (by decide : ¬ ((1 : Int32) < (1 : Int32)))).1 ?_
              show Steps p.tables e below (T183.setTop (mkF m 140 A0 [])) _
              refine XS.lloadN X183.here hx rfl (hb hby at_140) rfl ?_
              show Steps p.tables e below (T183.setTop (mkF m 141 A0 [(.long q1)])) _
              refine X183.ldc2Long hx hown (mvT hZ (hw _ (List.mem_of_getElem? (i := 9) rfl))) (g := (mkF m 141 A0 [(.long q1)])) rfl (hb hby at_141) _ ?_
              show Steps p.tables e below (T183.setTop (mkF m 144 A0 [(.long (2 : Int64)), (.long q1)])) _
              refine XS.lsub X183.here hx rfl (hb hby at_144) rfl ?_
              show Steps p.tables e below (T183.setTop (mkF m 145 A0 [(.long (q1 - (2 : Int64)))])) _
              refine XS.lload X183.here hx rfl (hb hby at_145) rfl ?_
              show Steps p.tables e below (T183.setTop (mkF m 147 A0 [(.long v115), (.long (q1 - (2 : Int64)))])) _
              refine XS.lcmp X183.here hx rfl (hb hby at_147) rfl ?_
              show Steps p.tables e below (T183.setTop (mkF m 148 A0 [(.int (lcmpW (q1 - (2 : Int64)) v115))])) _
              refine XS.ifYes X183.here hx rfl (pc0 := 148) (pc' := 220) rfl (hb hby at_148) rfl ((if0 _ _).trans (teq hc148_187).1) (by decide) (by decide) ?_
              show Steps p.tables e below (T183.setTop (mkF m 220 A0 [])) _
              refine XS.iconst X183.here hx rfl (hb hby at_220) ?_
              show Steps p.tables e below (T183.setTop (mkF m 221 A0 [(.int (1 : Int32))])) _
              refine XS.goto X183.here hx rfl (pc0 := 221) (pc' := 225) rfl (hb hby at_221) (by decide) (by decide) ?_
              exact kt)
        · rw [show v188 = (0 : Int32) from (hv188.trans (if_neg hc148_187))] at kt
          exact k186 t (by
              let A0 : Array Slot := #[.val (.long q1), .second, .val (.long q2), .second, .val (.long q3), .second, .val (.long q4), .second, .val (.int p5), .val (.int p6), .val (.int (1 : Int32)), .val (.int (1 : Int32)), .val (.long v115), .second, .val (.long v119), .second, .val (.ref b173), .val (.ref b175), .unset, .unset]
              show Steps p.tables e below (T183.setTop (mkF m 128 A0 [])) _
              refine XS.iload X183.here hx rfl (hb hby at_128) rfl ?_
              show Steps p.tables e below (T183.setTop (mkF m 130 A0 [(.int (1 : Int32))])) _
              refine XS.iconst X183.here hx rfl (hb hby at_130) ?_
              show Steps p.tables e below (T183.setTop (mkF m 131 A0 [(.int (1 : Int32)), (.int (1 : Int32))])) _
              refine XS.icmpNo X183.here hx rfl (hb hby at_131) rfl (flt (by decide : ¬ ((1 : Int32) < (1 : Int32)))).1 ?_
              show Steps p.tables e below (T183.setTop (mkF m 134 A0 [])) _
              refine XS.iload X183.here hx rfl (hb hby at_134) rfl ?_
              show Steps p.tables e below (T183.setTop (mkF m 136 A0 [(.int (1 : Int32))])) _
              refine XS.iconst X183.here hx rfl (hb hby at_136) ?_
              show Steps p.tables e below (T183.setTop (mkF m 137 A0 [(.int (1 : Int32)), (.int (1 : Int32))])) _
              refine XS.icmpNo X183.here hx rfl (hb hby at_137) rfl (flt (by decide : ¬ ((1 : Int32) < (1 : Int32)))).1 ?_
              show Steps p.tables e below (T183.setTop (mkF m 140 A0 [])) _
              refine XS.lloadN X183.here hx rfl (hb hby at_140) rfl ?_
              show Steps p.tables e below (T183.setTop (mkF m 141 A0 [(.long q1)])) _
              refine X183.ldc2Long hx hown (mvT hZ (hw _ (List.mem_of_getElem? (i := 9) rfl))) (g := (mkF m 141 A0 [(.long q1)])) rfl (hb hby at_141) _ ?_
              show Steps p.tables e below (T183.setTop (mkF m 144 A0 [(.long (2 : Int64)), (.long q1)])) _
              refine XS.lsub X183.here hx rfl (hb hby at_144) rfl ?_
              show Steps p.tables e below (T183.setTop (mkF m 145 A0 [(.long (q1 - (2 : Int64)))])) _
              refine XS.lload X183.here hx rfl (hb hby at_145) rfl ?_
              show Steps p.tables e below (T183.setTop (mkF m 147 A0 [(.long v115), (.long (q1 - (2 : Int64)))])) _
              refine XS.lcmp X183.here hx rfl (hb hby at_147) rfl ?_
              show Steps p.tables e below (T183.setTop (mkF m 148 A0 [(.int (lcmpW (q1 - (2 : Int64)) v115))])) _
              refine XS.ifNo X183.here hx rfl (hb hby at_148) rfl ((if0 _ _).trans (feq hc148_187).1) ?_
              show Steps p.tables e below (T183.setTop (mkF m 151 A0 [])) _
              refine XS.iload X183.here hx rfl (hb hby at_151) rfl ?_
              show Steps p.tables e below (T183.setTop (mkF m 153 A0 [(.int (1 : Int32))])) _
              refine XS.iconst X183.here hx rfl (hb hby at_153) ?_
              show Steps p.tables e below (T183.setTop (mkF m 154 A0 [(.int (1 : Int32)), (.int (1 : Int32))])) _
              refine XS.icmpNo X183.here hx rfl (hb hby at_154) rfl (flt (by decide : ¬ ((1 : Int32) < (1 : Int32)))).1 ?_
              show Steps p.tables e below (T183.setTop (mkF m 157 A0 [])) _
              refine XS.iload X183.here hx rfl (hb hby at_157) rfl ?_
              show Steps p.tables e below (T183.setTop (mkF m 159 A0 [(.int (1 : Int32))])) _
              refine XS.iconst X183.here hx rfl (hb hby at_159) ?_
              show Steps p.tables e below (T183.setTop (mkF m 160 A0 [(.int (2 : Int32)), (.int (1 : Int32))])) _
              refine XS.icmpYes X183.here hx rfl (pc0 := 160) (pc' := 174) rfl (hb hby at_160) rfl (tlt (by decide : (1 : Int32) < (2 : Int32))).1 (by decide) (by decide) ?_
              show Steps p.tables e below (T183.setTop (mkF m 174 A0 [])) _
              refine XS.iload X183.here hx rfl (hb hby at_174) rfl ?_
              show Steps p.tables e below (T183.setTop (mkF m 176 A0 [(.int (1 : Int32))])) _
              refine XS.iconst X183.here hx rfl (hb hby at_176) ?_
              show Steps p.tables e below (T183.setTop (mkF m 177 A0 [(.int (2 : Int32)), (.int (1 : Int32))])) _
              refine XS.icmpYes X183.here hx rfl (pc0 := 177) (pc' := 197) rfl (hb hby at_177) rfl (tlt (by decide : (1 : Int32) < (2 : Int32))).1 (by decide) (by decide) ?_
              show Steps p.tables e below (T183.setTop (mkF m 197 A0 [])) _
              refine XS.iload X183.here hx rfl (hb hby at_197) rfl ?_
              show Steps p.tables e below (T183.setTop (mkF m 199 A0 [(.int (1 : Int32))])) _
              refine XS.iconst X183.here hx rfl (hb hby at_199) ?_
              show Steps p.tables e below (T183.setTop (mkF m 200 A0 [(.int (2 : Int32)), (.int (1 : Int32))])) _
              refine XS.icmpYes X183.here hx rfl (pc0 := 200) (pc' := 224) rfl (hb hby at_200) rfl (tlt (by decide : (1 : Int32) < (2 : Int32))).1 (by decide) (by decide) ?_
              show Steps p.tables e below (T183.setTop (mkF m 224 A0 [])) _
              refine XS.iconst X183.here hx rfl (hb hby at_224) ?_
              exact kt)
      have hfin : own_nbo [q1] [v115] = v188 := by
        rw [hv188]
        simp only [own_nbo, List.foldl, own_hit, own_swap]
        by_cases hh0 : lcmpW (q1 - (2 : Int64)) v115 = (0 : Int32) <;> simp [hh0]
      obtain ⟨_, _, ⟨T190, L190, k190, n190⟩, -, X190, ⟨Lc190, hQ190, l190, y190, z190⟩, st190⟩ := Jvm.LawKit.callS X183 hx (y := (⟨"com/example/conformed/conformed/agreement/Enumerator", "nextButOne", "([J[J)Z"⟩ : MethodName)) hown (mvT hZ (hw _ (List.mem_of_getElem? (i := 5) rfl))) (mvT hZ (hw _ (List.mem_of_getElem? (i := 6) rfl))) (mvT hZ (hw _ (List.mem_of_getElem? (i := 7) rfl))) (mvT hZ (hw _ (List.mem_of_getElem? (i := 8) rfl))) (by decide) (backOf (W := 0) (rm2_11 l Z a0 hw [] b173 b175 kc173 kc175 q1 v115 h183 n0 Z_185 V_b173_179'184 V_b175_183) hZ (hw _ (List.mem_of_getElem? (i := 8) rfl)) (hw _ (List.mem_of_getElem? (i := 7) rfl)) (by decide) (by decide)) (g := (mkF m 231 #[.val (.long q1), .second, .val (.long q2), .second, .val (.long q3), .second, .val (.long q4), .second, .val (.int p5), .val (.int p6), .val (.int (1 : Int32)), .val (.int (1 : Int32)), .val (.long v115), .second, .val (.long v119), .second, .val (.ref b173), .val (.ref b175), .val (.int v188), .unset] [(.ref b175), (.ref b173)])) rfl (by rw [hml]; rfl) (argsL := [(.ref b173), (.ref b175)]) (rest := []) (lenOf pd_1 rfl) rfl (by show 2 * 0 + _ ≤ _; exact Nat.le_of_eq rfl) (hb hby at_231) (fun _ _ => ⟨rfl, e183, (by decide : 2 + 0 ≤ _), (by decide : 2 + 0 ≤ _)⟩)
      dsimp only [Pt.U, Pt.locs, Pt.cells, Pt.slots] at X190 l190 y190 z190 st190 hQ190
      subst l190 y190 z190
      obtain ⟨rfl, N190q, e190⟩ := hQ190
      have N190 := Fr.app N183 N190q
      have k191 : ∀ t, Steps p.tables e below (T190.setTop (mkF m 248 #[.val (.long q1), .second, .val (.long q2), .second, .val (.long q3), .second, .val (.long q4), .second, .val (.int p5), .val (.int p6), .val (.int (1 : Int32)), .val (.int (1 : Int32)), .val (.long v115), .second, .val (.long v119), .second, .val (.ref b173), .val (.ref b175), .val (.int v188), .val (.int (own_nbo [q1] [v115]))] [(.int (1 : Int32))])) t → Steps p.tables e below (s₁.setTop (entryFrame m #[(.long q1), (.long q2), (.long q3), (.long q4), (.int p5), (.int p6)] maxLocals)) t := fun t kt => k189 t (by
          show Steps p.tables e below (T183.setTop (mkF m 225 #[.val (.long q1), .second, .val (.long q2), .second, .val (.long q3), .second, .val (.long q4), .second, .val (.int p5), .val (.int p6), .val (.int (1 : Int32)), .val (.int (1 : Int32)), .val (.long v115), .second, .val (.long v119), .second, .val (.ref b173), .val (.ref b175), .unset, .unset] [(.int v188)])) _
          let A0 : Array Slot := #[.val (.long q1), .second, .val (.long q2), .second, .val (.long q3), .second, .val (.long q4), .second, .val (.int p5), .val (.int p6), .val (.int (1 : Int32)), .val (.int (1 : Int32)), .val (.long v115), .second, .val (.long v119), .second, .val (.ref b173), .val (.ref b175), .val (.int v188), .unset]
          refine XS.istore X183.here hx rfl (hb hby at_225) rfl (l' := A0) rfl ?_
          show Steps p.tables e below (T183.setTop (mkF m 227 A0 [])) _
          refine XS.aload X183.here hx rfl (hb hby at_227) rfl rfl ?_
          show Steps p.tables e below (T183.setTop (mkF m 229 A0 [(.ref b173)])) _
          refine XS.aload X183.here hx rfl (hb hby at_229) rfl rfl ?_
          show Steps p.tables e below (T183.setTop (mkF m 231 A0 [(.ref b175), (.ref b173)])) _
          refine st190 _ ?_
          show Steps p.tables e below (T190.setTop (mkF m 234 A0 [(.int (own_nbo [q1] [v115]))])) _
          let A1 : Array Slot := #[.val (.long q1), .second, .val (.long q2), .second, .val (.long q3), .second, .val (.long q4), .second, .val (.int p5), .val (.int p6), .val (.int (1 : Int32)), .val (.int (1 : Int32)), .val (.long v115), .second, .val (.long v119), .second, .val (.ref b173), .val (.ref b175), .val (.int v188), .val (.int (own_nbo [q1] [v115]))]
          refine XS.istore X190.here hx rfl (hb hby at_234) rfl (l' := A1) rfl ?_
          show Steps p.tables e below (T190.setTop (mkF m 236 A1 [])) _
          refine XS.iload X190.here hx rfl (hb hby at_236) rfl ?_
          show Steps p.tables e below (T190.setTop (mkF m 238 A1 [(.int (own_nbo [q1] [v115]))])) _
          refine XS.iload X190.here hx rfl (hb hby at_238) rfl ?_
          show Steps p.tables e below (T190.setTop (mkF m 240 A1 [(.int v188), (.int (own_nbo [q1] [v115]))])) _
          refine XS.icmpNo X190.here hx rfl (hb hby at_240) rfl (teq hfin).2 ?_
          show Steps p.tables e below (T190.setTop (mkF m 243 A1 [])) _
          refine XS.iconst X190.here hx rfl (hb hby at_243) ?_
          show Steps p.tables e below (T190.setTop (mkF m 244 A1 [(.int (1 : Int32))])) _
          refine XS.goto X190.here hx rfl (pc0 := 244) (pc' := 248) rfl (hb hby at_244) (by decide) (by decide) ?_
          exact kt)
      obtain ⟨fs, hr, hrun, hended, hW, hsame⟩ := X190.leave (v := some (.int (1 : Int32))) (fun h => by rw [Bd.returns] at h; cases h)
      refine ⟨_, _, k191 _ ?_, hrun, hended, _, _, rfl, ?_, ⟨_, rfl⟩, hW, hsame.mono (by decide) (by decide)⟩
      · show Steps p.tables e below (T190.setTop (mkF m 248 #[.val (.long q1), .second, .val (.long q2), .second, .val (.long q3), .second, .val (.long q4), .second, .val (.int p5), .val (.int p6), .val (.int (1 : Int32)), .val (.int (1 : Int32)), .val (.long v115), .second, .val (.long v119), .second, .val (.ref b173), .val (.ref b175), .val (.int v188), .val (.int (own_nbo [q1] [v115]))] [(.int (1 : Int32))])) _
        exact retN X190 hx (t := .boolean) Bd.returns (by simp) (hb hby at_248) hr
      · show Q_rm0 Z q1 q2 q3 q4 p5 p6 h0 n0 _ T190.heap _
        rw [e190]
        exact ⟨rfl, N190⟩
    · obtain ⟨T192, h192, kc192, X192, e192, E192, A192, st192⟩ := newP X111 hx hZ (hw _ (List.mem_of_getElem? (i := 4) rfl)) e111 (g := (mkF m 72 #[.val (.long q1), .second, .val (.long q2), .second, .val (.long q3), .second, .val (.long q4), .second, .val (.int p5), .val (.int p6), .val (.int (1 : Int32)), .val (.int (2 : Int32)), .val (.long v115), .second, .val (.long v119), .second, .unset, .unset, .unset, .unset] [(.int (1 : Int32))])) rfl (hb hby at_72) rfl (by decide) (cap := 1) (by decide) (by decide) (by decide) (by decide)
      obtain ⟨b192, g192⟩ : ∃ z, z = h0.size := ⟨_, rfl⟩
      rw [← g192] at A192 st192
      have g_b192 : n0 ≤ b192 := Nat.le_trans Z0 (Nat.le_of_eq g192.symm)
      have Z_193 : n0 ≤ h192.size := Nat.le_trans Z0 E192.1
      have V_b192 : Arv Z h192 b192 kc192 .long (1 : Int32) [(.long (0 : Int64))] (.long (0 : Int64)) := (Arv.new A192 (by decide)).pad (pad_rep [] (.long (0 : Int64)) 1)
      obtain ⟨T194, h194, kc194, X194, e194, E194, A194, st194⟩ := newP X192 hx hZ (hw _ (List.mem_of_getElem? (i := 4) rfl)) e192 (g := (mkF m 78 #[.val (.long q1), .second, .val (.long q2), .second, .val (.long q3), .second, .val (.long q4), .second, .val (.int p5), .val (.int p6), .val (.int (1 : Int32)), .val (.int (2 : Int32)), .val (.long v115), .second, .val (.long v119), .second, .val (.ref b192), .unset, .unset, .unset] [(.int (2 : Int32))])) rfl (hb hby at_78) rfl (by decide) (cap := 2) (by decide) (by decide) (by decide) (by decide)
      obtain ⟨b194, g194⟩ : ∃ z, z = h192.size := ⟨_, rfl⟩
      rw [← g194] at A194 st194
      have ne_b192_b194 : b192 ≠ b194 := Nat.ne_of_lt (Nat.lt_of_lt_of_le V_b192.lt (Nat.le_of_eq g194.symm))
      have g_b194 : n0 ≤ b194 := Nat.le_trans Z_193 (Nat.le_of_eq g194.symm)
      have V_b192'195 := V_b192.ext E194
      have Z_196 : n0 ≤ h194.size := Nat.le_trans Z_193 E194.1
      have V_b194 : Arv Z h194 b194 kc194 .long (2 : Int32) [(.long (0 : Int64)), (.long (0 : Int64))] (.long (0 : Int64)) := (Arv.new A194 (by decide)).pad (pad_rep [] (.long (0 : Int64)) 2)
      obtain ⟨cl197, Ar197, q197, S197, M197, H197, G197⟩ := id V_b192'195
      have hin198 : ¬ ((0 : Int32) < 0 ∨ cl197.slots.size ≤ ((0 : Int32)).toNatClampNeg) := inb_of S197 ⟨by decide, by decide⟩
      obtain ⟨T198, h198, X198, e198, W198, st198⟩ := stJ X194 hx hZ e194 Ar197 (j := (0 : Int32)) hin198 (g := (mkF m 92 #[.val (.long q1), .second, .val (.long q2), .second, .val (.long q3), .second, .val (.long q4), .second, .val (.int p5), .val (.int p6), .val (.int (1 : Int32)), .val (.int (2 : Int32)), .val (.long v115), .second, .val (.long v119), .second, .val (.ref b192), .val (.ref b194), .unset, .unset] [(.long q1), (.int (0 : Int32)), (.ref b192)])) rfl rfl (hb hby at_92)
      have V_b192_198 : Arv Z h198 b192 kc192 .long (1 : Int32) [(.long q1)] (.long (0 : Int64)) := Arv.set Ar197 q197 S197 M197 H197 G197 rfl W198 0 rfl (Nat.le_of_ble_eq_true rfl)
      have V_b194'199 := V_b194.other W198 (Ne.symm ne_b192_b194)
      have Z_200 : n0 ≤ h198.size := Nat.le_trans Z_196 (Nat.le_of_eq (Wr.size W198).symm)
      have N198 := Fr.snoc X198 N111 g_b192
      obtain ⟨cl201, Ar201, q201, S201, M201, H201, G201⟩ := id V_b194'199
      have hin202 : ¬ ((0 : Int32) < 0 ∨ cl201.slots.size ≤ ((0 : Int32)).toNatClampNeg) := inb_of S201 ⟨by decide, by decide⟩
      obtain ⟨T202, h202, X202, e202, W202, st202⟩ := stJ X198 hx hZ e198 Ar201 (j := (0 : Int32)) hin202 (g := (mkF m 115 #[.val (.long q1), .second, .val (.long q2), .second, .val (.long q3), .second, .val (.long q4), .second, .val (.int p5), .val (.int p6), .val (.int (1 : Int32)), .val (.int (2 : Int32)), .val (.long v115), .second, .val (.long v119), .second, .val (.ref b192), .val (.ref b194), .unset, .unset] [(.long v115), (.int (0 : Int32)), (.ref b194)])) rfl rfl (hb hby at_115)
      have V_b194_202 : Arv Z h202 b194 kc194 .long (2 : Int32) [(.long v115), (.long (0 : Int64))] (.long (0 : Int64)) := Arv.set Ar201 q201 S201 M201 H201 G201 rfl W202 0 rfl (Nat.le_of_ble_eq_true rfl)
      have V_b192_198'203 := V_b192_198.other W202 ne_b192_b194
      have Z_204 : n0 ≤ h202.size := Nat.le_trans Z_200 (Nat.le_of_eq (Wr.size W202).symm)
      have N202 := Fr.snoc X202 N198 g_b194
      obtain ⟨cl205, Ar205, q205, S205, M205, H205, G205⟩ := id V_b194_202
      have hin206 : ¬ ((1 : Int32) < 0 ∨ cl205.slots.size ≤ ((1 : Int32)).toNatClampNeg) := inb_of S205 ⟨by decide, by decide⟩
      obtain ⟨T206, h206, X206, e206, W206, st206⟩ := stJ X202 hx hZ e202 Ar205 (j := (1 : Int32)) hin206 (g := (mkF m 127 #[.val (.long q1), .second, .val (.long q2), .second, .val (.long q3), .second, .val (.long q4), .second, .val (.int p5), .val (.int p6), .val (.int (1 : Int32)), .val (.int (2 : Int32)), .val (.long v115), .second, .val (.long v119), .second, .val (.ref b192), .val (.ref b194), .unset, .unset] [(.long v119), (.int (1 : Int32)), (.ref b194)])) rfl rfl (hb hby at_127)
      have V_b194_206 : Arv Z h206 b194 kc194 .long (2 : Int32) [(.long v115), (.long v119)] (.long (0 : Int64)) := Arv.set Ar205 q205 S205 M205 H205 G205 rfl W206 1 rfl (Nat.le_of_ble_eq_true rfl)
      have V_b192_198'207 := V_b192_198'203.other W206 ne_b192_b194
      have Z_208 : n0 ≤ h206.size := Nat.le_trans Z_204 (Nat.le_of_eq (Wr.size W206).symm)
      have N206 := Fr.snoc X206 N202 g_b194
      have k209 : ∀ t, Steps p.tables e below (T206.setTop (mkF m 128 #[.val (.long q1), .second, .val (.long q2), .second, .val (.long q3), .second, .val (.long q4), .second, .val (.int p5), .val (.int p6), .val (.int (1 : Int32)), .val (.int (2 : Int32)), .val (.long v115), .second, .val (.long v119), .second, .val (.ref b192), .val (.ref b194), .unset, .unset] [])) t → Steps p.tables e below (s₁.setTop (entryFrame m #[(.long q1), (.long q2), (.long q3), (.long q4), (.int p5), (.int p6)] maxLocals)) t := fun t kt => k120 t (by
          let A0 : Array Slot := #[.val (.long q1), .second, .val (.long q2), .second, .val (.long q3), .second, .val (.long q4), .second, .val (.int p5), .val (.int p6), .val (.int (1 : Int32)), .val (.int (2 : Int32)), .val (.long v115), .second, .val (.long v119), .second, .unset, .unset, .unset, .unset]
          show Steps p.tables e below (T111.setTop (mkF m 70 A0 [])) _
          refine XS.iload X111.here hx rfl (hb hby at_70) rfl ?_
          show Steps p.tables e below (T111.setTop (mkF m 72 A0 [(.int (1 : Int32))])) _
          refine st192 _ ?_
          show Steps p.tables e below (T192.setTop (mkF m 74 A0 [(.ref b192)])) _
          let A1 : Array Slot := #[.val (.long q1), .second, .val (.long q2), .second, .val (.long q3), .second, .val (.long q4), .second, .val (.int p5), .val (.int p6), .val (.int (1 : Int32)), .val (.int (2 : Int32)), .val (.long v115), .second, .val (.long v119), .second, .val (.ref b192), .unset, .unset, .unset]
          refine XS.astore X192.here hx rfl (hb hby at_74) rfl rfl (l' := A1) rfl ?_
          show Steps p.tables e below (T192.setTop (mkF m 76 A1 [])) _
          refine XS.iload X192.here hx rfl (hb hby at_76) rfl ?_
          show Steps p.tables e below (T192.setTop (mkF m 78 A1 [(.int (2 : Int32))])) _
          refine st194 _ ?_
          show Steps p.tables e below (T194.setTop (mkF m 80 A1 [(.ref b194)])) _
          let A2 : Array Slot := #[.val (.long q1), .second, .val (.long q2), .second, .val (.long q3), .second, .val (.long q4), .second, .val (.int p5), .val (.int p6), .val (.int (1 : Int32)), .val (.int (2 : Int32)), .val (.long v115), .second, .val (.long v119), .second, .val (.ref b192), .val (.ref b194), .unset, .unset]
          refine XS.astore X194.here hx rfl (hb hby at_80) rfl rfl (l' := A2) rfl ?_
          show Steps p.tables e below (T194.setTop (mkF m 82 A2 [])) _
          refine XS.iload X194.here hx rfl (hb hby at_82) rfl ?_
          show Steps p.tables e below (T194.setTop (mkF m 84 A2 [(.int (1 : Int32))])) _
          refine XS.iconst X194.here hx rfl (hb hby at_84) ?_
          show Steps p.tables e below (T194.setTop (mkF m 85 A2 [(.int (1 : Int32)), (.int (1 : Int32))])) _
          refine XS.icmpNo X194.here hx rfl (hb hby at_85) rfl (flt (by decide : ¬ ((1 : Int32) < (1 : Int32)))).1 ?_
          show Steps p.tables e below (T194.setTop (mkF m 88 A2 [])) _
          refine XS.aload X194.here hx rfl (hb hby at_88) rfl rfl ?_
          show Steps p.tables e below (T194.setTop (mkF m 90 A2 [(.ref b192)])) _
          refine XS.iconst X194.here hx rfl (hb hby at_90) ?_
          show Steps p.tables e below (T194.setTop (mkF m 91 A2 [(.int (0 : Int32)), (.ref b192)])) _
          refine XS.lloadN X194.here hx rfl (hb hby at_91) rfl ?_
          show Steps p.tables e below (T194.setTop (mkF m 92 A2 [(.long q1), (.int (0 : Int32)), (.ref b192)])) _
          refine st198 _ ?_
          show Steps p.tables e below (T198.setTop (mkF m 93 A2 [])) _
          refine XS.iload X198.here hx rfl (hb hby at_93) rfl ?_
          show Steps p.tables e below (T198.setTop (mkF m 95 A2 [(.int (1 : Int32))])) _
          refine XS.iconst X198.here hx rfl (hb hby at_95) ?_
          show Steps p.tables e below (T198.setTop (mkF m 96 A2 [(.int (2 : Int32)), (.int (1 : Int32))])) _
          refine XS.icmpYes X198.here hx rfl (pc0 := 96) (pc' := 104) rfl (hb hby at_96) rfl (tlt (by decide : (1 : Int32) < (2 : Int32))).1 (by decide) (by decide) ?_
          show Steps p.tables e below (T198.setTop (mkF m 104 A2 [])) _
          refine XS.iload X198.here hx rfl (hb hby at_104) rfl ?_
          show Steps p.tables e below (T198.setTop (mkF m 106 A2 [(.int (2 : Int32))])) _
          refine XS.iconst X198.here hx rfl (hb hby at_106) ?_
          show Steps p.tables e below (T198.setTop (mkF m 107 A2 [(.int (1 : Int32)), (.int (2 : Int32))])) _
          refine XS.icmpNo X198.here hx rfl (hb hby at_107) rfl (flt (by decide : ¬ ((2 : Int32) < (1 : Int32)))).1 ?_
          show Steps p.tables e below (T198.setTop (mkF m 110 A2 [])) _
          refine XS.aload X198.here hx rfl (hb hby at_110) rfl rfl ?_
          show Steps p.tables e below (T198.setTop (mkF m 112 A2 [(.ref b194)])) _
          refine XS.iconst X198.here hx rfl (hb hby at_112) ?_
          show Steps p.tables e below (T198.setTop (mkF m 113 A2 [(.int (0 : Int32)), (.ref b194)])) _
          refine XS.lload X198.here hx rfl (hb hby at_113) rfl ?_
          show Steps p.tables e below (T198.setTop (mkF m 115 A2 [(.long v115), (.int (0 : Int32)), (.ref b194)])) _
          refine st202 _ ?_
          show Steps p.tables e below (T202.setTop (mkF m 116 A2 [])) _
          refine XS.iload X202.here hx rfl (hb hby at_116) rfl ?_
          show Steps p.tables e below (T202.setTop (mkF m 118 A2 [(.int (2 : Int32))])) _
          refine XS.iconst X202.here hx rfl (hb hby at_118) ?_
          show Steps p.tables e below (T202.setTop (mkF m 119 A2 [(.int (2 : Int32)), (.int (2 : Int32))])) _
          refine XS.icmpNo X202.here hx rfl (hb hby at_119) rfl (flt (by decide : ¬ ((2 : Int32) < (2 : Int32)))).1 ?_
          show Steps p.tables e below (T202.setTop (mkF m 122 A2 [])) _
          refine XS.aload X202.here hx rfl (hb hby at_122) rfl rfl ?_
          show Steps p.tables e below (T202.setTop (mkF m 124 A2 [(.ref b194)])) _
          refine XS.iconst X202.here hx rfl (hb hby at_124) ?_
          show Steps p.tables e below (T202.setTop (mkF m 125 A2 [(.int (1 : Int32)), (.ref b194)])) _
          refine XS.lload X202.here hx rfl (hb hby at_125) rfl ?_
          show Steps p.tables e below (T202.setTop (mkF m 127 A2 [(.long v119), (.int (1 : Int32)), (.ref b194)])) _
          refine st206 _ ?_
          exact kt)
      obtain ⟨v212, hv212⟩ : ∃ v : Int32, v = (if (lcmpW (q1 - (2 : Int64)) v115) = (0 : Int32) then (1 : Int32) else (if (lcmpW (q1 - (2 : Int64)) v119) = (0 : Int32) then (1 : Int32) else (0 : Int32))) := ⟨_, rfl⟩
      have k213 : ∀ t, Steps p.tables e below (T206.setTop (mkF m 225 #[.val (.long q1), .second, .val (.long q2), .second, .val (.long q3), .second, .val (.long q4), .second, .val (.int p5), .val (.int p6), .val (.int (1 : Int32)), .val (.int (2 : Int32)), .val (.long v115), .second, .val (.long v119), .second, .val (.ref b192), .val (.ref b194), .unset, .unset] [(.int v212)])) t → Steps p.tables e below (s₁.setTop (entryFrame m #[(.long q1), (.long q2), (.long q3), (.long q4), (.int p5), (.int p6)] maxLocals)) t := by
        intro t kt
        by_cases hc148_210 : (lcmpW (q1 - (2 : Int64)) v115) = (0 : Int32)
        · rw [show v212 = (1 : Int32) from (hv212.trans (if_pos hc148_210))] at kt
          exact k209 t (by
              let A0 : Array Slot := #[.val (.long q1), .second, .val (.long q2), .second, .val (.long q3), .second, .val (.long q4), .second, .val (.int p5), .val (.int p6), .val (.int (1 : Int32)), .val (.int (2 : Int32)), .val (.long v115), .second, .val (.long v119), .second, .val (.ref b192), .val (.ref b194), .unset, .unset]
              show Steps p.tables e below (T206.setTop (mkF m 128 A0 [])) _
              refine XS.iload X206.here hx rfl (hb hby at_128) rfl ?_
              show Steps p.tables e below (T206.setTop (mkF m 130 A0 [(.int (1 : Int32))])) _
              refine XS.iconst X206.here hx rfl (hb hby at_130) ?_
              show Steps p.tables e below (T206.setTop (mkF m 131 A0 [(.int (1 : Int32)), (.int (1 : Int32))])) _
              refine XS.icmpNo X206.here hx rfl (hb hby at_131) rfl (flt (by decide : ¬ ((1 : Int32) < (1 : Int32)))).1 ?_
              show Steps p.tables e below (T206.setTop (mkF m 134 A0 [])) _
              refine XS.iload X206.here hx rfl (hb hby at_134) rfl ?_
              show Steps p.tables e below (T206.setTop (mkF m 136 A0 [(.int (2 : Int32))])) _
              refine XS.iconst X206.here hx rfl (hb hby at_136) ?_
              show Steps p.tables e below (T206.setTop (mkF m 137 A0 [(.int (1 : Int32)), (.int (2 : Int32))])) _
              refine XS.icmpNo X206.here hx rfl (hb hby at_137) rfl (flt (by decide : ¬ ((2 : Int32) < (1 : Int32)))).1 ?_
              show Steps p.tables e below (T206.setTop (mkF m 140 A0 [])) _
              refine XS.lloadN X206.here hx rfl (hb hby at_140) rfl ?_
              show Steps p.tables e below (T206.setTop (mkF m 141 A0 [(.long q1)])) _
              refine X206.ldc2Long hx hown (mvT hZ (hw _ (List.mem_of_getElem? (i := 9) rfl))) (g := (mkF m 141 A0 [(.long q1)])) rfl (hb hby at_141) _ ?_
              show Steps p.tables e below (T206.setTop (mkF m 144 A0 [(.long (2 : Int64)), (.long q1)])) _
              refine XS.lsub X206.here hx rfl (hb hby at_144) rfl ?_
              show Steps p.tables e below (T206.setTop (mkF m 145 A0 [(.long (q1 - (2 : Int64)))])) _
              refine XS.lload X206.here hx rfl (hb hby at_145) rfl ?_
              show Steps p.tables e below (T206.setTop (mkF m 147 A0 [(.long v115), (.long (q1 - (2 : Int64)))])) _
              refine XS.lcmp X206.here hx rfl (hb hby at_147) rfl ?_
              show Steps p.tables e below (T206.setTop (mkF m 148 A0 [(.int (lcmpW (q1 - (2 : Int64)) v115))])) _
              refine XS.ifYes X206.here hx rfl (pc0 := 148) (pc' := 220) rfl (hb hby at_148) rfl ((if0 _ _).trans (teq hc148_210).1) (by decide) (by decide) ?_
              show Steps p.tables e below (T206.setTop (mkF m 220 A0 [])) _
              refine XS.iconst X206.here hx rfl (hb hby at_220) ?_
              show Steps p.tables e below (T206.setTop (mkF m 221 A0 [(.int (1 : Int32))])) _
              refine XS.goto X206.here hx rfl (pc0 := 221) (pc' := 225) rfl (hb hby at_221) (by decide) (by decide) ?_
              exact kt)
        · by_cases hc171_211 : (lcmpW (q1 - (2 : Int64)) v119) = (0 : Int32)
          · rw [show v212 = (1 : Int32) from ((hv212.trans (if_neg hc148_210)).trans (if_pos hc171_211))] at kt
            exact k209 t (by
                let A0 : Array Slot := #[.val (.long q1), .second, .val (.long q2), .second, .val (.long q3), .second, .val (.long q4), .second, .val (.int p5), .val (.int p6), .val (.int (1 : Int32)), .val (.int (2 : Int32)), .val (.long v115), .second, .val (.long v119), .second, .val (.ref b192), .val (.ref b194), .unset, .unset]
                show Steps p.tables e below (T206.setTop (mkF m 128 A0 [])) _
                refine XS.iload X206.here hx rfl (hb hby at_128) rfl ?_
                show Steps p.tables e below (T206.setTop (mkF m 130 A0 [(.int (1 : Int32))])) _
                refine XS.iconst X206.here hx rfl (hb hby at_130) ?_
                show Steps p.tables e below (T206.setTop (mkF m 131 A0 [(.int (1 : Int32)), (.int (1 : Int32))])) _
                refine XS.icmpNo X206.here hx rfl (hb hby at_131) rfl (flt (by decide : ¬ ((1 : Int32) < (1 : Int32)))).1 ?_
                show Steps p.tables e below (T206.setTop (mkF m 134 A0 [])) _
                refine XS.iload X206.here hx rfl (hb hby at_134) rfl ?_
                show Steps p.tables e below (T206.setTop (mkF m 136 A0 [(.int (2 : Int32))])) _
                refine XS.iconst X206.here hx rfl (hb hby at_136) ?_
                show Steps p.tables e below (T206.setTop (mkF m 137 A0 [(.int (1 : Int32)), (.int (2 : Int32))])) _
                refine XS.icmpNo X206.here hx rfl (hb hby at_137) rfl (flt (by decide : ¬ ((2 : Int32) < (1 : Int32)))).1 ?_
                show Steps p.tables e below (T206.setTop (mkF m 140 A0 [])) _
                refine XS.lloadN X206.here hx rfl (hb hby at_140) rfl ?_
                show Steps p.tables e below (T206.setTop (mkF m 141 A0 [(.long q1)])) _
                refine X206.ldc2Long hx hown (mvT hZ (hw _ (List.mem_of_getElem? (i := 9) rfl))) (g := (mkF m 141 A0 [(.long q1)])) rfl (hb hby at_141) _ ?_
                show Steps p.tables e below (T206.setTop (mkF m 144 A0 [(.long (2 : Int64)), (.long q1)])) _
                refine XS.lsub X206.here hx rfl (hb hby at_144) rfl ?_
                show Steps p.tables e below (T206.setTop (mkF m 145 A0 [(.long (q1 - (2 : Int64)))])) _
                refine XS.lload X206.here hx rfl (hb hby at_145) rfl ?_
                show Steps p.tables e below (T206.setTop (mkF m 147 A0 [(.long v115), (.long (q1 - (2 : Int64)))])) _
                refine XS.lcmp X206.here hx rfl (hb hby at_147) rfl ?_
                show Steps p.tables e below (T206.setTop (mkF m 148 A0 [(.int (lcmpW (q1 - (2 : Int64)) v115))])) _
                refine XS.ifNo X206.here hx rfl (hb hby at_148) rfl ((if0 _ _).trans (feq hc148_210).1) ?_
                show Steps p.tables e below (T206.setTop (mkF m 151 A0 [])) _
                refine XS.iload X206.here hx rfl (hb hby at_151) rfl ?_
                show Steps p.tables e below (T206.setTop (mkF m 153 A0 [(.int (1 : Int32))])) _
                refine XS.iconst X206.here hx rfl (hb hby at_153) ?_
                show Steps p.tables e below (T206.setTop (mkF m 154 A0 [(.int (1 : Int32)), (.int (1 : Int32))])) _
                refine XS.icmpNo X206.here hx rfl (hb hby at_154) rfl (flt (by decide : ¬ ((1 : Int32) < (1 : Int32)))).1 ?_
                show Steps p.tables e below (T206.setTop (mkF m 157 A0 [])) _
                refine XS.iload X206.here hx rfl (hb hby at_157) rfl ?_
                show Steps p.tables e below (T206.setTop (mkF m 159 A0 [(.int (2 : Int32))])) _
                refine XS.iconst X206.here hx rfl (hb hby at_159) ?_
                show Steps p.tables e below (T206.setTop (mkF m 160 A0 [(.int (2 : Int32)), (.int (2 : Int32))])) _
                refine XS.icmpNo X206.here hx rfl (hb hby at_160) rfl (flt (by decide : ¬ ((2 : Int32) < (2 : Int32)))).1 ?_
                show Steps p.tables e below (T206.setTop (mkF m 163 A0 [])) _
                refine XS.lloadN X206.here hx rfl (hb hby at_163) rfl ?_
                show Steps p.tables e below (T206.setTop (mkF m 164 A0 [(.long q1)])) _
                refine X206.ldc2Long hx hown (mvT hZ (hw _ (List.mem_of_getElem? (i := 9) rfl))) (g := (mkF m 164 A0 [(.long q1)])) rfl (hb hby at_164) _ ?_
                show Steps p.tables e below (T206.setTop (mkF m 167 A0 [(.long (2 : Int64)), (.long q1)])) _
                refine XS.lsub X206.here hx rfl (hb hby at_167) rfl ?_
                show Steps p.tables e below (T206.setTop (mkF m 168 A0 [(.long (q1 - (2 : Int64)))])) _
                refine XS.lload X206.here hx rfl (hb hby at_168) rfl ?_
                show Steps p.tables e below (T206.setTop (mkF m 170 A0 [(.long v119), (.long (q1 - (2 : Int64)))])) _
                refine XS.lcmp X206.here hx rfl (hb hby at_170) rfl ?_
                show Steps p.tables e below (T206.setTop (mkF m 171 A0 [(.int (lcmpW (q1 - (2 : Int64)) v119))])) _
                refine XS.ifYes X206.here hx rfl (pc0 := 171) (pc' := 220) rfl (hb hby at_171) rfl ((if0 _ _).trans (teq hc171_211).1) (by decide) (by decide) ?_
                show Steps p.tables e below (T206.setTop (mkF m 220 A0 [])) _
                refine XS.iconst X206.here hx rfl (hb hby at_220) ?_
                show Steps p.tables e below (T206.setTop (mkF m 221 A0 [(.int (1 : Int32))])) _
                refine XS.goto X206.here hx rfl (pc0 := 221) (pc' := 225) rfl (hb hby at_221) (by decide) (by decide) ?_
                exact kt)
          · rw [show v212 = (0 : Int32) from ((hv212.trans (if_neg hc148_210)).trans (if_neg hc171_211))] at kt
            exact k209 t (by
                let A0 : Array Slot := #[.val (.long q1), .second, .val (.long q2), .second, .val (.long q3), .second, .val (.long q4), .second, .val (.int p5), .val (.int p6), .val (.int (1 : Int32)), .val (.int (2 : Int32)), .val (.long v115), .second, .val (.long v119), .second, .val (.ref b192), .val (.ref b194), .unset, .unset]
                show Steps p.tables e below (T206.setTop (mkF m 128 A0 [])) _
                refine XS.iload X206.here hx rfl (hb hby at_128) rfl ?_
                show Steps p.tables e below (T206.setTop (mkF m 130 A0 [(.int (1 : Int32))])) _
                refine XS.iconst X206.here hx rfl (hb hby at_130) ?_
                show Steps p.tables e below (T206.setTop (mkF m 131 A0 [(.int (1 : Int32)), (.int (1 : Int32))])) _
                refine XS.icmpNo X206.here hx rfl (hb hby at_131) rfl (flt (by decide : ¬ ((1 : Int32) < (1 : Int32)))).1 ?_
                show Steps p.tables e below (T206.setTop (mkF m 134 A0 [])) _
                refine XS.iload X206.here hx rfl (hb hby at_134) rfl ?_
                show Steps p.tables e below (T206.setTop (mkF m 136 A0 [(.int (2 : Int32))])) _
                refine XS.iconst X206.here hx rfl (hb hby at_136) ?_
                show Steps p.tables e below (T206.setTop (mkF m 137 A0 [(.int (1 : Int32)), (.int (2 : Int32))])) _
                refine XS.icmpNo X206.here hx rfl (hb hby at_137) rfl (flt (by decide : ¬ ((2 : Int32) < (1 : Int32)))).1 ?_
                show Steps p.tables e below (T206.setTop (mkF m 140 A0 [])) _
                refine XS.lloadN X206.here hx rfl (hb hby at_140) rfl ?_
                show Steps p.tables e below (T206.setTop (mkF m 141 A0 [(.long q1)])) _
                refine X206.ldc2Long hx hown (mvT hZ (hw _ (List.mem_of_getElem? (i := 9) rfl))) (g := (mkF m 141 A0 [(.long q1)])) rfl (hb hby at_141) _ ?_
                show Steps p.tables e below (T206.setTop (mkF m 144 A0 [(.long (2 : Int64)), (.long q1)])) _
                refine XS.lsub X206.here hx rfl (hb hby at_144) rfl ?_
                show Steps p.tables e below (T206.setTop (mkF m 145 A0 [(.long (q1 - (2 : Int64)))])) _
                refine XS.lload X206.here hx rfl (hb hby at_145) rfl ?_
                show Steps p.tables e below (T206.setTop (mkF m 147 A0 [(.long v115), (.long (q1 - (2 : Int64)))])) _
                refine XS.lcmp X206.here hx rfl (hb hby at_147) rfl ?_
                show Steps p.tables e below (T206.setTop (mkF m 148 A0 [(.int (lcmpW (q1 - (2 : Int64)) v115))])) _
                refine XS.ifNo X206.here hx rfl (hb hby at_148) rfl ((if0 _ _).trans (feq hc148_210).1) ?_
                show Steps p.tables e below (T206.setTop (mkF m 151 A0 [])) _
                refine XS.iload X206.here hx rfl (hb hby at_151) rfl ?_
                show Steps p.tables e below (T206.setTop (mkF m 153 A0 [(.int (1 : Int32))])) _
                refine XS.iconst X206.here hx rfl (hb hby at_153) ?_
                show Steps p.tables e below (T206.setTop (mkF m 154 A0 [(.int (1 : Int32)), (.int (1 : Int32))])) _
                refine XS.icmpNo X206.here hx rfl (hb hby at_154) rfl (flt (by decide : ¬ ((1 : Int32) < (1 : Int32)))).1 ?_
                show Steps p.tables e below (T206.setTop (mkF m 157 A0 [])) _
                refine XS.iload X206.here hx rfl (hb hby at_157) rfl ?_
                show Steps p.tables e below (T206.setTop (mkF m 159 A0 [(.int (2 : Int32))])) _
                refine XS.iconst X206.here hx rfl (hb hby at_159) ?_
                show Steps p.tables e below (T206.setTop (mkF m 160 A0 [(.int (2 : Int32)), (.int (2 : Int32))])) _
                refine XS.icmpNo X206.here hx rfl (hb hby at_160) rfl (flt (by decide : ¬ ((2 : Int32) < (2 : Int32)))).1 ?_
                show Steps p.tables e below (T206.setTop (mkF m 163 A0 [])) _
                refine XS.lloadN X206.here hx rfl (hb hby at_163) rfl ?_
                show Steps p.tables e below (T206.setTop (mkF m 164 A0 [(.long q1)])) _
                refine X206.ldc2Long hx hown (mvT hZ (hw _ (List.mem_of_getElem? (i := 9) rfl))) (g := (mkF m 164 A0 [(.long q1)])) rfl (hb hby at_164) _ ?_
                show Steps p.tables e below (T206.setTop (mkF m 167 A0 [(.long (2 : Int64)), (.long q1)])) _
                refine XS.lsub X206.here hx rfl (hb hby at_167) rfl ?_
                show Steps p.tables e below (T206.setTop (mkF m 168 A0 [(.long (q1 - (2 : Int64)))])) _
                refine XS.lload X206.here hx rfl (hb hby at_168) rfl ?_
                show Steps p.tables e below (T206.setTop (mkF m 170 A0 [(.long v119), (.long (q1 - (2 : Int64)))])) _
                refine XS.lcmp X206.here hx rfl (hb hby at_170) rfl ?_
                show Steps p.tables e below (T206.setTop (mkF m 171 A0 [(.int (lcmpW (q1 - (2 : Int64)) v119))])) _
                refine XS.ifNo X206.here hx rfl (hb hby at_171) rfl ((if0 _ _).trans (feq hc171_211).1) ?_
                show Steps p.tables e below (T206.setTop (mkF m 174 A0 [])) _
                refine XS.iload X206.here hx rfl (hb hby at_174) rfl ?_
                show Steps p.tables e below (T206.setTop (mkF m 176 A0 [(.int (1 : Int32))])) _
                refine XS.iconst X206.here hx rfl (hb hby at_176) ?_
                show Steps p.tables e below (T206.setTop (mkF m 177 A0 [(.int (2 : Int32)), (.int (1 : Int32))])) _
                refine XS.icmpYes X206.here hx rfl (pc0 := 177) (pc' := 197) rfl (hb hby at_177) rfl (tlt (by decide : (1 : Int32) < (2 : Int32))).1 (by decide) (by decide) ?_
                show Steps p.tables e below (T206.setTop (mkF m 197 A0 [])) _
                refine XS.iload X206.here hx rfl (hb hby at_197) rfl ?_
                show Steps p.tables e below (T206.setTop (mkF m 199 A0 [(.int (1 : Int32))])) _
                refine XS.iconst X206.here hx rfl (hb hby at_199) ?_
                show Steps p.tables e below (T206.setTop (mkF m 200 A0 [(.int (2 : Int32)), (.int (1 : Int32))])) _
                refine XS.icmpYes X206.here hx rfl (pc0 := 200) (pc' := 224) rfl (hb hby at_200) rfl (tlt (by decide : (1 : Int32) < (2 : Int32))).1 (by decide) (by decide) ?_
                show Steps p.tables e below (T206.setTop (mkF m 224 A0 [])) _
                refine XS.iconst X206.here hx rfl (hb hby at_224) ?_
                exact kt)
      have hfin : own_nbo [q1] [v115, v119] = v212 := by
        rw [hv212]
        simp only [own_nbo, List.foldl, own_hit, own_swap]
        by_cases hh0 : lcmpW (q1 - (2 : Int64)) v115 = (0 : Int32) <;> by_cases hh1 : lcmpW (q1 - (2 : Int64)) v119 = (0 : Int32) <;> simp [hh0, hh1]
      obtain ⟨_, _, ⟨T214, L214, k214, n214⟩, -, X214, ⟨Lc214, hQ214, l214, y214, z214⟩, st214⟩ := Jvm.LawKit.callS X206 hx (y := (⟨"com/example/conformed/conformed/agreement/Enumerator", "nextButOne", "([J[J)Z"⟩ : MethodName)) hown (mvT hZ (hw _ (List.mem_of_getElem? (i := 5) rfl))) (mvT hZ (hw _ (List.mem_of_getElem? (i := 6) rfl))) (mvT hZ (hw _ (List.mem_of_getElem? (i := 7) rfl))) (mvT hZ (hw _ (List.mem_of_getElem? (i := 8) rfl))) (by decide) (backOf (W := 0) (rm2_12 l Z a0 hw [] b192 b194 kc192 kc194 q1 v115 v119 h206 n0 Z_208 V_b192_198'207 V_b194_206) hZ (hw _ (List.mem_of_getElem? (i := 8) rfl)) (hw _ (List.mem_of_getElem? (i := 7) rfl)) (by decide) (by decide)) (g := (mkF m 231 #[.val (.long q1), .second, .val (.long q2), .second, .val (.long q3), .second, .val (.long q4), .second, .val (.int p5), .val (.int p6), .val (.int (1 : Int32)), .val (.int (2 : Int32)), .val (.long v115), .second, .val (.long v119), .second, .val (.ref b192), .val (.ref b194), .val (.int v212), .unset] [(.ref b194), (.ref b192)])) rfl (by rw [hml]; rfl) (argsL := [(.ref b192), (.ref b194)]) (rest := []) (lenOf pd_1 rfl) rfl (by show 2 * 0 + _ ≤ _; exact Nat.le_of_eq rfl) (hb hby at_231) (fun _ _ => ⟨rfl, e206, (by decide : 2 + 0 ≤ _), (by decide : 3 + 0 ≤ _)⟩)
      dsimp only [Pt.U, Pt.locs, Pt.cells, Pt.slots] at X214 l214 y214 z214 st214 hQ214
      subst l214 y214 z214
      obtain ⟨rfl, N214q, e214⟩ := hQ214
      have N214 := Fr.app N206 N214q
      have k215 : ∀ t, Steps p.tables e below (T214.setTop (mkF m 248 #[.val (.long q1), .second, .val (.long q2), .second, .val (.long q3), .second, .val (.long q4), .second, .val (.int p5), .val (.int p6), .val (.int (1 : Int32)), .val (.int (2 : Int32)), .val (.long v115), .second, .val (.long v119), .second, .val (.ref b192), .val (.ref b194), .val (.int v212), .val (.int (own_nbo [q1] [v115, v119]))] [(.int (1 : Int32))])) t → Steps p.tables e below (s₁.setTop (entryFrame m #[(.long q1), (.long q2), (.long q3), (.long q4), (.int p5), (.int p6)] maxLocals)) t := fun t kt => k213 t (by
          show Steps p.tables e below (T206.setTop (mkF m 225 #[.val (.long q1), .second, .val (.long q2), .second, .val (.long q3), .second, .val (.long q4), .second, .val (.int p5), .val (.int p6), .val (.int (1 : Int32)), .val (.int (2 : Int32)), .val (.long v115), .second, .val (.long v119), .second, .val (.ref b192), .val (.ref b194), .unset, .unset] [(.int v212)])) _
          let A0 : Array Slot := #[.val (.long q1), .second, .val (.long q2), .second, .val (.long q3), .second, .val (.long q4), .second, .val (.int p5), .val (.int p6), .val (.int (1 : Int32)), .val (.int (2 : Int32)), .val (.long v115), .second, .val (.long v119), .second, .val (.ref b192), .val (.ref b194), .val (.int v212), .unset]
          refine XS.istore X206.here hx rfl (hb hby at_225) rfl (l' := A0) rfl ?_
          show Steps p.tables e below (T206.setTop (mkF m 227 A0 [])) _
          refine XS.aload X206.here hx rfl (hb hby at_227) rfl rfl ?_
          show Steps p.tables e below (T206.setTop (mkF m 229 A0 [(.ref b192)])) _
          refine XS.aload X206.here hx rfl (hb hby at_229) rfl rfl ?_
          show Steps p.tables e below (T206.setTop (mkF m 231 A0 [(.ref b194), (.ref b192)])) _
          refine st214 _ ?_
          show Steps p.tables e below (T214.setTop (mkF m 234 A0 [(.int (own_nbo [q1] [v115, v119]))])) _
          let A1 : Array Slot := #[.val (.long q1), .second, .val (.long q2), .second, .val (.long q3), .second, .val (.long q4), .second, .val (.int p5), .val (.int p6), .val (.int (1 : Int32)), .val (.int (2 : Int32)), .val (.long v115), .second, .val (.long v119), .second, .val (.ref b192), .val (.ref b194), .val (.int v212), .val (.int (own_nbo [q1] [v115, v119]))]
          refine XS.istore X214.here hx rfl (hb hby at_234) rfl (l' := A1) rfl ?_
          show Steps p.tables e below (T214.setTop (mkF m 236 A1 [])) _
          refine XS.iload X214.here hx rfl (hb hby at_236) rfl ?_
          show Steps p.tables e below (T214.setTop (mkF m 238 A1 [(.int (own_nbo [q1] [v115, v119]))])) _
          refine XS.iload X214.here hx rfl (hb hby at_238) rfl ?_
          show Steps p.tables e below (T214.setTop (mkF m 240 A1 [(.int v212), (.int (own_nbo [q1] [v115, v119]))])) _
          refine XS.icmpNo X214.here hx rfl (hb hby at_240) rfl (teq hfin).2 ?_
          show Steps p.tables e below (T214.setTop (mkF m 243 A1 [])) _
          refine XS.iconst X214.here hx rfl (hb hby at_243) ?_
          show Steps p.tables e below (T214.setTop (mkF m 244 A1 [(.int (1 : Int32))])) _
          refine XS.goto X214.here hx rfl (pc0 := 244) (pc' := 248) rfl (hb hby at_244) (by decide) (by decide) ?_
          exact kt)
      obtain ⟨fs, hr, hrun, hended, hW, hsame⟩ := X214.leave (v := some (.int (1 : Int32))) (fun h => by rw [Bd.returns] at h; cases h)
      refine ⟨_, _, k215 _ ?_, hrun, hended, _, _, rfl, ?_, ⟨_, rfl⟩, hW, hsame.mono (by decide) (by decide)⟩
      · show Steps p.tables e below (T214.setTop (mkF m 248 #[.val (.long q1), .second, .val (.long q2), .second, .val (.long q3), .second, .val (.long q4), .second, .val (.int p5), .val (.int p6), .val (.int (1 : Int32)), .val (.int (2 : Int32)), .val (.long v115), .second, .val (.long v119), .second, .val (.ref b192), .val (.ref b194), .val (.int v212), .val (.int (own_nbo [q1] [v115, v119]))] [(.int (1 : Int32))])) _
        exact retN X214 hx (t := .boolean) Bd.returns (by simp) (hb hby at_248) hr
      · show Q_rm0 Z q1 q2 q3 q4 p5 p6 h0 n0 _ T214.heap _
        rw [e214]
        exact ⟨rfl, N214⟩
  · rcases hne3 with rfl | rfl | rfl
    · obtain ⟨T216, h216, kc216, X216, e216, E216, A216, st216⟩ := newP X111 hx hZ (hw _ (List.mem_of_getElem? (i := 4) rfl)) e111 (g := (mkF m 72 #[.val (.long q1), .second, .val (.long q2), .second, .val (.long q3), .second, .val (.long q4), .second, .val (.int p5), .val (.int p6), .val (.int (2 : Int32)), .val (.int (0 : Int32)), .val (.long v115), .second, .val (.long v119), .second, .unset, .unset, .unset, .unset] [(.int (2 : Int32))])) rfl (hb hby at_72) rfl (by decide) (cap := 2) (by decide) (by decide) (by decide) (by decide)
      obtain ⟨b216, g216⟩ : ∃ z, z = h0.size := ⟨_, rfl⟩
      rw [← g216] at A216 st216
      have g_b216 : n0 ≤ b216 := Nat.le_trans Z0 (Nat.le_of_eq g216.symm)
      have Z_217 : n0 ≤ h216.size := Nat.le_trans Z0 E216.1
      have V_b216 : Arv Z h216 b216 kc216 .long (2 : Int32) [(.long (0 : Int64)), (.long (0 : Int64))] (.long (0 : Int64)) := (Arv.new A216 (by decide)).pad (pad_rep [] (.long (0 : Int64)) 2)
      obtain ⟨T218, h218, kc218, X218, e218, E218, A218, st218⟩ := newP X216 hx hZ (hw _ (List.mem_of_getElem? (i := 4) rfl)) e216 (g := (mkF m 78 #[.val (.long q1), .second, .val (.long q2), .second, .val (.long q3), .second, .val (.long q4), .second, .val (.int p5), .val (.int p6), .val (.int (2 : Int32)), .val (.int (0 : Int32)), .val (.long v115), .second, .val (.long v119), .second, .val (.ref b216), .unset, .unset, .unset] [(.int (0 : Int32))])) rfl (hb hby at_78) rfl (by decide) (cap := 0) (by decide) (by decide) (by decide) (by decide)
      obtain ⟨b218, g218⟩ : ∃ z, z = h216.size := ⟨_, rfl⟩
      rw [← g218] at A218 st218
      have ne_b216_b218 : b216 ≠ b218 := Nat.ne_of_lt (Nat.lt_of_lt_of_le V_b216.lt (Nat.le_of_eq g218.symm))
      have g_b218 : n0 ≤ b218 := Nat.le_trans Z_217 (Nat.le_of_eq g218.symm)
      have V_b216'219 := V_b216.ext E218
      have Z_220 : n0 ≤ h218.size := Nat.le_trans Z_217 E218.1
      have V_b218 : Arv Z h218 b218 kc218 .long (0 : Int32) [] (.long (0 : Int64)) := Arv.new A218 (by decide)
      obtain ⟨cl221, Ar221, q221, S221, M221, H221, G221⟩ := id V_b216'219
      have hin222 : ¬ ((0 : Int32) < 0 ∨ cl221.slots.size ≤ ((0 : Int32)).toNatClampNeg) := inb_of S221 ⟨by decide, by decide⟩
      obtain ⟨T222, h222, X222, e222, W222, st222⟩ := stJ X218 hx hZ e218 Ar221 (j := (0 : Int32)) hin222 (g := (mkF m 92 #[.val (.long q1), .second, .val (.long q2), .second, .val (.long q3), .second, .val (.long q4), .second, .val (.int p5), .val (.int p6), .val (.int (2 : Int32)), .val (.int (0 : Int32)), .val (.long v115), .second, .val (.long v119), .second, .val (.ref b216), .val (.ref b218), .unset, .unset] [(.long q1), (.int (0 : Int32)), (.ref b216)])) rfl rfl (hb hby at_92)
      have V_b216_222 : Arv Z h222 b216 kc216 .long (2 : Int32) [(.long q1), (.long (0 : Int64))] (.long (0 : Int64)) := Arv.set Ar221 q221 S221 M221 H221 G221 rfl W222 0 rfl (Nat.le_of_ble_eq_true rfl)
      have V_b218'223 := V_b218.other W222 (Ne.symm ne_b216_b218)
      have Z_224 : n0 ≤ h222.size := Nat.le_trans Z_220 (Nat.le_of_eq (Wr.size W222).symm)
      have N222 := Fr.snoc X222 N111 g_b216
      obtain ⟨cl225, Ar225, q225, S225, M225, H225, G225⟩ := id V_b216_222
      have hin226 : ¬ ((1 : Int32) < 0 ∨ cl225.slots.size ≤ ((1 : Int32)).toNatClampNeg) := inb_of S225 ⟨by decide, by decide⟩
      obtain ⟨T226, h226, X226, e226, W226, st226⟩ := stJ X222 hx hZ e222 Ar225 (j := (1 : Int32)) hin226 (g := (mkF m 103 #[.val (.long q1), .second, .val (.long q2), .second, .val (.long q3), .second, .val (.long q4), .second, .val (.int p5), .val (.int p6), .val (.int (2 : Int32)), .val (.int (0 : Int32)), .val (.long v115), .second, .val (.long v119), .second, .val (.ref b216), .val (.ref b218), .unset, .unset] [(.long q2), (.int (1 : Int32)), (.ref b216)])) rfl rfl (hb hby at_103)
      have V_b216_226 : Arv Z h226 b216 kc216 .long (2 : Int32) [(.long q1), (.long q2)] (.long (0 : Int64)) := Arv.set Ar225 q225 S225 M225 H225 G225 rfl W226 1 rfl (Nat.le_of_ble_eq_true rfl)
      have V_b218'227 := V_b218'223.other W226 (Ne.symm ne_b216_b218)
      have Z_228 : n0 ≤ h226.size := Nat.le_trans Z_224 (Nat.le_of_eq (Wr.size W226).symm)
      have N226 := Fr.snoc X226 N222 g_b216
      have k229 : ∀ t, Steps p.tables e below (T226.setTop (mkF m 128 #[.val (.long q1), .second, .val (.long q2), .second, .val (.long q3), .second, .val (.long q4), .second, .val (.int p5), .val (.int p6), .val (.int (2 : Int32)), .val (.int (0 : Int32)), .val (.long v115), .second, .val (.long v119), .second, .val (.ref b216), .val (.ref b218), .unset, .unset] [])) t → Steps p.tables e below (s₁.setTop (entryFrame m #[(.long q1), (.long q2), (.long q3), (.long q4), (.int p5), (.int p6)] maxLocals)) t := fun t kt => k120 t (by
          let A0 : Array Slot := #[.val (.long q1), .second, .val (.long q2), .second, .val (.long q3), .second, .val (.long q4), .second, .val (.int p5), .val (.int p6), .val (.int (2 : Int32)), .val (.int (0 : Int32)), .val (.long v115), .second, .val (.long v119), .second, .unset, .unset, .unset, .unset]
          show Steps p.tables e below (T111.setTop (mkF m 70 A0 [])) _
          refine XS.iload X111.here hx rfl (hb hby at_70) rfl ?_
          show Steps p.tables e below (T111.setTop (mkF m 72 A0 [(.int (2 : Int32))])) _
          refine st216 _ ?_
          show Steps p.tables e below (T216.setTop (mkF m 74 A0 [(.ref b216)])) _
          let A1 : Array Slot := #[.val (.long q1), .second, .val (.long q2), .second, .val (.long q3), .second, .val (.long q4), .second, .val (.int p5), .val (.int p6), .val (.int (2 : Int32)), .val (.int (0 : Int32)), .val (.long v115), .second, .val (.long v119), .second, .val (.ref b216), .unset, .unset, .unset]
          refine XS.astore X216.here hx rfl (hb hby at_74) rfl rfl (l' := A1) rfl ?_
          show Steps p.tables e below (T216.setTop (mkF m 76 A1 [])) _
          refine XS.iload X216.here hx rfl (hb hby at_76) rfl ?_
          show Steps p.tables e below (T216.setTop (mkF m 78 A1 [(.int (0 : Int32))])) _
          refine st218 _ ?_
          show Steps p.tables e below (T218.setTop (mkF m 80 A1 [(.ref b218)])) _
          let A2 : Array Slot := #[.val (.long q1), .second, .val (.long q2), .second, .val (.long q3), .second, .val (.long q4), .second, .val (.int p5), .val (.int p6), .val (.int (2 : Int32)), .val (.int (0 : Int32)), .val (.long v115), .second, .val (.long v119), .second, .val (.ref b216), .val (.ref b218), .unset, .unset]
          refine XS.astore X218.here hx rfl (hb hby at_80) rfl rfl (l' := A2) rfl ?_
          show Steps p.tables e below (T218.setTop (mkF m 82 A2 [])) _
          refine XS.iload X218.here hx rfl (hb hby at_82) rfl ?_
          show Steps p.tables e below (T218.setTop (mkF m 84 A2 [(.int (2 : Int32))])) _
          refine XS.iconst X218.here hx rfl (hb hby at_84) ?_
          show Steps p.tables e below (T218.setTop (mkF m 85 A2 [(.int (1 : Int32)), (.int (2 : Int32))])) _
          refine XS.icmpNo X218.here hx rfl (hb hby at_85) rfl (flt (by decide : ¬ ((2 : Int32) < (1 : Int32)))).1 ?_
          show Steps p.tables e below (T218.setTop (mkF m 88 A2 [])) _
          refine XS.aload X218.here hx rfl (hb hby at_88) rfl rfl ?_
          show Steps p.tables e below (T218.setTop (mkF m 90 A2 [(.ref b216)])) _
          refine XS.iconst X218.here hx rfl (hb hby at_90) ?_
          show Steps p.tables e below (T218.setTop (mkF m 91 A2 [(.int (0 : Int32)), (.ref b216)])) _
          refine XS.lloadN X218.here hx rfl (hb hby at_91) rfl ?_
          show Steps p.tables e below (T218.setTop (mkF m 92 A2 [(.long q1), (.int (0 : Int32)), (.ref b216)])) _
          refine st222 _ ?_
          show Steps p.tables e below (T222.setTop (mkF m 93 A2 [])) _
          refine XS.iload X222.here hx rfl (hb hby at_93) rfl ?_
          show Steps p.tables e below (T222.setTop (mkF m 95 A2 [(.int (2 : Int32))])) _
          refine XS.iconst X222.here hx rfl (hb hby at_95) ?_
          show Steps p.tables e below (T222.setTop (mkF m 96 A2 [(.int (2 : Int32)), (.int (2 : Int32))])) _
          refine XS.icmpNo X222.here hx rfl (hb hby at_96) rfl (flt (by decide : ¬ ((2 : Int32) < (2 : Int32)))).1 ?_
          show Steps p.tables e below (T222.setTop (mkF m 99 A2 [])) _
          refine XS.aload X222.here hx rfl (hb hby at_99) rfl rfl ?_
          show Steps p.tables e below (T222.setTop (mkF m 101 A2 [(.ref b216)])) _
          refine XS.iconst X222.here hx rfl (hb hby at_101) ?_
          show Steps p.tables e below (T222.setTop (mkF m 102 A2 [(.int (1 : Int32)), (.ref b216)])) _
          refine XS.lloadN X222.here hx rfl (hb hby at_102) rfl ?_
          show Steps p.tables e below (T222.setTop (mkF m 103 A2 [(.long q2), (.int (1 : Int32)), (.ref b216)])) _
          refine st226 _ ?_
          show Steps p.tables e below (T226.setTop (mkF m 104 A2 [])) _
          refine XS.iload X226.here hx rfl (hb hby at_104) rfl ?_
          show Steps p.tables e below (T226.setTop (mkF m 106 A2 [(.int (0 : Int32))])) _
          refine XS.iconst X226.here hx rfl (hb hby at_106) ?_
          show Steps p.tables e below (T226.setTop (mkF m 107 A2 [(.int (1 : Int32)), (.int (0 : Int32))])) _
          refine XS.icmpYes X226.here hx rfl (pc0 := 107) (pc' := 116) rfl (hb hby at_107) rfl (tlt (by decide : (0 : Int32) < (1 : Int32))).1 (by decide) (by decide) ?_
          show Steps p.tables e below (T226.setTop (mkF m 116 A2 [])) _
          refine XS.iload X226.here hx rfl (hb hby at_116) rfl ?_
          show Steps p.tables e below (T226.setTop (mkF m 118 A2 [(.int (0 : Int32))])) _
          refine XS.iconst X226.here hx rfl (hb hby at_118) ?_
          show Steps p.tables e below (T226.setTop (mkF m 119 A2 [(.int (2 : Int32)), (.int (0 : Int32))])) _
          refine XS.icmpYes X226.here hx rfl (pc0 := 119) (pc' := 128) rfl (hb hby at_119) rfl (tlt (by decide : (0 : Int32) < (2 : Int32))).1 (by decide) (by decide) ?_
          exact kt)
      have k230 : ∀ t, Steps p.tables e below (T226.setTop (mkF m 225 #[.val (.long q1), .second, .val (.long q2), .second, .val (.long q3), .second, .val (.long q4), .second, .val (.int p5), .val (.int p6), .val (.int (2 : Int32)), .val (.int (0 : Int32)), .val (.long v115), .second, .val (.long v119), .second, .val (.ref b216), .val (.ref b218), .unset, .unset] [(.int (0 : Int32))])) t → Steps p.tables e below (s₁.setTop (entryFrame m #[(.long q1), (.long q2), (.long q3), (.long q4), (.int p5), (.int p6)] maxLocals)) t := fun t kt => k229 t (by
          let A0 : Array Slot := #[.val (.long q1), .second, .val (.long q2), .second, .val (.long q3), .second, .val (.long q4), .second, .val (.int p5), .val (.int p6), .val (.int (2 : Int32)), .val (.int (0 : Int32)), .val (.long v115), .second, .val (.long v119), .second, .val (.ref b216), .val (.ref b218), .unset, .unset]
          show Steps p.tables e below (T226.setTop (mkF m 128 A0 [])) _
          refine XS.iload X226.here hx rfl (hb hby at_128) rfl ?_
          show Steps p.tables e below (T226.setTop (mkF m 130 A0 [(.int (2 : Int32))])) _
          refine XS.iconst X226.here hx rfl (hb hby at_130) ?_
          show Steps p.tables e below (T226.setTop (mkF m 131 A0 [(.int (1 : Int32)), (.int (2 : Int32))])) _
          refine XS.icmpNo X226.here hx rfl (hb hby at_131) rfl (flt (by decide : ¬ ((2 : Int32) < (1 : Int32)))).1 ?_
          show Steps p.tables e below (T226.setTop (mkF m 134 A0 [])) _
          refine XS.iload X226.here hx rfl (hb hby at_134) rfl ?_
          show Steps p.tables e below (T226.setTop (mkF m 136 A0 [(.int (0 : Int32))])) _
          refine XS.iconst X226.here hx rfl (hb hby at_136) ?_
          show Steps p.tables e below (T226.setTop (mkF m 137 A0 [(.int (1 : Int32)), (.int (0 : Int32))])) _
          refine XS.icmpYes X226.here hx rfl (pc0 := 137) (pc' := 151) rfl (hb hby at_137) rfl (tlt (by decide : (0 : Int32) < (1 : Int32))).1 (by decide) (by decide) ?_
          show Steps p.tables e below (T226.setTop (mkF m 151 A0 [])) _
          refine XS.iload X226.here hx rfl (hb hby at_151) rfl ?_
          show Steps p.tables e below (T226.setTop (mkF m 153 A0 [(.int (2 : Int32))])) _
          refine XS.iconst X226.here hx rfl (hb hby at_153) ?_
          show Steps p.tables e below (T226.setTop (mkF m 154 A0 [(.int (1 : Int32)), (.int (2 : Int32))])) _
          refine XS.icmpNo X226.here hx rfl (hb hby at_154) rfl (flt (by decide : ¬ ((2 : Int32) < (1 : Int32)))).1 ?_
          show Steps p.tables e below (T226.setTop (mkF m 157 A0 [])) _
          refine XS.iload X226.here hx rfl (hb hby at_157) rfl ?_
          show Steps p.tables e below (T226.setTop (mkF m 159 A0 [(.int (0 : Int32))])) _
          refine XS.iconst X226.here hx rfl (hb hby at_159) ?_
          show Steps p.tables e below (T226.setTop (mkF m 160 A0 [(.int (2 : Int32)), (.int (0 : Int32))])) _
          refine XS.icmpYes X226.here hx rfl (pc0 := 160) (pc' := 174) rfl (hb hby at_160) rfl (tlt (by decide : (0 : Int32) < (2 : Int32))).1 (by decide) (by decide) ?_
          show Steps p.tables e below (T226.setTop (mkF m 174 A0 [])) _
          refine XS.iload X226.here hx rfl (hb hby at_174) rfl ?_
          show Steps p.tables e below (T226.setTop (mkF m 176 A0 [(.int (2 : Int32))])) _
          refine XS.iconst X226.here hx rfl (hb hby at_176) ?_
          show Steps p.tables e below (T226.setTop (mkF m 177 A0 [(.int (2 : Int32)), (.int (2 : Int32))])) _
          refine XS.icmpNo X226.here hx rfl (hb hby at_177) rfl (flt (by decide : ¬ ((2 : Int32) < (2 : Int32)))).1 ?_
          show Steps p.tables e below (T226.setTop (mkF m 180 A0 [])) _
          refine XS.iload X226.here hx rfl (hb hby at_180) rfl ?_
          show Steps p.tables e below (T226.setTop (mkF m 182 A0 [(.int (0 : Int32))])) _
          refine XS.iconst X226.here hx rfl (hb hby at_182) ?_
          show Steps p.tables e below (T226.setTop (mkF m 183 A0 [(.int (1 : Int32)), (.int (0 : Int32))])) _
          refine XS.icmpYes X226.here hx rfl (pc0 := 183) (pc' := 197) rfl (hb hby at_183) rfl (tlt (by decide : (0 : Int32) < (1 : Int32))).1 (by decide) (by decide) ?_
          show Steps p.tables e below (T226.setTop (mkF m 197 A0 [])) _
          refine XS.iload X226.here hx rfl (hb hby at_197) rfl ?_
          show Steps p.tables e below (T226.setTop (mkF m 199 A0 [(.int (2 : Int32))])) _
          refine XS.iconst X226.here hx rfl (hb hby at_199) ?_
          show Steps p.tables e below (T226.setTop (mkF m 200 A0 [(.int (2 : Int32)), (.int (2 : Int32))])) _
          refine XS.icmpNo X226.here hx rfl (hb hby at_200) rfl (flt (by decide : ¬ ((2 : Int32) < (2 : Int32)))).1 ?_
          show Steps p.tables e below (T226.setTop (mkF m 203 A0 [])) _
          refine XS.iload X226.here hx rfl (hb hby at_203) rfl ?_
          show Steps p.tables e below (T226.setTop (mkF m 205 A0 [(.int (0 : Int32))])) _
          refine XS.iconst X226.here hx rfl (hb hby at_205) ?_
          show Steps p.tables e below (T226.setTop (mkF m 206 A0 [(.int (2 : Int32)), (.int (0 : Int32))])) _
          refine XS.icmpYes X226.here hx rfl (pc0 := 206) (pc' := 224) rfl (hb hby at_206) rfl (tlt (by decide : (0 : Int32) < (2 : Int32))).1 (by decide) (by decide) ?_
          show Steps p.tables e below (T226.setTop (mkF m 224 A0 [])) _
          refine XS.iconst X226.here hx rfl (hb hby at_224) ?_
          exact kt)
      have hfin : own_nbo [q1, q2] [] = (0 : Int32) := rfl
      obtain ⟨_, _, ⟨T231, L231, k231, n231⟩, -, X231, ⟨Lc231, hQ231, l231, y231, z231⟩, st231⟩ := Jvm.LawKit.callS X226 hx (y := (⟨"com/example/conformed/conformed/agreement/Enumerator", "nextButOne", "([J[J)Z"⟩ : MethodName)) hown (mvT hZ (hw _ (List.mem_of_getElem? (i := 5) rfl))) (mvT hZ (hw _ (List.mem_of_getElem? (i := 6) rfl))) (mvT hZ (hw _ (List.mem_of_getElem? (i := 7) rfl))) (mvT hZ (hw _ (List.mem_of_getElem? (i := 8) rfl))) (by decide) (backOf (W := 0) (rm2_20 l Z a0 hw [] b216 b218 kc216 kc218 q1 q2 h226 n0 Z_228 V_b216_226 V_b218'227) hZ (hw _ (List.mem_of_getElem? (i := 8) rfl)) (hw _ (List.mem_of_getElem? (i := 7) rfl)) (by decide) (by decide)) (g := (mkF m 231 #[.val (.long q1), .second, .val (.long q2), .second, .val (.long q3), .second, .val (.long q4), .second, .val (.int p5), .val (.int p6), .val (.int (2 : Int32)), .val (.int (0 : Int32)), .val (.long v115), .second, .val (.long v119), .second, .val (.ref b216), .val (.ref b218), .val (.int (0 : Int32)), .unset] [(.ref b218), (.ref b216)])) rfl (by rw [hml]; rfl) (argsL := [(.ref b216), (.ref b218)]) (rest := []) (lenOf pd_1 rfl) rfl (by show 2 * 0 + _ ≤ _; exact Nat.le_of_eq rfl) (hb hby at_231) (fun _ _ => ⟨rfl, e226, (by decide : 2 + 0 ≤ _), (by decide : 2 + 0 ≤ _)⟩)
      dsimp only [Pt.U, Pt.locs, Pt.cells, Pt.slots] at X231 l231 y231 z231 st231 hQ231
      subst l231 y231 z231
      obtain ⟨rfl, N231q, e231⟩ := hQ231
      have N231 := Fr.app N226 N231q
      have k232 : ∀ t, Steps p.tables e below (T231.setTop (mkF m 248 #[.val (.long q1), .second, .val (.long q2), .second, .val (.long q3), .second, .val (.long q4), .second, .val (.int p5), .val (.int p6), .val (.int (2 : Int32)), .val (.int (0 : Int32)), .val (.long v115), .second, .val (.long v119), .second, .val (.ref b216), .val (.ref b218), .val (.int (0 : Int32)), .val (.int (own_nbo [q1, q2] []))] [(.int (1 : Int32))])) t → Steps p.tables e below (s₁.setTop (entryFrame m #[(.long q1), (.long q2), (.long q3), (.long q4), (.int p5), (.int p6)] maxLocals)) t := fun t kt => k230 t (by
          show Steps p.tables e below (T226.setTop (mkF m 225 #[.val (.long q1), .second, .val (.long q2), .second, .val (.long q3), .second, .val (.long q4), .second, .val (.int p5), .val (.int p6), .val (.int (2 : Int32)), .val (.int (0 : Int32)), .val (.long v115), .second, .val (.long v119), .second, .val (.ref b216), .val (.ref b218), .unset, .unset] [(.int (0 : Int32))])) _
          let A0 : Array Slot := #[.val (.long q1), .second, .val (.long q2), .second, .val (.long q3), .second, .val (.long q4), .second, .val (.int p5), .val (.int p6), .val (.int (2 : Int32)), .val (.int (0 : Int32)), .val (.long v115), .second, .val (.long v119), .second, .val (.ref b216), .val (.ref b218), .val (.int (0 : Int32)), .unset]
          refine XS.istore X226.here hx rfl (hb hby at_225) rfl (l' := A0) rfl ?_
          show Steps p.tables e below (T226.setTop (mkF m 227 A0 [])) _
          refine XS.aload X226.here hx rfl (hb hby at_227) rfl rfl ?_
          show Steps p.tables e below (T226.setTop (mkF m 229 A0 [(.ref b216)])) _
          refine XS.aload X226.here hx rfl (hb hby at_229) rfl rfl ?_
          show Steps p.tables e below (T226.setTop (mkF m 231 A0 [(.ref b218), (.ref b216)])) _
          refine st231 _ ?_
          show Steps p.tables e below (T231.setTop (mkF m 234 A0 [(.int (own_nbo [q1, q2] []))])) _
          let A1 : Array Slot := #[.val (.long q1), .second, .val (.long q2), .second, .val (.long q3), .second, .val (.long q4), .second, .val (.int p5), .val (.int p6), .val (.int (2 : Int32)), .val (.int (0 : Int32)), .val (.long v115), .second, .val (.long v119), .second, .val (.ref b216), .val (.ref b218), .val (.int (0 : Int32)), .val (.int (own_nbo [q1, q2] []))]
          refine XS.istore X231.here hx rfl (hb hby at_234) rfl (l' := A1) rfl ?_
          show Steps p.tables e below (T231.setTop (mkF m 236 A1 [])) _
          refine XS.iload X231.here hx rfl (hb hby at_236) rfl ?_
          show Steps p.tables e below (T231.setTop (mkF m 238 A1 [(.int (own_nbo [q1, q2] []))])) _
          refine XS.iload X231.here hx rfl (hb hby at_238) rfl ?_
          show Steps p.tables e below (T231.setTop (mkF m 240 A1 [(.int (0 : Int32)), (.int (own_nbo [q1, q2] []))])) _
          refine XS.icmpNo X231.here hx rfl (hb hby at_240) rfl (teq hfin).2 ?_
          show Steps p.tables e below (T231.setTop (mkF m 243 A1 [])) _
          refine XS.iconst X231.here hx rfl (hb hby at_243) ?_
          show Steps p.tables e below (T231.setTop (mkF m 244 A1 [(.int (1 : Int32))])) _
          refine XS.goto X231.here hx rfl (pc0 := 244) (pc' := 248) rfl (hb hby at_244) (by decide) (by decide) ?_
          exact kt)
      obtain ⟨fs, hr, hrun, hended, hW, hsame⟩ := X231.leave (v := some (.int (1 : Int32))) (fun h => by rw [Bd.returns] at h; cases h)
      refine ⟨_, _, k232 _ ?_, hrun, hended, _, _, rfl, ?_, ⟨_, rfl⟩, hW, hsame.mono (by decide) (by decide)⟩
      · show Steps p.tables e below (T231.setTop (mkF m 248 #[.val (.long q1), .second, .val (.long q2), .second, .val (.long q3), .second, .val (.long q4), .second, .val (.int p5), .val (.int p6), .val (.int (2 : Int32)), .val (.int (0 : Int32)), .val (.long v115), .second, .val (.long v119), .second, .val (.ref b216), .val (.ref b218), .val (.int (0 : Int32)), .val (.int (own_nbo [q1, q2] []))] [(.int (1 : Int32))])) _
        exact retN X231 hx (t := .boolean) Bd.returns (by simp) (hb hby at_248) hr
      · show Q_rm0 Z q1 q2 q3 q4 p5 p6 h0 n0 _ T231.heap _
        rw [e231]
        exact ⟨rfl, N231⟩
    · obtain ⟨T233, h233, kc233, X233, e233, E233, A233, st233⟩ := newP X111 hx hZ (hw _ (List.mem_of_getElem? (i := 4) rfl)) e111 (g := (mkF m 72 #[.val (.long q1), .second, .val (.long q2), .second, .val (.long q3), .second, .val (.long q4), .second, .val (.int p5), .val (.int p6), .val (.int (2 : Int32)), .val (.int (1 : Int32)), .val (.long v115), .second, .val (.long v119), .second, .unset, .unset, .unset, .unset] [(.int (2 : Int32))])) rfl (hb hby at_72) rfl (by decide) (cap := 2) (by decide) (by decide) (by decide) (by decide)
      obtain ⟨b233, g233⟩ : ∃ z, z = h0.size := ⟨_, rfl⟩
      rw [← g233] at A233 st233
      have g_b233 : n0 ≤ b233 := Nat.le_trans Z0 (Nat.le_of_eq g233.symm)
      have Z_234 : n0 ≤ h233.size := Nat.le_trans Z0 E233.1
      have V_b233 : Arv Z h233 b233 kc233 .long (2 : Int32) [(.long (0 : Int64)), (.long (0 : Int64))] (.long (0 : Int64)) := (Arv.new A233 (by decide)).pad (pad_rep [] (.long (0 : Int64)) 2)
      obtain ⟨T235, h235, kc235, X235, e235, E235, A235, st235⟩ := newP X233 hx hZ (hw _ (List.mem_of_getElem? (i := 4) rfl)) e233 (g := (mkF m 78 #[.val (.long q1), .second, .val (.long q2), .second, .val (.long q3), .second, .val (.long q4), .second, .val (.int p5), .val (.int p6), .val (.int (2 : Int32)), .val (.int (1 : Int32)), .val (.long v115), .second, .val (.long v119), .second, .val (.ref b233), .unset, .unset, .unset] [(.int (1 : Int32))])) rfl (hb hby at_78) rfl (by decide) (cap := 1) (by decide) (by decide) (by decide) (by decide)
      obtain ⟨b235, g235⟩ : ∃ z, z = h233.size := ⟨_, rfl⟩
      rw [← g235] at A235 st235
      have ne_b233_b235 : b233 ≠ b235 := Nat.ne_of_lt (Nat.lt_of_lt_of_le V_b233.lt (Nat.le_of_eq g235.symm))
      have g_b235 : n0 ≤ b235 := Nat.le_trans Z_234 (Nat.le_of_eq g235.symm)
      have V_b233'236 := V_b233.ext E235
      have Z_237 : n0 ≤ h235.size := Nat.le_trans Z_234 E235.1
      have V_b235 : Arv Z h235 b235 kc235 .long (1 : Int32) [(.long (0 : Int64))] (.long (0 : Int64)) := (Arv.new A235 (by decide)).pad (pad_rep [] (.long (0 : Int64)) 1)
      obtain ⟨cl238, Ar238, q238, S238, M238, H238, G238⟩ := id V_b233'236
      have hin239 : ¬ ((0 : Int32) < 0 ∨ cl238.slots.size ≤ ((0 : Int32)).toNatClampNeg) := inb_of S238 ⟨by decide, by decide⟩
      obtain ⟨T239, h239, X239, e239, W239, st239⟩ := stJ X235 hx hZ e235 Ar238 (j := (0 : Int32)) hin239 (g := (mkF m 92 #[.val (.long q1), .second, .val (.long q2), .second, .val (.long q3), .second, .val (.long q4), .second, .val (.int p5), .val (.int p6), .val (.int (2 : Int32)), .val (.int (1 : Int32)), .val (.long v115), .second, .val (.long v119), .second, .val (.ref b233), .val (.ref b235), .unset, .unset] [(.long q1), (.int (0 : Int32)), (.ref b233)])) rfl rfl (hb hby at_92)
      have V_b233_239 : Arv Z h239 b233 kc233 .long (2 : Int32) [(.long q1), (.long (0 : Int64))] (.long (0 : Int64)) := Arv.set Ar238 q238 S238 M238 H238 G238 rfl W239 0 rfl (Nat.le_of_ble_eq_true rfl)
      have V_b235'240 := V_b235.other W239 (Ne.symm ne_b233_b235)
      have Z_241 : n0 ≤ h239.size := Nat.le_trans Z_237 (Nat.le_of_eq (Wr.size W239).symm)
      have N239 := Fr.snoc X239 N111 g_b233
      obtain ⟨cl242, Ar242, q242, S242, M242, H242, G242⟩ := id V_b233_239
      have hin243 : ¬ ((1 : Int32) < 0 ∨ cl242.slots.size ≤ ((1 : Int32)).toNatClampNeg) := inb_of S242 ⟨by decide, by decide⟩
      obtain ⟨T243, h243, X243, e243, W243, st243⟩ := stJ X239 hx hZ e239 Ar242 (j := (1 : Int32)) hin243 (g := (mkF m 103 #[.val (.long q1), .second, .val (.long q2), .second, .val (.long q3), .second, .val (.long q4), .second, .val (.int p5), .val (.int p6), .val (.int (2 : Int32)), .val (.int (1 : Int32)), .val (.long v115), .second, .val (.long v119), .second, .val (.ref b233), .val (.ref b235), .unset, .unset] [(.long q2), (.int (1 : Int32)), (.ref b233)])) rfl rfl (hb hby at_103)
      have V_b233_243 : Arv Z h243 b233 kc233 .long (2 : Int32) [(.long q1), (.long q2)] (.long (0 : Int64)) := Arv.set Ar242 q242 S242 M242 H242 G242 rfl W243 1 rfl (Nat.le_of_ble_eq_true rfl)
      have V_b235'244 := V_b235'240.other W243 (Ne.symm ne_b233_b235)
      have Z_245 : n0 ≤ h243.size := Nat.le_trans Z_241 (Nat.le_of_eq (Wr.size W243).symm)
      have N243 := Fr.snoc X243 N239 g_b233
      obtain ⟨cl246, Ar246, q246, S246, M246, H246, G246⟩ := id V_b235'244
      have hin247 : ¬ ((0 : Int32) < 0 ∨ cl246.slots.size ≤ ((0 : Int32)).toNatClampNeg) := inb_of S246 ⟨by decide, by decide⟩
      obtain ⟨T247, h247, X247, e247, W247, st247⟩ := stJ X243 hx hZ e243 Ar246 (j := (0 : Int32)) hin247 (g := (mkF m 115 #[.val (.long q1), .second, .val (.long q2), .second, .val (.long q3), .second, .val (.long q4), .second, .val (.int p5), .val (.int p6), .val (.int (2 : Int32)), .val (.int (1 : Int32)), .val (.long v115), .second, .val (.long v119), .second, .val (.ref b233), .val (.ref b235), .unset, .unset] [(.long v115), (.int (0 : Int32)), (.ref b235)])) rfl rfl (hb hby at_115)
      have V_b235_247 : Arv Z h247 b235 kc235 .long (1 : Int32) [(.long v115)] (.long (0 : Int64)) := Arv.set Ar246 q246 S246 M246 H246 G246 rfl W247 0 rfl (Nat.le_of_ble_eq_true rfl)
      have V_b233_243'248 := V_b233_243.other W247 ne_b233_b235
      have Z_249 : n0 ≤ h247.size := Nat.le_trans Z_245 (Nat.le_of_eq (Wr.size W247).symm)
      have N247 := Fr.snoc X247 N243 g_b235
      have k250 : ∀ t, Steps p.tables e below (T247.setTop (mkF m 128 #[.val (.long q1), .second, .val (.long q2), .second, .val (.long q3), .second, .val (.long q4), .second, .val (.int p5), .val (.int p6), .val (.int (2 : Int32)), .val (.int (1 : Int32)), .val (.long v115), .second, .val (.long v119), .second, .val (.ref b233), .val (.ref b235), .unset, .unset] [])) t → Steps p.tables e below (s₁.setTop (entryFrame m #[(.long q1), (.long q2), (.long q3), (.long q4), (.int p5), (.int p6)] maxLocals)) t := fun t kt => k120 t (by
          let A0 : Array Slot := #[.val (.long q1), .second, .val (.long q2), .second, .val (.long q3), .second, .val (.long q4), .second, .val (.int p5), .val (.int p6), .val (.int (2 : Int32)), .val (.int (1 : Int32)), .val (.long v115), .second, .val (.long v119), .second, .unset, .unset, .unset, .unset]
          show Steps p.tables e below (T111.setTop (mkF m 70 A0 [])) _
          refine XS.iload X111.here hx rfl (hb hby at_70) rfl ?_
          show Steps p.tables e below (T111.setTop (mkF m 72 A0 [(.int (2 : Int32))])) _
          refine st233 _ ?_
          show Steps p.tables e below (T233.setTop (mkF m 74 A0 [(.ref b233)])) _
          let A1 : Array Slot := #[.val (.long q1), .second, .val (.long q2), .second, .val (.long q3), .second, .val (.long q4), .second, .val (.int p5), .val (.int p6), .val (.int (2 : Int32)), .val (.int (1 : Int32)), .val (.long v115), .second, .val (.long v119), .second, .val (.ref b233), .unset, .unset, .unset]
          refine XS.astore X233.here hx rfl (hb hby at_74) rfl rfl (l' := A1) rfl ?_
          show Steps p.tables e below (T233.setTop (mkF m 76 A1 [])) _
          refine XS.iload X233.here hx rfl (hb hby at_76) rfl ?_
          show Steps p.tables e below (T233.setTop (mkF m 78 A1 [(.int (1 : Int32))])) _
          refine st235 _ ?_
          show Steps p.tables e below (T235.setTop (mkF m 80 A1 [(.ref b235)])) _
          let A2 : Array Slot := #[.val (.long q1), .second, .val (.long q2), .second, .val (.long q3), .second, .val (.long q4), .second, .val (.int p5), .val (.int p6), .val (.int (2 : Int32)), .val (.int (1 : Int32)), .val (.long v115), .second, .val (.long v119), .second, .val (.ref b233), .val (.ref b235), .unset, .unset]
          refine XS.astore X235.here hx rfl (hb hby at_80) rfl rfl (l' := A2) rfl ?_
          show Steps p.tables e below (T235.setTop (mkF m 82 A2 [])) _
          refine XS.iload X235.here hx rfl (hb hby at_82) rfl ?_
          show Steps p.tables e below (T235.setTop (mkF m 84 A2 [(.int (2 : Int32))])) _
          refine XS.iconst X235.here hx rfl (hb hby at_84) ?_
          show Steps p.tables e below (T235.setTop (mkF m 85 A2 [(.int (1 : Int32)), (.int (2 : Int32))])) _
          refine XS.icmpNo X235.here hx rfl (hb hby at_85) rfl (flt (by decide : ¬ ((2 : Int32) < (1 : Int32)))).1 ?_
          show Steps p.tables e below (T235.setTop (mkF m 88 A2 [])) _
          refine XS.aload X235.here hx rfl (hb hby at_88) rfl rfl ?_
          show Steps p.tables e below (T235.setTop (mkF m 90 A2 [(.ref b233)])) _
          refine XS.iconst X235.here hx rfl (hb hby at_90) ?_
          show Steps p.tables e below (T235.setTop (mkF m 91 A2 [(.int (0 : Int32)), (.ref b233)])) _
          refine XS.lloadN X235.here hx rfl (hb hby at_91) rfl ?_
          show Steps p.tables e below (T235.setTop (mkF m 92 A2 [(.long q1), (.int (0 : Int32)), (.ref b233)])) _
          refine st239 _ ?_
          show Steps p.tables e below (T239.setTop (mkF m 93 A2 [])) _
          refine XS.iload X239.here hx rfl (hb hby at_93) rfl ?_
          show Steps p.tables e below (T239.setTop (mkF m 95 A2 [(.int (2 : Int32))])) _
          refine XS.iconst X239.here hx rfl (hb hby at_95) ?_
          show Steps p.tables e below (T239.setTop (mkF m 96 A2 [(.int (2 : Int32)), (.int (2 : Int32))])) _
          refine XS.icmpNo X239.here hx rfl (hb hby at_96) rfl (flt (by decide : ¬ ((2 : Int32) < (2 : Int32)))).1 ?_
          show Steps p.tables e below (T239.setTop (mkF m 99 A2 [])) _
          refine XS.aload X239.here hx rfl (hb hby at_99) rfl rfl ?_
          show Steps p.tables e below (T239.setTop (mkF m 101 A2 [(.ref b233)])) _
          refine XS.iconst X239.here hx rfl (hb hby at_101) ?_
          show Steps p.tables e below (T239.setTop (mkF m 102 A2 [(.int (1 : Int32)), (.ref b233)])) _
          refine XS.lloadN X239.here hx rfl (hb hby at_102) rfl ?_
          show Steps p.tables e below (T239.setTop (mkF m 103 A2 [(.long q2), (.int (1 : Int32)), (.ref b233)])) _
          refine st243 _ ?_
          show Steps p.tables e below (T243.setTop (mkF m 104 A2 [])) _
          refine XS.iload X243.here hx rfl (hb hby at_104) rfl ?_
          show Steps p.tables e below (T243.setTop (mkF m 106 A2 [(.int (1 : Int32))])) _
          refine XS.iconst X243.here hx rfl (hb hby at_106) ?_
          show Steps p.tables e below (T243.setTop (mkF m 107 A2 [(.int (1 : Int32)), (.int (1 : Int32))])) _
          refine XS.icmpNo X243.here hx rfl (hb hby at_107) rfl (flt (by decide : ¬ ((1 : Int32) < (1 : Int32)))).1 ?_
          show Steps p.tables e below (T243.setTop (mkF m 110 A2 [])) _
          refine XS.aload X243.here hx rfl (hb hby at_110) rfl rfl ?_
          show Steps p.tables e below (T243.setTop (mkF m 112 A2 [(.ref b235)])) _
          refine XS.iconst X243.here hx rfl (hb hby at_112) ?_
          show Steps p.tables e below (T243.setTop (mkF m 113 A2 [(.int (0 : Int32)), (.ref b235)])) _
          refine XS.lload X243.here hx rfl (hb hby at_113) rfl ?_
          show Steps p.tables e below (T243.setTop (mkF m 115 A2 [(.long v115), (.int (0 : Int32)), (.ref b235)])) _
          refine st247 _ ?_
          show Steps p.tables e below (T247.setTop (mkF m 116 A2 [])) _
          refine XS.iload X247.here hx rfl (hb hby at_116) rfl ?_
          show Steps p.tables e below (T247.setTop (mkF m 118 A2 [(.int (1 : Int32))])) _
          refine XS.iconst X247.here hx rfl (hb hby at_118) ?_
          show Steps p.tables e below (T247.setTop (mkF m 119 A2 [(.int (2 : Int32)), (.int (1 : Int32))])) _
          refine XS.icmpYes X247.here hx rfl (pc0 := 119) (pc' := 128) rfl (hb hby at_119) rfl (tlt (by decide : (1 : Int32) < (2 : Int32))).1 (by decide) (by decide) ?_
          exact kt)
      obtain ⟨v253, hv253⟩ : ∃ v : Int32, v = (if (lcmpW (q1 - (2 : Int64)) v115) = (0 : Int32) then (1 : Int32) else (if (lcmpW (q2 - (2 : Int64)) v115) = (0 : Int32) then (1 : Int32) else (0 : Int32))) := ⟨_, rfl⟩
      have k254 : ∀ t, Steps p.tables e below (T247.setTop (mkF m 225 #[.val (.long q1), .second, .val (.long q2), .second, .val (.long q3), .second, .val (.long q4), .second, .val (.int p5), .val (.int p6), .val (.int (2 : Int32)), .val (.int (1 : Int32)), .val (.long v115), .second, .val (.long v119), .second, .val (.ref b233), .val (.ref b235), .unset, .unset] [(.int v253)])) t → Steps p.tables e below (s₁.setTop (entryFrame m #[(.long q1), (.long q2), (.long q3), (.long q4), (.int p5), (.int p6)] maxLocals)) t := by
        intro t kt
        by_cases hc148_251 : (lcmpW (q1 - (2 : Int64)) v115) = (0 : Int32)
        · rw [show v253 = (1 : Int32) from (hv253.trans (if_pos hc148_251))] at kt
          exact k250 t (by
              let A0 : Array Slot := #[.val (.long q1), .second, .val (.long q2), .second, .val (.long q3), .second, .val (.long q4), .second, .val (.int p5), .val (.int p6), .val (.int (2 : Int32)), .val (.int (1 : Int32)), .val (.long v115), .second, .val (.long v119), .second, .val (.ref b233), .val (.ref b235), .unset, .unset]
              show Steps p.tables e below (T247.setTop (mkF m 128 A0 [])) _
              refine XS.iload X247.here hx rfl (hb hby at_128) rfl ?_
              show Steps p.tables e below (T247.setTop (mkF m 130 A0 [(.int (2 : Int32))])) _
              refine XS.iconst X247.here hx rfl (hb hby at_130) ?_
              show Steps p.tables e below (T247.setTop (mkF m 131 A0 [(.int (1 : Int32)), (.int (2 : Int32))])) _
              refine XS.icmpNo X247.here hx rfl (hb hby at_131) rfl (flt (by decide : ¬ ((2 : Int32) < (1 : Int32)))).1 ?_
              show Steps p.tables e below (T247.setTop (mkF m 134 A0 [])) _
              refine XS.iload X247.here hx rfl (hb hby at_134) rfl ?_
              show Steps p.tables e below (T247.setTop (mkF m 136 A0 [(.int (1 : Int32))])) _
              refine XS.iconst X247.here hx rfl (hb hby at_136) ?_
              show Steps p.tables e below (T247.setTop (mkF m 137 A0 [(.int (1 : Int32)), (.int (1 : Int32))])) _
              refine XS.icmpNo X247.here hx rfl (hb hby at_137) rfl (flt (by decide : ¬ ((1 : Int32) < (1 : Int32)))).1 ?_
              show Steps p.tables e below (T247.setTop (mkF m 140 A0 [])) _
              refine XS.lloadN X247.here hx rfl (hb hby at_140) rfl ?_
              show Steps p.tables e below (T247.setTop (mkF m 141 A0 [(.long q1)])) _
              refine X247.ldc2Long hx hown (mvT hZ (hw _ (List.mem_of_getElem? (i := 9) rfl))) (g := (mkF m 141 A0 [(.long q1)])) rfl (hb hby at_141) _ ?_
              show Steps p.tables e below (T247.setTop (mkF m 144 A0 [(.long (2 : Int64)), (.long q1)])) _
              refine XS.lsub X247.here hx rfl (hb hby at_144) rfl ?_
              show Steps p.tables e below (T247.setTop (mkF m 145 A0 [(.long (q1 - (2 : Int64)))])) _
              refine XS.lload X247.here hx rfl (hb hby at_145) rfl ?_
              show Steps p.tables e below (T247.setTop (mkF m 147 A0 [(.long v115), (.long (q1 - (2 : Int64)))])) _
              refine XS.lcmp X247.here hx rfl (hb hby at_147) rfl ?_
              show Steps p.tables e below (T247.setTop (mkF m 148 A0 [(.int (lcmpW (q1 - (2 : Int64)) v115))])) _
              refine XS.ifYes X247.here hx rfl (pc0 := 148) (pc' := 220) rfl (hb hby at_148) rfl ((if0 _ _).trans (teq hc148_251).1) (by decide) (by decide) ?_
              show Steps p.tables e below (T247.setTop (mkF m 220 A0 [])) _
              refine XS.iconst X247.here hx rfl (hb hby at_220) ?_
              show Steps p.tables e below (T247.setTop (mkF m 221 A0 [(.int (1 : Int32))])) _
              refine XS.goto X247.here hx rfl (pc0 := 221) (pc' := 225) rfl (hb hby at_221) (by decide) (by decide) ?_
              exact kt)
        · by_cases hc194_252 : (lcmpW (q2 - (2 : Int64)) v115) = (0 : Int32)
          · rw [show v253 = (1 : Int32) from ((hv253.trans (if_neg hc148_251)).trans (if_pos hc194_252))] at kt
            exact k250 t (by
                let A0 : Array Slot := #[.val (.long q1), .second, .val (.long q2), .second, .val (.long q3), .second, .val (.long q4), .second, .val (.int p5), .val (.int p6), .val (.int (2 : Int32)), .val (.int (1 : Int32)), .val (.long v115), .second, .val (.long v119), .second, .val (.ref b233), .val (.ref b235), .unset, .unset]
                show Steps p.tables e below (T247.setTop (mkF m 128 A0 [])) _
                refine XS.iload X247.here hx rfl (hb hby at_128) rfl ?_
                show Steps p.tables e below (T247.setTop (mkF m 130 A0 [(.int (2 : Int32))])) _
                refine XS.iconst X247.here hx rfl (hb hby at_130) ?_
                show Steps p.tables e below (T247.setTop (mkF m 131 A0 [(.int (1 : Int32)), (.int (2 : Int32))])) _
                refine XS.icmpNo X247.here hx rfl (hb hby at_131) rfl (flt (by decide : ¬ ((2 : Int32) < (1 : Int32)))).1 ?_
                show Steps p.tables e below (T247.setTop (mkF m 134 A0 [])) _
                refine XS.iload X247.here hx rfl (hb hby at_134) rfl ?_
                show Steps p.tables e below (T247.setTop (mkF m 136 A0 [(.int (1 : Int32))])) _
                refine XS.iconst X247.here hx rfl (hb hby at_136) ?_
                show Steps p.tables e below (T247.setTop (mkF m 137 A0 [(.int (1 : Int32)), (.int (1 : Int32))])) _
                refine XS.icmpNo X247.here hx rfl (hb hby at_137) rfl (flt (by decide : ¬ ((1 : Int32) < (1 : Int32)))).1 ?_
                show Steps p.tables e below (T247.setTop (mkF m 140 A0 [])) _
                refine XS.lloadN X247.here hx rfl (hb hby at_140) rfl ?_
                show Steps p.tables e below (T247.setTop (mkF m 141 A0 [(.long q1)])) _
                refine X247.ldc2Long hx hown (mvT hZ (hw _ (List.mem_of_getElem? (i := 9) rfl))) (g := (mkF m 141 A0 [(.long q1)])) rfl (hb hby at_141) _ ?_
                show Steps p.tables e below (T247.setTop (mkF m 144 A0 [(.long (2 : Int64)), (.long q1)])) _
                refine XS.lsub X247.here hx rfl (hb hby at_144) rfl ?_
                show Steps p.tables e below (T247.setTop (mkF m 145 A0 [(.long (q1 - (2 : Int64)))])) _
                refine XS.lload X247.here hx rfl (hb hby at_145) rfl ?_
                show Steps p.tables e below (T247.setTop (mkF m 147 A0 [(.long v115), (.long (q1 - (2 : Int64)))])) _
                refine XS.lcmp X247.here hx rfl (hb hby at_147) rfl ?_
                show Steps p.tables e below (T247.setTop (mkF m 148 A0 [(.int (lcmpW (q1 - (2 : Int64)) v115))])) _
                refine XS.ifNo X247.here hx rfl (hb hby at_148) rfl ((if0 _ _).trans (feq hc148_251).1) ?_
                show Steps p.tables e below (T247.setTop (mkF m 151 A0 [])) _
                refine XS.iload X247.here hx rfl (hb hby at_151) rfl ?_
                show Steps p.tables e below (T247.setTop (mkF m 153 A0 [(.int (2 : Int32))])) _
                refine XS.iconst X247.here hx rfl (hb hby at_153) ?_
                show Steps p.tables e below (T247.setTop (mkF m 154 A0 [(.int (1 : Int32)), (.int (2 : Int32))])) _
                refine XS.icmpNo X247.here hx rfl (hb hby at_154) rfl (flt (by decide : ¬ ((2 : Int32) < (1 : Int32)))).1 ?_
                show Steps p.tables e below (T247.setTop (mkF m 157 A0 [])) _
                refine XS.iload X247.here hx rfl (hb hby at_157) rfl ?_
                show Steps p.tables e below (T247.setTop (mkF m 159 A0 [(.int (1 : Int32))])) _
                refine XS.iconst X247.here hx rfl (hb hby at_159) ?_
                show Steps p.tables e below (T247.setTop (mkF m 160 A0 [(.int (2 : Int32)), (.int (1 : Int32))])) _
                refine XS.icmpYes X247.here hx rfl (pc0 := 160) (pc' := 174) rfl (hb hby at_160) rfl (tlt (by decide : (1 : Int32) < (2 : Int32))).1 (by decide) (by decide) ?_
                show Steps p.tables e below (T247.setTop (mkF m 174 A0 [])) _
                refine XS.iload X247.here hx rfl (hb hby at_174) rfl ?_
                show Steps p.tables e below (T247.setTop (mkF m 176 A0 [(.int (2 : Int32))])) _
                refine XS.iconst X247.here hx rfl (hb hby at_176) ?_
                show Steps p.tables e below (T247.setTop (mkF m 177 A0 [(.int (2 : Int32)), (.int (2 : Int32))])) _
                refine XS.icmpNo X247.here hx rfl (hb hby at_177) rfl (flt (by decide : ¬ ((2 : Int32) < (2 : Int32)))).1 ?_
                show Steps p.tables e below (T247.setTop (mkF m 180 A0 [])) _
                refine XS.iload X247.here hx rfl (hb hby at_180) rfl ?_
                show Steps p.tables e below (T247.setTop (mkF m 182 A0 [(.int (1 : Int32))])) _
                refine XS.iconst X247.here hx rfl (hb hby at_182) ?_
                show Steps p.tables e below (T247.setTop (mkF m 183 A0 [(.int (1 : Int32)), (.int (1 : Int32))])) _
                refine XS.icmpNo X247.here hx rfl (hb hby at_183) rfl (flt (by decide : ¬ ((1 : Int32) < (1 : Int32)))).1 ?_
                show Steps p.tables e below (T247.setTop (mkF m 186 A0 [])) _
                refine XS.lloadN X247.here hx rfl (hb hby at_186) rfl ?_
                show Steps p.tables e below (T247.setTop (mkF m 187 A0 [(.long q2)])) _
                refine X247.ldc2Long hx hown (mvT hZ (hw _ (List.mem_of_getElem? (i := 9) rfl))) (g := (mkF m 187 A0 [(.long q2)])) rfl (hb hby at_187) _ ?_
                show Steps p.tables e below (T247.setTop (mkF m 190 A0 [(.long (2 : Int64)), (.long q2)])) _
                refine XS.lsub X247.here hx rfl (hb hby at_190) rfl ?_
                show Steps p.tables e below (T247.setTop (mkF m 191 A0 [(.long (q2 - (2 : Int64)))])) _
                refine XS.lload X247.here hx rfl (hb hby at_191) rfl ?_
                show Steps p.tables e below (T247.setTop (mkF m 193 A0 [(.long v115), (.long (q2 - (2 : Int64)))])) _
                refine XS.lcmp X247.here hx rfl (hb hby at_193) rfl ?_
                show Steps p.tables e below (T247.setTop (mkF m 194 A0 [(.int (lcmpW (q2 - (2 : Int64)) v115))])) _
                refine XS.ifYes X247.here hx rfl (pc0 := 194) (pc' := 220) rfl (hb hby at_194) rfl ((if0 _ _).trans (teq hc194_252).1) (by decide) (by decide) ?_
                show Steps p.tables e below (T247.setTop (mkF m 220 A0 [])) _
                refine XS.iconst X247.here hx rfl (hb hby at_220) ?_
                show Steps p.tables e below (T247.setTop (mkF m 221 A0 [(.int (1 : Int32))])) _
                refine XS.goto X247.here hx rfl (pc0 := 221) (pc' := 225) rfl (hb hby at_221) (by decide) (by decide) ?_
                exact kt)
          · rw [show v253 = (0 : Int32) from ((hv253.trans (if_neg hc148_251)).trans (if_neg hc194_252))] at kt
            exact k250 t (by
                let A0 : Array Slot := #[.val (.long q1), .second, .val (.long q2), .second, .val (.long q3), .second, .val (.long q4), .second, .val (.int p5), .val (.int p6), .val (.int (2 : Int32)), .val (.int (1 : Int32)), .val (.long v115), .second, .val (.long v119), .second, .val (.ref b233), .val (.ref b235), .unset, .unset]
                show Steps p.tables e below (T247.setTop (mkF m 128 A0 [])) _
                refine XS.iload X247.here hx rfl (hb hby at_128) rfl ?_
                show Steps p.tables e below (T247.setTop (mkF m 130 A0 [(.int (2 : Int32))])) _
                refine XS.iconst X247.here hx rfl (hb hby at_130) ?_
                show Steps p.tables e below (T247.setTop (mkF m 131 A0 [(.int (1 : Int32)), (.int (2 : Int32))])) _
                refine XS.icmpNo X247.here hx rfl (hb hby at_131) rfl (flt (by decide : ¬ ((2 : Int32) < (1 : Int32)))).1 ?_
                show Steps p.tables e below (T247.setTop (mkF m 134 A0 [])) _
                refine XS.iload X247.here hx rfl (hb hby at_134) rfl ?_
                show Steps p.tables e below (T247.setTop (mkF m 136 A0 [(.int (1 : Int32))])) _
                refine XS.iconst X247.here hx rfl (hb hby at_136) ?_
                show Steps p.tables e below (T247.setTop (mkF m 137 A0 [(.int (1 : Int32)), (.int (1 : Int32))])) _
                refine XS.icmpNo X247.here hx rfl (hb hby at_137) rfl (flt (by decide : ¬ ((1 : Int32) < (1 : Int32)))).1 ?_
                show Steps p.tables e below (T247.setTop (mkF m 140 A0 [])) _
                refine XS.lloadN X247.here hx rfl (hb hby at_140) rfl ?_
                show Steps p.tables e below (T247.setTop (mkF m 141 A0 [(.long q1)])) _
                refine X247.ldc2Long hx hown (mvT hZ (hw _ (List.mem_of_getElem? (i := 9) rfl))) (g := (mkF m 141 A0 [(.long q1)])) rfl (hb hby at_141) _ ?_
                show Steps p.tables e below (T247.setTop (mkF m 144 A0 [(.long (2 : Int64)), (.long q1)])) _
                refine XS.lsub X247.here hx rfl (hb hby at_144) rfl ?_
                show Steps p.tables e below (T247.setTop (mkF m 145 A0 [(.long (q1 - (2 : Int64)))])) _
                refine XS.lload X247.here hx rfl (hb hby at_145) rfl ?_
                show Steps p.tables e below (T247.setTop (mkF m 147 A0 [(.long v115), (.long (q1 - (2 : Int64)))])) _
                refine XS.lcmp X247.here hx rfl (hb hby at_147) rfl ?_
                show Steps p.tables e below (T247.setTop (mkF m 148 A0 [(.int (lcmpW (q1 - (2 : Int64)) v115))])) _
                refine XS.ifNo X247.here hx rfl (hb hby at_148) rfl ((if0 _ _).trans (feq hc148_251).1) ?_
                show Steps p.tables e below (T247.setTop (mkF m 151 A0 [])) _
                refine XS.iload X247.here hx rfl (hb hby at_151) rfl ?_
                show Steps p.tables e below (T247.setTop (mkF m 153 A0 [(.int (2 : Int32))])) _
                refine XS.iconst X247.here hx rfl (hb hby at_153) ?_
                show Steps p.tables e below (T247.setTop (mkF m 154 A0 [(.int (1 : Int32)), (.int (2 : Int32))])) _
                refine XS.icmpNo X247.here hx rfl (hb hby at_154) rfl (flt (by decide : ¬ ((2 : Int32) < (1 : Int32)))).1 ?_
                show Steps p.tables e below (T247.setTop (mkF m 157 A0 [])) _
                refine XS.iload X247.here hx rfl (hb hby at_157) rfl ?_
                show Steps p.tables e below (T247.setTop (mkF m 159 A0 [(.int (1 : Int32))])) _
                refine XS.iconst X247.here hx rfl (hb hby at_159) ?_
                show Steps p.tables e below (T247.setTop (mkF m 160 A0 [(.int (2 : Int32)), (.int (1 : Int32))])) _
                refine XS.icmpYes X247.here hx rfl (pc0 := 160) (pc' := 174) rfl (hb hby at_160) rfl (tlt (by decide : (1 : Int32) < (2 : Int32))).1 (by decide) (by decide) ?_
                show Steps p.tables e below (T247.setTop (mkF m 174 A0 [])) _
                refine XS.iload X247.here hx rfl (hb hby at_174) rfl ?_
                show Steps p.tables e below (T247.setTop (mkF m 176 A0 [(.int (2 : Int32))])) _
                refine XS.iconst X247.here hx rfl (hb hby at_176) ?_
                show Steps p.tables e below (T247.setTop (mkF m 177 A0 [(.int (2 : Int32)), (.int (2 : Int32))])) _
                refine XS.icmpNo X247.here hx rfl (hb hby at_177) rfl (flt (by decide : ¬ ((2 : Int32) < (2 : Int32)))).1 ?_
                show Steps p.tables e below (T247.setTop (mkF m 180 A0 [])) _
                refine XS.iload X247.here hx rfl (hb hby at_180) rfl ?_
                show Steps p.tables e below (T247.setTop (mkF m 182 A0 [(.int (1 : Int32))])) _
                refine XS.iconst X247.here hx rfl (hb hby at_182) ?_
                show Steps p.tables e below (T247.setTop (mkF m 183 A0 [(.int (1 : Int32)), (.int (1 : Int32))])) _
                refine XS.icmpNo X247.here hx rfl (hb hby at_183) rfl (flt (by decide : ¬ ((1 : Int32) < (1 : Int32)))).1 ?_
                show Steps p.tables e below (T247.setTop (mkF m 186 A0 [])) _
                refine XS.lloadN X247.here hx rfl (hb hby at_186) rfl ?_
                show Steps p.tables e below (T247.setTop (mkF m 187 A0 [(.long q2)])) _
                refine X247.ldc2Long hx hown (mvT hZ (hw _ (List.mem_of_getElem? (i := 9) rfl))) (g := (mkF m 187 A0 [(.long q2)])) rfl (hb hby at_187) _ ?_
                show Steps p.tables e below (T247.setTop (mkF m 190 A0 [(.long (2 : Int64)), (.long q2)])) _
                refine XS.lsub X247.here hx rfl (hb hby at_190) rfl ?_
                show Steps p.tables e below (T247.setTop (mkF m 191 A0 [(.long (q2 - (2 : Int64)))])) _
                refine XS.lload X247.here hx rfl (hb hby at_191) rfl ?_
                show Steps p.tables e below (T247.setTop (mkF m 193 A0 [(.long v115), (.long (q2 - (2 : Int64)))])) _
                refine XS.lcmp X247.here hx rfl (hb hby at_193) rfl ?_
                show Steps p.tables e below (T247.setTop (mkF m 194 A0 [(.int (lcmpW (q2 - (2 : Int64)) v115))])) _
                refine XS.ifNo X247.here hx rfl (hb hby at_194) rfl ((if0 _ _).trans (feq hc194_252).1) ?_
                show Steps p.tables e below (T247.setTop (mkF m 197 A0 [])) _
                refine XS.iload X247.here hx rfl (hb hby at_197) rfl ?_
                show Steps p.tables e below (T247.setTop (mkF m 199 A0 [(.int (2 : Int32))])) _
                refine XS.iconst X247.here hx rfl (hb hby at_199) ?_
                show Steps p.tables e below (T247.setTop (mkF m 200 A0 [(.int (2 : Int32)), (.int (2 : Int32))])) _
                refine XS.icmpNo X247.here hx rfl (hb hby at_200) rfl (flt (by decide : ¬ ((2 : Int32) < (2 : Int32)))).1 ?_
                show Steps p.tables e below (T247.setTop (mkF m 203 A0 [])) _
                refine XS.iload X247.here hx rfl (hb hby at_203) rfl ?_
                show Steps p.tables e below (T247.setTop (mkF m 205 A0 [(.int (1 : Int32))])) _
                refine XS.iconst X247.here hx rfl (hb hby at_205) ?_
                show Steps p.tables e below (T247.setTop (mkF m 206 A0 [(.int (2 : Int32)), (.int (1 : Int32))])) _
                refine XS.icmpYes X247.here hx rfl (pc0 := 206) (pc' := 224) rfl (hb hby at_206) rfl (tlt (by decide : (1 : Int32) < (2 : Int32))).1 (by decide) (by decide) ?_
                show Steps p.tables e below (T247.setTop (mkF m 224 A0 [])) _
                refine XS.iconst X247.here hx rfl (hb hby at_224) ?_
                exact kt)
      have hfin : own_nbo [q1, q2] [v115] = v253 := by
        rw [hv253]
        simp only [own_nbo, List.foldl, own_hit, own_swap]
        by_cases hh0 : lcmpW (q1 - (2 : Int64)) v115 = (0 : Int32) <;> by_cases hh1 : lcmpW (q2 - (2 : Int64)) v115 = (0 : Int32) <;> simp [hh0, hh1]
      obtain ⟨_, _, ⟨T255, L255, k255, n255⟩, -, X255, ⟨Lc255, hQ255, l255, y255, z255⟩, st255⟩ := Jvm.LawKit.callS X247 hx (y := (⟨"com/example/conformed/conformed/agreement/Enumerator", "nextButOne", "([J[J)Z"⟩ : MethodName)) hown (mvT hZ (hw _ (List.mem_of_getElem? (i := 5) rfl))) (mvT hZ (hw _ (List.mem_of_getElem? (i := 6) rfl))) (mvT hZ (hw _ (List.mem_of_getElem? (i := 7) rfl))) (mvT hZ (hw _ (List.mem_of_getElem? (i := 8) rfl))) (by decide) (backOf (W := 0) (rm2_21 l Z a0 hw [] b233 b235 kc233 kc235 q1 q2 v115 h247 n0 Z_249 V_b233_243'248 V_b235_247) hZ (hw _ (List.mem_of_getElem? (i := 8) rfl)) (hw _ (List.mem_of_getElem? (i := 7) rfl)) (by decide) (by decide)) (g := (mkF m 231 #[.val (.long q1), .second, .val (.long q2), .second, .val (.long q3), .second, .val (.long q4), .second, .val (.int p5), .val (.int p6), .val (.int (2 : Int32)), .val (.int (1 : Int32)), .val (.long v115), .second, .val (.long v119), .second, .val (.ref b233), .val (.ref b235), .val (.int v253), .unset] [(.ref b235), (.ref b233)])) rfl (by rw [hml]; rfl) (argsL := [(.ref b233), (.ref b235)]) (rest := []) (lenOf pd_1 rfl) rfl (by show 2 * 0 + _ ≤ _; exact Nat.le_of_eq rfl) (hb hby at_231) (fun _ _ => ⟨rfl, e247, (by decide : 2 + 0 ≤ _), (by decide : 3 + 0 ≤ _)⟩)
      dsimp only [Pt.U, Pt.locs, Pt.cells, Pt.slots] at X255 l255 y255 z255 st255 hQ255
      subst l255 y255 z255
      obtain ⟨rfl, N255q, e255⟩ := hQ255
      have N255 := Fr.app N247 N255q
      have k256 : ∀ t, Steps p.tables e below (T255.setTop (mkF m 248 #[.val (.long q1), .second, .val (.long q2), .second, .val (.long q3), .second, .val (.long q4), .second, .val (.int p5), .val (.int p6), .val (.int (2 : Int32)), .val (.int (1 : Int32)), .val (.long v115), .second, .val (.long v119), .second, .val (.ref b233), .val (.ref b235), .val (.int v253), .val (.int (own_nbo [q1, q2] [v115]))] [(.int (1 : Int32))])) t → Steps p.tables e below (s₁.setTop (entryFrame m #[(.long q1), (.long q2), (.long q3), (.long q4), (.int p5), (.int p6)] maxLocals)) t := fun t kt => k254 t (by
          show Steps p.tables e below (T247.setTop (mkF m 225 #[.val (.long q1), .second, .val (.long q2), .second, .val (.long q3), .second, .val (.long q4), .second, .val (.int p5), .val (.int p6), .val (.int (2 : Int32)), .val (.int (1 : Int32)), .val (.long v115), .second, .val (.long v119), .second, .val (.ref b233), .val (.ref b235), .unset, .unset] [(.int v253)])) _
          let A0 : Array Slot := #[.val (.long q1), .second, .val (.long q2), .second, .val (.long q3), .second, .val (.long q4), .second, .val (.int p5), .val (.int p6), .val (.int (2 : Int32)), .val (.int (1 : Int32)), .val (.long v115), .second, .val (.long v119), .second, .val (.ref b233), .val (.ref b235), .val (.int v253), .unset]
          refine XS.istore X247.here hx rfl (hb hby at_225) rfl (l' := A0) rfl ?_
          show Steps p.tables e below (T247.setTop (mkF m 227 A0 [])) _
          refine XS.aload X247.here hx rfl (hb hby at_227) rfl rfl ?_
          show Steps p.tables e below (T247.setTop (mkF m 229 A0 [(.ref b233)])) _
          refine XS.aload X247.here hx rfl (hb hby at_229) rfl rfl ?_
          show Steps p.tables e below (T247.setTop (mkF m 231 A0 [(.ref b235), (.ref b233)])) _
          refine st255 _ ?_
          show Steps p.tables e below (T255.setTop (mkF m 234 A0 [(.int (own_nbo [q1, q2] [v115]))])) _
          let A1 : Array Slot := #[.val (.long q1), .second, .val (.long q2), .second, .val (.long q3), .second, .val (.long q4), .second, .val (.int p5), .val (.int p6), .val (.int (2 : Int32)), .val (.int (1 : Int32)), .val (.long v115), .second, .val (.long v119), .second, .val (.ref b233), .val (.ref b235), .val (.int v253), .val (.int (own_nbo [q1, q2] [v115]))]
          refine XS.istore X255.here hx rfl (hb hby at_234) rfl (l' := A1) rfl ?_
          show Steps p.tables e below (T255.setTop (mkF m 236 A1 [])) _
          refine XS.iload X255.here hx rfl (hb hby at_236) rfl ?_
          show Steps p.tables e below (T255.setTop (mkF m 238 A1 [(.int (own_nbo [q1, q2] [v115]))])) _
          refine XS.iload X255.here hx rfl (hb hby at_238) rfl ?_
          show Steps p.tables e below (T255.setTop (mkF m 240 A1 [(.int v253), (.int (own_nbo [q1, q2] [v115]))])) _
          refine XS.icmpNo X255.here hx rfl (hb hby at_240) rfl (teq hfin).2 ?_
          show Steps p.tables e below (T255.setTop (mkF m 243 A1 [])) _
          refine XS.iconst X255.here hx rfl (hb hby at_243) ?_
          show Steps p.tables e below (T255.setTop (mkF m 244 A1 [(.int (1 : Int32))])) _
          refine XS.goto X255.here hx rfl (pc0 := 244) (pc' := 248) rfl (hb hby at_244) (by decide) (by decide) ?_
          exact kt)
      obtain ⟨fs, hr, hrun, hended, hW, hsame⟩ := X255.leave (v := some (.int (1 : Int32))) (fun h => by rw [Bd.returns] at h; cases h)
      refine ⟨_, _, k256 _ ?_, hrun, hended, _, _, rfl, ?_, ⟨_, rfl⟩, hW, hsame.mono (by decide) (by decide)⟩
      · show Steps p.tables e below (T255.setTop (mkF m 248 #[.val (.long q1), .second, .val (.long q2), .second, .val (.long q3), .second, .val (.long q4), .second, .val (.int p5), .val (.int p6), .val (.int (2 : Int32)), .val (.int (1 : Int32)), .val (.long v115), .second, .val (.long v119), .second, .val (.ref b233), .val (.ref b235), .val (.int v253), .val (.int (own_nbo [q1, q2] [v115]))] [(.int (1 : Int32))])) _
        exact retN X255 hx (t := .boolean) Bd.returns (by simp) (hb hby at_248) hr
      · show Q_rm0 Z q1 q2 q3 q4 p5 p6 h0 n0 _ T255.heap _
        rw [e255]
        exact ⟨rfl, N255⟩
    · obtain ⟨T257, h257, kc257, X257, e257, E257, A257, st257⟩ := newP X111 hx hZ (hw _ (List.mem_of_getElem? (i := 4) rfl)) e111 (g := (mkF m 72 #[.val (.long q1), .second, .val (.long q2), .second, .val (.long q3), .second, .val (.long q4), .second, .val (.int p5), .val (.int p6), .val (.int (2 : Int32)), .val (.int (2 : Int32)), .val (.long v115), .second, .val (.long v119), .second, .unset, .unset, .unset, .unset] [(.int (2 : Int32))])) rfl (hb hby at_72) rfl (by decide) (cap := 2) (by decide) (by decide) (by decide) (by decide)
      obtain ⟨b257, g257⟩ : ∃ z, z = h0.size := ⟨_, rfl⟩
      rw [← g257] at A257 st257
      have g_b257 : n0 ≤ b257 := Nat.le_trans Z0 (Nat.le_of_eq g257.symm)
      have Z_258 : n0 ≤ h257.size := Nat.le_trans Z0 E257.1
      have V_b257 : Arv Z h257 b257 kc257 .long (2 : Int32) [(.long (0 : Int64)), (.long (0 : Int64))] (.long (0 : Int64)) := (Arv.new A257 (by decide)).pad (pad_rep [] (.long (0 : Int64)) 2)
      obtain ⟨T259, h259, kc259, X259, e259, E259, A259, st259⟩ := newP X257 hx hZ (hw _ (List.mem_of_getElem? (i := 4) rfl)) e257 (g := (mkF m 78 #[.val (.long q1), .second, .val (.long q2), .second, .val (.long q3), .second, .val (.long q4), .second, .val (.int p5), .val (.int p6), .val (.int (2 : Int32)), .val (.int (2 : Int32)), .val (.long v115), .second, .val (.long v119), .second, .val (.ref b257), .unset, .unset, .unset] [(.int (2 : Int32))])) rfl (hb hby at_78) rfl (by decide) (cap := 2) (by decide) (by decide) (by decide) (by decide)
      obtain ⟨b259, g259⟩ : ∃ z, z = h257.size := ⟨_, rfl⟩
      rw [← g259] at A259 st259
      have ne_b257_b259 : b257 ≠ b259 := Nat.ne_of_lt (Nat.lt_of_lt_of_le V_b257.lt (Nat.le_of_eq g259.symm))
      have g_b259 : n0 ≤ b259 := Nat.le_trans Z_258 (Nat.le_of_eq g259.symm)
      have V_b257'260 := V_b257.ext E259
      have Z_261 : n0 ≤ h259.size := Nat.le_trans Z_258 E259.1
      have V_b259 : Arv Z h259 b259 kc259 .long (2 : Int32) [(.long (0 : Int64)), (.long (0 : Int64))] (.long (0 : Int64)) := (Arv.new A259 (by decide)).pad (pad_rep [] (.long (0 : Int64)) 2)
      obtain ⟨cl262, Ar262, q262, S262, M262, H262, G262⟩ := id V_b257'260
      have hin263 : ¬ ((0 : Int32) < 0 ∨ cl262.slots.size ≤ ((0 : Int32)).toNatClampNeg) := inb_of S262 ⟨by decide, by decide⟩
      obtain ⟨T263, h263, X263, e263, W263, st263⟩ := stJ X259 hx hZ e259 Ar262 (j := (0 : Int32)) hin263 (g := (mkF m 92 #[.val (.long q1), .second, .val (.long q2), .second, .val (.long q3), .second, .val (.long q4), .second, .val (.int p5), .val (.int p6), .val (.int (2 : Int32)), .val (.int (2 : Int32)), .val (.long v115), .second, .val (.long v119), .second, .val (.ref b257), .val (.ref b259), .unset, .unset] [(.long q1), (.int (0 : Int32)), (.ref b257)])) rfl rfl (hb hby at_92)
      have V_b257_263 : Arv Z h263 b257 kc257 .long (2 : Int32) [(.long q1), (.long (0 : Int64))] (.long (0 : Int64)) := Arv.set Ar262 q262 S262 M262 H262 G262 rfl W263 0 rfl (Nat.le_of_ble_eq_true rfl)
      have V_b259'264 := V_b259.other W263 (Ne.symm ne_b257_b259)
      have Z_265 : n0 ≤ h263.size := Nat.le_trans Z_261 (Nat.le_of_eq (Wr.size W263).symm)
      have N263 := Fr.snoc X263 N111 g_b257
      obtain ⟨cl266, Ar266, q266, S266, M266, H266, G266⟩ := id V_b257_263
      have hin267 : ¬ ((1 : Int32) < 0 ∨ cl266.slots.size ≤ ((1 : Int32)).toNatClampNeg) := inb_of S266 ⟨by decide, by decide⟩
      obtain ⟨T267, h267, X267, e267, W267, st267⟩ := stJ X263 hx hZ e263 Ar266 (j := (1 : Int32)) hin267 (g := (mkF m 103 #[.val (.long q1), .second, .val (.long q2), .second, .val (.long q3), .second, .val (.long q4), .second, .val (.int p5), .val (.int p6), .val (.int (2 : Int32)), .val (.int (2 : Int32)), .val (.long v115), .second, .val (.long v119), .second, .val (.ref b257), .val (.ref b259), .unset, .unset] [(.long q2), (.int (1 : Int32)), (.ref b257)])) rfl rfl (hb hby at_103)
      have V_b257_267 : Arv Z h267 b257 kc257 .long (2 : Int32) [(.long q1), (.long q2)] (.long (0 : Int64)) := Arv.set Ar266 q266 S266 M266 H266 G266 rfl W267 1 rfl (Nat.le_of_ble_eq_true rfl)
      have V_b259'268 := V_b259'264.other W267 (Ne.symm ne_b257_b259)
      have Z_269 : n0 ≤ h267.size := Nat.le_trans Z_265 (Nat.le_of_eq (Wr.size W267).symm)
      have N267 := Fr.snoc X267 N263 g_b257
      obtain ⟨cl270, Ar270, q270, S270, M270, H270, G270⟩ := id V_b259'268
      have hin271 : ¬ ((0 : Int32) < 0 ∨ cl270.slots.size ≤ ((0 : Int32)).toNatClampNeg) := inb_of S270 ⟨by decide, by decide⟩
      obtain ⟨T271, h271, X271, e271, W271, st271⟩ := stJ X267 hx hZ e267 Ar270 (j := (0 : Int32)) hin271 (g := (mkF m 115 #[.val (.long q1), .second, .val (.long q2), .second, .val (.long q3), .second, .val (.long q4), .second, .val (.int p5), .val (.int p6), .val (.int (2 : Int32)), .val (.int (2 : Int32)), .val (.long v115), .second, .val (.long v119), .second, .val (.ref b257), .val (.ref b259), .unset, .unset] [(.long v115), (.int (0 : Int32)), (.ref b259)])) rfl rfl (hb hby at_115)
      have V_b259_271 : Arv Z h271 b259 kc259 .long (2 : Int32) [(.long v115), (.long (0 : Int64))] (.long (0 : Int64)) := Arv.set Ar270 q270 S270 M270 H270 G270 rfl W271 0 rfl (Nat.le_of_ble_eq_true rfl)
      have V_b257_267'272 := V_b257_267.other W271 ne_b257_b259
      have Z_273 : n0 ≤ h271.size := Nat.le_trans Z_269 (Nat.le_of_eq (Wr.size W271).symm)
      have N271 := Fr.snoc X271 N267 g_b259
      obtain ⟨cl274, Ar274, q274, S274, M274, H274, G274⟩ := id V_b259_271
      have hin275 : ¬ ((1 : Int32) < 0 ∨ cl274.slots.size ≤ ((1 : Int32)).toNatClampNeg) := inb_of S274 ⟨by decide, by decide⟩
      obtain ⟨T275, h275, X275, e275, W275, st275⟩ := stJ X271 hx hZ e271 Ar274 (j := (1 : Int32)) hin275 (g := (mkF m 127 #[.val (.long q1), .second, .val (.long q2), .second, .val (.long q3), .second, .val (.long q4), .second, .val (.int p5), .val (.int p6), .val (.int (2 : Int32)), .val (.int (2 : Int32)), .val (.long v115), .second, .val (.long v119), .second, .val (.ref b257), .val (.ref b259), .unset, .unset] [(.long v119), (.int (1 : Int32)), (.ref b259)])) rfl rfl (hb hby at_127)
      have V_b259_275 : Arv Z h275 b259 kc259 .long (2 : Int32) [(.long v115), (.long v119)] (.long (0 : Int64)) := Arv.set Ar274 q274 S274 M274 H274 G274 rfl W275 1 rfl (Nat.le_of_ble_eq_true rfl)
      have V_b257_267'276 := V_b257_267'272.other W275 ne_b257_b259
      have Z_277 : n0 ≤ h275.size := Nat.le_trans Z_273 (Nat.le_of_eq (Wr.size W275).symm)
      have N275 := Fr.snoc X275 N271 g_b259
      have k278 : ∀ t, Steps p.tables e below (T275.setTop (mkF m 128 #[.val (.long q1), .second, .val (.long q2), .second, .val (.long q3), .second, .val (.long q4), .second, .val (.int p5), .val (.int p6), .val (.int (2 : Int32)), .val (.int (2 : Int32)), .val (.long v115), .second, .val (.long v119), .second, .val (.ref b257), .val (.ref b259), .unset, .unset] [])) t → Steps p.tables e below (s₁.setTop (entryFrame m #[(.long q1), (.long q2), (.long q3), (.long q4), (.int p5), (.int p6)] maxLocals)) t := fun t kt => k120 t (by
          let A0 : Array Slot := #[.val (.long q1), .second, .val (.long q2), .second, .val (.long q3), .second, .val (.long q4), .second, .val (.int p5), .val (.int p6), .val (.int (2 : Int32)), .val (.int (2 : Int32)), .val (.long v115), .second, .val (.long v119), .second, .unset, .unset, .unset, .unset]
          show Steps p.tables e below (T111.setTop (mkF m 70 A0 [])) _
          refine XS.iload X111.here hx rfl (hb hby at_70) rfl ?_
          show Steps p.tables e below (T111.setTop (mkF m 72 A0 [(.int (2 : Int32))])) _
          refine st257 _ ?_
          show Steps p.tables e below (T257.setTop (mkF m 74 A0 [(.ref b257)])) _
          let A1 : Array Slot := #[.val (.long q1), .second, .val (.long q2), .second, .val (.long q3), .second, .val (.long q4), .second, .val (.int p5), .val (.int p6), .val (.int (2 : Int32)), .val (.int (2 : Int32)), .val (.long v115), .second, .val (.long v119), .second, .val (.ref b257), .unset, .unset, .unset]
          refine XS.astore X257.here hx rfl (hb hby at_74) rfl rfl (l' := A1) rfl ?_
          show Steps p.tables e below (T257.setTop (mkF m 76 A1 [])) _
          refine XS.iload X257.here hx rfl (hb hby at_76) rfl ?_
          show Steps p.tables e below (T257.setTop (mkF m 78 A1 [(.int (2 : Int32))])) _
          refine st259 _ ?_
          show Steps p.tables e below (T259.setTop (mkF m 80 A1 [(.ref b259)])) _
          let A2 : Array Slot := #[.val (.long q1), .second, .val (.long q2), .second, .val (.long q3), .second, .val (.long q4), .second, .val (.int p5), .val (.int p6), .val (.int (2 : Int32)), .val (.int (2 : Int32)), .val (.long v115), .second, .val (.long v119), .second, .val (.ref b257), .val (.ref b259), .unset, .unset]
          refine XS.astore X259.here hx rfl (hb hby at_80) rfl rfl (l' := A2) rfl ?_
          show Steps p.tables e below (T259.setTop (mkF m 82 A2 [])) _
          refine XS.iload X259.here hx rfl (hb hby at_82) rfl ?_
          show Steps p.tables e below (T259.setTop (mkF m 84 A2 [(.int (2 : Int32))])) _
          refine XS.iconst X259.here hx rfl (hb hby at_84) ?_
          show Steps p.tables e below (T259.setTop (mkF m 85 A2 [(.int (1 : Int32)), (.int (2 : Int32))])) _
          refine XS.icmpNo X259.here hx rfl (hb hby at_85) rfl (flt (by decide : ¬ ((2 : Int32) < (1 : Int32)))).1 ?_
          show Steps p.tables e below (T259.setTop (mkF m 88 A2 [])) _
          refine XS.aload X259.here hx rfl (hb hby at_88) rfl rfl ?_
          show Steps p.tables e below (T259.setTop (mkF m 90 A2 [(.ref b257)])) _
          refine XS.iconst X259.here hx rfl (hb hby at_90) ?_
          show Steps p.tables e below (T259.setTop (mkF m 91 A2 [(.int (0 : Int32)), (.ref b257)])) _
          refine XS.lloadN X259.here hx rfl (hb hby at_91) rfl ?_
          show Steps p.tables e below (T259.setTop (mkF m 92 A2 [(.long q1), (.int (0 : Int32)), (.ref b257)])) _
          refine st263 _ ?_
          show Steps p.tables e below (T263.setTop (mkF m 93 A2 [])) _
          refine XS.iload X263.here hx rfl (hb hby at_93) rfl ?_
          show Steps p.tables e below (T263.setTop (mkF m 95 A2 [(.int (2 : Int32))])) _
          refine XS.iconst X263.here hx rfl (hb hby at_95) ?_
          show Steps p.tables e below (T263.setTop (mkF m 96 A2 [(.int (2 : Int32)), (.int (2 : Int32))])) _
          refine XS.icmpNo X263.here hx rfl (hb hby at_96) rfl (flt (by decide : ¬ ((2 : Int32) < (2 : Int32)))).1 ?_
          show Steps p.tables e below (T263.setTop (mkF m 99 A2 [])) _
          refine XS.aload X263.here hx rfl (hb hby at_99) rfl rfl ?_
          show Steps p.tables e below (T263.setTop (mkF m 101 A2 [(.ref b257)])) _
          refine XS.iconst X263.here hx rfl (hb hby at_101) ?_
          show Steps p.tables e below (T263.setTop (mkF m 102 A2 [(.int (1 : Int32)), (.ref b257)])) _
          refine XS.lloadN X263.here hx rfl (hb hby at_102) rfl ?_
          show Steps p.tables e below (T263.setTop (mkF m 103 A2 [(.long q2), (.int (1 : Int32)), (.ref b257)])) _
          refine st267 _ ?_
          show Steps p.tables e below (T267.setTop (mkF m 104 A2 [])) _
          refine XS.iload X267.here hx rfl (hb hby at_104) rfl ?_
          show Steps p.tables e below (T267.setTop (mkF m 106 A2 [(.int (2 : Int32))])) _
          refine XS.iconst X267.here hx rfl (hb hby at_106) ?_
          show Steps p.tables e below (T267.setTop (mkF m 107 A2 [(.int (1 : Int32)), (.int (2 : Int32))])) _
          refine XS.icmpNo X267.here hx rfl (hb hby at_107) rfl (flt (by decide : ¬ ((2 : Int32) < (1 : Int32)))).1 ?_
          show Steps p.tables e below (T267.setTop (mkF m 110 A2 [])) _
          refine XS.aload X267.here hx rfl (hb hby at_110) rfl rfl ?_
          show Steps p.tables e below (T267.setTop (mkF m 112 A2 [(.ref b259)])) _
          refine XS.iconst X267.here hx rfl (hb hby at_112) ?_
          show Steps p.tables e below (T267.setTop (mkF m 113 A2 [(.int (0 : Int32)), (.ref b259)])) _
          refine XS.lload X267.here hx rfl (hb hby at_113) rfl ?_
          show Steps p.tables e below (T267.setTop (mkF m 115 A2 [(.long v115), (.int (0 : Int32)), (.ref b259)])) _
          refine st271 _ ?_
          show Steps p.tables e below (T271.setTop (mkF m 116 A2 [])) _
          refine XS.iload X271.here hx rfl (hb hby at_116) rfl ?_
          show Steps p.tables e below (T271.setTop (mkF m 118 A2 [(.int (2 : Int32))])) _
          refine XS.iconst X271.here hx rfl (hb hby at_118) ?_
          show Steps p.tables e below (T271.setTop (mkF m 119 A2 [(.int (2 : Int32)), (.int (2 : Int32))])) _
          refine XS.icmpNo X271.here hx rfl (hb hby at_119) rfl (flt (by decide : ¬ ((2 : Int32) < (2 : Int32)))).1 ?_
          show Steps p.tables e below (T271.setTop (mkF m 122 A2 [])) _
          refine XS.aload X271.here hx rfl (hb hby at_122) rfl rfl ?_
          show Steps p.tables e below (T271.setTop (mkF m 124 A2 [(.ref b259)])) _
          refine XS.iconst X271.here hx rfl (hb hby at_124) ?_
          show Steps p.tables e below (T271.setTop (mkF m 125 A2 [(.int (1 : Int32)), (.ref b259)])) _
          refine XS.lload X271.here hx rfl (hb hby at_125) rfl ?_
          show Steps p.tables e below (T271.setTop (mkF m 127 A2 [(.long v119), (.int (1 : Int32)), (.ref b259)])) _
          refine st275 _ ?_
          exact kt)
      obtain ⟨v283, hv283⟩ : ∃ v : Int32, v = (if (lcmpW (q1 - (2 : Int64)) v115) = (0 : Int32) then (1 : Int32) else (if (lcmpW (q1 - (2 : Int64)) v119) = (0 : Int32) then (1 : Int32) else (if (lcmpW (q2 - (2 : Int64)) v115) = (0 : Int32) then (1 : Int32) else (if (lcmpW (q2 - (2 : Int64)) v119) = (0 : Int32) then (1 : Int32) else (0 : Int32))))) := ⟨_, rfl⟩
      have k284 : ∀ t, Steps p.tables e below (T275.setTop (mkF m 225 #[.val (.long q1), .second, .val (.long q2), .second, .val (.long q3), .second, .val (.long q4), .second, .val (.int p5), .val (.int p6), .val (.int (2 : Int32)), .val (.int (2 : Int32)), .val (.long v115), .second, .val (.long v119), .second, .val (.ref b257), .val (.ref b259), .unset, .unset] [(.int v283)])) t → Steps p.tables e below (s₁.setTop (entryFrame m #[(.long q1), (.long q2), (.long q3), (.long q4), (.int p5), (.int p6)] maxLocals)) t := by
        intro t kt
        by_cases hc148_279 : (lcmpW (q1 - (2 : Int64)) v115) = (0 : Int32)
        · rw [show v283 = (1 : Int32) from (hv283.trans (if_pos hc148_279))] at kt
          exact k278 t (by
              let A0 : Array Slot := #[.val (.long q1), .second, .val (.long q2), .second, .val (.long q3), .second, .val (.long q4), .second, .val (.int p5), .val (.int p6), .val (.int (2 : Int32)), .val (.int (2 : Int32)), .val (.long v115), .second, .val (.long v119), .second, .val (.ref b257), .val (.ref b259), .unset, .unset]
              show Steps p.tables e below (T275.setTop (mkF m 128 A0 [])) _
              refine XS.iload X275.here hx rfl (hb hby at_128) rfl ?_
              show Steps p.tables e below (T275.setTop (mkF m 130 A0 [(.int (2 : Int32))])) _
              refine XS.iconst X275.here hx rfl (hb hby at_130) ?_
              show Steps p.tables e below (T275.setTop (mkF m 131 A0 [(.int (1 : Int32)), (.int (2 : Int32))])) _
              refine XS.icmpNo X275.here hx rfl (hb hby at_131) rfl (flt (by decide : ¬ ((2 : Int32) < (1 : Int32)))).1 ?_
              show Steps p.tables e below (T275.setTop (mkF m 134 A0 [])) _
              refine XS.iload X275.here hx rfl (hb hby at_134) rfl ?_
              show Steps p.tables e below (T275.setTop (mkF m 136 A0 [(.int (2 : Int32))])) _
              refine XS.iconst X275.here hx rfl (hb hby at_136) ?_
              show Steps p.tables e below (T275.setTop (mkF m 137 A0 [(.int (1 : Int32)), (.int (2 : Int32))])) _
              refine XS.icmpNo X275.here hx rfl (hb hby at_137) rfl (flt (by decide : ¬ ((2 : Int32) < (1 : Int32)))).1 ?_
              show Steps p.tables e below (T275.setTop (mkF m 140 A0 [])) _
              refine XS.lloadN X275.here hx rfl (hb hby at_140) rfl ?_
              show Steps p.tables e below (T275.setTop (mkF m 141 A0 [(.long q1)])) _
              refine X275.ldc2Long hx hown (mvT hZ (hw _ (List.mem_of_getElem? (i := 9) rfl))) (g := (mkF m 141 A0 [(.long q1)])) rfl (hb hby at_141) _ ?_
              show Steps p.tables e below (T275.setTop (mkF m 144 A0 [(.long (2 : Int64)), (.long q1)])) _
              refine XS.lsub X275.here hx rfl (hb hby at_144) rfl ?_
              show Steps p.tables e below (T275.setTop (mkF m 145 A0 [(.long (q1 - (2 : Int64)))])) _
              refine XS.lload X275.here hx rfl (hb hby at_145) rfl ?_
              show Steps p.tables e below (T275.setTop (mkF m 147 A0 [(.long v115), (.long (q1 - (2 : Int64)))])) _
              refine XS.lcmp X275.here hx rfl (hb hby at_147) rfl ?_
              show Steps p.tables e below (T275.setTop (mkF m 148 A0 [(.int (lcmpW (q1 - (2 : Int64)) v115))])) _
              refine XS.ifYes X275.here hx rfl (pc0 := 148) (pc' := 220) rfl (hb hby at_148) rfl ((if0 _ _).trans (teq hc148_279).1) (by decide) (by decide) ?_
              show Steps p.tables e below (T275.setTop (mkF m 220 A0 [])) _
              refine XS.iconst X275.here hx rfl (hb hby at_220) ?_
              show Steps p.tables e below (T275.setTop (mkF m 221 A0 [(.int (1 : Int32))])) _
              refine XS.goto X275.here hx rfl (pc0 := 221) (pc' := 225) rfl (hb hby at_221) (by decide) (by decide) ?_
              exact kt)
        · by_cases hc171_280 : (lcmpW (q1 - (2 : Int64)) v119) = (0 : Int32)
          · rw [show v283 = (1 : Int32) from ((hv283.trans (if_neg hc148_279)).trans (if_pos hc171_280))] at kt
            exact k278 t (by
                let A0 : Array Slot := #[.val (.long q1), .second, .val (.long q2), .second, .val (.long q3), .second, .val (.long q4), .second, .val (.int p5), .val (.int p6), .val (.int (2 : Int32)), .val (.int (2 : Int32)), .val (.long v115), .second, .val (.long v119), .second, .val (.ref b257), .val (.ref b259), .unset, .unset]
                show Steps p.tables e below (T275.setTop (mkF m 128 A0 [])) _
                refine XS.iload X275.here hx rfl (hb hby at_128) rfl ?_
                show Steps p.tables e below (T275.setTop (mkF m 130 A0 [(.int (2 : Int32))])) _
                refine XS.iconst X275.here hx rfl (hb hby at_130) ?_
                show Steps p.tables e below (T275.setTop (mkF m 131 A0 [(.int (1 : Int32)), (.int (2 : Int32))])) _
                refine XS.icmpNo X275.here hx rfl (hb hby at_131) rfl (flt (by decide : ¬ ((2 : Int32) < (1 : Int32)))).1 ?_
                show Steps p.tables e below (T275.setTop (mkF m 134 A0 [])) _
                refine XS.iload X275.here hx rfl (hb hby at_134) rfl ?_
                show Steps p.tables e below (T275.setTop (mkF m 136 A0 [(.int (2 : Int32))])) _
                refine XS.iconst X275.here hx rfl (hb hby at_136) ?_
                show Steps p.tables e below (T275.setTop (mkF m 137 A0 [(.int (1 : Int32)), (.int (2 : Int32))])) _
                refine XS.icmpNo X275.here hx rfl (hb hby at_137) rfl (flt (by decide : ¬ ((2 : Int32) < (1 : Int32)))).1 ?_
                show Steps p.tables e below (T275.setTop (mkF m 140 A0 [])) _
                refine XS.lloadN X275.here hx rfl (hb hby at_140) rfl ?_
                show Steps p.tables e below (T275.setTop (mkF m 141 A0 [(.long q1)])) _
                refine X275.ldc2Long hx hown (mvT hZ (hw _ (List.mem_of_getElem? (i := 9) rfl))) (g := (mkF m 141 A0 [(.long q1)])) rfl (hb hby at_141) _ ?_
                show Steps p.tables e below (T275.setTop (mkF m 144 A0 [(.long (2 : Int64)), (.long q1)])) _
                refine XS.lsub X275.here hx rfl (hb hby at_144) rfl ?_
                show Steps p.tables e below (T275.setTop (mkF m 145 A0 [(.long (q1 - (2 : Int64)))])) _
                refine XS.lload X275.here hx rfl (hb hby at_145) rfl ?_
                show Steps p.tables e below (T275.setTop (mkF m 147 A0 [(.long v115), (.long (q1 - (2 : Int64)))])) _
                refine XS.lcmp X275.here hx rfl (hb hby at_147) rfl ?_
                show Steps p.tables e below (T275.setTop (mkF m 148 A0 [(.int (lcmpW (q1 - (2 : Int64)) v115))])) _
                refine XS.ifNo X275.here hx rfl (hb hby at_148) rfl ((if0 _ _).trans (feq hc148_279).1) ?_
                show Steps p.tables e below (T275.setTop (mkF m 151 A0 [])) _
                refine XS.iload X275.here hx rfl (hb hby at_151) rfl ?_
                show Steps p.tables e below (T275.setTop (mkF m 153 A0 [(.int (2 : Int32))])) _
                refine XS.iconst X275.here hx rfl (hb hby at_153) ?_
                show Steps p.tables e below (T275.setTop (mkF m 154 A0 [(.int (1 : Int32)), (.int (2 : Int32))])) _
                refine XS.icmpNo X275.here hx rfl (hb hby at_154) rfl (flt (by decide : ¬ ((2 : Int32) < (1 : Int32)))).1 ?_
                show Steps p.tables e below (T275.setTop (mkF m 157 A0 [])) _
                refine XS.iload X275.here hx rfl (hb hby at_157) rfl ?_
                show Steps p.tables e below (T275.setTop (mkF m 159 A0 [(.int (2 : Int32))])) _
                refine XS.iconst X275.here hx rfl (hb hby at_159) ?_
                show Steps p.tables e below (T275.setTop (mkF m 160 A0 [(.int (2 : Int32)), (.int (2 : Int32))])) _
                refine XS.icmpNo X275.here hx rfl (hb hby at_160) rfl (flt (by decide : ¬ ((2 : Int32) < (2 : Int32)))).1 ?_
                show Steps p.tables e below (T275.setTop (mkF m 163 A0 [])) _
                refine XS.lloadN X275.here hx rfl (hb hby at_163) rfl ?_
                show Steps p.tables e below (T275.setTop (mkF m 164 A0 [(.long q1)])) _
                refine X275.ldc2Long hx hown (mvT hZ (hw _ (List.mem_of_getElem? (i := 9) rfl))) (g := (mkF m 164 A0 [(.long q1)])) rfl (hb hby at_164) _ ?_
                show Steps p.tables e below (T275.setTop (mkF m 167 A0 [(.long (2 : Int64)), (.long q1)])) _
                refine XS.lsub X275.here hx rfl (hb hby at_167) rfl ?_
                show Steps p.tables e below (T275.setTop (mkF m 168 A0 [(.long (q1 - (2 : Int64)))])) _
                refine XS.lload X275.here hx rfl (hb hby at_168) rfl ?_
                show Steps p.tables e below (T275.setTop (mkF m 170 A0 [(.long v119), (.long (q1 - (2 : Int64)))])) _
                refine XS.lcmp X275.here hx rfl (hb hby at_170) rfl ?_
                show Steps p.tables e below (T275.setTop (mkF m 171 A0 [(.int (lcmpW (q1 - (2 : Int64)) v119))])) _
                refine XS.ifYes X275.here hx rfl (pc0 := 171) (pc' := 220) rfl (hb hby at_171) rfl ((if0 _ _).trans (teq hc171_280).1) (by decide) (by decide) ?_
                show Steps p.tables e below (T275.setTop (mkF m 220 A0 [])) _
                refine XS.iconst X275.here hx rfl (hb hby at_220) ?_
                show Steps p.tables e below (T275.setTop (mkF m 221 A0 [(.int (1 : Int32))])) _
                refine XS.goto X275.here hx rfl (pc0 := 221) (pc' := 225) rfl (hb hby at_221) (by decide) (by decide) ?_
                exact kt)
          · by_cases hc194_281 : (lcmpW (q2 - (2 : Int64)) v115) = (0 : Int32)
            · rw [show v283 = (1 : Int32) from (((hv283.trans (if_neg hc148_279)).trans (if_neg hc171_280)).trans (if_pos hc194_281))] at kt
              exact k278 t (by
                  let A0 : Array Slot := #[.val (.long q1), .second, .val (.long q2), .second, .val (.long q3), .second, .val (.long q4), .second, .val (.int p5), .val (.int p6), .val (.int (2 : Int32)), .val (.int (2 : Int32)), .val (.long v115), .second, .val (.long v119), .second, .val (.ref b257), .val (.ref b259), .unset, .unset]
                  show Steps p.tables e below (T275.setTop (mkF m 128 A0 [])) _
                  refine XS.iload X275.here hx rfl (hb hby at_128) rfl ?_
                  show Steps p.tables e below (T275.setTop (mkF m 130 A0 [(.int (2 : Int32))])) _
                  refine XS.iconst X275.here hx rfl (hb hby at_130) ?_
                  show Steps p.tables e below (T275.setTop (mkF m 131 A0 [(.int (1 : Int32)), (.int (2 : Int32))])) _
                  refine XS.icmpNo X275.here hx rfl (hb hby at_131) rfl (flt (by decide : ¬ ((2 : Int32) < (1 : Int32)))).1 ?_
                  show Steps p.tables e below (T275.setTop (mkF m 134 A0 [])) _
                  refine XS.iload X275.here hx rfl (hb hby at_134) rfl ?_
                  show Steps p.tables e below (T275.setTop (mkF m 136 A0 [(.int (2 : Int32))])) _
                  refine XS.iconst X275.here hx rfl (hb hby at_136) ?_
                  show Steps p.tables e below (T275.setTop (mkF m 137 A0 [(.int (1 : Int32)), (.int (2 : Int32))])) _
                  refine XS.icmpNo X275.here hx rfl (hb hby at_137) rfl (flt (by decide : ¬ ((2 : Int32) < (1 : Int32)))).1 ?_
                  show Steps p.tables e below (T275.setTop (mkF m 140 A0 [])) _
                  refine XS.lloadN X275.here hx rfl (hb hby at_140) rfl ?_
                  show Steps p.tables e below (T275.setTop (mkF m 141 A0 [(.long q1)])) _
                  refine X275.ldc2Long hx hown (mvT hZ (hw _ (List.mem_of_getElem? (i := 9) rfl))) (g := (mkF m 141 A0 [(.long q1)])) rfl (hb hby at_141) _ ?_
                  show Steps p.tables e below (T275.setTop (mkF m 144 A0 [(.long (2 : Int64)), (.long q1)])) _
                  refine XS.lsub X275.here hx rfl (hb hby at_144) rfl ?_
                  show Steps p.tables e below (T275.setTop (mkF m 145 A0 [(.long (q1 - (2 : Int64)))])) _
                  refine XS.lload X275.here hx rfl (hb hby at_145) rfl ?_
                  show Steps p.tables e below (T275.setTop (mkF m 147 A0 [(.long v115), (.long (q1 - (2 : Int64)))])) _
                  refine XS.lcmp X275.here hx rfl (hb hby at_147) rfl ?_
                  show Steps p.tables e below (T275.setTop (mkF m 148 A0 [(.int (lcmpW (q1 - (2 : Int64)) v115))])) _
                  refine XS.ifNo X275.here hx rfl (hb hby at_148) rfl ((if0 _ _).trans (feq hc148_279).1) ?_
                  show Steps p.tables e below (T275.setTop (mkF m 151 A0 [])) _
                  refine XS.iload X275.here hx rfl (hb hby at_151) rfl ?_
                  show Steps p.tables e below (T275.setTop (mkF m 153 A0 [(.int (2 : Int32))])) _
                  refine XS.iconst X275.here hx rfl (hb hby at_153) ?_
                  show Steps p.tables e below (T275.setTop (mkF m 154 A0 [(.int (1 : Int32)), (.int (2 : Int32))])) _
                  refine XS.icmpNo X275.here hx rfl (hb hby at_154) rfl (flt (by decide : ¬ ((2 : Int32) < (1 : Int32)))).1 ?_
                  show Steps p.tables e below (T275.setTop (mkF m 157 A0 [])) _
                  refine XS.iload X275.here hx rfl (hb hby at_157) rfl ?_
                  show Steps p.tables e below (T275.setTop (mkF m 159 A0 [(.int (2 : Int32))])) _
                  refine XS.iconst X275.here hx rfl (hb hby at_159) ?_
                  show Steps p.tables e below (T275.setTop (mkF m 160 A0 [(.int (2 : Int32)), (.int (2 : Int32))])) _
                  refine XS.icmpNo X275.here hx rfl (hb hby at_160) rfl (flt (by decide : ¬ ((2 : Int32) < (2 : Int32)))).1 ?_
                  show Steps p.tables e below (T275.setTop (mkF m 163 A0 [])) _
                  refine XS.lloadN X275.here hx rfl (hb hby at_163) rfl ?_
                  show Steps p.tables e below (T275.setTop (mkF m 164 A0 [(.long q1)])) _
                  refine X275.ldc2Long hx hown (mvT hZ (hw _ (List.mem_of_getElem? (i := 9) rfl))) (g := (mkF m 164 A0 [(.long q1)])) rfl (hb hby at_164) _ ?_
                  show Steps p.tables e below (T275.setTop (mkF m 167 A0 [(.long (2 : Int64)), (.long q1)])) _
                  refine XS.lsub X275.here hx rfl (hb hby at_167) rfl ?_
                  show Steps p.tables e below (T275.setTop (mkF m 168 A0 [(.long (q1 - (2 : Int64)))])) _
                  refine XS.lload X275.here hx rfl (hb hby at_168) rfl ?_
                  show Steps p.tables e below (T275.setTop (mkF m 170 A0 [(.long v119), (.long (q1 - (2 : Int64)))])) _
                  refine XS.lcmp X275.here hx rfl (hb hby at_170) rfl ?_
                  show Steps p.tables e below (T275.setTop (mkF m 171 A0 [(.int (lcmpW (q1 - (2 : Int64)) v119))])) _
                  refine XS.ifNo X275.here hx rfl (hb hby at_171) rfl ((if0 _ _).trans (feq hc171_280).1) ?_
                  show Steps p.tables e below (T275.setTop (mkF m 174 A0 [])) _
                  refine XS.iload X275.here hx rfl (hb hby at_174) rfl ?_
                  show Steps p.tables e below (T275.setTop (mkF m 176 A0 [(.int (2 : Int32))])) _
                  refine XS.iconst X275.here hx rfl (hb hby at_176) ?_
                  show Steps p.tables e below (T275.setTop (mkF m 177 A0 [(.int (2 : Int32)), (.int (2 : Int32))])) _
                  refine XS.icmpNo X275.here hx rfl (hb hby at_177) rfl (flt (by decide : ¬ ((2 : Int32) < (2 : Int32)))).1 ?_
                  show Steps p.tables e below (T275.setTop (mkF m 180 A0 [])) _
                  refine XS.iload X275.here hx rfl (hb hby at_180) rfl ?_
                  show Steps p.tables e below (T275.setTop (mkF m 182 A0 [(.int (2 : Int32))])) _
                  refine XS.iconst X275.here hx rfl (hb hby at_182) ?_
                  show Steps p.tables e below (T275.setTop (mkF m 183 A0 [(.int (1 : Int32)), (.int (2 : Int32))])) _
                  refine XS.icmpNo X275.here hx rfl (hb hby at_183) rfl (flt (by decide : ¬ ((2 : Int32) < (1 : Int32)))).1 ?_
                  show Steps p.tables e below (T275.setTop (mkF m 186 A0 [])) _
                  refine XS.lloadN X275.here hx rfl (hb hby at_186) rfl ?_
                  show Steps p.tables e below (T275.setTop (mkF m 187 A0 [(.long q2)])) _
                  refine X275.ldc2Long hx hown (mvT hZ (hw _ (List.mem_of_getElem? (i := 9) rfl))) (g := (mkF m 187 A0 [(.long q2)])) rfl (hb hby at_187) _ ?_
                  show Steps p.tables e below (T275.setTop (mkF m 190 A0 [(.long (2 : Int64)), (.long q2)])) _
                  refine XS.lsub X275.here hx rfl (hb hby at_190) rfl ?_
                  show Steps p.tables e below (T275.setTop (mkF m 191 A0 [(.long (q2 - (2 : Int64)))])) _
                  refine XS.lload X275.here hx rfl (hb hby at_191) rfl ?_
                  show Steps p.tables e below (T275.setTop (mkF m 193 A0 [(.long v115), (.long (q2 - (2 : Int64)))])) _
                  refine XS.lcmp X275.here hx rfl (hb hby at_193) rfl ?_
                  show Steps p.tables e below (T275.setTop (mkF m 194 A0 [(.int (lcmpW (q2 - (2 : Int64)) v115))])) _
                  refine XS.ifYes X275.here hx rfl (pc0 := 194) (pc' := 220) rfl (hb hby at_194) rfl ((if0 _ _).trans (teq hc194_281).1) (by decide) (by decide) ?_
                  show Steps p.tables e below (T275.setTop (mkF m 220 A0 [])) _
                  refine XS.iconst X275.here hx rfl (hb hby at_220) ?_
                  show Steps p.tables e below (T275.setTop (mkF m 221 A0 [(.int (1 : Int32))])) _
                  refine XS.goto X275.here hx rfl (pc0 := 221) (pc' := 225) rfl (hb hby at_221) (by decide) (by decide) ?_
                  exact kt)
            · by_cases hc217_282 : (lcmpW (q2 - (2 : Int64)) v119) = (0 : Int32)
              · rw [show v283 = (1 : Int32) from ((((hv283.trans (if_neg hc148_279)).trans (if_neg hc171_280)).trans (if_neg hc194_281)).trans (if_pos hc217_282))] at kt
                exact k278 t (by
                    let A0 : Array Slot := #[.val (.long q1), .second, .val (.long q2), .second, .val (.long q3), .second, .val (.long q4), .second, .val (.int p5), .val (.int p6), .val (.int (2 : Int32)), .val (.int (2 : Int32)), .val (.long v115), .second, .val (.long v119), .second, .val (.ref b257), .val (.ref b259), .unset, .unset]
                    show Steps p.tables e below (T275.setTop (mkF m 128 A0 [])) _
                    refine XS.iload X275.here hx rfl (hb hby at_128) rfl ?_
                    show Steps p.tables e below (T275.setTop (mkF m 130 A0 [(.int (2 : Int32))])) _
                    refine XS.iconst X275.here hx rfl (hb hby at_130) ?_
                    show Steps p.tables e below (T275.setTop (mkF m 131 A0 [(.int (1 : Int32)), (.int (2 : Int32))])) _
                    refine XS.icmpNo X275.here hx rfl (hb hby at_131) rfl (flt (by decide : ¬ ((2 : Int32) < (1 : Int32)))).1 ?_
                    show Steps p.tables e below (T275.setTop (mkF m 134 A0 [])) _
                    refine XS.iload X275.here hx rfl (hb hby at_134) rfl ?_
                    show Steps p.tables e below (T275.setTop (mkF m 136 A0 [(.int (2 : Int32))])) _
                    refine XS.iconst X275.here hx rfl (hb hby at_136) ?_
                    show Steps p.tables e below (T275.setTop (mkF m 137 A0 [(.int (1 : Int32)), (.int (2 : Int32))])) _
                    refine XS.icmpNo X275.here hx rfl (hb hby at_137) rfl (flt (by decide : ¬ ((2 : Int32) < (1 : Int32)))).1 ?_
                    show Steps p.tables e below (T275.setTop (mkF m 140 A0 [])) _
                    refine XS.lloadN X275.here hx rfl (hb hby at_140) rfl ?_
                    show Steps p.tables e below (T275.setTop (mkF m 141 A0 [(.long q1)])) _
                    refine X275.ldc2Long hx hown (mvT hZ (hw _ (List.mem_of_getElem? (i := 9) rfl))) (g := (mkF m 141 A0 [(.long q1)])) rfl (hb hby at_141) _ ?_
                    show Steps p.tables e below (T275.setTop (mkF m 144 A0 [(.long (2 : Int64)), (.long q1)])) _
                    refine XS.lsub X275.here hx rfl (hb hby at_144) rfl ?_
                    show Steps p.tables e below (T275.setTop (mkF m 145 A0 [(.long (q1 - (2 : Int64)))])) _
                    refine XS.lload X275.here hx rfl (hb hby at_145) rfl ?_
                    show Steps p.tables e below (T275.setTop (mkF m 147 A0 [(.long v115), (.long (q1 - (2 : Int64)))])) _
                    refine XS.lcmp X275.here hx rfl (hb hby at_147) rfl ?_
                    show Steps p.tables e below (T275.setTop (mkF m 148 A0 [(.int (lcmpW (q1 - (2 : Int64)) v115))])) _
                    refine XS.ifNo X275.here hx rfl (hb hby at_148) rfl ((if0 _ _).trans (feq hc148_279).1) ?_
                    show Steps p.tables e below (T275.setTop (mkF m 151 A0 [])) _
                    refine XS.iload X275.here hx rfl (hb hby at_151) rfl ?_
                    show Steps p.tables e below (T275.setTop (mkF m 153 A0 [(.int (2 : Int32))])) _
                    refine XS.iconst X275.here hx rfl (hb hby at_153) ?_
                    show Steps p.tables e below (T275.setTop (mkF m 154 A0 [(.int (1 : Int32)), (.int (2 : Int32))])) _
                    refine XS.icmpNo X275.here hx rfl (hb hby at_154) rfl (flt (by decide : ¬ ((2 : Int32) < (1 : Int32)))).1 ?_
                    show Steps p.tables e below (T275.setTop (mkF m 157 A0 [])) _
                    refine XS.iload X275.here hx rfl (hb hby at_157) rfl ?_
                    show Steps p.tables e below (T275.setTop (mkF m 159 A0 [(.int (2 : Int32))])) _
                    refine XS.iconst X275.here hx rfl (hb hby at_159) ?_
                    show Steps p.tables e below (T275.setTop (mkF m 160 A0 [(.int (2 : Int32)), (.int (2 : Int32))])) _
                    refine XS.icmpNo X275.here hx rfl (hb hby at_160) rfl (flt (by decide : ¬ ((2 : Int32) < (2 : Int32)))).1 ?_
                    show Steps p.tables e below (T275.setTop (mkF m 163 A0 [])) _
                    refine XS.lloadN X275.here hx rfl (hb hby at_163) rfl ?_
                    show Steps p.tables e below (T275.setTop (mkF m 164 A0 [(.long q1)])) _
                    refine X275.ldc2Long hx hown (mvT hZ (hw _ (List.mem_of_getElem? (i := 9) rfl))) (g := (mkF m 164 A0 [(.long q1)])) rfl (hb hby at_164) _ ?_
                    show Steps p.tables e below (T275.setTop (mkF m 167 A0 [(.long (2 : Int64)), (.long q1)])) _
                    refine XS.lsub X275.here hx rfl (hb hby at_167) rfl ?_
                    show Steps p.tables e below (T275.setTop (mkF m 168 A0 [(.long (q1 - (2 : Int64)))])) _
                    refine XS.lload X275.here hx rfl (hb hby at_168) rfl ?_
                    show Steps p.tables e below (T275.setTop (mkF m 170 A0 [(.long v119), (.long (q1 - (2 : Int64)))])) _
                    refine XS.lcmp X275.here hx rfl (hb hby at_170) rfl ?_
                    show Steps p.tables e below (T275.setTop (mkF m 171 A0 [(.int (lcmpW (q1 - (2 : Int64)) v119))])) _
                    refine XS.ifNo X275.here hx rfl (hb hby at_171) rfl ((if0 _ _).trans (feq hc171_280).1) ?_
                    show Steps p.tables e below (T275.setTop (mkF m 174 A0 [])) _
                    refine XS.iload X275.here hx rfl (hb hby at_174) rfl ?_
                    show Steps p.tables e below (T275.setTop (mkF m 176 A0 [(.int (2 : Int32))])) _
                    refine XS.iconst X275.here hx rfl (hb hby at_176) ?_
                    show Steps p.tables e below (T275.setTop (mkF m 177 A0 [(.int (2 : Int32)), (.int (2 : Int32))])) _
                    refine XS.icmpNo X275.here hx rfl (hb hby at_177) rfl (flt (by decide : ¬ ((2 : Int32) < (2 : Int32)))).1 ?_
                    show Steps p.tables e below (T275.setTop (mkF m 180 A0 [])) _
                    refine XS.iload X275.here hx rfl (hb hby at_180) rfl ?_
                    show Steps p.tables e below (T275.setTop (mkF m 182 A0 [(.int (2 : Int32))])) _
                    refine XS.iconst X275.here hx rfl (hb hby at_182) ?_
                    show Steps p.tables e below (T275.setTop (mkF m 183 A0 [(.int (1 : Int32)), (.int (2 : Int32))])) _
                    refine XS.icmpNo X275.here hx rfl (hb hby at_183) rfl (flt (by decide : ¬ ((2 : Int32) < (1 : Int32)))).1 ?_
                    show Steps p.tables e below (T275.setTop (mkF m 186 A0 [])) _
                    refine XS.lloadN X275.here hx rfl (hb hby at_186) rfl ?_
                    show Steps p.tables e below (T275.setTop (mkF m 187 A0 [(.long q2)])) _
                    refine X275.ldc2Long hx hown (mvT hZ (hw _ (List.mem_of_getElem? (i := 9) rfl))) (g := (mkF m 187 A0 [(.long q2)])) rfl (hb hby at_187) _ ?_
                    show Steps p.tables e below (T275.setTop (mkF m 190 A0 [(.long (2 : Int64)), (.long q2)])) _
                    refine XS.lsub X275.here hx rfl (hb hby at_190) rfl ?_
                    show Steps p.tables e below (T275.setTop (mkF m 191 A0 [(.long (q2 - (2 : Int64)))])) _
                    refine XS.lload X275.here hx rfl (hb hby at_191) rfl ?_
                    show Steps p.tables e below (T275.setTop (mkF m 193 A0 [(.long v115), (.long (q2 - (2 : Int64)))])) _
                    refine XS.lcmp X275.here hx rfl (hb hby at_193) rfl ?_
                    show Steps p.tables e below (T275.setTop (mkF m 194 A0 [(.int (lcmpW (q2 - (2 : Int64)) v115))])) _
                    refine XS.ifNo X275.here hx rfl (hb hby at_194) rfl ((if0 _ _).trans (feq hc194_281).1) ?_
                    show Steps p.tables e below (T275.setTop (mkF m 197 A0 [])) _
                    refine XS.iload X275.here hx rfl (hb hby at_197) rfl ?_
                    show Steps p.tables e below (T275.setTop (mkF m 199 A0 [(.int (2 : Int32))])) _
                    refine XS.iconst X275.here hx rfl (hb hby at_199) ?_
                    show Steps p.tables e below (T275.setTop (mkF m 200 A0 [(.int (2 : Int32)), (.int (2 : Int32))])) _
                    refine XS.icmpNo X275.here hx rfl (hb hby at_200) rfl (flt (by decide : ¬ ((2 : Int32) < (2 : Int32)))).1 ?_
                    show Steps p.tables e below (T275.setTop (mkF m 203 A0 [])) _
                    refine XS.iload X275.here hx rfl (hb hby at_203) rfl ?_
                    show Steps p.tables e below (T275.setTop (mkF m 205 A0 [(.int (2 : Int32))])) _
                    refine XS.iconst X275.here hx rfl (hb hby at_205) ?_
                    show Steps p.tables e below (T275.setTop (mkF m 206 A0 [(.int (2 : Int32)), (.int (2 : Int32))])) _
                    refine XS.icmpNo X275.here hx rfl (hb hby at_206) rfl (flt (by decide : ¬ ((2 : Int32) < (2 : Int32)))).1 ?_
                    show Steps p.tables e below (T275.setTop (mkF m 209 A0 [])) _
                    refine XS.lloadN X275.here hx rfl (hb hby at_209) rfl ?_
                    show Steps p.tables e below (T275.setTop (mkF m 210 A0 [(.long q2)])) _
                    refine X275.ldc2Long hx hown (mvT hZ (hw _ (List.mem_of_getElem? (i := 9) rfl))) (g := (mkF m 210 A0 [(.long q2)])) rfl (hb hby at_210) _ ?_
                    show Steps p.tables e below (T275.setTop (mkF m 213 A0 [(.long (2 : Int64)), (.long q2)])) _
                    refine XS.lsub X275.here hx rfl (hb hby at_213) rfl ?_
                    show Steps p.tables e below (T275.setTop (mkF m 214 A0 [(.long (q2 - (2 : Int64)))])) _
                    refine XS.lload X275.here hx rfl (hb hby at_214) rfl ?_
                    show Steps p.tables e below (T275.setTop (mkF m 216 A0 [(.long v119), (.long (q2 - (2 : Int64)))])) _
                    refine XS.lcmp X275.here hx rfl (hb hby at_216) rfl ?_
                    show Steps p.tables e below (T275.setTop (mkF m 217 A0 [(.int (lcmpW (q2 - (2 : Int64)) v119))])) _
                    refine XS.ifNo X275.here hx rfl (hb hby at_217) rfl ((if0 _ _).trans (teq hc217_282).2) ?_
                    show Steps p.tables e below (T275.setTop (mkF m 220 A0 [])) _
                    refine XS.iconst X275.here hx rfl (hb hby at_220) ?_
                    show Steps p.tables e below (T275.setTop (mkF m 221 A0 [(.int (1 : Int32))])) _
                    refine XS.goto X275.here hx rfl (pc0 := 221) (pc' := 225) rfl (hb hby at_221) (by decide) (by decide) ?_
                    exact kt)
              · rw [show v283 = (0 : Int32) from ((((hv283.trans (if_neg hc148_279)).trans (if_neg hc171_280)).trans (if_neg hc194_281)).trans (if_neg hc217_282))] at kt
                exact k278 t (by
                    let A0 : Array Slot := #[.val (.long q1), .second, .val (.long q2), .second, .val (.long q3), .second, .val (.long q4), .second, .val (.int p5), .val (.int p6), .val (.int (2 : Int32)), .val (.int (2 : Int32)), .val (.long v115), .second, .val (.long v119), .second, .val (.ref b257), .val (.ref b259), .unset, .unset]
                    show Steps p.tables e below (T275.setTop (mkF m 128 A0 [])) _
                    refine XS.iload X275.here hx rfl (hb hby at_128) rfl ?_
                    show Steps p.tables e below (T275.setTop (mkF m 130 A0 [(.int (2 : Int32))])) _
                    refine XS.iconst X275.here hx rfl (hb hby at_130) ?_
                    show Steps p.tables e below (T275.setTop (mkF m 131 A0 [(.int (1 : Int32)), (.int (2 : Int32))])) _
                    refine XS.icmpNo X275.here hx rfl (hb hby at_131) rfl (flt (by decide : ¬ ((2 : Int32) < (1 : Int32)))).1 ?_
                    show Steps p.tables e below (T275.setTop (mkF m 134 A0 [])) _
                    refine XS.iload X275.here hx rfl (hb hby at_134) rfl ?_
                    show Steps p.tables e below (T275.setTop (mkF m 136 A0 [(.int (2 : Int32))])) _
                    refine XS.iconst X275.here hx rfl (hb hby at_136) ?_
                    show Steps p.tables e below (T275.setTop (mkF m 137 A0 [(.int (1 : Int32)), (.int (2 : Int32))])) _
                    refine XS.icmpNo X275.here hx rfl (hb hby at_137) rfl (flt (by decide : ¬ ((2 : Int32) < (1 : Int32)))).1 ?_
                    show Steps p.tables e below (T275.setTop (mkF m 140 A0 [])) _
                    refine XS.lloadN X275.here hx rfl (hb hby at_140) rfl ?_
                    show Steps p.tables e below (T275.setTop (mkF m 141 A0 [(.long q1)])) _
                    refine X275.ldc2Long hx hown (mvT hZ (hw _ (List.mem_of_getElem? (i := 9) rfl))) (g := (mkF m 141 A0 [(.long q1)])) rfl (hb hby at_141) _ ?_
                    show Steps p.tables e below (T275.setTop (mkF m 144 A0 [(.long (2 : Int64)), (.long q1)])) _
                    refine XS.lsub X275.here hx rfl (hb hby at_144) rfl ?_
                    show Steps p.tables e below (T275.setTop (mkF m 145 A0 [(.long (q1 - (2 : Int64)))])) _
                    refine XS.lload X275.here hx rfl (hb hby at_145) rfl ?_
                    show Steps p.tables e below (T275.setTop (mkF m 147 A0 [(.long v115), (.long (q1 - (2 : Int64)))])) _
                    refine XS.lcmp X275.here hx rfl (hb hby at_147) rfl ?_
                    show Steps p.tables e below (T275.setTop (mkF m 148 A0 [(.int (lcmpW (q1 - (2 : Int64)) v115))])) _
                    refine XS.ifNo X275.here hx rfl (hb hby at_148) rfl ((if0 _ _).trans (feq hc148_279).1) ?_
                    show Steps p.tables e below (T275.setTop (mkF m 151 A0 [])) _
                    refine XS.iload X275.here hx rfl (hb hby at_151) rfl ?_
                    show Steps p.tables e below (T275.setTop (mkF m 153 A0 [(.int (2 : Int32))])) _
                    refine XS.iconst X275.here hx rfl (hb hby at_153) ?_
                    show Steps p.tables e below (T275.setTop (mkF m 154 A0 [(.int (1 : Int32)), (.int (2 : Int32))])) _
                    refine XS.icmpNo X275.here hx rfl (hb hby at_154) rfl (flt (by decide : ¬ ((2 : Int32) < (1 : Int32)))).1 ?_
                    show Steps p.tables e below (T275.setTop (mkF m 157 A0 [])) _
                    refine XS.iload X275.here hx rfl (hb hby at_157) rfl ?_
                    show Steps p.tables e below (T275.setTop (mkF m 159 A0 [(.int (2 : Int32))])) _
                    refine XS.iconst X275.here hx rfl (hb hby at_159) ?_
                    show Steps p.tables e below (T275.setTop (mkF m 160 A0 [(.int (2 : Int32)), (.int (2 : Int32))])) _
                    refine XS.icmpNo X275.here hx rfl (hb hby at_160) rfl (flt (by decide : ¬ ((2 : Int32) < (2 : Int32)))).1 ?_
                    show Steps p.tables e below (T275.setTop (mkF m 163 A0 [])) _
                    refine XS.lloadN X275.here hx rfl (hb hby at_163) rfl ?_
                    show Steps p.tables e below (T275.setTop (mkF m 164 A0 [(.long q1)])) _
                    refine X275.ldc2Long hx hown (mvT hZ (hw _ (List.mem_of_getElem? (i := 9) rfl))) (g := (mkF m 164 A0 [(.long q1)])) rfl (hb hby at_164) _ ?_
                    show Steps p.tables e below (T275.setTop (mkF m 167 A0 [(.long (2 : Int64)), (.long q1)])) _
                    refine XS.lsub X275.here hx rfl (hb hby at_167) rfl ?_
                    show Steps p.tables e below (T275.setTop (mkF m 168 A0 [(.long (q1 - (2 : Int64)))])) _
                    refine XS.lload X275.here hx rfl (hb hby at_168) rfl ?_
                    show Steps p.tables e below (T275.setTop (mkF m 170 A0 [(.long v119), (.long (q1 - (2 : Int64)))])) _
                    refine XS.lcmp X275.here hx rfl (hb hby at_170) rfl ?_
                    show Steps p.tables e below (T275.setTop (mkF m 171 A0 [(.int (lcmpW (q1 - (2 : Int64)) v119))])) _
                    refine XS.ifNo X275.here hx rfl (hb hby at_171) rfl ((if0 _ _).trans (feq hc171_280).1) ?_
                    show Steps p.tables e below (T275.setTop (mkF m 174 A0 [])) _
                    refine XS.iload X275.here hx rfl (hb hby at_174) rfl ?_
                    show Steps p.tables e below (T275.setTop (mkF m 176 A0 [(.int (2 : Int32))])) _
                    refine XS.iconst X275.here hx rfl (hb hby at_176) ?_
                    show Steps p.tables e below (T275.setTop (mkF m 177 A0 [(.int (2 : Int32)), (.int (2 : Int32))])) _
                    refine XS.icmpNo X275.here hx rfl (hb hby at_177) rfl (flt (by decide : ¬ ((2 : Int32) < (2 : Int32)))).1 ?_
                    show Steps p.tables e below (T275.setTop (mkF m 180 A0 [])) _
                    refine XS.iload X275.here hx rfl (hb hby at_180) rfl ?_
                    show Steps p.tables e below (T275.setTop (mkF m 182 A0 [(.int (2 : Int32))])) _
                    refine XS.iconst X275.here hx rfl (hb hby at_182) ?_
                    show Steps p.tables e below (T275.setTop (mkF m 183 A0 [(.int (1 : Int32)), (.int (2 : Int32))])) _
                    refine XS.icmpNo X275.here hx rfl (hb hby at_183) rfl (flt (by decide : ¬ ((2 : Int32) < (1 : Int32)))).1 ?_
                    show Steps p.tables e below (T275.setTop (mkF m 186 A0 [])) _
                    refine XS.lloadN X275.here hx rfl (hb hby at_186) rfl ?_
                    show Steps p.tables e below (T275.setTop (mkF m 187 A0 [(.long q2)])) _
                    refine X275.ldc2Long hx hown (mvT hZ (hw _ (List.mem_of_getElem? (i := 9) rfl))) (g := (mkF m 187 A0 [(.long q2)])) rfl (hb hby at_187) _ ?_
                    show Steps p.tables e below (T275.setTop (mkF m 190 A0 [(.long (2 : Int64)), (.long q2)])) _
                    refine XS.lsub X275.here hx rfl (hb hby at_190) rfl ?_
                    show Steps p.tables e below (T275.setTop (mkF m 191 A0 [(.long (q2 - (2 : Int64)))])) _
                    refine XS.lload X275.here hx rfl (hb hby at_191) rfl ?_
                    show Steps p.tables e below (T275.setTop (mkF m 193 A0 [(.long v115), (.long (q2 - (2 : Int64)))])) _
                    refine XS.lcmp X275.here hx rfl (hb hby at_193) rfl ?_
                    show Steps p.tables e below (T275.setTop (mkF m 194 A0 [(.int (lcmpW (q2 - (2 : Int64)) v115))])) _
                    refine XS.ifNo X275.here hx rfl (hb hby at_194) rfl ((if0 _ _).trans (feq hc194_281).1) ?_
                    show Steps p.tables e below (T275.setTop (mkF m 197 A0 [])) _
                    refine XS.iload X275.here hx rfl (hb hby at_197) rfl ?_
                    show Steps p.tables e below (T275.setTop (mkF m 199 A0 [(.int (2 : Int32))])) _
                    refine XS.iconst X275.here hx rfl (hb hby at_199) ?_
                    show Steps p.tables e below (T275.setTop (mkF m 200 A0 [(.int (2 : Int32)), (.int (2 : Int32))])) _
                    refine XS.icmpNo X275.here hx rfl (hb hby at_200) rfl (flt (by decide : ¬ ((2 : Int32) < (2 : Int32)))).1 ?_
                    show Steps p.tables e below (T275.setTop (mkF m 203 A0 [])) _
                    refine XS.iload X275.here hx rfl (hb hby at_203) rfl ?_
                    show Steps p.tables e below (T275.setTop (mkF m 205 A0 [(.int (2 : Int32))])) _
                    refine XS.iconst X275.here hx rfl (hb hby at_205) ?_
                    show Steps p.tables e below (T275.setTop (mkF m 206 A0 [(.int (2 : Int32)), (.int (2 : Int32))])) _
                    refine XS.icmpNo X275.here hx rfl (hb hby at_206) rfl (flt (by decide : ¬ ((2 : Int32) < (2 : Int32)))).1 ?_
                    show Steps p.tables e below (T275.setTop (mkF m 209 A0 [])) _
                    refine XS.lloadN X275.here hx rfl (hb hby at_209) rfl ?_
                    show Steps p.tables e below (T275.setTop (mkF m 210 A0 [(.long q2)])) _
                    refine X275.ldc2Long hx hown (mvT hZ (hw _ (List.mem_of_getElem? (i := 9) rfl))) (g := (mkF m 210 A0 [(.long q2)])) rfl (hb hby at_210) _ ?_
                    show Steps p.tables e below (T275.setTop (mkF m 213 A0 [(.long (2 : Int64)), (.long q2)])) _
                    refine XS.lsub X275.here hx rfl (hb hby at_213) rfl ?_
                    show Steps p.tables e below (T275.setTop (mkF m 214 A0 [(.long (q2 - (2 : Int64)))])) _
                    refine XS.lload X275.here hx rfl (hb hby at_214) rfl ?_
                    show Steps p.tables e below (T275.setTop (mkF m 216 A0 [(.long v119), (.long (q2 - (2 : Int64)))])) _
                    refine XS.lcmp X275.here hx rfl (hb hby at_216) rfl ?_
                    show Steps p.tables e below (T275.setTop (mkF m 217 A0 [(.int (lcmpW (q2 - (2 : Int64)) v119))])) _
                    refine XS.ifYes X275.here hx rfl (pc0 := 217) (pc' := 224) rfl (hb hby at_217) rfl ((if0 _ _).trans (feq hc217_282).2) (by decide) (by decide) ?_
                    show Steps p.tables e below (T275.setTop (mkF m 224 A0 [])) _
                    refine XS.iconst X275.here hx rfl (hb hby at_224) ?_
                    exact kt)
      have hfin : own_nbo [q1, q2] [v115, v119] = v283 := by
        rw [hv283]
        simp only [own_nbo, List.foldl, own_hit, own_swap]
        by_cases hh0 : lcmpW (q1 - (2 : Int64)) v115 = (0 : Int32) <;> by_cases hh1 : lcmpW (q1 - (2 : Int64)) v119 = (0 : Int32) <;> by_cases hh2 : lcmpW (q2 - (2 : Int64)) v115 = (0 : Int32) <;> by_cases hh3 : lcmpW (q2 - (2 : Int64)) v119 = (0 : Int32) <;> simp [hh0, hh1, hh2, hh3]
      obtain ⟨_, _, ⟨T285, L285, k285, n285⟩, -, X285, ⟨Lc285, hQ285, l285, y285, z285⟩, st285⟩ := Jvm.LawKit.callS X275 hx (y := (⟨"com/example/conformed/conformed/agreement/Enumerator", "nextButOne", "([J[J)Z"⟩ : MethodName)) hown (mvT hZ (hw _ (List.mem_of_getElem? (i := 5) rfl))) (mvT hZ (hw _ (List.mem_of_getElem? (i := 6) rfl))) (mvT hZ (hw _ (List.mem_of_getElem? (i := 7) rfl))) (mvT hZ (hw _ (List.mem_of_getElem? (i := 8) rfl))) (by decide) (backOf (W := 0) (rm2_22 l Z a0 hw [] b257 b259 kc257 kc259 q1 q2 v115 v119 h275 n0 Z_277 V_b257_267'276 V_b259_275) hZ (hw _ (List.mem_of_getElem? (i := 8) rfl)) (hw _ (List.mem_of_getElem? (i := 7) rfl)) (by decide) (by decide)) (g := (mkF m 231 #[.val (.long q1), .second, .val (.long q2), .second, .val (.long q3), .second, .val (.long q4), .second, .val (.int p5), .val (.int p6), .val (.int (2 : Int32)), .val (.int (2 : Int32)), .val (.long v115), .second, .val (.long v119), .second, .val (.ref b257), .val (.ref b259), .val (.int v283), .unset] [(.ref b259), (.ref b257)])) rfl (by rw [hml]; rfl) (argsL := [(.ref b257), (.ref b259)]) (rest := []) (lenOf pd_1 rfl) rfl (by show 2 * 0 + _ ≤ _; exact Nat.le_of_eq rfl) (hb hby at_231) (fun _ _ => ⟨rfl, e275, (by decide : 2 + 0 ≤ _), (by decide : 4 + 0 ≤ _)⟩)
      dsimp only [Pt.U, Pt.locs, Pt.cells, Pt.slots] at X285 l285 y285 z285 st285 hQ285
      subst l285 y285 z285
      obtain ⟨rfl, N285q, e285⟩ := hQ285
      have N285 := Fr.app N275 N285q
      have k286 : ∀ t, Steps p.tables e below (T285.setTop (mkF m 248 #[.val (.long q1), .second, .val (.long q2), .second, .val (.long q3), .second, .val (.long q4), .second, .val (.int p5), .val (.int p6), .val (.int (2 : Int32)), .val (.int (2 : Int32)), .val (.long v115), .second, .val (.long v119), .second, .val (.ref b257), .val (.ref b259), .val (.int v283), .val (.int (own_nbo [q1, q2] [v115, v119]))] [(.int (1 : Int32))])) t → Steps p.tables e below (s₁.setTop (entryFrame m #[(.long q1), (.long q2), (.long q3), (.long q4), (.int p5), (.int p6)] maxLocals)) t := fun t kt => k284 t (by
          show Steps p.tables e below (T275.setTop (mkF m 225 #[.val (.long q1), .second, .val (.long q2), .second, .val (.long q3), .second, .val (.long q4), .second, .val (.int p5), .val (.int p6), .val (.int (2 : Int32)), .val (.int (2 : Int32)), .val (.long v115), .second, .val (.long v119), .second, .val (.ref b257), .val (.ref b259), .unset, .unset] [(.int v283)])) _
          let A0 : Array Slot := #[.val (.long q1), .second, .val (.long q2), .second, .val (.long q3), .second, .val (.long q4), .second, .val (.int p5), .val (.int p6), .val (.int (2 : Int32)), .val (.int (2 : Int32)), .val (.long v115), .second, .val (.long v119), .second, .val (.ref b257), .val (.ref b259), .val (.int v283), .unset]
          refine XS.istore X275.here hx rfl (hb hby at_225) rfl (l' := A0) rfl ?_
          show Steps p.tables e below (T275.setTop (mkF m 227 A0 [])) _
          refine XS.aload X275.here hx rfl (hb hby at_227) rfl rfl ?_
          show Steps p.tables e below (T275.setTop (mkF m 229 A0 [(.ref b257)])) _
          refine XS.aload X275.here hx rfl (hb hby at_229) rfl rfl ?_
          show Steps p.tables e below (T275.setTop (mkF m 231 A0 [(.ref b259), (.ref b257)])) _
          refine st285 _ ?_
          show Steps p.tables e below (T285.setTop (mkF m 234 A0 [(.int (own_nbo [q1, q2] [v115, v119]))])) _
          let A1 : Array Slot := #[.val (.long q1), .second, .val (.long q2), .second, .val (.long q3), .second, .val (.long q4), .second, .val (.int p5), .val (.int p6), .val (.int (2 : Int32)), .val (.int (2 : Int32)), .val (.long v115), .second, .val (.long v119), .second, .val (.ref b257), .val (.ref b259), .val (.int v283), .val (.int (own_nbo [q1, q2] [v115, v119]))]
          refine XS.istore X285.here hx rfl (hb hby at_234) rfl (l' := A1) rfl ?_
          show Steps p.tables e below (T285.setTop (mkF m 236 A1 [])) _
          refine XS.iload X285.here hx rfl (hb hby at_236) rfl ?_
          show Steps p.tables e below (T285.setTop (mkF m 238 A1 [(.int (own_nbo [q1, q2] [v115, v119]))])) _
          refine XS.iload X285.here hx rfl (hb hby at_238) rfl ?_
          show Steps p.tables e below (T285.setTop (mkF m 240 A1 [(.int v283), (.int (own_nbo [q1, q2] [v115, v119]))])) _
          refine XS.icmpNo X285.here hx rfl (hb hby at_240) rfl (teq hfin).2 ?_
          show Steps p.tables e below (T285.setTop (mkF m 243 A1 [])) _
          refine XS.iconst X285.here hx rfl (hb hby at_243) ?_
          show Steps p.tables e below (T285.setTop (mkF m 244 A1 [(.int (1 : Int32))])) _
          refine XS.goto X285.here hx rfl (pc0 := 244) (pc' := 248) rfl (hb hby at_244) (by decide) (by decide) ?_
          exact kt)
      obtain ⟨fs, hr, hrun, hended, hW, hsame⟩ := X285.leave (v := some (.int (1 : Int32))) (fun h => by rw [Bd.returns] at h; cases h)
      refine ⟨_, _, k286 _ ?_, hrun, hended, _, _, rfl, ?_, ⟨_, rfl⟩, hW, hsame.mono (by decide) (by decide)⟩
      · show Steps p.tables e below (T285.setTop (mkF m 248 #[.val (.long q1), .second, .val (.long q2), .second, .val (.long q3), .second, .val (.long q4), .second, .val (.int p5), .val (.int p6), .val (.int (2 : Int32)), .val (.int (2 : Int32)), .val (.long v115), .second, .val (.long v119), .second, .val (.ref b257), .val (.ref b259), .val (.int v283), .val (.int (own_nbo [q1, q2] [v115, v119]))] [(.int (1 : Int32))])) _
        exact retN X285 hx (t := .boolean) Bd.returns (by simp) (hb hby at_248) hr
      · show Q_rm0 Z q1 q2 q3 q4 p5 p6 h0 n0 _ T285.heap _
        rw [e285]
        exact ⟨rfl, N285⟩
set_option maxRecDepth 65536 in
set_option maxHeartbeats 40000000 in
theorem comes_1 {Post : Tables → Env → Array Value → State → Outcome → State → Prop} (hpost : ∀ tb e args s v u, (limb_1_1.after args s (.returned v) u = true ∧ limb_1_2.after args s (.returned v) u = true ∧ True) → FrameEnd s (.returned v) u (Jvm.fieldLocs frame_1_writes args s ++ Jvm.arrayLocs frame_1_arrays args s ++ Jvm.staticLocs frame_1_statics s) 16 128 → Post tb e args s (.returned v) u) :
    ArmFor flags0 classFile x code maxLocals ret World_1 tables_1 room_1 Calls_1 rest_1 Pre_1 Post := by
  intro l hfl _ _ p e ha hc hk s m args below hf hA hF happ hP
  obtain ⟨hcalls, hrest, hpre⟩ := hP
  obtain ⟨-, -, -, hnamed, -, -, -, hat⟩ := (Spec.applies_iff hf).mp happ
  obtain ⟨hg, hn⟩ := and_e (Cond.before_iff.mp (show (Jvm.Cond.and given_1 narrow_1).before args s = true from hpre))
  obtain ⟨hcnt, hg0⟩ := and_e hg
  obtain ⟨ha0, hg1⟩ := and_e hg0
  obtain ⟨ha1, hg2⟩ := and_e hg1
  obtain ⟨ha2, hg3⟩ := and_e hg2
  obtain ⟨ha3, hg4⟩ := and_e hg3
  obtain ⟨ha4, hg5⟩ := and_e hg4
  obtain ⟨w0, w1, w2, w3, w4, w5, rfl⟩ : ∃ w0 w1 w2 w3 w4 w5 : Value, args = #[w0, w1, w2, w3, w4, w5] := by
    have hs : args.size = 6 := by simpa [Cond.value, given_1] using hcnt
    obtain ⟨L⟩ := args
    match L, hs with
    | [w0, w1, w2, w3, w4, w5], _ => exact ⟨w0, w1, w2, w3, w4, w5, rfl⟩
  have hw := fun d (hd : d ∈ tables_1) => atoms_spec (ws := Jvm.Cond.code x code maxLocals ret :: tables_1) hat d (List.mem_cons_of_mem _ hd)
  have hfit : Fit s := fun {y c} hc i hi => by
    obtain ⟨ha, rfl⟩ := Array.getElem?_eq_some_iff.mp hc
    have q := List.all_eq_true.mp ((Array.all_eq_true_iff_forall_mem.mp hF) _ (Array.getElem_mem ha)) i (List.mem_range.mpr hi)
    simpa [Array.getElem?_eq_getElem hi] using q
  obtain ⟨i0, ei0⟩ := isL_v ha0
  obtain rfl : w0 = (.long i0) := Option.some.inj ei0
  obtain ⟨i1, ei1⟩ := isL_v ha1
  obtain rfl : w1 = (.long i1) := Option.some.inj ei1
  obtain ⟨i2, ei2⟩ := isL_v ha2
  obtain rfl : w2 = (.long i2) := Option.some.inj ei2
  obtain ⟨i3, ei3⟩ := isL_v ha3
  obtain rfl : w3 = (.long i3) := Option.some.inj ei3
  obtain ⟨i4, ei4⟩ := is_v ha4
  obtain rfl : w4 = (.int i4) := Option.some.inj ei4
  obtain ⟨i5, ei5⟩ := is_v hg5
  obtain rfl : w5 = (.int i5) := Option.some.inj ei5
  obtain ⟨n, o, h1, h2, h3, _, L, rfl, ⟨rfl, N⟩, hq⟩ := rm0 l s _ hw tables_1 i0 i1 i2 i3 i4 i5 s.heap s.heap.size (Nat.le_refl _)  p e ha hc hk s m _ below hf ((Spec.applies_iff_loose hf).mp happ).1 ⟨rfl, State.Warmed39.refl s, rfl⟩ trivial
  refine ⟨n, _, h1, h2, h3, hpost _ _ _ _ _ _ ⟨Cond.after_iff.mpr rfl, Cond.after_iff.mpr (eq_i res_at (Term.int_eval (1)) rfl), trivial⟩ ⟨hq.1, hq.2.1, (hq.2.2.sift fun y hy => Or.inr (N y hy)).mono (by decide) (by decide)⟩⟩
theorem main_1_1 : Claimed_1_1 := comes_1 fun _ _ _ _ _ _ h hF => ⟨h.1, hF⟩
theorem main_1_2 : Claimed_1_2 := comes_1 fun _ _ _ _ _ _ h hF => ⟨h.2.1, hF⟩
end Jvm.Pilot.@@N@@
namespace Jvm.Pilot.@@N@@
open Jvm Jvm.ClassFile Sem Op Lib Jvm.Free Jvm.Stand Jvm.Pilot.@@N@@.Jvm.D
/-! MADE BY PROGRAM (witnessworld.py) out of the Statement's table words and the real class files: 12 classes; the members and pool entries that the words name. The judged class is class 1, her method 1. -/
namespace start1
open Jvm.ClassFile
def u (s : String) : CpInfo := .utf8 (stringToUtf16 s)
/-- a pool by its gaps: so many unusable entries, then the entry; so many at the end -/
def gap : Nat → List CpInfo → List CpInfo
  | 0, r => r
  | n + 1, r => .unusable :: gap n r
def poolList (es : List (Nat × CpInfo)) (last : Nat) : List CpInfo := es.foldr (fun e r => gap e.1 (e.2 :: r)) (gap last [])
def pool (es : List (Nat × CpInfo)) (last : Nat) : Array CpInfo := ⟨poolList es last⟩
def fileOf (pool : Array CpInfo) (this : Nat) (attrs : Array Attribute := #[]) (ms : Array MethodInfo := #[]) (fl : Nat := 33) (sup : Nat := 0) (ifs : Array Nat := #[]) (fds : Array FieldInfo := #[]) : ClassFile where
  minorVersion := 0
  majorVersion := 65
  constantPool := pool
  accessFlags := fl
  thisClass := this
  superClass := sup
  interfaces := ifs
  fields := fds
  methods := ms
  attributes := attrs
def plain (name : String) (sup : Option ClassId) : Class where
  name := name
  kind := .ordinary
  loader := none
  accessFlags := 33
  super := sup
  interfaces := #[]
  cf := none
  fields := #[]
  methods := #[]
  instanceTypes := #[]
  staticTypes := #[]
  resolved := #[]
  callSites := []
  init := .initialized
  statics := none
  mirror := none

def pool0 : Array CpInfo := pool [(5, u "<init>"), (0, u "()V"), (1, .class_ 10), (1, u "java/lang/Object")] 113

def k0m0 : Method := { name := "<init>", desc := "()V", sig := { parameters := [], returnType := none }, accessFlags := 1, code := none }
/-- java/lang/Object -/
def k0 : Class := { plain "java/lang/Object" none with
  accessFlags := 33
  interfaces := #[]
  cf := some (fileOf pool0 8 #[] #[{ accessFlags := 1, nameIndex := 5, descriptorIndex := 6, attributes := #[] }] 33 0 #[] #[])
  fields := #[]
  methods := #[k0m0]
  instanceTypes := #[]
  staticTypes := #[]
  resolved := Array.replicate 124 none
  statics := none }

def pool1 : Array CpInfo := pool [(2, .class_ 4), (1, u "java/lang/Object"), (0, u "<init>"), (0, u "()V"), (0, .methodref 8 9), (0, .class_ 10), (0, .nameAndType 11 12), (0, u "java/lang/Math"), (0, u "min"), (0, u "(II)I"), (0, .long 2), (1, .methodref 16 17), (0, .class_ 18), (0, .nameAndType 19 20), (0, u "com/example/conformed/conformed/agreement/Enumerator"), (0, u "nextButOne"), (0, u "([J[J)Z"), (0, .class_ 22), (0, u "com/example/conformed/conformed/agreement/EnumeratorNextButOnePinLaw"), (2, u "law"), (0, u "(JJJJII)Z")] 5

def k1m0 : Method := { name := "<init>", desc := "()V", sig := { parameters := [], returnType := none }, accessFlags := 2, code := none }
def k1c1 : Code := { maxStack := 4, maxLocals := 20, code := code, exceptionTable := #[], attributes := #[] }
def k1m1 : Method := { name := "law", desc := "(JJJJII)Z", sig := { parameters := [.long, .long, .long, .long, .int, .int], returnType := some .boolean }, accessFlags := 9, code := some k1c1 }
/-- com/example/conformed/conformed/agreement/EnumeratorNextButOnePinLaw -/
def k1 : Class := { plain "com/example/conformed/conformed/agreement/EnumeratorNextButOnePinLaw" (some 0) with
  accessFlags := 49
  interfaces := #[]
  cf := some (fileOf pool1 21 #[] #[{ accessFlags := 2, nameIndex := 5, descriptorIndex := 6, attributes := #[] }, { accessFlags := 9, nameIndex := 25, descriptorIndex := 26, attributes := #[] }] 49 2 #[] #[])
  fields := #[]
  methods := #[k1m0, k1m1]
  instanceTypes := #[]
  staticTypes := #[]
  resolved := Array.replicate 32 none
  statics := none }

def pool2 : Array CpInfo := pool [(1, .class_ 2), (0, u "java/lang/Math"), (1, .class_ 6), (1, u "java/lang/Object"), (0, u "<init>"), (0, u "()V"), (89, .class_ 100), (1, u "java/lang/Math$RandomNumberGeneratorHolder"), (71, u "negativeZeroFloatBits"), (0, u "J"), (2, u "negativeZeroDoubleBits"), (24, u "min"), (43, u "$assertionsDisabled"), (0, u "Z"), (88, u "(II)I"), (2, u "twoToTheDoubleScaleDown"), (0, u "D"), (4, u "twoToTheDoubleScaleUp"), (9, u "E"), (3, u "PI"), (2, u "TAU"), (2, u "DEGREES_TO_RADIANS"), (0, u "RADIANS_TO_DEGREES")] 94

def k2m0 : Method := { name := "<init>", desc := "()V", sig := { parameters := [], returnType := none }, accessFlags := 2, code := none }
def k2c1 : Code := { maxStack := 2, maxLocals := 2, code := jdk_29_method_69_code, exceptionTable := #[], attributes := #[] }
def k2m1 : Method := { name := "min", desc := "(II)I", sig := { parameters := [.int, .int], returnType := some .int }, accessFlags := 9, code := some k2c1 }
/-- java/lang/Math -/
def k2 : Class := { plain "java/lang/Math" (some 0) with
  accessFlags := 49
  interfaces := #[]
  cf := some (fileOf pool2 1 #[.nestMembers #[98]] #[{ accessFlags := 2, nameIndex := 7, descriptorIndex := 8, attributes := #[] }, { accessFlags := 9, nameIndex := 201, descriptorIndex := 335, attributes := #[] }] 49 4 #[] #[{ accessFlags := 25, nameIndex := 354, descriptorIndex := 339, attributes := #[] }, { accessFlags := 25, nameIndex := 358, descriptorIndex := 339, attributes := #[] }, { accessFlags := 25, nameIndex := 361, descriptorIndex := 339, attributes := #[] }, { accessFlags := 26, nameIndex := 364, descriptorIndex := 339, attributes := #[] }, { accessFlags := 26, nameIndex := 365, descriptorIndex := 339, attributes := #[] }, { accessFlags := 26, nameIndex := 172, descriptorIndex := 173, attributes := #[] }, { accessFlags := 26, nameIndex := 176, descriptorIndex := 173, attributes := #[] }, { accessFlags := 8, nameIndex := 344, descriptorIndex := 339, attributes := #[] }, { accessFlags := 8, nameIndex := 338, descriptorIndex := 339, attributes := #[] }, { accessFlags := 4120, nameIndex := 245, descriptorIndex := 246, attributes := #[] }])
  fields := #[{ name := "E", type := .double, accessFlags := 25, slot := 0, constantValue := 0 }, { name := "PI", type := .double, accessFlags := 25, slot := 1, constantValue := 0 }, { name := "TAU", type := .double, accessFlags := 25, slot := 2, constantValue := 0 }, { name := "DEGREES_TO_RADIANS", type := .double, accessFlags := 26, slot := 3, constantValue := 0 }, { name := "RADIANS_TO_DEGREES", type := .double, accessFlags := 26, slot := 4, constantValue := 0 }, { name := "negativeZeroFloatBits", type := .long, accessFlags := 26, slot := 5, constantValue := 0 }, { name := "negativeZeroDoubleBits", type := .long, accessFlags := 26, slot := 6, constantValue := 0 }, { name := "twoToTheDoubleScaleUp", type := .double, accessFlags := 8, slot := 7, constantValue := 0 }, { name := "twoToTheDoubleScaleDown", type := .double, accessFlags := 8, slot := 8, constantValue := 0 }, { name := "$assertionsDisabled", type := .boolean, accessFlags := 4120, slot := 9, constantValue := 0 }]
  methods := #[k2m0, k2m1]
  instanceTypes := #[]
  staticTypes := #[.double, .double, .double, .double, .double, .long, .long, .double, .double, .boolean]
  resolved := Array.replicate 460 none
  statics := none }

def pool3 : Array CpInfo := pool [(2, .class_ 4), (1, u "java/lang/Object"), (0, u "<init>"), (0, u "()V"), (1, .class_ 10), (1, u "com/example/conformed/conformed/agreement/Enumerator"), (27, u "ROMAN"), (0, u "Ljava/util/regex/Pattern;"), (29, u "LETTERS"), (22, u "DIGITS"), (7, .long 2), (11, u "OPENINGS"), (0, u "Ljava/util/List;"), (29, u "ROMAN_DIGITS"), (0, u "[Ljava/lang/String;"), (5, u "ROMAN_VALUES"), (0, u "[I"), (71, u "nextButOne"), (0, u "([J[J)Z")] 23

def k3m0 : Method := { name := "<init>", desc := "()V", sig := { parameters := [], returnType := none }, accessFlags := 2, code := none }
def k3c1 : Code := { maxStack := 6, maxLocals := 13, code := prog_10_method_6_code, exceptionTable := #[], attributes := #[] }
def k3m1 : Method := { name := "nextButOne", desc := "([J[J)Z", sig := { parameters := [(.array .long), (.array .long)], returnType := some .boolean }, accessFlags := 8, code := some k3c1 }
/-- com/example/conformed/conformed/agreement/Enumerator -/
def k3 : Class := { plain "com/example/conformed/conformed/agreement/Enumerator" (some 0) with
  accessFlags := 48
  interfaces := #[]
  cf := some (fileOf pool3 8 #[] #[{ accessFlags := 2, nameIndex := 5, descriptorIndex := 6, attributes := #[] }, { accessFlags := 8, nameIndex := 223, descriptorIndex := 224, attributes := #[] }] 48 2 #[] #[{ accessFlags := 26, nameIndex := 38, descriptorIndex := 39, attributes := #[] }, { accessFlags := 26, nameIndex := 69, descriptorIndex := 39, attributes := #[] }, { accessFlags := 26, nameIndex := 92, descriptorIndex := 39, attributes := #[] }, { accessFlags := 26, nameIndex := 143, descriptorIndex := 144, attributes := #[] }, { accessFlags := 26, nameIndex := 150, descriptorIndex := 151, attributes := #[] }, { accessFlags := 26, nameIndex := 112, descriptorIndex := 113, attributes := #[] }])
  fields := #[{ name := "ROMAN", type := (.object "java/util/regex/Pattern"), accessFlags := 26, slot := 0, constantValue := 0 }, { name := "LETTERS", type := (.object "java/util/regex/Pattern"), accessFlags := 26, slot := 1, constantValue := 0 }, { name := "DIGITS", type := (.object "java/util/regex/Pattern"), accessFlags := 26, slot := 2, constantValue := 0 }, { name := "ROMAN_DIGITS", type := (.array (.object "java/lang/String")), accessFlags := 26, slot := 3, constantValue := 0 }, { name := "ROMAN_VALUES", type := (.array .int), accessFlags := 26, slot := 4, constantValue := 0 }, { name := "OPENINGS", type := (.object "java/util/List"), accessFlags := 26, slot := 5, constantValue := 0 }]
  methods := #[k3m0, k3m1]
  instanceTypes := #[]
  staticTypes := #[(.object "java/util/regex/Pattern"), (.object "java/util/regex/Pattern"), (.object "java/util/regex/Pattern"), (.array (.object "java/lang/String")), (.array .int), (.object "java/util/List")]
  resolved := Array.replicate 248 none
  statics := none }

def pool4 : Array CpInfo := pool [(1, u "java/lang/Cloneable"), (0, .class_ 1), (0, u "java/lang/Object"), (0, .class_ 3)] 3

/-- java/lang/Cloneable -/
def k4 : Class := { plain "java/lang/Cloneable" (some 0) with
  accessFlags := 1537
  interfaces := #[]
  cf := some (fileOf pool4 2 #[] #[] 1537 4 #[] #[])
  fields := #[]
  methods := #[]
  instanceTypes := #[]
  staticTypes := #[]
  resolved := Array.replicate 8 none
  statics := none }

def pool5 : Array CpInfo := pool [(1, u "java/io/Serializable"), (0, .class_ 1), (0, u "java/lang/Object"), (0, .class_ 3)] 3

/-- java/io/Serializable -/
def k5 : Class := { plain "java/io/Serializable" (some 0) with
  accessFlags := 1537
  interfaces := #[]
  cf := some (fileOf pool5 2 #[] #[] 1537 4 #[] #[])
  fields := #[]
  methods := #[]
  instanceTypes := #[]
  staticTypes := #[]
  resolved := Array.replicate 8 none
  statics := none }

/-- the primitive byte -/
def k6 : Class := { plain "byte" none with kind := .primitive 'B', accessFlags := 0x411 }
/-- [B -/
def k7 : Class := { plain "[B" (some 0) with kind := .array 6 .byte, interfaces := #[4, 5], accessFlags := 1041 }

/-- the primitive int -/
def k8 : Class := { plain "int" none with kind := .primitive 'I', accessFlags := 0x411 }
/-- [I -/
def k9 : Class := { plain "[I" (some 0) with kind := .array 8 .int, interfaces := #[4, 5], accessFlags := 1041 }

/-- the primitive long -/
def k10 : Class := { plain "long" none with kind := .primitive 'J', accessFlags := 0x411 }
/-- [J -/
def k11 : Class := { plain "[J" (some 0) with kind := .array 10 .long, interfaces := #[4, 5], accessFlags := 1041 }

def heap : Heap := #[]
def classes : Array Class := #[k0, k1, k2, k3, k4, k5, k6, k7, k8, k9, k10, k11]
def interned : List (Array UInt16 × Addr) := []
def slotsUsed : Nat := 0
def theMethod : MethodId := ⟨1, 1⟩
def args0 : Array Value := #[.long 5, .long 7, .long 1, .long 2, .int 3, .int 3]
def aboutOver (below : List Frame) : State where
  vm := { classes := classes, interned := interned.toArray }
  heap := heap
  slotsUsed := slotsUsed
  threads := #[{ frames := .invoking theMethod args0 :: below }]
def below0 : List Frame := [.native { method := ⟨0, 0⟩, args := #[] }]
def about1 : State := aboutOver below0
def p0 : Program := .bare "" "" ""
def e0 : Env := launch0.env 0 0 0
theorem w_frames : about1.frames = Frame.invoking theMethod args0 :: below0 := rfl
set_option maxRecDepth 65536 in
theorem w_args : argsFit about1.vm theMethod args0 = true := by decide +kernel
set_option maxRecDepth 65536 in
theorem w_heap : heapFits about1 = true := by decide +kernel
set_option maxRecDepth 65536 in
theorem w_runnable : about1.curStatus? = some .runnable := by decide +kernel
set_option maxRecDepth 65536 in
theorem w_alone : about1.alone = true := by decide +kernel
set_option maxRecDepth 65536 in
theorem w_named : about1.methodNamed? x = some theMethod := by decide +kernel
set_option maxRecDepth 65536 in
theorem w_hears : about1.hears theMethod below0 = true := by decide +kernel
set_option maxRecDepth 65536 in
theorem w_ripe : about1.ripe theMethod args0 below0 = true := by decide +kernel
theorem w_running : about1.status = .running := rfl
set_option maxRecDepth 65536 in
theorem w_room : about1.hasRoom e0.platform room_1 = true :=
  launch0.hasRoom_least _ room_1 (by decide +kernel) (by decide +kernel) (by decide +kernel) (by decide +kernel) (by decide +kernel) (by decide +kernel)
theorem allAtoms_all (ts : List Jvm.Cond) (a : Array Jvm.Value) (st : Jvm.State) : (allAtoms ts).before a st = ts.all (fun c => c.before a st) := by
  induction ts with
  | nil => rfl
  | cons c t ih =>
    show (Jvm.Cond.and c (allAtoms t)).before a st = _
    rw [Jvm.Cond.before_and, ih, List.all_cons]
def words1 : List Jvm.Cond := Jvm.Cond.code x code maxLocals ret :: tables_1
/-- a 'code' word, met by the world's own term for the bytes: nothing is compared byte by byte -/
theorem code_word {y : MethodName} {bytes : ByteArray} {mx : Nat} {rt : Option FieldType} {a : Array Value} {s : State} {m : MethodId} {meth : Method} {c : Code} (h1 : s.methodNamed? y = some m) (h2 : s.vm.method? m = some meth) (h3 : meth.code = some c) (h4 : c.code = bytes)
    (h5 : (c.maxLocals == mx && c.exceptionTable.isEmpty && decide (c.maxStack ≤ mostOperands) && decide (meth.sig.returnType = rt) && !meth.locks && decide (parseMethodDescriptor y.desc = some meth.sig)) = true) : (Jvm.Cond.code y bytes mx rt).before a s = true := by
  simp only [Bool.and_eq_true, beq_iff_eq, Bool.not_eq_true', decide_eq_true_eq] at h5
  obtain ⟨⟨⟨⟨⟨g1, g2⟩, g3⟩, g4⟩, g5⟩, g6⟩ := h5
  simp [Cond.before, Cond.holds, Cond.value, h1, h2, h3, h4, g1, g2, g3, g4, g5, g6]
def isCode : Jvm.Cond → Bool
  | .code _ _ _ _ => true
  | _ => false
theorem all_split {L : List Jvm.Cond} {P : Jvm.Cond → Bool} (h1 : L.all (fun c => isCode c || P c) = true) (h2 : ∀ c ∈ L.filter isCode, P c = true) : L.all P = true := by
  refine List.all_eq_true.mpr fun c hc => ?_
  have h := List.all_eq_true.mp h1 c hc
  rcases Bool.eq_false_or_eq_true (isCode c) with hi | hi
  · exact h2 c (List.mem_filter.mpr ⟨hc, hi⟩)
  · simpa [hi] using h
set_option maxRecDepth 65536 in
theorem w_c0 : (Jvm.Cond.code x code maxLocals ret).before args0 about1 = true := code_word (m := ⟨1, 1⟩) (meth := k1m1) (c := k1c1) (by decide +kernel) rfl rfl rfl (by decide +kernel)
set_option maxRecDepth 65536 in
theorem w_c1 : (Jvm.Cond.code ({ cls := "java/lang/Math", name := "min", desc := "(II)I" } : Jvm.MethodName) jdk_29_method_69_code (2 : Nat) (Option.some Jvm.ClassFile.FieldType.int)).before args0 about1 = true := code_word (m := ⟨2, 1⟩) (meth := k2m1) (c := k2c1) (by decide +kernel) rfl rfl rfl (by decide +kernel)
set_option maxRecDepth 65536 in
theorem w_c2 : (Jvm.Cond.code ({ cls := "com/example/conformed/conformed/agreement/Enumerator", name := "nextButOne", desc := "([J[J)Z" } : Jvm.MethodName) prog_10_method_6_code (13 : Nat) (Option.some Jvm.ClassFile.FieldType.boolean)).before args0 about1 = true := code_word (m := ⟨3, 1⟩) (meth := k3m1) (c := k3c1) (by decide +kernel) rfl rfl rfl (by decide +kernel)
def codes1 : List Jvm.Cond := [Jvm.Cond.code x code maxLocals ret, Jvm.Cond.code ({ cls := "java/lang/Math", name := "min", desc := "(II)I" } : Jvm.MethodName) jdk_29_method_69_code (2 : Nat) (Option.some Jvm.ClassFile.FieldType.int), Jvm.Cond.code ({ cls := "com/example/conformed/conformed/agreement/Enumerator", name := "nextButOne", desc := "([J[J)Z" } : Jvm.MethodName) prog_10_method_6_code (13 : Nat) (Option.some Jvm.ClassFile.FieldType.boolean)]
set_option maxRecDepth 65536 in
theorem codes_eq : words1.filter isCode = codes1 := rfl
theorem w_codes : ∀ c ∈ words1.filter isCode, c.before args0 about1 = true := by
  rw [codes_eq]
  intro c hc
  simp only [codes1, List.mem_cons, List.not_mem_nil, or_false] at hc
  rcases hc with rfl | rfl | rfl
  · exact w_c0
  · exact w_c1
  · exact w_c2
set_option maxRecDepth 65536 in
theorem w_t1 : words1.all (fun c => isCode c || c.before args0 about1) = true := by decide +kernel
theorem w_tables : (allAtoms (Jvm.Cond.code x code maxLocals ret :: tables_1)).before args0 about1 = true := by
  rw [allAtoms_all]
  show words1.all (fun c => c.before args0 about1) = true
  refine all_split ?_ w_codes
  rw [w_t1]
set_option maxRecDepth 65536 in
theorem w_case : (Jvm.Cond.and given_1 narrow_1).before args0 about1 = true := by decide +kernel
theorem w_applies : (headSpec (Jvm.Cond.code x code maxLocals ret :: tables_1) room_1).applies x e0.platform about1 = true :=
  (Spec.applies_iff w_frames).mpr ⟨w_running, w_runnable, w_alone, w_named, w_hears, w_ripe, w_room, w_tables⟩
theorem atStart : AtStart classFile x code maxLocals ret World_1 tables_1 room_1 Calls_1 rest_1 Pre_1 launch0 p0 e0 about1 theMethod args0 below0 :=
  ⟨lists_1, trivial, launch0.admits_env _ _ _, launch0.least_env, fairChoices_fair.cas, fairChoices_fair.clock, w_frames, w_args, w_heap, w_applies, trivial, trivial, w_case⟩
end start1
theorem witness_1 : WitnessClaimed_1 := ⟨start1.p0, start1.e0, start1.about1, start1.theMethod, start1.args0, start1.below0, start1.atStart⟩
end Jvm.Pilot.@@N@@
