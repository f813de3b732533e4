import JvmDerived
import JvmDerived.Pilot.@@N@@Statement
import JvmDerived.Pilot.@@N@@Code
set_option linter.unusedVariables false
set_option linter.unusedSimpArgs false
namespace Jvm.RoadKit
open Sem ClassFile Op Lib Jvm.Stand Jvm.Free Jvm.LawKit
section New
variable {p : Program} {l : Launch} {e : Env} {R : Room} {s : State} {m : MethodId} {args : Array Value} {below : List Frame} {meth : Method} {c : Code} {T : State} {locs : List Loc} {cells slots : Nat}
theorem retI (X : Stand p l e R s m args below meth c T locs cells slots) (hx : p.tables.exec = Jvm.exec) {pc : Nat} {Ls : Array Slot} {z : Int32} {rest : List Value} (hret : meth.sig.returnType = some .int) (hd : decode c.code pc = .ok (.ireturn, 1)) {fs : List Frame}
    (hl : ∀ (f : JFrame) (acts : List Action), f.method = m → f.locked = none → f.entered = [] → (doReturn e (T.setTop f) acts (some (.int z))).1 = T.setFrames fs) : Steps p.tables e below (T.setTop (mkF m pc Ls (.int z :: rest))) (T.setFrames fs) := by
  have hm' : T.vm.method? m = some meth := X.method'
  have hn : narrow .int (.int z) = .int z := rfl
  show Steps p.tables e below (T.setTop { method := m, pc := pc, locals := Ls, stack := _ :: rest, locked := none }) _
  jvm_step X.here [X.here.top, hx, hd, hm', hret, hn]
  first | (intro acts; rw [hl _ acts rfl rfl rfl]) | rw [hl _ _ rfl rfl rfl]
  exact Steps.refl _
end New
end Jvm.RoadKit
namespace Jvm.Pilot.@@N@@
open Jvm Jvm.ClassFile Sem Op Lib Jvm.Free Jvm.Stand Jvm.LawKit Jvm.RoadKit Bundle Jvm.Pilot.@@N@@.Jvm.D
theorem own_enum {C n d : String} {k : Int32} {args : Array Value} {s : State} (h1 : (Jvm.Cond.exactly (.static C n d) C).value args s none s [] = some true)
    (h2 : (Jvm.Cond.eq (.field (.static C n d) "java/lang/Enum" "ordinal" "I") (.int k)).value args s none s [] = some true) (wi : (Jvm.Cond.initialized C).before args s = true) (wl : (Jvm.Cond.laysStatic C n d).before args s = true) :
    ∃ a, Sta s s.heap C n d (.ref a) ∧ Exa s s.heap a C ∧ s.fieldOf? a "java/lang/Enum" "ordinal" "I" = some (.int k) := by
  obtain ⟨x, ex⟩ := exa_v h1
  refine ⟨x, Sta.start ex (Or.inr ⟨wi, wl⟩), Exa.start ex h1, ?_⟩
  obtain ⟨u, v, eu, ev, -, kv⟩ := cmp_v (Or.inl h2)
  rw [Term.int_eval] at ev
  cases ev
  obtain ⟨z, rfl⟩ := kv
  rw [← fld_at ex (args := args) (first := s) (o := none) (idx := []), eu]
  simpa [Jvm.Cond.value, eu, Term.int_eval] using h2
theorem own_ne {s : State} {a b : Addr} {i j : Int32} (h1 : s.fieldOf? a "java/lang/Enum" "ordinal" "I" = some (.int i)) (h2 : s.fieldOf? b "java/lang/Enum" "ordinal" "I" = some (.int j)) (h : i ≠ j) : a ≠ b := fun e => by
  subst e; rw [h1] at h2; exact h (by injection h2 with q; injection q)
def own_isNum (a i r : Addr) : Int32 := if a = i then 1 else if a = r then 1 else 0
theorem d1_0 : decode prog_99_method_7_code 0 = .ok (.aload_n 0, 1) := by decide +kernel
theorem d1_1 : decode prog_99_method_7_code 1 = .ok (.getstatic 7, 3) := by decide +kernel
theorem d1_4 : decode prog_99_method_7_code 4 = .ok (.if_acmp .eq 10, 3) := by decide +kernel
theorem d1_14 : decode prog_99_method_7_code 14 = .ok (.iconst 1, 1) := by decide +kernel
theorem d1_15 : decode prog_99_method_7_code 15 = .ok (.goto 4, 3) := by decide +kernel
theorem d1_19 : decode prog_99_method_7_code 19 = .ok (.ireturn, 1) := by decide +kernel
theorem d1_7 : decode prog_99_method_7_code 7 = .ok (.aload_n 0, 1) := by decide +kernel
theorem d1_8 : decode prog_99_method_7_code 8 = .ok (.getstatic 10, 3) := by decide +kernel
theorem d1_11 : decode prog_99_method_7_code 11 = .ok (.if_acmp .ne 7, 3) := by decide +kernel
theorem d1_18 : decode prog_99_method_7_code 18 = .ok (.iconst 0, 1) := by decide +kernel
theorem pn_c0 : plainName "com/example/arthurs_seat/arthursseat/language/LanguageType$Data" = true := by first | (simp [plainName, overriddenIn]; done) | decide +kernel
theorem ef_rm1 (m : MethodId) (x0 : Addr) : entryFrame m #[(.ref x0)] 1 = mkF m 0 #[.val (.ref x0)] [] := by first | (simp [entryFrame, mkF, argsToLocals, Value.category]; done) | rfl
def Q_rm1 (Z : State) (a1 aI aR : Addr) (h0 : Heap) (n0 : Nat) (v : Option Value) (h : Heap) (L : List Loc) : Prop := v = some (.int (own_isNum a1 aI aR)) ∧ Fr n0 L ∧ h = h0
set_option maxRecDepth 65536 in
set_option maxHeartbeats 40000000 in
theorem rm1 (l : Launch) (Z : State) (a0 : Array Value) (hw : ∀ d ∈ tables_1, d.before a0 Z = true) (ws : List Jvm.Cond) (a1 aINTEGER aREAL : Addr) (h0 : Heap) (n0 : Nat) (Z0 : n0 ≤ h0.size) (SINTEGER : Sta Z h0 "com/example/arthurs_seat/arthursseat/language/LanguageType$Data" "INTEGER" "Lcom/example/arthurs_seat/arthursseat/language/LanguageType$Data;" (.ref aINTEGER)) (SREAL : Sta Z h0 "com/example/arthurs_seat/arthursseat/language/LanguageType$Data" "REAL" "Lcom/example/arthurs_seat/arthursseat/language/LanguageType$Data;" (.ref aREAL)) :
    MetFree l (⟨"com/example/arthurs_seat/arthursseat/language/LanguageType$Data", "isNumber", "()Z"⟩ : MethodName) (head1 (Jvm.Cond.code (⟨"com/example/arthurs_seat/arthursseat/language/LanguageType$Data", "isNumber", "()Z"⟩ : MethodName) prog_99_method_7_code 1 (some .boolean) :: ws) ({ frames := 0, cells := 0, slots := 0, locals := 0 } : Room)) (fun a U => a = #[(.ref a1)] ∧ Z.Warmed39 U.vm ∧ U.heap = h0) (fun _ _ _ _ _ => True) (fun _ U o U' => ∃ v L, o = .returned v ∧ Q_rm1 Z a1 aINTEGER aREAL h0 n0 v U'.heap L ∧ FrameEnd U o U' L ({ frames := 0, cells := 0, slots := 0, locals := 0 } : Room).cells ({ frames := 0, cells := 0, slots := 0, locals := 0 } : Room).slots) := by
  refine MetFree.of_bodySF (plainFor_of_name pn_c0) hisR ?_
  intro p e s m args below meth c s₁ Bd hml0 hP hK
  obtain ⟨rfl, hZ, hh⟩ := hP
  have hx := Bd.exec
  have hby := Bd.bytes
  have hml : c.maxLocals = 1 := hml0
  have hown : s.vm.findClass "com/example/arthurs_seat/arthursseat/language/LanguageType$Data" = some m.cls := findClass_of_methodNamed Bd.named
  have hnm := (name_of_methodNamed Bd.named Bd.method).1
  have X0 : Stand p l e ({ frames := 0, cells := 0, slots := 0, locals := 0 } : Room) s m #[(.ref a1)] below meth c s₁ [] 0 0 := Stand.of_body Bd
  have e0 : s₁.heap = h0 := by rw [← hh, Bd.state]; rfl
  have N0 := Fr.nil n0
  have pre0 : ∀ t, Steps p.tables e below (s₁.setTop (mkF m 0 #[.val (.ref a1)] [])) t → Steps p.tables e below (s₁.setTop (entryFrame m #[(.ref a1)] 1)) t := fun t k => castTop (ef_rm1 m a1) k
  obtain ⟨T1, X1, e1, st1⟩ := getS2 X0 hx hZ hown (host := "") (Or.inl (hw _ (List.mem_of_getElem? (i := 9) rfl))) Via.refl e0 SINTEGER (g := (mkF m 1 #[.val (.ref a1)] [(.ref a1)])) rfl (hb hby d1_1)
  have k2 : ∀ t, Steps p.tables e below (T1.setTop (mkF m 4 #[.val (.ref a1)] [(.ref aINTEGER), (.ref a1)])) t → Steps p.tables e below (s₁.setTop (entryFrame m #[(.ref a1)] 1)) t := fun t kt => pre0 t (by
      show Steps p.tables e below (s₁.setTop (mkF m 0 #[.val (.ref a1)] [])) _
      refine XS.aloadN X0.here hx rfl (hb hby d1_0) rfl rfl ?_
      show Steps p.tables e below (s₁.setTop (mkF m 1 #[.val (.ref a1)] [(.ref a1)])) _
      refine st1 _ ?_
      exact kt)
  by_cases hc4_3 : a1 = aINTEGER
  · have k4 : ∀ t, Steps p.tables e below (T1.setTop (mkF m 19 #[.val (.ref a1)] [(.int (1 : Int32))])) t → Steps p.tables e below (s₁.setTop (entryFrame m #[(.ref a1)] 1)) t := fun t kt => k2 t (by
        show Steps p.tables e below (T1.setTop (mkF m 4 #[.val (.ref a1)] [(.ref aINTEGER), (.ref a1)])) _
        refine Jvm.RoadKit.acmp (g := (mkF m 4 #[.val (.ref a1)] [(.ref aINTEGER), (.ref a1)])) X1 hx rfl rfl rfl (pc0 := 4) (pc' := 14) (same := true) rfl (hb hby d1_4) rfl (decide_eq_true (congrArg Value.ref hc4_3)) (by decide) (by decide) ?_
        show Steps p.tables e below (T1.setTop (mkF m 14 #[.val (.ref a1)] [])) _
        refine XS.iconst X1.here hx rfl (hb hby d1_14) ?_
        show Steps p.tables e below (T1.setTop (mkF m 15 #[.val (.ref a1)] [(.int (1 : Int32))])) _
        refine XS.goto X1.here hx rfl (pc0 := 15) (pc' := 19) rfl (hb hby d1_15) (by decide) (by decide) ?_
        exact kt)
    obtain ⟨fs, hr, hrun, hended, hW, hsame⟩ := X1.leave (v := some (.int (1 : Int32))) (fun h => by rw [Bd.returns] at h; cases h)
    refine ⟨_, _, k4 _ ?_, hrun, hended, _, _, rfl, ?_, ⟨_, rfl⟩, hW, hsame.mono (by decide) (by decide)⟩
    · show Steps p.tables e below (T1.setTop (mkF m 19 #[.val (.ref a1)] [(.int (1 : Int32))])) _
      exact retN X1 hx (t := .boolean) Bd.returns (by simp) (hb hby d1_19) hr
    · show Q_rm1 Z a1 aINTEGER aREAL h0 n0 _ T1.heap _
      rw [e1]
      exact ⟨by simp [own_isNum, hc4_3], N0, rfl⟩
  · obtain ⟨T5, X5, e5, st5⟩ := getS2 X1 hx hZ hown (host := "") (Or.inl (hw _ (List.mem_of_getElem? (i := 11) rfl))) Via.refl e1 SREAL (g := (mkF m 8 #[.val (.ref a1)] [(.ref a1)])) rfl (hb hby d1_8)
    have k6 : ∀ t, Steps p.tables e below (T5.setTop (mkF m 11 #[.val (.ref a1)] [(.ref aREAL), (.ref a1)])) t → Steps p.tables e below (s₁.setTop (entryFrame m #[(.ref a1)] 1)) t := fun t kt => k2 t (by
        show Steps p.tables e below (T1.setTop (mkF m 4 #[.val (.ref a1)] [(.ref aINTEGER), (.ref a1)])) _
        refine Jvm.RoadKit.acmp (g := (mkF m 4 #[.val (.ref a1)] [(.ref aINTEGER), (.ref a1)])) X1 hx rfl rfl rfl (pc0 := 4) (pc' := 7) (same := false) rfl (hb hby d1_4) rfl (decide_eq_false fun q => hc4_3 (Value.ref.inj q)) (by decide) (by decide) ?_
        show Steps p.tables e below (T1.setTop (mkF m 7 #[.val (.ref a1)] [])) _
        refine XS.aloadN X1.here hx rfl (hb hby d1_7) rfl rfl ?_
        show Steps p.tables e below (T1.setTop (mkF m 8 #[.val (.ref a1)] [(.ref a1)])) _
        refine st5 _ ?_
        exact kt)
    by_cases hc11_7 : a1 = aREAL
    · have k8 : ∀ t, Steps p.tables e below (T5.setTop (mkF m 19 #[.val (.ref a1)] [(.int (1 : Int32))])) t → Steps p.tables e below (s₁.setTop (entryFrame m #[(.ref a1)] 1)) t := fun t kt => k6 t (by
          show Steps p.tables e below (T5.setTop (mkF m 11 #[.val (.ref a1)] [(.ref aREAL), (.ref a1)])) _
          refine Jvm.RoadKit.acmp (g := (mkF m 11 #[.val (.ref a1)] [(.ref aREAL), (.ref a1)])) X5 hx rfl rfl rfl (pc0 := 11) (pc' := 14) (same := true) rfl (hb hby d1_11) rfl (decide_eq_true (congrArg Value.ref hc11_7)) (by decide) (by decide) ?_
          show Steps p.tables e below (T5.setTop (mkF m 14 #[.val (.ref a1)] [])) _
          refine XS.iconst X5.here hx rfl (hb hby d1_14) ?_
          show Steps p.tables e below (T5.setTop (mkF m 15 #[.val (.ref a1)] [(.int (1 : Int32))])) _
          refine XS.goto X5.here hx rfl (pc0 := 15) (pc' := 19) rfl (hb hby d1_15) (by decide) (by decide) ?_
          exact kt)
      obtain ⟨fs, hr, hrun, hended, hW, hsame⟩ := X5.leave (v := some (.int (1 : Int32))) (fun h => by rw [Bd.returns] at h; cases h)
      refine ⟨_, _, k8 _ ?_, hrun, hended, _, _, rfl, ?_, ⟨_, rfl⟩, hW, hsame.mono (by decide) (by decide)⟩
      · show Steps p.tables e below (T5.setTop (mkF m 19 #[.val (.ref a1)] [(.int (1 : Int32))])) _
        exact retN X5 hx (t := .boolean) Bd.returns (by simp) (hb hby d1_19) hr
      · show Q_rm1 Z a1 aINTEGER aREAL h0 n0 _ T5.heap _
        rw [e5]
        exact ⟨by simp [own_isNum, hc4_3, hc11_7], N0, rfl⟩
    · have k9 : ∀ t, Steps p.tables e below (T5.setTop (mkF m 19 #[.val (.ref a1)] [(.int (0 : Int32))])) t → Steps p.tables e below (s₁.setTop (entryFrame m #[(.ref a1)] 1)) t := fun t kt => k6 t (by
          show Steps p.tables e below (T5.setTop (mkF m 11 #[.val (.ref a1)] [(.ref aREAL), (.ref a1)])) _
          refine Jvm.RoadKit.acmp (g := (mkF m 11 #[.val (.ref a1)] [(.ref aREAL), (.ref a1)])) X5 hx rfl rfl rfl (pc0 := 11) (pc' := 18) (same := false) rfl (hb hby d1_11) rfl (decide_eq_false fun q => hc11_7 (Value.ref.inj q)) (by decide) (by decide) ?_
          show Steps p.tables e below (T5.setTop (mkF m 18 #[.val (.ref a1)] [])) _
          refine XS.iconst X5.here hx rfl (hb hby d1_18) ?_
          exact kt)
      obtain ⟨fs, hr, hrun, hended, hW, hsame⟩ := X5.leave (v := some (.int (0 : Int32))) (fun h => by rw [Bd.returns] at h; cases h)
      refine ⟨_, _, k9 _ ?_, hrun, hended, _, _, rfl, ?_, ⟨_, rfl⟩, hW, hsame.mono (by decide) (by decide)⟩
      · show Steps p.tables e below (T5.setTop (mkF m 19 #[.val (.ref a1)] [(.int (0 : Int32))])) _
        exact retN X5 hx (t := .boolean) Bd.returns (by simp) (hb hby d1_19) hr
      · show Q_rm1 Z a1 aINTEGER aREAL h0 n0 _ T5.heap _
        rw [e5]
        exact ⟨by simp [own_isNum, hc4_3, hc11_7], N0, rfl⟩
theorem pd_0 : parseMethodDescriptor "()Z" = some ⟨[], some .boolean⟩ := by decide +kernel
theorem pn_c1 : plainName "com/example/arthurs_seat/arthursseat/language/DataIsNumberPinLaw" = true := by first | (simp [plainName, overriddenIn]; done) | decide +kernel
theorem ef_rm0 (m : MethodId) (x0 : Int32) : entryFrame m #[(.int x0)] maxLocals = mkF m 0 #[.val (.int x0), .unset, .unset, .unset] [] := by first | (simp [entryFrame, mkF, argsToLocals, Value.category, maxLocals]; done) | rfl
def Q_rm0 (Z : State) (p1 : Int32) (h0 : Heap) (n0 : Nat) (v : Option Value) (h : Heap) (L : List Loc) : Prop := v = some (.int 1) ∧ Fr n0 L
set_option maxRecDepth 65536 in
set_option maxHeartbeats 40000000 in
theorem rm0 (l : Launch) (Z : State) (a0 : Array Value) (hw : ∀ d ∈ tables_1, d.before a0 Z = true) (ws : List Jvm.Cond) (p1 : Int32) (aBOOLEAN aINTEGER aREAL aSTRING aTUPLE : Addr) (h0 : Heap) (n0 : Nat) (Z0 : n0 ≤ h0.size) (SBOOLEAN : Sta Z h0 "com/example/arthurs_seat/arthursseat/language/LanguageType$Data" "BOOLEAN" "Lcom/example/arthurs_seat/arthursseat/language/LanguageType$Data;" (.ref aBOOLEAN)) (SINTEGER : Sta Z h0 "com/example/arthurs_seat/arthursseat/language/LanguageType$Data" "INTEGER" "Lcom/example/arthurs_seat/arthursseat/language/LanguageType$Data;" (.ref aINTEGER)) (SREAL : Sta Z h0 "com/example/arthurs_seat/arthursseat/language/LanguageType$Data" "REAL" "Lcom/example/arthurs_seat/arthursseat/language/LanguageType$Data;" (.ref aREAL)) (SSTRING : Sta Z h0 "com/example/arthurs_seat/arthursseat/language/LanguageType$Data" "STRING" "Lcom/example/arthurs_seat/arthursseat/language/LanguageType$Data;" (.ref aSTRING)) (STUPLE : Sta Z h0 "com/example/arthurs_seat/arthursseat/language/LanguageType$Data" "TUPLE" "Lcom/example/arthurs_seat/arthursseat/language/LanguageType$Data;" (.ref aTUPLE)) (EBOOLEAN : Exa Z h0 aBOOLEAN "com/example/arthurs_seat/arthursseat/language/LanguageType$Data") (EINTEGER : Exa Z h0 aINTEGER "com/example/arthurs_seat/arthursseat/language/LanguageType$Data") (EREAL : Exa Z h0 aREAL "com/example/arthurs_seat/arthursseat/language/LanguageType$Data") (ESTRING : Exa Z h0 aSTRING "com/example/arthurs_seat/arthursseat/language/LanguageType$Data") (ETUPLE : Exa Z h0 aTUPLE "com/example/arthurs_seat/arthursseat/language/LanguageType$Data") (nBOOLEAN_INTEGER : aBOOLEAN ≠ aINTEGER) (nBOOLEAN_REAL : aBOOLEAN ≠ aREAL) (nSTRING_INTEGER : aSTRING ≠ aINTEGER) (nSTRING_REAL : aSTRING ≠ aREAL) (nTUPLE_INTEGER : aTUPLE ≠ aINTEGER) (nTUPLE_REAL : aTUPLE ≠ aREAL) :
    MetFree l x (head1 (Jvm.Cond.code x code maxLocals ret :: ws) room_1) (fun a U => a = #[(.int p1)] ∧ Z.Warmed39 U.vm ∧ U.heap = h0) (fun _ _ _ _ _ => True) (fun _ U o U' => ∃ v L, o = .returned v ∧ Q_rm0 Z p1 h0 n0 v U'.heap L ∧ FrameEnd U o U' L room_1.cells room_1.slots) := by
  refine MetFree.of_bodySF (plainFor_of_name pn_c1) hisR ?_
  intro p e s m args below meth c s₁ Bd hml0 hP hK
  obtain ⟨rfl, hZ, hh⟩ := hP
  have hx := Bd.exec
  have hby := Bd.bytes
  have hml : c.maxLocals = 4 := hml0
  have hown : s.vm.findClass "com/example/arthurs_seat/arthursseat/language/DataIsNumberPinLaw" = some m.cls := findClass_of_methodNamed Bd.named
  have hnm := (name_of_methodNamed Bd.named Bd.method).1
  have X0 : Stand p l e room_1 s m #[(.int p1)] below meth c s₁ [] 0 0 := Stand.of_body Bd
  have e0 : s₁.heap = h0 := by rw [← hh, Bd.state]; rfl
  have N0 := Fr.nil n0
  have pre0 : ∀ t, Steps p.tables e below (s₁.setTop (mkF m 0 #[.val (.int p1), .unset, .unset, .unset] [])) t → Steps p.tables e below (s₁.setTop (entryFrame m #[(.int p1)] maxLocals)) t := fun t k => castTop (ef_rm0 m p1) k
  have k10 : ∀ t, Steps p.tables e below (s₁.setTop (mkF m 8 #[.val (.int p1), .val (.int ((p1 &&& (2147483647 : Int32)) % (5 : Int32))), .unset, .unset] [(.int ((p1 &&& (2147483647 : Int32)) % (5 : Int32)))])) t → Steps p.tables e below (s₁.setTop (entryFrame m #[(.int p1)] maxLocals)) t := fun t kt => pre0 t (by
      let A0 : Array Slot := #[.val (.int p1), .unset, .unset, .unset]
      show Steps p.tables e below (s₁.setTop (mkF m 0 A0 [])) _
      refine XS.iloadN X0.here hx rfl (hb hby at_0) rfl ?_
      show Steps p.tables e below (s₁.setTop (mkF m 1 A0 [(.int p1)])) _
      refine X0.ldcInt hx hown (mvT hZ (hw _ (List.mem_of_getElem? (i := 0) rfl))) (g := (mkF m 1 A0 [(.int p1)])) rfl (hb hby at_1) _ ?_
      show Steps p.tables e below (s₁.setTop (mkF m 3 A0 [(.int (2147483647 : Int32)), (.int p1)])) _
      refine XS.iand X0.here hx rfl (hb hby at_3) rfl ?_
      show Steps p.tables e below (s₁.setTop (mkF m 4 A0 [(.int (p1 &&& (2147483647 : Int32)))])) _
      refine XS.iconst X0.here hx rfl (hb hby at_4) ?_
      show Steps p.tables e below (s₁.setTop (mkF m 5 A0 [(.int (5 : Int32)), (.int (p1 &&& (2147483647 : Int32)))])) _
      refine iremM (g := (mkF m 5 A0 [(.int (5 : Int32)), (.int (p1 &&& (2147483647 : Int32)))])) X0 hx rfl (hb hby at_5) rfl (by decide) ?_
      show Steps p.tables e below (s₁.setTop (mkF m 6 A0 [(.int ((p1 &&& (2147483647 : Int32)) % (5 : Int32)))])) _
      let A1 : Array Slot := #[.val (.int p1), .val (.int ((p1 &&& (2147483647 : Int32)) % (5 : Int32))), .unset, .unset]
      refine XS.istoreN X0.here hx rfl (hb hby at_6) rfl (l' := A1) rfl ?_
      show Steps p.tables e below (s₁.setTop (mkF m 7 A1 [])) _
      refine XS.iloadN X0.here hx rfl (hb hby at_7) rfl ?_
      exact kt)
  by_cases hc8_11 : ((p1 &&& (2147483647 : Int32)) % (5 : Int32)) = (0 : Int32)
  · obtain ⟨T12, X12, e12, st12⟩ := getS2 X0 hx hZ hown (host := "") (Or.inl (hw _ (List.mem_of_getElem? (i := 1) rfl))) Via.refl e0 SBOOLEAN (g := (mkF m 11 #[.val (.int p1), .val (.int ((p1 &&& (2147483647 : Int32)) % (5 : Int32))), .unset, .unset] [])) rfl (hb hby at_11)
    obtain ⟨cq13, kq13, q13a, q13b, q13c⟩ := isOf hZ e12 EBOOLEAN
    obtain ⟨_, _, ⟨T13, L13, k13, n13⟩, -, X13, ⟨Lc13, hQ13, l13, y13, z13⟩, st13⟩ := X12.virtualBack hx (y := (⟨"com/example/arthurs_seat/arthursseat/language/LanguageType$Data", "isNumber", "()Z"⟩ : MethodName)) (z := (⟨"com/example/arthurs_seat/arthursseat/language/LanguageType$Data", "isNumber", "()Z"⟩ : MethodName)) hown (mvT hZ (hw _ (List.mem_of_getElem? (i := 4) rfl))) (mvT hZ (hw _ (List.mem_of_getElem? (i := 5) rfl))) (notFace_of_selects (args := #[]) (mvT hZ (hw _ (List.mem_of_getElem? (i := 7) rfl)))) (mvT hZ (hw _ (List.mem_of_getElem? (i := 7) rfl))) (mvT hZ (hw _ (List.mem_of_getElem? (i := 6) rfl))) (by decide) (backOf (W := 0) (rm1 l Z a0 hw [] aBOOLEAN aINTEGER aREAL h0 n0 Z0 SINTEGER SREAL) hZ (hw _ (List.mem_of_getElem? (i := 8) rfl)) (hw _ (List.mem_of_getElem? (i := 2) rfl)) (by decide) (by decide)) q13a q13c (g := (mkF m 69 #[.val (.int p1), .val (.int ((p1 &&& (2147483647 : Int32)) % (5 : Int32))), .val (.ref aBOOLEAN), .val (.int (0 : Int32))] [(.ref aBOOLEAN)])) rfl (by rw [hml]; rfl) (Steps.refl _) (argsL := []) (rest := []) (lenOf pd_0 rfl) rfl (by show 2 * 0 + _ ≤ _; exact Nat.le_of_eq rfl) (hb hby at_69) (fun _ _ => ⟨rfl, e12, (by decide : 0 + 0 ≤ _), (by decide : 0 + 0 ≤ _)⟩)
    dsimp only [Pt.U, Pt.locs, Pt.cells, Pt.slots] at X13 l13 y13 z13 st13 hQ13
    subst l13 y13 z13
    obtain ⟨rfl, N13q, e13⟩ := hQ13
    have N13 := Fr.app N0 N13q
    have k14 : ∀ t, Steps p.tables e below (T13.setTop (mkF m 81 #[.val (.int p1), .val (.int ((p1 &&& (2147483647 : Int32)) % (5 : Int32))), .val (.ref aBOOLEAN), .val (.int (0 : Int32))] [(.int (1 : Int32))])) t → Steps p.tables e below (s₁.setTop (entryFrame m #[(.int p1)] maxLocals)) t := fun t kt => k10 t (by
        let A0 : Array Slot := #[.val (.int p1), .val (.int ((p1 &&& (2147483647 : Int32)) % (5 : Int32))), .unset, .unset]
        show Steps p.tables e below (s₁.setTop (mkF m 8 A0 [(.int ((p1 &&& (2147483647 : Int32)) % (5 : Int32)))])) _
        refine XS.ifNo X0.here hx rfl (hb hby at_8) rfl ((if0 _ _).trans (teq hc8_11).2) ?_
        show Steps p.tables e below (s₁.setTop (mkF m 11 A0 [])) _
        refine st12 _ ?_
        show Steps p.tables e below (T12.setTop (mkF m 14 A0 [(.ref aBOOLEAN)])) _
        let A1 : Array Slot := #[.val (.int p1), .val (.int ((p1 &&& (2147483647 : Int32)) % (5 : Int32))), .val (.ref aBOOLEAN), .unset]
        refine XS.astoreN X12.here hx rfl (hb hby at_14) rfl rfl (l' := A1) rfl ?_
        show Steps p.tables e below (T12.setTop (mkF m 15 A1 [])) _
        refine XS.iconst X12.here hx rfl (hb hby at_15) ?_
        show Steps p.tables e below (T12.setTop (mkF m 16 A1 [(.int (0 : Int32))])) _
        let A2 : Array Slot := #[.val (.int p1), .val (.int ((p1 &&& (2147483647 : Int32)) % (5 : Int32))), .val (.ref aBOOLEAN), .val (.int (0 : Int32))]
        refine XS.istoreN X12.here hx rfl (hb hby at_16) rfl (l' := A2) rfl ?_
        show Steps p.tables e below (T12.setTop (mkF m 17 A2 [])) _
        refine XS.goto X12.here hx rfl (pc0 := 17) (pc' := 68) rfl (hb hby at_17) (by decide) (by decide) ?_
        show Steps p.tables e below (T12.setTop (mkF m 68 A2 [])) _
        refine XS.aloadN X12.here hx rfl (hb hby at_68) rfl rfl ?_
        show Steps p.tables e below (T12.setTop (mkF m 69 A2 [(.ref aBOOLEAN)])) _
        refine st13.trans ?_
        show Steps p.tables e below (T13.setTop (mkF m 72 A2 [(.int (own_isNum aBOOLEAN aINTEGER aREAL))])) _
        refine XS.iloadN X13.here hx rfl (hb hby at_72) rfl ?_
        show Steps p.tables e below (T13.setTop (mkF m 73 A2 [(.int (0 : Int32)), (.int (own_isNum aBOOLEAN aINTEGER aREAL))])) _
        refine XS.icmpNo X13.here hx rfl (hb hby at_73) rfl (teq (by simp [own_isNum, nBOOLEAN_INTEGER, nBOOLEAN_REAL, nSTRING_INTEGER, nSTRING_REAL, nTUPLE_INTEGER, nTUPLE_REAL] : (own_isNum aBOOLEAN aINTEGER aREAL) = (0 : Int32))).2 ?_
        show Steps p.tables e below (T13.setTop (mkF m 76 A2 [])) _
        refine XS.iconst X13.here hx rfl (hb hby at_76) ?_
        show Steps p.tables e below (T13.setTop (mkF m 77 A2 [(.int (1 : Int32))])) _
        refine XS.goto X13.here hx rfl (pc0 := 77) (pc' := 81) rfl (hb hby at_77) (by decide) (by decide) ?_
        exact kt)
    obtain ⟨fs, hr, hrun, hended, hW, hsame⟩ := X13.leave (v := some (.int (1 : Int32))) (fun h => by rw [Bd.returns] at h; cases h)
    refine ⟨_, _, k14 _ ?_, hrun, hended, _, _, rfl, ?_, ⟨_, rfl⟩, hW, hsame.mono (by decide) (by decide)⟩
    · show Steps p.tables e below (T13.setTop (mkF m 81 #[.val (.int p1), .val (.int ((p1 &&& (2147483647 : Int32)) % (5 : Int32))), .val (.ref aBOOLEAN), .val (.int (0 : Int32))] [(.int (1 : Int32))])) _
      exact retN X13 hx (t := .boolean) Bd.returns (by simp) (hb hby at_81) hr
    · show Q_rm0 Z p1 h0 n0 _ T13.heap _
      rw [e13]
      exact ⟨rfl, N13⟩
  · have k15 : ∀ t, Steps p.tables e below (s₁.setTop (mkF m 22 #[.val (.int p1), .val (.int ((p1 &&& (2147483647 : Int32)) % (5 : Int32))), .unset, .unset] [(.int (1 : Int32)), (.int ((p1 &&& (2147483647 : Int32)) % (5 : Int32)))])) t → Steps p.tables e below (s₁.setTop (entryFrame m #[(.int p1)] maxLocals)) t := fun t kt => k10 t (by
        let A0 : Array Slot := #[.val (.int p1), .val (.int ((p1 &&& (2147483647 : Int32)) % (5 : Int32))), .unset, .unset]
        show Steps p.tables e below (s₁.setTop (mkF m 8 A0 [(.int ((p1 &&& (2147483647 : Int32)) % (5 : Int32)))])) _
        refine XS.ifYes X0.here hx rfl (pc0 := 8) (pc' := 20) rfl (hb hby at_8) rfl ((if0 _ _).trans (feq hc8_11).2) (by decide) (by decide) ?_
        show Steps p.tables e below (s₁.setTop (mkF m 20 A0 [])) _
        refine XS.iloadN X0.here hx rfl (hb hby at_20) rfl ?_
        show Steps p.tables e below (s₁.setTop (mkF m 21 A0 [(.int ((p1 &&& (2147483647 : Int32)) % (5 : Int32)))])) _
        refine XS.iconst X0.here hx rfl (hb hby at_21) ?_
        exact kt)
    by_cases hc22_16 : ((p1 &&& (2147483647 : Int32)) % (5 : Int32)) = (1 : Int32)
    · obtain ⟨T17, X17, e17, st17⟩ := getS2 X0 hx hZ hown (host := "") (Or.inl (hw _ (List.mem_of_getElem? (i := 15) rfl))) Via.refl e0 SINTEGER (g := (mkF m 25 #[.val (.int p1), .val (.int ((p1 &&& (2147483647 : Int32)) % (5 : Int32))), .unset, .unset] [])) rfl (hb hby at_25)
      obtain ⟨cq18, kq18, q18a, q18b, q18c⟩ := isOf hZ e17 EINTEGER
      obtain ⟨_, _, ⟨T18, L18, k18, n18⟩, -, X18, ⟨Lc18, hQ18, l18, y18, z18⟩, st18⟩ := X17.virtualBack hx (y := (⟨"com/example/arthurs_seat/arthursseat/language/LanguageType$Data", "isNumber", "()Z"⟩ : MethodName)) (z := (⟨"com/example/arthurs_seat/arthursseat/language/LanguageType$Data", "isNumber", "()Z"⟩ : MethodName)) hown (mvT hZ (hw _ (List.mem_of_getElem? (i := 4) rfl))) (mvT hZ (hw _ (List.mem_of_getElem? (i := 5) rfl))) (notFace_of_selects (args := #[]) (mvT hZ (hw _ (List.mem_of_getElem? (i := 7) rfl)))) (mvT hZ (hw _ (List.mem_of_getElem? (i := 7) rfl))) (mvT hZ (hw _ (List.mem_of_getElem? (i := 6) rfl))) (by decide) (backOf (W := 0) (rm1 l Z a0 hw [] aINTEGER aINTEGER aREAL h0 n0 Z0 SINTEGER SREAL) hZ (hw _ (List.mem_of_getElem? (i := 8) rfl)) (hw _ (List.mem_of_getElem? (i := 2) rfl)) (by decide) (by decide)) q18a q18c (g := (mkF m 69 #[.val (.int p1), .val (.int ((p1 &&& (2147483647 : Int32)) % (5 : Int32))), .val (.ref aINTEGER), .val (.int (1 : Int32))] [(.ref aINTEGER)])) rfl (by rw [hml]; rfl) (Steps.refl _) (argsL := []) (rest := []) (lenOf pd_0 rfl) rfl (by show 2 * 0 + _ ≤ _; exact Nat.le_of_eq rfl) (hb hby at_69) (fun _ _ => ⟨rfl, e17, (by decide : 0 + 0 ≤ _), (by decide : 0 + 0 ≤ _)⟩)
      dsimp only [Pt.U, Pt.locs, Pt.cells, Pt.slots] at X18 l18 y18 z18 st18 hQ18
      subst l18 y18 z18
      obtain ⟨rfl, N18q, e18⟩ := hQ18
      have N18 := Fr.app N0 N18q
      have k19 : ∀ t, Steps p.tables e below (T18.setTop (mkF m 81 #[.val (.int p1), .val (.int ((p1 &&& (2147483647 : Int32)) % (5 : Int32))), .val (.ref aINTEGER), .val (.int (1 : Int32))] [(.int (1 : Int32))])) t → Steps p.tables e below (s₁.setTop (entryFrame m #[(.int p1)] maxLocals)) t := fun t kt => k15 t (by
          let A0 : Array Slot := #[.val (.int p1), .val (.int ((p1 &&& (2147483647 : Int32)) % (5 : Int32))), .unset, .unset]
          show Steps p.tables e below (s₁.setTop (mkF m 22 A0 [(.int (1 : Int32)), (.int ((p1 &&& (2147483647 : Int32)) % (5 : Int32)))])) _
          refine XS.icmpNo X0.here hx rfl (hb hby at_22) rfl (teq hc22_16).2 ?_
          show Steps p.tables e below (s₁.setTop (mkF m 25 A0 [])) _
          refine st17 _ ?_
          show Steps p.tables e below (T17.setTop (mkF m 28 A0 [(.ref aINTEGER)])) _
          let A1 : Array Slot := #[.val (.int p1), .val (.int ((p1 &&& (2147483647 : Int32)) % (5 : Int32))), .val (.ref aINTEGER), .unset]
          refine XS.astoreN X17.here hx rfl (hb hby at_28) rfl rfl (l' := A1) rfl ?_
          show Steps p.tables e below (T17.setTop (mkF m 29 A1 [])) _
          refine XS.iconst X17.here hx rfl (hb hby at_29) ?_
          show Steps p.tables e below (T17.setTop (mkF m 30 A1 [(.int (1 : Int32))])) _
          let A2 : Array Slot := #[.val (.int p1), .val (.int ((p1 &&& (2147483647 : Int32)) % (5 : Int32))), .val (.ref aINTEGER), .val (.int (1 : Int32))]
          refine XS.istoreN X17.here hx rfl (hb hby at_30) rfl (l' := A2) rfl ?_
          show Steps p.tables e below (T17.setTop (mkF m 31 A2 [])) _
          refine XS.goto X17.here hx rfl (pc0 := 31) (pc' := 68) rfl (hb hby at_31) (by decide) (by decide) ?_
          show Steps p.tables e below (T17.setTop (mkF m 68 A2 [])) _
          refine XS.aloadN X17.here hx rfl (hb hby at_68) rfl rfl ?_
          show Steps p.tables e below (T17.setTop (mkF m 69 A2 [(.ref aINTEGER)])) _
          refine st18.trans ?_
          show Steps p.tables e below (T18.setTop (mkF m 72 A2 [(.int (own_isNum aINTEGER aINTEGER aREAL))])) _
          refine XS.iloadN X18.here hx rfl (hb hby at_72) rfl ?_
          show Steps p.tables e below (T18.setTop (mkF m 73 A2 [(.int (1 : Int32)), (.int (own_isNum aINTEGER aINTEGER aREAL))])) _
          refine XS.icmpNo X18.here hx rfl (hb hby at_73) rfl (teq (by simp [own_isNum, nBOOLEAN_INTEGER, nBOOLEAN_REAL, nSTRING_INTEGER, nSTRING_REAL, nTUPLE_INTEGER, nTUPLE_REAL] : (own_isNum aINTEGER aINTEGER aREAL) = (1 : Int32))).2 ?_
          show Steps p.tables e below (T18.setTop (mkF m 76 A2 [])) _
          refine XS.iconst X18.here hx rfl (hb hby at_76) ?_
          show Steps p.tables e below (T18.setTop (mkF m 77 A2 [(.int (1 : Int32))])) _
          refine XS.goto X18.here hx rfl (pc0 := 77) (pc' := 81) rfl (hb hby at_77) (by decide) (by decide) ?_
          exact kt)
      obtain ⟨fs, hr, hrun, hended, hW, hsame⟩ := X18.leave (v := some (.int (1 : Int32))) (fun h => by rw [Bd.returns] at h; cases h)
      refine ⟨_, _, k19 _ ?_, hrun, hended, _, _, rfl, ?_, ⟨_, rfl⟩, hW, hsame.mono (by decide) (by decide)⟩
      · show Steps p.tables e below (T18.setTop (mkF m 81 #[.val (.int p1), .val (.int ((p1 &&& (2147483647 : Int32)) % (5 : Int32))), .val (.ref aINTEGER), .val (.int (1 : Int32))] [(.int (1 : Int32))])) _
        exact retN X18 hx (t := .boolean) Bd.returns (by simp) (hb hby at_81) hr
      · show Q_rm0 Z p1 h0 n0 _ T18.heap _
        rw [e18]
        exact ⟨rfl, N18⟩
    · have k20 : ∀ t, Steps p.tables e below (s₁.setTop (mkF m 36 #[.val (.int p1), .val (.int ((p1 &&& (2147483647 : Int32)) % (5 : Int32))), .unset, .unset] [(.int (2 : Int32)), (.int ((p1 &&& (2147483647 : Int32)) % (5 : Int32)))])) t → Steps p.tables e below (s₁.setTop (entryFrame m #[(.int p1)] maxLocals)) t := fun t kt => k15 t (by
          let A0 : Array Slot := #[.val (.int p1), .val (.int ((p1 &&& (2147483647 : Int32)) % (5 : Int32))), .unset, .unset]
          show Steps p.tables e below (s₁.setTop (mkF m 22 A0 [(.int (1 : Int32)), (.int ((p1 &&& (2147483647 : Int32)) % (5 : Int32)))])) _
          refine XS.icmpYes X0.here hx rfl (pc0 := 22) (pc' := 34) rfl (hb hby at_22) rfl (feq hc22_16).2 (by decide) (by decide) ?_
          show Steps p.tables e below (s₁.setTop (mkF m 34 A0 [])) _
          refine XS.iloadN X0.here hx rfl (hb hby at_34) rfl ?_
          show Steps p.tables e below (s₁.setTop (mkF m 35 A0 [(.int ((p1 &&& (2147483647 : Int32)) % (5 : Int32)))])) _
          refine XS.iconst X0.here hx rfl (hb hby at_35) ?_
          exact kt)
      by_cases hc36_21 : ((p1 &&& (2147483647 : Int32)) % (5 : Int32)) = (2 : Int32)
      · obtain ⟨T22, X22, e22, st22⟩ := getS2 X0 hx hZ hown (host := "") (Or.inl (hw _ (List.mem_of_getElem? (i := 18) rfl))) Via.refl e0 SREAL (g := (mkF m 39 #[.val (.int p1), .val (.int ((p1 &&& (2147483647 : Int32)) % (5 : Int32))), .unset, .unset] [])) rfl (hb hby at_39)
        obtain ⟨cq23, kq23, q23a, q23b, q23c⟩ := isOf hZ e22 EREAL
        obtain ⟨_, _, ⟨T23, L23, k23, n23⟩, -, X23, ⟨Lc23, hQ23, l23, y23, z23⟩, st23⟩ := X22.virtualBack hx (y := (⟨"com/example/arthurs_seat/arthursseat/language/LanguageType$Data", "isNumber", "()Z"⟩ : MethodName)) (z := (⟨"com/example/arthurs_seat/arthursseat/language/LanguageType$Data", "isNumber", "()Z"⟩ : MethodName)) hown (mvT hZ (hw _ (List.mem_of_getElem? (i := 4) rfl))) (mvT hZ (hw _ (List.mem_of_getElem? (i := 5) rfl))) (notFace_of_selects (args := #[]) (mvT hZ (hw _ (List.mem_of_getElem? (i := 7) rfl)))) (mvT hZ (hw _ (List.mem_of_getElem? (i := 7) rfl))) (mvT hZ (hw _ (List.mem_of_getElem? (i := 6) rfl))) (by decide) (backOf (W := 0) (rm1 l Z a0 hw [] aREAL aINTEGER aREAL h0 n0 Z0 SINTEGER SREAL) hZ (hw _ (List.mem_of_getElem? (i := 8) rfl)) (hw _ (List.mem_of_getElem? (i := 2) rfl)) (by decide) (by decide)) q23a q23c (g := (mkF m 69 #[.val (.int p1), .val (.int ((p1 &&& (2147483647 : Int32)) % (5 : Int32))), .val (.ref aREAL), .val (.int (1 : Int32))] [(.ref aREAL)])) rfl (by rw [hml]; rfl) (Steps.refl _) (argsL := []) (rest := []) (lenOf pd_0 rfl) rfl (by show 2 * 0 + _ ≤ _; exact Nat.le_of_eq rfl) (hb hby at_69) (fun _ _ => ⟨rfl, e22, (by decide : 0 + 0 ≤ _), (by decide : 0 + 0 ≤ _)⟩)
        dsimp only [Pt.U, Pt.locs, Pt.cells, Pt.slots] at X23 l23 y23 z23 st23 hQ23
        subst l23 y23 z23
        obtain ⟨rfl, N23q, e23⟩ := hQ23
        have N23 := Fr.app N0 N23q
        have k24 : ∀ t, Steps p.tables e below (T23.setTop (mkF m 81 #[.val (.int p1), .val (.int ((p1 &&& (2147483647 : Int32)) % (5 : Int32))), .val (.ref aREAL), .val (.int (1 : Int32))] [(.int (1 : Int32))])) t → Steps p.tables e below (s₁.setTop (entryFrame m #[(.int p1)] maxLocals)) t := fun t kt => k20 t (by
            let A0 : Array Slot := #[.val (.int p1), .val (.int ((p1 &&& (2147483647 : Int32)) % (5 : Int32))), .unset, .unset]
            show Steps p.tables e below (s₁.setTop (mkF m 36 A0 [(.int (2 : Int32)), (.int ((p1 &&& (2147483647 : Int32)) % (5 : Int32)))])) _
            refine XS.icmpNo X0.here hx rfl (hb hby at_36) rfl (teq hc36_21).2 ?_
            show Steps p.tables e below (s₁.setTop (mkF m 39 A0 [])) _
            refine st22 _ ?_
            show Steps p.tables e below (T22.setTop (mkF m 42 A0 [(.ref aREAL)])) _
            let A1 : Array Slot := #[.val (.int p1), .val (.int ((p1 &&& (2147483647 : Int32)) % (5 : Int32))), .val (.ref aREAL), .unset]
            refine XS.astoreN X22.here hx rfl (hb hby at_42) rfl rfl (l' := A1) rfl ?_
            show Steps p.tables e below (T22.setTop (mkF m 43 A1 [])) _
            refine XS.iconst X22.here hx rfl (hb hby at_43) ?_
            show Steps p.tables e below (T22.setTop (mkF m 44 A1 [(.int (1 : Int32))])) _
            let A2 : Array Slot := #[.val (.int p1), .val (.int ((p1 &&& (2147483647 : Int32)) % (5 : Int32))), .val (.ref aREAL), .val (.int (1 : Int32))]
            refine XS.istoreN X22.here hx rfl (hb hby at_44) rfl (l' := A2) rfl ?_
            show Steps p.tables e below (T22.setTop (mkF m 45 A2 [])) _
            refine XS.goto X22.here hx rfl (pc0 := 45) (pc' := 68) rfl (hb hby at_45) (by decide) (by decide) ?_
            show Steps p.tables e below (T22.setTop (mkF m 68 A2 [])) _
            refine XS.aloadN X22.here hx rfl (hb hby at_68) rfl rfl ?_
            show Steps p.tables e below (T22.setTop (mkF m 69 A2 [(.ref aREAL)])) _
            refine st23.trans ?_
            show Steps p.tables e below (T23.setTop (mkF m 72 A2 [(.int (own_isNum aREAL aINTEGER aREAL))])) _
            refine XS.iloadN X23.here hx rfl (hb hby at_72) rfl ?_
            show Steps p.tables e below (T23.setTop (mkF m 73 A2 [(.int (1 : Int32)), (.int (own_isNum aREAL aINTEGER aREAL))])) _
            refine XS.icmpNo X23.here hx rfl (hb hby at_73) rfl (teq (by simp [own_isNum, nBOOLEAN_INTEGER, nBOOLEAN_REAL, nSTRING_INTEGER, nSTRING_REAL, nTUPLE_INTEGER, nTUPLE_REAL] : (own_isNum aREAL aINTEGER aREAL) = (1 : Int32))).2 ?_
            show Steps p.tables e below (T23.setTop (mkF m 76 A2 [])) _
            refine XS.iconst X23.here hx rfl (hb hby at_76) ?_
            show Steps p.tables e below (T23.setTop (mkF m 77 A2 [(.int (1 : Int32))])) _
            refine XS.goto X23.here hx rfl (pc0 := 77) (pc' := 81) rfl (hb hby at_77) (by decide) (by decide) ?_
            exact kt)
        obtain ⟨fs, hr, hrun, hended, hW, hsame⟩ := X23.leave (v := some (.int (1 : Int32))) (fun h => by rw [Bd.returns] at h; cases h)
        refine ⟨_, _, k24 _ ?_, hrun, hended, _, _, rfl, ?_, ⟨_, rfl⟩, hW, hsame.mono (by decide) (by decide)⟩
        · show Steps p.tables e below (T23.setTop (mkF m 81 #[.val (.int p1), .val (.int ((p1 &&& (2147483647 : Int32)) % (5 : Int32))), .val (.ref aREAL), .val (.int (1 : Int32))] [(.int (1 : Int32))])) _
          exact retN X23 hx (t := .boolean) Bd.returns (by simp) (hb hby at_81) hr
        · show Q_rm0 Z p1 h0 n0 _ T23.heap _
          rw [e23]
          exact ⟨rfl, N23⟩
      · have k25 : ∀ t, Steps p.tables e below (s₁.setTop (mkF m 50 #[.val (.int p1), .val (.int ((p1 &&& (2147483647 : Int32)) % (5 : Int32))), .unset, .unset] [(.int (3 : Int32)), (.int ((p1 &&& (2147483647 : Int32)) % (5 : Int32)))])) t → Steps p.tables e below (s₁.setTop (entryFrame m #[(.int p1)] maxLocals)) t := fun t kt => k20 t (by
            let A0 : Array Slot := #[.val (.int p1), .val (.int ((p1 &&& (2147483647 : Int32)) % (5 : Int32))), .unset, .unset]
            show Steps p.tables e below (s₁.setTop (mkF m 36 A0 [(.int (2 : Int32)), (.int ((p1 &&& (2147483647 : Int32)) % (5 : Int32)))])) _
            refine XS.icmpYes X0.here hx rfl (pc0 := 36) (pc' := 48) rfl (hb hby at_36) rfl (feq hc36_21).2 (by decide) (by decide) ?_
            show Steps p.tables e below (s₁.setTop (mkF m 48 A0 [])) _
            refine XS.iloadN X0.here hx rfl (hb hby at_48) rfl ?_
            show Steps p.tables e below (s₁.setTop (mkF m 49 A0 [(.int ((p1 &&& (2147483647 : Int32)) % (5 : Int32)))])) _
            refine XS.iconst X0.here hx rfl (hb hby at_49) ?_
            exact kt)
        by_cases hc50_26 : ((p1 &&& (2147483647 : Int32)) % (5 : Int32)) = (3 : Int32)
        · obtain ⟨T27, X27, e27, st27⟩ := getS2 X0 hx hZ hown (host := "") (Or.inl (hw _ (List.mem_of_getElem? (i := 13) rfl))) Via.refl e0 SSTRING (g := (mkF m 53 #[.val (.int p1), .val (.int ((p1 &&& (2147483647 : Int32)) % (5 : Int32))), .unset, .unset] [])) rfl (hb hby at_53)
          obtain ⟨cq28, kq28, q28a, q28b, q28c⟩ := isOf hZ e27 ESTRING
          obtain ⟨_, _, ⟨T28, L28, k28, n28⟩, -, X28, ⟨Lc28, hQ28, l28, y28, z28⟩, st28⟩ := X27.virtualBack hx (y := (⟨"com/example/arthurs_seat/arthursseat/language/LanguageType$Data", "isNumber", "()Z"⟩ : MethodName)) (z := (⟨"com/example/arthurs_seat/arthursseat/language/LanguageType$Data", "isNumber", "()Z"⟩ : MethodName)) hown (mvT hZ (hw _ (List.mem_of_getElem? (i := 4) rfl))) (mvT hZ (hw _ (List.mem_of_getElem? (i := 5) rfl))) (notFace_of_selects (args := #[]) (mvT hZ (hw _ (List.mem_of_getElem? (i := 7) rfl)))) (mvT hZ (hw _ (List.mem_of_getElem? (i := 7) rfl))) (mvT hZ (hw _ (List.mem_of_getElem? (i := 6) rfl))) (by decide) (backOf (W := 0) (rm1 l Z a0 hw [] aSTRING aINTEGER aREAL h0 n0 Z0 SINTEGER SREAL) hZ (hw _ (List.mem_of_getElem? (i := 8) rfl)) (hw _ (List.mem_of_getElem? (i := 2) rfl)) (by decide) (by decide)) q28a q28c (g := (mkF m 69 #[.val (.int p1), .val (.int ((p1 &&& (2147483647 : Int32)) % (5 : Int32))), .val (.ref aSTRING), .val (.int (0 : Int32))] [(.ref aSTRING)])) rfl (by rw [hml]; rfl) (Steps.refl _) (argsL := []) (rest := []) (lenOf pd_0 rfl) rfl (by show 2 * 0 + _ ≤ _; exact Nat.le_of_eq rfl) (hb hby at_69) (fun _ _ => ⟨rfl, e27, (by decide : 0 + 0 ≤ _), (by decide : 0 + 0 ≤ _)⟩)
          dsimp only [Pt.U, Pt.locs, Pt.cells, Pt.slots] at X28 l28 y28 z28 st28 hQ28
          subst l28 y28 z28
          obtain ⟨rfl, N28q, e28⟩ := hQ28
          have N28 := Fr.app N0 N28q
          have k29 : ∀ t, Steps p.tables e below (T28.setTop (mkF m 81 #[.val (.int p1), .val (.int ((p1 &&& (2147483647 : Int32)) % (5 : Int32))), .val (.ref aSTRING), .val (.int (0 : Int32))] [(.int (1 : Int32))])) t → Steps p.tables e below (s₁.setTop (entryFrame m #[(.int p1)] maxLocals)) t := fun t kt => k25 t (by
              let A0 : Array Slot := #[.val (.int p1), .val (.int ((p1 &&& (2147483647 : Int32)) % (5 : Int32))), .unset, .unset]
              show Steps p.tables e below (s₁.setTop (mkF m 50 A0 [(.int (3 : Int32)), (.int ((p1 &&& (2147483647 : Int32)) % (5 : Int32)))])) _
              refine XS.icmpNo X0.here hx rfl (hb hby at_50) rfl (teq hc50_26).2 ?_
              show Steps p.tables e below (s₁.setTop (mkF m 53 A0 [])) _
              refine st27 _ ?_
              show Steps p.tables e below (T27.setTop (mkF m 56 A0 [(.ref aSTRING)])) _
              let A1 : Array Slot := #[.val (.int p1), .val (.int ((p1 &&& (2147483647 : Int32)) % (5 : Int32))), .val (.ref aSTRING), .unset]
              refine XS.astoreN X27.here hx rfl (hb hby at_56) rfl rfl (l' := A1) rfl ?_
              show Steps p.tables e below (T27.setTop (mkF m 57 A1 [])) _
              refine XS.iconst X27.here hx rfl (hb hby at_57) ?_
              show Steps p.tables e below (T27.setTop (mkF m 58 A1 [(.int (0 : Int32))])) _
              let A2 : Array Slot := #[.val (.int p1), .val (.int ((p1 &&& (2147483647 : Int32)) % (5 : Int32))), .val (.ref aSTRING), .val (.int (0 : Int32))]
              refine XS.istoreN X27.here hx rfl (hb hby at_58) rfl (l' := A2) rfl ?_
              show Steps p.tables e below (T27.setTop (mkF m 59 A2 [])) _
              refine XS.goto X27.here hx rfl (pc0 := 59) (pc' := 68) rfl (hb hby at_59) (by decide) (by decide) ?_
              show Steps p.tables e below (T27.setTop (mkF m 68 A2 [])) _
              refine XS.aloadN X27.here hx rfl (hb hby at_68) rfl rfl ?_
              show Steps p.tables e below (T27.setTop (mkF m 69 A2 [(.ref aSTRING)])) _
              refine st28.trans ?_
              show Steps p.tables e below (T28.setTop (mkF m 72 A2 [(.int (own_isNum aSTRING aINTEGER aREAL))])) _
              refine XS.iloadN X28.here hx rfl (hb hby at_72) rfl ?_
              show Steps p.tables e below (T28.setTop (mkF m 73 A2 [(.int (0 : Int32)), (.int (own_isNum aSTRING aINTEGER aREAL))])) _
              refine XS.icmpNo X28.here hx rfl (hb hby at_73) rfl (teq (by simp [own_isNum, nBOOLEAN_INTEGER, nBOOLEAN_REAL, nSTRING_INTEGER, nSTRING_REAL, nTUPLE_INTEGER, nTUPLE_REAL] : (own_isNum aSTRING aINTEGER aREAL) = (0 : Int32))).2 ?_
              show Steps p.tables e below (T28.setTop (mkF m 76 A2 [])) _
              refine XS.iconst X28.here hx rfl (hb hby at_76) ?_
              show Steps p.tables e below (T28.setTop (mkF m 77 A2 [(.int (1 : Int32))])) _
              refine XS.goto X28.here hx rfl (pc0 := 77) (pc' := 81) rfl (hb hby at_77) (by decide) (by decide) ?_
              exact kt)
          obtain ⟨fs, hr, hrun, hended, hW, hsame⟩ := X28.leave (v := some (.int (1 : Int32))) (fun h => by rw [Bd.returns] at h; cases h)
          refine ⟨_, _, k29 _ ?_, hrun, hended, _, _, rfl, ?_, ⟨_, rfl⟩, hW, hsame.mono (by decide) (by decide)⟩
          · show Steps p.tables e below (T28.setTop (mkF m 81 #[.val (.int p1), .val (.int ((p1 &&& (2147483647 : Int32)) % (5 : Int32))), .val (.ref aSTRING), .val (.int (0 : Int32))] [(.int (1 : Int32))])) _
            exact retN X28 hx (t := .boolean) Bd.returns (by simp) (hb hby at_81) hr
          · show Q_rm0 Z p1 h0 n0 _ T28.heap _
            rw [e28]
            exact ⟨rfl, N28⟩
        · obtain ⟨T30, X30, e30, st30⟩ := getS2 X0 hx hZ hown (host := "") (Or.inl (hw _ (List.mem_of_getElem? (i := 16) rfl))) Via.refl e0 STUPLE (g := (mkF m 62 #[.val (.int p1), .val (.int ((p1 &&& (2147483647 : Int32)) % (5 : Int32))), .unset, .unset] [])) rfl (hb hby at_62)
          obtain ⟨cq31, kq31, q31a, q31b, q31c⟩ := isOf hZ e30 ETUPLE
          obtain ⟨_, _, ⟨T31, L31, k31, n31⟩, -, X31, ⟨Lc31, hQ31, l31, y31, z31⟩, st31⟩ := X30.virtualBack hx (y := (⟨"com/example/arthurs_seat/arthursseat/language/LanguageType$Data", "isNumber", "()Z"⟩ : MethodName)) (z := (⟨"com/example/arthurs_seat/arthursseat/language/LanguageType$Data", "isNumber", "()Z"⟩ : MethodName)) hown (mvT hZ (hw _ (List.mem_of_getElem? (i := 4) rfl))) (mvT hZ (hw _ (List.mem_of_getElem? (i := 5) rfl))) (notFace_of_selects (args := #[]) (mvT hZ (hw _ (List.mem_of_getElem? (i := 7) rfl)))) (mvT hZ (hw _ (List.mem_of_getElem? (i := 7) rfl))) (mvT hZ (hw _ (List.mem_of_getElem? (i := 6) rfl))) (by decide) (backOf (W := 0) (rm1 l Z a0 hw [] aTUPLE aINTEGER aREAL h0 n0 Z0 SINTEGER SREAL) hZ (hw _ (List.mem_of_getElem? (i := 8) rfl)) (hw _ (List.mem_of_getElem? (i := 2) rfl)) (by decide) (by decide)) q31a q31c (g := (mkF m 69 #[.val (.int p1), .val (.int ((p1 &&& (2147483647 : Int32)) % (5 : Int32))), .val (.ref aTUPLE), .val (.int (0 : Int32))] [(.ref aTUPLE)])) rfl (by rw [hml]; rfl) (Steps.refl _) (argsL := []) (rest := []) (lenOf pd_0 rfl) rfl (by show 2 * 0 + _ ≤ _; exact Nat.le_of_eq rfl) (hb hby at_69) (fun _ _ => ⟨rfl, e30, (by decide : 0 + 0 ≤ _), (by decide : 0 + 0 ≤ _)⟩)
          dsimp only [Pt.U, Pt.locs, Pt.cells, Pt.slots] at X31 l31 y31 z31 st31 hQ31
          subst l31 y31 z31
          obtain ⟨rfl, N31q, e31⟩ := hQ31
          have N31 := Fr.app N0 N31q
          have k32 : ∀ t, Steps p.tables e below (T31.setTop (mkF m 81 #[.val (.int p1), .val (.int ((p1 &&& (2147483647 : Int32)) % (5 : Int32))), .val (.ref aTUPLE), .val (.int (0 : Int32))] [(.int (1 : Int32))])) t → Steps p.tables e below (s₁.setTop (entryFrame m #[(.int p1)] maxLocals)) t := fun t kt => k25 t (by
              let A0 : Array Slot := #[.val (.int p1), .val (.int ((p1 &&& (2147483647 : Int32)) % (5 : Int32))), .unset, .unset]
              show Steps p.tables e below (s₁.setTop (mkF m 50 A0 [(.int (3 : Int32)), (.int ((p1 &&& (2147483647 : Int32)) % (5 : Int32)))])) _
              refine XS.icmpYes X0.here hx rfl (pc0 := 50) (pc' := 62) rfl (hb hby at_50) rfl (feq hc50_26).2 (by decide) (by decide) ?_
              show Steps p.tables e below (s₁.setTop (mkF m 62 A0 [])) _
              refine st30 _ ?_
              show Steps p.tables e below (T30.setTop (mkF m 65 A0 [(.ref aTUPLE)])) _
              let A1 : Array Slot := #[.val (.int p1), .val (.int ((p1 &&& (2147483647 : Int32)) % (5 : Int32))), .val (.ref aTUPLE), .unset]
              refine XS.astoreN X30.here hx rfl (hb hby at_65) rfl rfl (l' := A1) rfl ?_
              show Steps p.tables e below (T30.setTop (mkF m 66 A1 [])) _
              refine XS.iconst X30.here hx rfl (hb hby at_66) ?_
              show Steps p.tables e below (T30.setTop (mkF m 67 A1 [(.int (0 : Int32))])) _
              let A2 : Array Slot := #[.val (.int p1), .val (.int ((p1 &&& (2147483647 : Int32)) % (5 : Int32))), .val (.ref aTUPLE), .val (.int (0 : Int32))]
              refine XS.istoreN X30.here hx rfl (hb hby at_67) rfl (l' := A2) rfl ?_
              show Steps p.tables e below (T30.setTop (mkF m 68 A2 [])) _
              refine XS.aloadN X30.here hx rfl (hb hby at_68) rfl rfl ?_
              show Steps p.tables e below (T30.setTop (mkF m 69 A2 [(.ref aTUPLE)])) _
              refine st31.trans ?_
              show Steps p.tables e below (T31.setTop (mkF m 72 A2 [(.int (own_isNum aTUPLE aINTEGER aREAL))])) _
              refine XS.iloadN X31.here hx rfl (hb hby at_72) rfl ?_
              show Steps p.tables e below (T31.setTop (mkF m 73 A2 [(.int (0 : Int32)), (.int (own_isNum aTUPLE aINTEGER aREAL))])) _
              refine XS.icmpNo X31.here hx rfl (hb hby at_73) rfl (teq (by simp [own_isNum, nBOOLEAN_INTEGER, nBOOLEAN_REAL, nSTRING_INTEGER, nSTRING_REAL, nTUPLE_INTEGER, nTUPLE_REAL] : (own_isNum aTUPLE aINTEGER aREAL) = (0 : Int32))).2 ?_
              show Steps p.tables e below (T31.setTop (mkF m 76 A2 [])) _
              refine XS.iconst X31.here hx rfl (hb hby at_76) ?_
              show Steps p.tables e below (T31.setTop (mkF m 77 A2 [(.int (1 : Int32))])) _
              refine XS.goto X31.here hx rfl (pc0 := 77) (pc' := 81) rfl (hb hby at_77) (by decide) (by decide) ?_
              exact kt)
          obtain ⟨fs, hr, hrun, hended, hW, hsame⟩ := X31.leave (v := some (.int (1 : Int32))) (fun h => by rw [Bd.returns] at h; cases h)
          refine ⟨_, _, k32 _ ?_, hrun, hended, _, _, rfl, ?_, ⟨_, rfl⟩, hW, hsame.mono (by decide) (by decide)⟩
          · show Steps p.tables e below (T31.setTop (mkF m 81 #[.val (.int p1), .val (.int ((p1 &&& (2147483647 : Int32)) % (5 : Int32))), .val (.ref aTUPLE), .val (.int (0 : Int32))] [(.int (1 : Int32))])) _
            exact retN X31 hx (t := .boolean) Bd.returns (by simp) (hb hby at_81) hr
          · show Q_rm0 Z p1 h0 n0 _ T31.heap _
            rw [e31]
            exact ⟨rfl, N31⟩
set_option maxRecDepth 65536 in
set_option maxHeartbeats 40000000 in
theorem comes_1 {Post : Tables → Env → Array Value → State → Outcome → State → Prop} (hpost : ∀ tb e args s v u, (limb_1_1.after args s (.returned v) u = true ∧ limb_1_2.after args s (.returned v) u = true ∧ True) → FrameEnd s (.returned v) u (Jvm.fieldLocs frame_1_writes args s ++ Jvm.arrayLocs frame_1_arrays args s ++ Jvm.staticLocs frame_1_statics s) 0 0 → Post tb e args s (.returned v) u) :
    ArmFor flags0 classFile x code maxLocals ret World_1 tables_1 room_1 Calls_1 rest_1 Pre_1 Post := by
  intro l hfl _ _ p e ha hc hk s m args below hf hA hF happ hP
  obtain ⟨hcalls, hrest, hpre⟩ := hP
  obtain ⟨-, -, -, hnamed, -, -, -, hat⟩ := (Spec.applies_iff hf).mp happ
  obtain ⟨hg, hn⟩ := and_e (Cond.before_iff.mp (show (Jvm.Cond.and given_1 narrow_1).before args s = true from hpre))
  obtain ⟨hcnt, hg0⟩ := and_e hg
  obtain ⟨w0, rfl⟩ : ∃ w0 : Value, args = #[w0] := by
    have hs : args.size = 1 := by simpa [Cond.value, given_1] using hcnt
    obtain ⟨L⟩ := args
    match L, hs with
    | [w0], _ => exact ⟨w0, rfl⟩
  have hw := fun d (hd : d ∈ tables_1) => atoms_spec (ws := Jvm.Cond.code x code maxLocals ret :: tables_1) hat d (List.mem_cons_of_mem _ hd)
  have hfit : Fit s := fun {y c} hc i hi => by
    obtain ⟨ha, rfl⟩ := Array.getElem?_eq_some_iff.mp hc
    have q := List.all_eq_true.mp ((Array.all_eq_true_iff_forall_mem.mp hF) _ (Array.getElem_mem ha)) i (List.mem_range.mpr hi)
    simpa [Array.getElem?_eq_getElem hi] using q
  obtain ⟨i0, ei0⟩ := is_v hg0
  obtain rfl : w0 = (.int i0) := Option.some.inj ei0
  obtain ⟨hn_0, hnr_0⟩ := and_e hn
  obtain ⟨hn_1, hnr_1⟩ := and_e hnr_0
  obtain ⟨hn_2, hnr_2⟩ := and_e hnr_1
  obtain ⟨hn_3, hnr_3⟩ := and_e hnr_2
  obtain ⟨hn_4, hnr_4⟩ := and_e hnr_3
  obtain ⟨hn_5, hnr_5⟩ := and_e hnr_4
  obtain ⟨hn_6, hnr_6⟩ := and_e hnr_5
  obtain ⟨hn_7, hnr_7⟩ := and_e hnr_6
  obtain ⟨hn_8, hnr_8⟩ := and_e hnr_7
  obtain ⟨aBOOLEAN, SBOOLEAN, EBOOLEAN, OBOOLEAN⟩ := own_enum hn_0 hn_2 (hw _ (List.mem_of_getElem? (i := 2) rfl)) (hw _ (List.mem_of_getElem? (i := 3) rfl))
  obtain ⟨aINTEGER, SINTEGER, EINTEGER, OINTEGER⟩ := own_enum hn_1 hn_3 (hw _ (List.mem_of_getElem? (i := 2) rfl)) (hw _ (List.mem_of_getElem? (i := 10) rfl))
  obtain ⟨aREAL, SREAL, EREAL, OREAL⟩ := own_enum hn_4 hn_5 (hw _ (List.mem_of_getElem? (i := 2) rfl)) (hw _ (List.mem_of_getElem? (i := 12) rfl))
  obtain ⟨aSTRING, SSTRING, ESTRING, OSTRING⟩ := own_enum hn_6 hn_7 (hw _ (List.mem_of_getElem? (i := 2) rfl)) (hw _ (List.mem_of_getElem? (i := 14) rfl))
  obtain ⟨aTUPLE, STUPLE, ETUPLE, OTUPLE⟩ := own_enum hn_8 hnr_8 (hw _ (List.mem_of_getElem? (i := 2) rfl)) (hw _ (List.mem_of_getElem? (i := 17) rfl))
  obtain ⟨n, o, h1, h2, h3, _, L, rfl, ⟨rfl, N⟩, hq⟩ := rm0 l s _ hw tables_1 i0 aBOOLEAN aINTEGER aREAL aSTRING aTUPLE s.heap s.heap.size (Nat.le_refl _) SBOOLEAN SINTEGER SREAL SSTRING STUPLE EBOOLEAN EINTEGER EREAL ESTRING ETUPLE (own_ne OBOOLEAN OINTEGER (by decide)) (own_ne OBOOLEAN OREAL (by decide)) (own_ne OSTRING OINTEGER (by decide)) (own_ne OSTRING OREAL (by decide)) (own_ne OTUPLE OINTEGER (by decide)) (own_ne OTUPLE OREAL (by decide)) p e ha hc hk s m _ below hf ((Spec.applies_iff_loose hf).mp happ).1 ⟨rfl, State.Warmed39.refl s, rfl⟩ trivial
  refine ⟨n, _, h1, h2, h3, hpost _ _ _ _ _ _ ⟨Cond.after_iff.mpr rfl, Cond.after_iff.mpr (eq_i res_at (Term.int_eval (1)) rfl), trivial⟩ ⟨hq.1, hq.2.1, (hq.2.2.sift fun y hy => Or.inr (N y hy)).mono (by decide) (by decide)⟩⟩
theorem main_1_1 : Claimed_1_1 := comes_1 fun _ _ _ _ _ _ h hF => ⟨h.1, hF⟩
theorem main_1_2 : Claimed_1_2 := comes_1 fun _ _ _ _ _ _ h hF => ⟨h.2.1, hF⟩
end Jvm.Pilot.@@N@@
namespace Jvm.Pilot.@@N@@
open Jvm Jvm.ClassFile Sem Op Lib Jvm.Free Jvm.Stand Jvm.Pilot.@@N@@.Jvm.D
/-! MADE BY PROGRAM (witnessworld.py) out of the Statement's table words and the real class files: 13 classes; the members and pool entries that the words name. The judged class is class 1, her method 1. -/
namespace start1
open Jvm.ClassFile
def u (s : String) : CpInfo := .utf8 (stringToUtf16 s)
/-- a pool by its gaps: so many unusable entries, then the entry; so many at the end -/
def gap : Nat → List CpInfo → List CpInfo
  | 0, r => r
  | n + 1, r => .unusable :: gap n r
def poolList (es : List (Nat × CpInfo)) (last : Nat) : List CpInfo := es.foldr (fun e r => gap e.1 (e.2 :: r)) (gap last [])
def pool (es : List (Nat × CpInfo)) (last : Nat) : Array CpInfo := ⟨poolList es last⟩
def fileOf (pool : Array CpInfo) (this : Nat) (attrs : Array Attribute := #[]) (ms : Array MethodInfo := #[]) (fl : Nat := 33) (sup : Nat := 0) (ifs : Array Nat := #[]) (fds : Array FieldInfo := #[]) : ClassFile where
  minorVersion := 0
  majorVersion := 65
  constantPool := pool
  accessFlags := fl
  thisClass := this
  superClass := sup
  interfaces := ifs
  fields := fds
  methods := ms
  attributes := attrs
def plain (name : String) (sup : Option ClassId) : Class where
  name := name
  kind := .ordinary
  loader := none
  accessFlags := 33
  super := sup
  interfaces := #[]
  cf := none
  fields := #[]
  methods := #[]
  instanceTypes := #[]
  staticTypes := #[]
  resolved := #[]
  callSites := []
  init := .initialized
  statics := none
  mirror := none

def pool0 : Array CpInfo := pool [(5, u "<init>"), (0, u "()V"), (1, .class_ 10), (1, u "java/lang/Object")] 113

def k0m0 : Method := { name := "<init>", desc := "()V", sig := { parameters := [], returnType := none }, accessFlags := 1, code := none }
/-- java/lang/Object -/
def k0 : Class := { plain "java/lang/Object" none with
  accessFlags := 33
  interfaces := #[]
  cf := some (fileOf pool0 8 #[] #[{ accessFlags := 1, nameIndex := 5, descriptorIndex := 6, attributes := #[] }] 33 0 #[] #[])
  fields := #[]
  methods := #[k0m0]
  instanceTypes := #[]
  staticTypes := #[]
  resolved := Array.replicate 124 none
  statics := none }

def pool1 : Array CpInfo := pool [(2, .class_ 4), (1, u "java/lang/Object"), (0, u "<init>"), (0, u "()V"), (0, .integer 2147483647), (0, .fieldref 9 10), (0, .class_ 11), (0, .nameAndType 12 13), (0, u "com/example/arthurs_seat/arthursseat/language/LanguageType$Data"), (0, u "BOOLEAN"), (0, u "Lcom/example/arthurs_seat/arthursseat/language/LanguageType$Data;"), (0, .fieldref 9 15), (0, .nameAndType 16 13), (0, u "INTEGER"), (0, .fieldref 9 18), (0, .nameAndType 19 13), (0, u "REAL"), (0, .fieldref 9 21), (0, .nameAndType 22 13), (0, u "STRING"), (0, .fieldref 9 24), (0, .nameAndType 25 13), (0, u "TUPLE"), (0, .methodref 9 27), (0, .nameAndType 28 29), (0, u "isNumber"), (0, u "()Z"), (0, .class_ 31), (0, u "com/example/arthurs_seat/arthursseat/language/DataIsNumberPinLaw"), (2, u "law"), (0, u "(I)Z")] 7

def k1m0 : Method := { name := "<init>", desc := "()V", sig := { parameters := [], returnType := none }, accessFlags := 1, code := none }
def k1c1 : Code := { maxStack := 2, maxLocals := 4, code := code, exceptionTable := #[], attributes := #[] }
def k1m1 : Method := { name := "law", desc := "(I)Z", sig := { parameters := [.int], returnType := some .boolean }, accessFlags := 9, code := some k1c1 }
/-- com/example/arthurs_seat/arthursseat/language/DataIsNumberPinLaw -/
def k1 : Class := { plain "com/example/arthurs_seat/arthursseat/language/DataIsNumberPinLaw" (some 0) with
  accessFlags := 49
  interfaces := #[]
  cf := some (fileOf pool1 30 #[] #[{ accessFlags := 1, nameIndex := 5, descriptorIndex := 6, attributes := #[] }, { accessFlags := 9, nameIndex := 34, descriptorIndex := 35, attributes := #[] }] 49 2 #[] #[])
  fields := #[]
  methods := #[k1m0, k1m1]
  instanceTypes := #[]
  staticTypes := #[]
  resolved := Array.replicate 43 none
  statics := none }

def pool2 : Array CpInfo := pool [(1, .class_ 2), (0, u "java/lang/constant/Constable"), (0, .class_ 4), (0, u "java/lang/Object")] 6

/-- java/lang/constant/Constable -/
def k2 : Class := { plain "java/lang/constant/Constable" (some 0) with
  accessFlags := 1537
  interfaces := #[]
  cf := some (fileOf pool2 1 #[] #[] 1537 3 #[] #[])
  fields := #[]
  methods := #[]
  instanceTypes := #[]
  staticTypes := #[]
  resolved := Array.replicate 11 none
  statics := none }

def pool3 : Array CpInfo := pool [(1, .class_ 2), (0, u "java/lang/Comparable"), (0, .class_ 4), (0, u "java/lang/Object")] 7

/-- java/lang/Comparable -/
def k3 : Class := { plain "java/lang/Comparable" (some 0) with
  accessFlags := 1537
  interfaces := #[]
  cf := some (fileOf pool3 1 #[] #[] 1537 3 #[] #[])
  fields := #[]
  methods := #[]
  instanceTypes := #[]
  staticTypes := #[]
  resolved := Array.replicate 12 none
  statics := none }

def pool4 : Array CpInfo := pool [(1, .class_ 2), (0, u "java/io/Serializable"), (0, .class_ 4), (0, u "java/lang/Object")] 2

/-- java/io/Serializable -/
def k4 : Class := { plain "java/io/Serializable" (some 0) with
  accessFlags := 1537
  interfaces := #[]
  cf := some (fileOf pool4 1 #[] #[] 1537 3 #[] #[])
  fields := #[]
  methods := #[]
  instanceTypes := #[]
  staticTypes := #[]
  resolved := Array.replicate 7 none
  statics := none }

def pool5 : Array CpInfo := pool [(2, .class_ 4), (1, u "java/lang/Enum"), (0, u "name"), (0, u "Ljava/lang/String;"), (2, u "ordinal"), (0, u "I"), (1, .class_ 14), (1, u "java/lang/Object"), (4, u "hash"), (86, .class_ 108), (1, u "java/lang/Enum$EnumDesc"), (2, .class_ 112), (0, u "java/lang/constant/Constable"), (0, .class_ 114), (0, u "java/lang/Comparable"), (0, .class_ 116), (0, u "java/io/Serializable")] 87

/-- java/lang/Enum -/
def k5 : Class := { plain "java/lang/Enum" (some 0) with
  accessFlags := 1057
  interfaces := #[2, 3, 4]
  cf := some (fileOf pool5 2 #[.nestMembers #[106]] #[] 1057 12 #[111, 113, 115] #[{ accessFlags := 18, nameIndex := 5, descriptorIndex := 6, attributes := #[] }, { accessFlags := 18, nameIndex := 9, descriptorIndex := 10, attributes := #[] }, { accessFlags := 2, nameIndex := 19, descriptorIndex := 10, attributes := #[] }])
  fields := #[{ name := "name", type := (.object "java/lang/String"), accessFlags := 18, slot := 0, constantValue := 0 }, { name := "ordinal", type := .int, accessFlags := 18, slot := 1, constantValue := 0 }, { name := "hash", type := .int, accessFlags := 2, slot := 2, constantValue := 0 }]
  methods := #[]
  instanceTypes := #[(.object "java/lang/String"), .int, .int]
  staticTypes := #[]
  resolved := Array.replicate 204 none
  statics := none }

def pool6 : Array CpInfo := pool [(2, .class_ 4), (1, u "com/example/arthurs_seat/arthursseat/language/LanguageType$Data"), (3, .class_ 10), (1, u "com/example/arthurs_seat/arthursseat/language/LanguageType$Wiring"), (13, .class_ 25), (0, u "com/example/arthurs_seat/arthursseat/language/LanguageType"), (18, .class_ 45), (0, u "com/example/arthurs_seat/arthursseat/language/LanguageType$Array"), (10, u "CONNECTIONS"), (0, u "Lcom/example/arthurs_seat/arthursseat/language/LanguageType$Array;"), (0, .class_ 59), (0, u "java/lang/Object"), (12, .class_ 73), (0, u "com/example/arthurs_seat/arthursseat/language/LanguageType$Implementable"), (0, .class_ 75), (0, u "com/example/arthurs_seat/arthursseat/language/LanguageType$Pe")] 21

/-- com/example/arthurs_seat/arthursseat/language/LanguageType -/
def k6 : Class := { plain "com/example/arthurs_seat/arthursseat/language/LanguageType" (some 0) with
  accessFlags := 1536
  interfaces := #[]
  cf := some (fileOf pool6 24 #[.nestMembers #[44, 72, 74, 8, 2]] #[] 1536 58 #[] #[{ accessFlags := 25, nameIndex := 56, descriptorIndex := 57, attributes := #[] }])
  fields := #[{ name := "CONNECTIONS", type := (.object "com/example/arthurs_seat/arthursseat/language/LanguageType$Array"), accessFlags := 25, slot := 0, constantValue := 0 }]
  methods := #[]
  instanceTypes := #[]
  staticTypes := #[(.object "com/example/arthurs_seat/arthursseat/language/LanguageType$Array")]
  resolved := Array.replicate 97 none
  statics := none }

def pool7 : Array CpInfo := pool [(1, .class_ 2), (0, u "com/example/arthurs_seat/arthursseat/language/LanguageType$Data"), (2, u "BOOLEAN"), (0, u "Lcom/example/arthurs_seat/arthursseat/language/LanguageType$Data;"), (0, .fieldref 1 8), (0, .nameAndType 9 6), (0, u "INTEGER"), (0, .fieldref 1 11), (0, .nameAndType 12 6), (0, u "REAL"), (2, u "STRING"), (2, u "TUPLE"), (2, u "$VALUES"), (0, u "[Lcom/example/arthurs_seat/arthursseat/language/LanguageType$Data;"), (6, .class_ 31), (1, u "java/lang/Enum"), (8, u "name"), (0, u "Ljava/lang/String;"), (2, u "values"), (0, u "Ljava/lang/Class;"), (2, u "structural"), (0, u "Lcom/example/arthurs_seat/arthursseat/model/StructuralType;"), (2, u "ALL"), (68, .class_ 122), (0, u "com/example/arthurs_seat/arthursseat/language/LanguageType"), (13, u "isNumber"), (0, u "()Z")] 27

def k7c0 : Code := { maxStack := 2, maxLocals := 1, code := prog_99_method_7_code, exceptionTable := #[], attributes := #[] }
def k7m0 : Method := { name := "isNumber", desc := "()Z", sig := { parameters := [], returnType := some .boolean }, accessFlags := 0, code := some k7c0 }
/-- com/example/arthurs_seat/arthursseat/language/LanguageType$Data -/
def k7 : Class := { plain "com/example/arthurs_seat/arthursseat/language/LanguageType$Data" (some 5) with
  accessFlags := 16433
  interfaces := #[6]
  cf := some (fileOf pool7 1 #[.nestHost 121] #[{ accessFlags := 0, nameIndex := 136, descriptorIndex := 137, attributes := #[] }] 16433 29 #[121] #[{ accessFlags := 16409, nameIndex := 5, descriptorIndex := 6, attributes := #[] }, { accessFlags := 16409, nameIndex := 9, descriptorIndex := 6, attributes := #[] }, { accessFlags := 16409, nameIndex := 12, descriptorIndex := 6, attributes := #[] }, { accessFlags := 16409, nameIndex := 15, descriptorIndex := 6, attributes := #[] }, { accessFlags := 16409, nameIndex := 18, descriptorIndex := 6, attributes := #[] }, { accessFlags := 26, nameIndex := 52, descriptorIndex := 22, attributes := #[] }, { accessFlags := 18, nameIndex := 40, descriptorIndex := 41, attributes := #[] }, { accessFlags := 18, nameIndex := 44, descriptorIndex := 45, attributes := #[] }, { accessFlags := 18, nameIndex := 48, descriptorIndex := 49, attributes := #[] }, { accessFlags := 4122, nameIndex := 21, descriptorIndex := 22, attributes := #[] }])
  fields := #[{ name := "BOOLEAN", type := (.object "com/example/arthurs_seat/arthursseat/language/LanguageType$Data"), accessFlags := 16409, slot := 0, constantValue := 0 }, { name := "INTEGER", type := (.object "com/example/arthurs_seat/arthursseat/language/LanguageType$Data"), accessFlags := 16409, slot := 1, constantValue := 0 }, { name := "REAL", type := (.object "com/example/arthurs_seat/arthursseat/language/LanguageType$Data"), accessFlags := 16409, slot := 2, constantValue := 0 }, { name := "STRING", type := (.object "com/example/arthurs_seat/arthursseat/language/LanguageType$Data"), accessFlags := 16409, slot := 3, constantValue := 0 }, { name := "TUPLE", type := (.object "com/example/arthurs_seat/arthursseat/language/LanguageType$Data"), accessFlags := 16409, slot := 4, constantValue := 0 }, { name := "ALL", type := (.array (.object "com/example/arthurs_seat/arthursseat/language/LanguageType$Data")), accessFlags := 26, slot := 5, constantValue := 0 }, { name := "name", type := (.object "java/lang/String"), accessFlags := 18, slot := 3, constantValue := 0 }, { name := "values", type := (.object "java/lang/Class"), accessFlags := 18, slot := 4, constantValue := 0 }, { name := "structural", type := (.object "com/example/arthurs_seat/arthursseat/model/StructuralType"), accessFlags := 18, slot := 5, constantValue := 0 }, { name := "$VALUES", type := (.array (.object "com/example/arthurs_seat/arthursseat/language/LanguageType$Data")), accessFlags := 4122, slot := 6, constantValue := 0 }]
  methods := #[k7m0]
  instanceTypes := #[(.object "java/lang/String"), .int, .int, (.object "java/lang/String"), (.object "java/lang/Class"), (.object "com/example/arthurs_seat/arthursseat/model/StructuralType")]
  staticTypes := #[(.object "com/example/arthurs_seat/arthursseat/language/LanguageType$Data"), (.object "com/example/arthurs_seat/arthursseat/language/LanguageType$Data"), (.object "com/example/arthurs_seat/arthursseat/language/LanguageType$Data"), (.object "com/example/arthurs_seat/arthursseat/language/LanguageType$Data"), (.object "com/example/arthurs_seat/arthursseat/language/LanguageType$Data"), (.array (.object "com/example/arthurs_seat/arthursseat/language/LanguageType$Data")), (.array (.object "com/example/arthurs_seat/arthursseat/language/LanguageType$Data"))]
  resolved := Array.replicate 165 none
  statics := some 0 }

def pool8 : Array CpInfo := pool [(1, u "java/lang/Cloneable"), (0, .class_ 1), (0, u "java/lang/Object"), (0, .class_ 3)] 3

/-- java/lang/Cloneable -/
def k8 : Class := { plain "java/lang/Cloneable" (some 0) with
  accessFlags := 1537
  interfaces := #[]
  cf := some (fileOf pool8 2 #[] #[] 1537 4 #[] #[])
  fields := #[]
  methods := #[]
  instanceTypes := #[]
  staticTypes := #[]
  resolved := Array.replicate 8 none
  statics := none }

/-- the primitive byte -/
def k9 : Class := { plain "byte" none with kind := .primitive 'B', accessFlags := 0x411 }
/-- [B -/
def k10 : Class := { plain "[B" (some 0) with kind := .array 9 .byte, interfaces := #[8, 4], accessFlags := 1041 }

/-- the primitive int -/
def k11 : Class := { plain "int" none with kind := .primitive 'I', accessFlags := 0x411 }
/-- [I -/
def k12 : Class := { plain "[I" (some 0) with kind := .array 11 .int, interfaces := #[8, 4], accessFlags := 1041 }

def heap : Heap := #[{ cls := 7, slots := #[.ref 1, .ref 2, .ref 3, .ref 4, .ref 5, .null, .null], vm := .statics 7 },
  { cls := 7, slots := #[.null, .int 0, .int 0, .null, .null, .null], vm := .none },
  { cls := 7, slots := #[.null, .int 1, .int 0, .null, .null, .null], vm := .none },
  { cls := 7, slots := #[.null, .int 2, .int 0, .null, .null, .null], vm := .none },
  { cls := 7, slots := #[.null, .int 3, .int 0, .null, .null, .null], vm := .none },
  { cls := 7, slots := #[.null, .int 4, .int 0, .null, .null, .null], vm := .none }]
def classes : Array Class := #[k0, k1, k2, k3, k4, k5, k6, k7, k8, k9, k10, k11, k12]
def interned : List (Array UInt16 × Addr) := []
def slotsUsed : Nat := 37
def theMethod : MethodId := ⟨1, 1⟩
def args0 : Array Value := #[.int 5]
def aboutOver (below : List Frame) : State where
  vm := { classes := classes, interned := interned.toArray }
  heap := heap
  slotsUsed := slotsUsed
  threads := #[{ frames := .invoking theMethod args0 :: below }]
def below0 : List Frame := [.native { method := ⟨0, 0⟩, args := #[] }]
def about1 : State := aboutOver below0
def p0 : Program := .bare "" "" ""
def e0 : Env := launch0.env 0 0 0
theorem w_frames : about1.frames = Frame.invoking theMethod args0 :: below0 := rfl
set_option maxRecDepth 65536 in
theorem w_args : argsFit about1.vm theMethod args0 = true := by decide +kernel
set_option maxRecDepth 65536 in
theorem w_heap : heapFits about1 = true := by decide +kernel
set_option maxRecDepth 65536 in
theorem w_runnable : about1.curStatus? = some .runnable := by decide +kernel
set_option maxRecDepth 65536 in
theorem w_alone : about1.alone = true := by decide +kernel
set_option maxRecDepth 65536 in
theorem w_named : about1.methodNamed? x = some theMethod := by decide +kernel
set_option maxRecDepth 65536 in
theorem w_hears : about1.hears theMethod below0 = true := by decide +kernel
set_option maxRecDepth 65536 in
theorem w_ripe : about1.ripe theMethod args0 below0 = true := by decide +kernel
theorem w_running : about1.status = .running := rfl
set_option maxRecDepth 65536 in
theorem w_room : about1.hasRoom e0.platform room_1 = true :=
  launch0.hasRoom_least _ room_1 (by decide +kernel) (by decide +kernel) (by decide +kernel) (by decide +kernel) (by decide +kernel) (by decide +kernel)
theorem allAtoms_all (ts : List Jvm.Cond) (a : Array Jvm.Value) (st : Jvm.State) : (allAtoms ts).before a st = ts.all (fun c => c.before a st) := by
  induction ts with
  | nil => rfl
  | cons c t ih =>
    show (Jvm.Cond.and c (allAtoms t)).before a st = _
    rw [Jvm.Cond.before_and, ih, List.all_cons]
def words1 : List Jvm.Cond := Jvm.Cond.code x code maxLocals ret :: tables_1
/-- a 'code' word, met by the world's own term for the bytes: nothing is compared byte by byte -/
theorem code_word {y : MethodName} {bytes : ByteArray} {mx : Nat} {rt : Option FieldType} {a : Array Value} {s : State} {m : MethodId} {meth : Method} {c : Code} (h1 : s.methodNamed? y = some m) (h2 : s.vm.method? m = some meth) (h3 : meth.code = some c) (h4 : c.code = bytes)
    (h5 : (c.maxLocals == mx && c.exceptionTable.isEmpty && decide (c.maxStack ≤ mostOperands) && decide (meth.sig.returnType = rt) && !meth.locks && decide (parseMethodDescriptor y.desc = some meth.sig)) = true) : (Jvm.Cond.code y bytes mx rt).before a s = true := by
  simp only [Bool.and_eq_true, beq_iff_eq, Bool.not_eq_true', decide_eq_true_eq] at h5
  obtain ⟨⟨⟨⟨⟨g1, g2⟩, g3⟩, g4⟩, g5⟩, g6⟩ := h5
  simp [Cond.before, Cond.holds, Cond.value, h1, h2, h3, h4, g1, g2, g3, g4, g5, g6]
def isCode : Jvm.Cond → Bool
  | .code _ _ _ _ => true
  | _ => false
theorem all_split {L : List Jvm.Cond} {P : Jvm.Cond → Bool} (h1 : L.all (fun c => isCode c || P c) = true) (h2 : ∀ c ∈ L.filter isCode, P c = true) : L.all P = true := by
  refine List.all_eq_true.mpr fun c hc => ?_
  have h := List.all_eq_true.mp h1 c hc
  rcases Bool.eq_false_or_eq_true (isCode c) with hi | hi
  · exact h2 c (List.mem_filter.mpr ⟨hc, hi⟩)
  · simpa [hi] using h
set_option maxRecDepth 65536 in
theorem w_c0 : (Jvm.Cond.code x code maxLocals ret).before args0 about1 = true := code_word (m := ⟨1, 1⟩) (meth := k1m1) (c := k1c1) (by decide +kernel) rfl rfl rfl (by decide +kernel)
set_option maxRecDepth 65536 in
theorem w_c1 : (Jvm.Cond.code ({ cls := "com/example/arthurs_seat/arthursseat/language/LanguageType$Data", name := "isNumber", desc := "()Z" } : Jvm.MethodName) prog_99_method_7_code (1 : Nat) (Option.some Jvm.ClassFile.FieldType.boolean)).before args0 about1 = true := code_word (m := ⟨7, 0⟩) (meth := k7m0) (c := k7c0) (by decide +kernel) rfl rfl rfl (by decide +kernel)
def codes1 : List Jvm.Cond := [Jvm.Cond.code x code maxLocals ret, Jvm.Cond.code ({ cls := "com/example/arthurs_seat/arthursseat/language/LanguageType$Data", name := "isNumber", desc := "()Z" } : Jvm.MethodName) prog_99_method_7_code (1 : Nat) (Option.some Jvm.ClassFile.FieldType.boolean)]
set_option maxRecDepth 65536 in
theorem codes_eq : words1.filter isCode = codes1 := rfl
theorem w_codes : ∀ c ∈ words1.filter isCode, c.before args0 about1 = true := by
  rw [codes_eq]
  intro c hc
  simp only [codes1, List.mem_cons, List.not_mem_nil, or_false] at hc
  rcases hc with rfl | rfl
  · exact w_c0
  · exact w_c1
set_option maxRecDepth 65536 in
theorem w_t1 : words1.all (fun c => isCode c || c.before args0 about1) = true := by decide +kernel
theorem w_tables : (allAtoms (Jvm.Cond.code x code maxLocals ret :: tables_1)).before args0 about1 = true := by
  rw [allAtoms_all]
  show words1.all (fun c => c.before args0 about1) = true
  refine all_split ?_ w_codes
  rw [w_t1]
set_option maxRecDepth 65536 in
theorem w_case : (Jvm.Cond.and given_1 narrow_1).before args0 about1 = true := by decide +kernel
theorem w_applies : (headSpec (Jvm.Cond.code x code maxLocals ret :: tables_1) room_1).applies x e0.platform about1 = true :=
  (Spec.applies_iff w_frames).mpr ⟨w_running, w_runnable, w_alone, w_named, w_hears, w_ripe, w_room, w_tables⟩
theorem atStart : AtStart classFile x code maxLocals ret World_1 tables_1 room_1 Calls_1 rest_1 Pre_1 launch0 p0 e0 about1 theMethod args0 below0 :=
  ⟨lists_1, trivial, launch0.admits_env _ _ _, launch0.least_env, fairChoices_fair.cas, fairChoices_fair.clock, w_frames, w_args, w_heap, w_applies, trivial, trivial, w_case⟩
end start1
theorem witness_1 : WitnessClaimed_1 := ⟨start1.p0, start1.e0, start1.about1, start1.theMethod, start1.args0, start1.below0, start1.atStart⟩
end Jvm.Pilot.@@N@@
